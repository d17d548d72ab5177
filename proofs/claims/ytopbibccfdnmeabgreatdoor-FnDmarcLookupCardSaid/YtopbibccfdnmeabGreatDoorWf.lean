/- The machine by which the functions are read, and what is proved of them (part 6): no premise. -/
import Derived.Test.YtopbibccfdnmeabGreatDoorWe
set_option linter.all false
namespace Wax
open Go (IntKind)

def con_MailLower:List AV→Option AV
  | [.str s]=>if s.length < big then some (.str (lowS s)) else none
  | _=>none

theorem ok_MailLower (Γ:Gam):∀ args r,con_MailLower args=some r→runs Γ c_spec_MailLower args (fun v=>v=r):=by
  intro args r h
  simp only [con_MailLower] at h
  split at h <;> (try simp at h; done)
  rename_i s
  obtain ⟨hs,rfl⟩:=ite_some h
  clear h
  simp only [big] at hs
  simp -implicitDefEqProofs [c_spec_MailLower,hs]
  refine awp_loop2 (σ:=L8 × L8) (fun p=>⟨[(3,.msl 7 1 0 s.length),(8,.msl 7 1 0 s.length),(9,.int .i64 s.length),(10,.int .i64 p.1.length)],[(7,.cells (bcA (lowS p.1++p.2)))]⟩) (fun p=>s=p.1++p.2) (fun p=>p.2.length) ([],s) (by simp) (by simp) ?_
  rintro ⟨pre,post⟩ e1 LQ hLQ
  simp only at e1
  subst e1
  cases post with
  | nil =>
    have e:List.take pre.length (lowS pre)=lowS pre:=List.take_of_length_le (by simp)
    simp -implicitDefEqProofs [b_spec_MailLower_1,t_spec_MailLower_2,e]
  | cons x post =>
    simp at hs
    have hlt:(pre.length:Int) < (pre.length:Int)+((post.length:Int)+1):=by omega
    have ew:IntKind.i64.wrap ((pre.length:Int)+1)=(pre.length:Int)+1:=wrap64 (by omega) (by omega)
    have hx:=lowB_toNat x
    have fin:∀ n:Int,n=(lowB x).toNat→LQ ⟨[(3,.msl 7 1 0 (pre.length+(post.length+1))),(8,.msl 7 1 0 (pre.length+(post.length+1))),(9,.int .i64 ((pre.length:Int)+((post.length:Int)+1))),(10,.int .i64 ((pre.length:Int)+1))],[(7,.cells (bcA (lowS pre)++.int .u8 n::bcA post))]⟩:=by
      intro n hn
      refine hLQ (pre++[x],post) (by simp) (by simp) _ ?_
      subst hn
      simp
    by_cases h:65≤(x.toNat:Int)∧(x.toNat:Int)≤90
    · rw [if_pos h] at hx
      have eu:IntKind.u8.wrap ((x.toNat:Int)+32)=(x.toNat:Int)+32:=Go.IntWalk.u8_in _ ⟨by omega,by omega⟩
      have f:=fin ((x.toNat:Int)+32) hx.symm
      simp -implicitDefEqProofs [b_spec_MailLower_1,hlt,ew,h.1,h.2,eu]
      simpa using f
    · rw [if_neg h] at hx
      have f:=fin (x.toNat:Int) hx.symm
      by_cases h1:65≤(x.toNat:Int)
      · have h2:¬ ((x.toNat:Int)≤90):=fun g=>h ⟨h1,g⟩
        simp -implicitDefEqProofs [b_spec_MailLower_1,hlt,ew,h1,h2]
        simpa using f
      · simp -implicitDefEqProofs [b_spec_MailLower_1,hlt,ew,h1]
        simpa using f

def con_MailHalves:List AV→Option AV
  | [.str s,.int .u8 c]=>if s.length < big then some (cutV c s) else none
  | _=>none

theorem ok_MailHalves (Γ:Gam):∀ args r,con_MailHalves args=some r→runs Γ c_spec_MailHalves args (fun v=>v=r):=by
  intro args r h
  simp only [con_MailHalves] at h
  split at h <;> (try simp at h; done)
  rename_i s c
  obtain ⟨hs,rfl⟩:=ite_some h
  clear h
  simp only [big] at hs
  simp -implicitDefEqProofs [c_spec_MailHalves]
  refine awp_loop2 (σ:=L8 × L8) (fun p=>⟨[(0,.str s),(1,.int .u8 c),(7,.int .i64 p.1.length)],[]⟩) (fun p=>s=p.1++p.2∧noB c p.1) (fun p=>p.2.length) ([],s) (by simp) (by simp [noB]) ?_
  rintro ⟨pre,post⟩ ⟨e1,e2⟩ LQ hLQ
  simp only at e1 e2
  subst e1
  cases post with
  | nil =>
    have e:cutAt c pre=none:=by have:=cutAt_app c pre [] e2; simpa [cutAt] using this
    simp -implicitDefEqProofs [b_spec_MailHalves_1,t_spec_MailHalves_2,cutV,e]
  | cons x post =>
    simp at hs
    have hlt:(pre.length:Int) < (pre.length:Int)+((post.length:Int)+1):=by omega
    have ew:IntKind.i64.wrap ((pre.length:Int)+1)=(pre.length:Int)+1:=wrap64 (by omega) (by omega)
    by_cases h:(x.toNat:Int)=c
    · have g1:(0:Int)≤(pre.length:Int)+1∧(pre.length:Int)+1≤(pre.length:Int)+((post.length:Int)+1):=by omega
      have g2:((pre.length:Int)+1).toNat=pre.length+1:=by omega
      simp -implicitDefEqProofs [b_spec_MailHalves_1,hlt,h,ew,cutV,cutAt_app _ _ _ e2,cutAt,g1,g2]
    · simp -implicitDefEqProofs [b_spec_MailHalves_1,hlt,h,ew]
      refine hLQ (pre++[x],post) ⟨by simp,?_⟩ (by simp) _ (by simp)
      intro y hy
      simp at hy
      rcases hy with hy | rfl
      · exact e2 y hy
      · exact h

def con_MailTexts:List AV→Option AV
  | [u,v]=>match slStrs u,slStrs v with
    | some l,some m=>if l.length < mid∧m.length < mid then some (.bool (decide (l=m))) else none
    | _,_=>none
  | _=>none

theorem ok_MailTexts (Γ:Gam):∀ args r,con_MailTexts args=some r→runs Γ c_spec_MailTexts args (fun v=>v=r):=by
  intro args r h
  simp only [con_MailTexts] at h
  split at h <;> (try simp at h; done)
  rename_i u v
  split at h <;> (try simp at h; done)
  rename_i l m hl hm
  obtain ⟨⟨h1,h2⟩,rfl⟩:=ite_some h
  clear h
  simp only [mid] at h1 h2
  by_cases hlen:l.length=m.length
  · have hlen2:(l.length:Int)=(m.length:Int):=by omega
    simp -implicitDefEqProofs [-alen,c_spec_MailTexts,slf_alen hl,slf_alen hm,hlen2]
    rw [← hlen2]
    refine awp_loop2 (σ:=List L8 × List L8 × List L8) (fun p=>⟨[(0,u),(1,v),(12,.int .i64 l.length),(13,.int .i64 p.1.length)],[]⟩)
      (fun p=>l=p.1++p.2.1∧m=p.1++p.2.2) (fun p=>p.2.1.length) ([],l,m) (by simp) (by simp) ?_
    rintro ⟨pre,a,b⟩ ⟨e1,e2⟩ LQ hLQ
    simp only at e1 e2
    subst e1 e2
    cases a with
    | nil =>
      have hb:b=[]:=by simpa using hlen
      subst hb
      simp -implicitDefEqProofs [b_spec_MailTexts_1,t_spec_MailTexts_2]
    | cons x a =>
      cases b with
      | nil=>simp at hlen
      | cons y b =>
        simp at h1 h2 hlen
        have hu:=slf_ne hl (by simp)
        have hv:=slf_ne hm (by simp)
        subst hu hv
        have ew:IntKind.i64.wrap ((pre.length:Int)+1)=(pre.length:Int)+1:=wrap64 (by omega) (by omega)
        have hlt:(pre.length:Int) < (pre.length:Int)+((a.length:Int)+1):=by omega
        by_cases hxy:x=y
        · subst hxy
          simp -implicitDefEqProofs [b_spec_MailTexts_1,ew,hlt]
          exact hLQ (pre++[x],a,b) (by simp) (by simp) _ (by simp)
        · have hne:¬ pre++x::a=pre++y::b:=by simp [hxy]
          simp -implicitDefEqProofs [b_spec_MailTexts_1,ew,hxy,hlt]
  · have hne:¬ l=m:=fun e=>hlen (by rw [e])
    have hlen2:¬ (l.length:Int)=(m.length:Int):=by omega
    simp -implicitDefEqProofs [-alen,c_spec_MailTexts,slf_alen hl,slf_alen hm,hlen2,hne]

def con_MailSplit:List AV→Option AV
  | [.str s,.int .u8 n]=>if s.length < mid∧0≤n∧n < 256 then some (.sl 1 (strsA (splitB (UInt8.ofNat n.toNat) s))) else none
  | _=>none

theorem byteOf {n:Int} (h0:0≤n) (h:n < 256):∃ b:UInt8,n=(b.toNat:Int):=⟨UInt8.ofNat n.toNat,by
  have:(UInt8.ofNat n.toNat).toNat=n.toNat:=by simp; omega
  rw [this]; omega⟩
theorem byteOf_back (b:UInt8):UInt8.ofNat (b.toNat:Int).toNat=b:=by simp

theorem splitB_app {b:UInt8} {cur post:L8} (h:noB b.toNat cur):splitB b (cur++b::post)=cur::splitB b post:=by
  rw [splitB_cut,cutAt_noB h]
theorem splitB_only {b:UInt8} {cur:L8} (h:noB b.toNat cur):splitB b cur=[cur]:=by
  have e:cutAt b.toNat cur=none:=by have:=cutAt_app b.toNat cur [] h; simpa [cutAt] using this
  rw [splitB_cut,e]

def SplitAt (b:UInt8) (s:L8) (outs:List L8) (fr i:Int):Prop :=
  (∃ p cur post,s=p++(cur++post)∧fr=(p.length:Int)∧i=(p.length:Int)+(cur.length:Int)∧noB b.toNat cur∧outs.length≤p.length∧splitB b s=outs++splitB b (cur++post)) ∨
  (i=(s.length:Int)+1∧splitB b s=outs)

theorem noB_snoc {c:Int} {cur:L8} {x:UInt8} (h:noB c cur) (hx:(x.toNat:Int) ≠ c):noB c (cur++[x]):=by
  intro y hy
  simp at hy
  rcases hy with hy | rfl
  · exact h y hy
  · exact hx

set_option maxHeartbeats 1000000 in
theorem ok_MailSplit (Γ:Gam):∀ args r,con_MailSplit args=some r→runs Γ c_spec_MailSplit args (fun v=>v=r):=by
  intro args r h
  simp only [con_MailSplit] at h
  split at h <;> (try simp at h; done)
  rename_i s n
  obtain ⟨⟨hs,hn0,hn⟩,rfl⟩:=ite_some h
  clear h
  obtain ⟨b,rfl⟩:=byteOf hn0 hn
  rw [byteOf_back]
  clear hn0 hn
  simp only [mid] at hs
  simp -implicitDefEqProofs [c_spec_MailSplit]
  refine awp_loop2 (σ:=List L8 × Int × Int) (fun p=>⟨[(0,.str s),(1,.int .u8 b.toNat),(5,grV 31 1 p.1.length),(6,.int .i64 p.2.1),(7,.int .i64 p.2.2)],grH 31 p.1.length (strsA p.1)⟩)
    (fun p=>SplitAt b s p.1 p.2.1 p.2.2) (fun p=>((s.length:Int)+1 - p.2.2).toNat) ([],0,0) (by simp) (.inl ⟨[],[],s,by simp [noB]⟩) ?_
  rintro ⟨outs,fr,i⟩ hS LQ hLQ
  simp only at hS
  rcases hS with ⟨p,cur,post,g1,rfl,rfl,g2,g3,g4⟩ | ⟨rfl,g4⟩
  · have hlen:s.length=p.length+(cur.length+post.length):=by rw [g1]; simp
    have hle:(p.length:Int)+(cur.length:Int)≤(s.length:Int):=by omega
    have ew:IntKind.i64.wrap ((p.length:Int)+(cur.length:Int)+1)=(p.length:Int)+(cur.length:Int)+1:=wrap64 (by omega) (by omega)
    have hcut:List.drop p.length (List.take (p.length+cur.length) s)=cur:=by
      rw [g1,← List.append_assoc,show p.length+cur.length=(p++cur).length by simp,List.take_left' rfl,List.drop_left' rfl]
    have e1:((p.length:Int)+(cur.length:Int)).toNat=p.length+cur.length:=by omega
    have hb0:(p.length:Int)≤(p.length:Int)+(cur.length:Int):=by omega
    have hb1:(0:Int)≤(p.length:Int)+(cur.length:Int):=by omega
    cases post with
    | nil =>
      have hq:(p.length:Int)+(cur.length:Int)=(s.length:Int):=by simp at hlen; omega
      have fin:∀ st,norm [0,1,5,6,7] st=⟨[(0,.str s),(1,.int .u8 b.toNat),(5,.msl 31 1 0 (outs.length+1)),(6,.int .i64 ((p.length:Int)+(cur.length:Int)+1)),(7,.int .i64 ((p.length:Int)+(cur.length:Int)+1))],[(31,.cells (strsA outs++[.str cur]))]⟩→LQ st:=by
        intro st hst
        exact hLQ (outs++[cur],(p.length:Int)+(cur.length:Int)+1,(p.length:Int)+(cur.length:Int)+1) (.inr ⟨by simp only; omega,by rw [g4]; simp [splitB_only g2]⟩) (by simp only; omega) st (by simpa using hst)
      have hd:decide ((p.length:Int)+(cur.length:Int)=(s.length:Int))=true:=decide_eq_true hq
      cases outs with
      | nil =>
        simp -implicitDefEqProofs [b_spec_MailSplit_1,hle,hd,ew,e1,hcut,hb0,hb1]
        exact fin _ (by simp)
      | cons o outs =>
        simp at g3
        simp -implicitDefEqProofs [b_spec_MailSplit_1,hle,hd,ew,e1,hcut,hb0,hb1]
        exact ⟨by omega,fin _ (by simp)⟩
    | cons x post =>
      simp at hlen
      have hd:decide ((p.length:Int)+(cur.length:Int)=(s.length:Int))=false:=decide_eq_false (by omega)
      have gx:s[p.length+cur.length]? = some x:=by rw [g1,← List.append_assoc]; exact get_mid (by simp)
      by_cases hx:(x.toNat:Int)=(b.toNat:Int)
      · have hxb:x=b:=UInt8.toNat_inj.1 (by omega)
        subst hxb
        have fin:∀ st,norm [0,1,5,6,7] st=⟨[(0,.str s),(1,.int .u8 x.toNat),(5,.msl 31 1 0 (outs.length+1)),(6,.int .i64 ((p.length:Int)+(cur.length:Int)+1)),(7,.int .i64 ((p.length:Int)+(cur.length:Int)+1))],[(31,.cells (strsA outs++[.str cur]))]⟩→LQ st:=by
          intro st hst
          refine hLQ (outs++[cur],(p.length:Int)+(cur.length:Int)+1,(p.length:Int)+(cur.length:Int)+1) (.inl ⟨p++cur++[x],[],post,by rw [g1]; simp,by simp; omega,by simp; omega,by simp [noB],by simp; omega,?_⟩) (by simp only; omega) st (by simpa using hst)
          rw [g4,splitB_app g2]; simp
        cases outs with
        | nil =>
          simp -implicitDefEqProofs [b_spec_MailSplit_1,hle,hd,ew,e1,hcut,hb0,hb1,gx]
          exact fin _ (by simp)
        | cons o outs =>
          simp at g3
          simp -implicitDefEqProofs [b_spec_MailSplit_1,hle,hd,ew,e1,hcut,hb0,hb1,gx]
          exact ⟨by omega,fin _ (by simp)⟩
      · have fin:∀ st,norm [0,1,5,6,7] st=⟨[(0,.str s),(1,.int .u8 b.toNat),(5,grV 31 1 outs.length),(6,.int .i64 (p.length:Int)),(7,.int .i64 ((p.length:Int)+(cur.length:Int)+1))],grH 31 outs.length (strsA outs)⟩→LQ st:=by
          intro st hst
          exact hLQ (outs,(p.length:Int),(p.length:Int)+(cur.length:Int)+1) (.inl ⟨p,cur++[x],post,by rw [g1]; simp,rfl,by simp; omega,noB_snoc g2 hx,g3,by rw [g4]; simp⟩) (by simp only; omega) st (by simpa using hst)
        cases outs with
        | nil =>
          simp -implicitDefEqProofs [b_spec_MailSplit_1,hle,hd,ew,e1,hb0,hb1,gx,hx]
          exact fin _ (by simp)
        | cons o outs =>
          simp -implicitDefEqProofs [b_spec_MailSplit_1,hle,hd,ew,e1,hb0,hb1,gx,hx]
          exact fin _ (by simp)
  · have hnle:¬ ((s.length:Int)+1≤(s.length:Int)):=by omega
    have hne:=splitB_ne b s
    rw [g4] at hne
    obtain ⟨o,outs,rfl⟩:∃ o os,outs=o::os:=by cases outs <;> first | exact absurd rfl hne | exact ⟨_,_,rfl⟩
    simp -implicitDefEqProofs [b_spec_MailSplit_1,t_spec_MailSplit_2,hnle,g4,List.take_of_length_le]
end Wax


namespace Wax
open Go (IntKind)

def labB (p:L8):Bool:=mKw p && decide (p.length≤63)
theorem mDom_eq (s:L8):mDom s=((splitB 46 s).all labB && decide (s.length≤253)):=rfl

def con_MailDomain:List AV→Option AV
  | [.str s]=>if s.length < mid then some (.bool (mDom s)) else none
  | _=>none

set_option maxHeartbeats 1000000 in
theorem ok_MailDomain (Γ:Gam) (h99:Γ.fn 99=con_MailKeyword):∀ args r,con_MailDomain args=some r→runs Γ c_spec_MailDomain args (fun v=>v=r):=by
  intro args r h
  simp only [con_MailDomain] at h
  split at h <;> (try simp at h; done)
  rename_i s
  obtain ⟨hs,rfl⟩:=ite_some h
  clear h
  simp only [mid] at hs
  rw [mDom_eq]
  simp -implicitDefEqProofs [c_spec_MailDomain]
  refine awp_loop2 (σ:=List L8 × Int × Int) (fun p=>⟨[(0,.str s),(3,.int .i64 p.2.1),(4,.int .i64 p.2.2)],[]⟩)
    (fun p=>SplitAt 46 s p.1 p.2.1 p.2.2∧p.1.all labB=true) (fun p=>((s.length:Int)+1 - p.2.2).toNat) ([],0,0) (by simp) ⟨.inl ⟨[],[],s,by simp [noB]⟩,rfl⟩ ?_
  rintro ⟨outs,fr,i⟩ ⟨hS,hA⟩ LQ hLQ
  simp only at hS hA
  rcases hS with ⟨p,cur,post,g1,rfl,rfl,g2,g3,g4⟩ | ⟨rfl,g4⟩
  · have hlen:s.length=p.length+(cur.length+post.length):=by rw [g1]; simp
    have hle:(p.length:Int)+(cur.length:Int)≤(s.length:Int):=by omega
    have ew:IntKind.i64.wrap ((p.length:Int)+(cur.length:Int)+1)=(p.length:Int)+(cur.length:Int)+1:=wrap64 (by omega) (by omega)
    have ew2:IntKind.i64.wrap ((p.length:Int)+(cur.length:Int) - (p.length:Int))=(cur.length:Int):=by rw [wrap64 (by omega) (by omega)]; omega
    have hcut:List.drop p.length (List.take (p.length+cur.length) s)=cur:=by
      rw [g1,← List.append_assoc,show p.length+cur.length=(p++cur).length by simp,List.take_left' rfl,List.drop_left' rfl]
    have e1:((p.length:Int)+(cur.length:Int)).toNat=p.length+cur.length:=by omega
    have hb0:(p.length:Int)≤(p.length:Int)+(cur.length:Int):=by omega
    have hb1:(0:Int)≤(p.length:Int)+(cur.length:Int):=by omega
    have k99:con_MailKeyword [.str cur]=some (.bool (mKw cur)):=if_pos (by simp only [big]; omega)
    cases post with
    | nil =>
      have hq:(p.length:Int)+(cur.length:Int)=(s.length:Int):=by simp at hlen; omega
      have hd:decide ((p.length:Int)+(cur.length:Int)=(s.length:Int))=true:=decide_eq_true hq
      simp only [List.append_nil] at g4
      rw [splitB_only (b:=46) g2] at g4
      have bad:labB cur=false→((splitB 46 s).all labB && decide (s.length≤253))=false:=by intro h; rw [g4]; simp [h]
      have fin:labB cur=true→LQ ⟨[(0,.str s),(3,.int .i64 ((p.length:Int)+(cur.length:Int)+1)),(4,.int .i64 ((p.length:Int)+(cur.length:Int)+1))],[]⟩:=by
        intro h
        exact hLQ (outs++[cur],(p.length:Int)+(cur.length:Int)+1,(p.length:Int)+(cur.length:Int)+1) ⟨.inr ⟨by simp only; omega,g4⟩,by simp only [List.all_append,hA,List.all_cons,h]; rfl⟩ (by simp only; omega) _ (by simp)
      cases hk:mKw cur with
      | false =>
        have b:=bad (by simp [labB,hk])
        simp -implicitDefEqProofs [b_spec_MailDomain_1,hle,hd,ew,e1,hcut,hb0,hb1,acall,h99,k99,hk,b]
      | true =>
        by_cases h63:(63:Int) < (cur.length:Int)
        · have b:=bad (by simp [labB,hk]; omega)
          simp -implicitDefEqProofs [b_spec_MailDomain_1,hle,hd,ew,ew2,e1,hcut,hb0,hb1,acall,h99,k99,hk,b,h63]
        · have f:=fin (by simp [labB,hk]; omega)
          simp -implicitDefEqProofs [b_spec_MailDomain_1,hle,hd,ew,ew2,e1,hcut,hb0,hb1,acall,h99,k99,hk,h63,f]
    | cons x post =>
      simp at hlen
      have hd:decide ((p.length:Int)+(cur.length:Int)=(s.length:Int))=false:=decide_eq_false (by omega)
      have gx:s[p.length+cur.length]? = some x:=by rw [g1,← List.append_assoc]; exact get_mid (by simp)
      by_cases hx:(x.toNat:Int)=46
      · have hxb:x=46:=UInt8.toNat_inj.1 (by simp; omega)
        subst hxb
        rw [splitB_app (b:=46) g2] at g4
        have bad:labB cur=false→((splitB 46 s).all labB && decide (s.length≤253))=false:=by intro h; rw [g4]; simp [h]
        have fin:labB cur=true→LQ ⟨[(0,.str s),(3,.int .i64 ((p.length:Int)+(cur.length:Int)+1)),(4,.int .i64 ((p.length:Int)+(cur.length:Int)+1))],[]⟩:=by
          intro h
          exact hLQ (outs++[cur],(p.length:Int)+(cur.length:Int)+1,(p.length:Int)+(cur.length:Int)+1) ⟨.inl ⟨p++cur++[46],[],post,by rw [g1]; simp,by simp; omega,by simp; omega,by simp [noB],by simp; omega,by rw [g4]; simp⟩,by simp only [List.all_append,hA,List.all_cons,h]; rfl⟩ (by simp only; omega) _ (by simp)
        cases hk:mKw cur with
        | false =>
          have b:=bad (by simp [labB,hk])
          simp -implicitDefEqProofs [b_spec_MailDomain_1,hle,hd,ew,e1,hcut,hb0,hb1,gx,acall,h99,k99,hk,b]
        | true =>
          by_cases h63:(63:Int) < (cur.length:Int)
          · have b:=bad (by simp [labB,hk]; omega)
            simp -implicitDefEqProofs [b_spec_MailDomain_1,hle,hd,ew,ew2,e1,hcut,hb0,hb1,gx,acall,h99,k99,hk,b,h63]
          · have f:=fin (by simp [labB,hk]; omega)
            simp -implicitDefEqProofs [b_spec_MailDomain_1,hle,hd,ew,ew2,e1,hcut,hb0,hb1,gx,acall,h99,k99,hk,h63,f]
      · have f:LQ ⟨[(0,.str s),(3,.int .i64 (p.length:Int)),(4,.int .i64 ((p.length:Int)+(cur.length:Int)+1))],[]⟩ :=
          hLQ (outs,(p.length:Int),(p.length:Int)+(cur.length:Int)+1) ⟨.inl ⟨p,cur++[x],post,by rw [g1]; simp,rfl,by simp; omega,noB_snoc g2 hx,g3,by rw [g4]; simp⟩,hA⟩ (by simp only; omega) _ (by simp)
        simp -implicitDefEqProofs [b_spec_MailDomain_1,hle,hd,ew,e1,hb0,hb1,gx,hx,f]
  · have hnle:¬ ((s.length:Int)+1≤(s.length:Int)):=by omega
    rw [g4,hA]
    simp -implicitDefEqProofs [b_spec_MailDomain_1,t_spec_MailDomain_2,hnle]
    omega

def rightOf (g:Nat):Option (L8→Bool):=if g=108 then some foOk else if g=109 then some (fun s=>decide (s=sAfrf)) else if g=110 then some muri else none
def mlV:Option (List L8)→AV
  | some l=>.tup [.sl 1 (strsA l),.bool true]
  | none=>.tup [.nilS,.bool false]
def con_mlist:List AV→Option AV
  | [.str s,.int .u8 n,.fn g []]=>match rightOf g with
    | some right=>if s.length < mid∧0≤n∧n < 256 then some (mlV (mlist (UInt8.ofNat n.toNat) right s)) else none
    | none=>none
  | _=>none

def con_muri:List AV→Option AV
  | [.str s]=>if s.length < mid then some (.bool (muri s)) else none
  | _=>none

theorem ok_mlist (Γ:Gam) (h101:Γ.fn 101=con_MailSplit) (h108:Γ.fn 108=con_MPut1) (h109:Γ.fn 109=con_MPut2) (h110:Γ.fn 110=con_muri):∀ args r,con_mlist args=some r→runs Γ c_spec_mlist args (fun v=>v=r):=by
  intro args r h
  simp only [con_mlist] at h
  split at h <;> (try simp at h; done)
  rename_i s n g
  split at h <;> (try simp at h; done)
  rename_i right hr
  obtain ⟨⟨hs,hn0,hn⟩,rfl⟩:=ite_some h
  clear h
  have k101:con_MailSplit [.str s,.int .u8 n]=some (.sl 1 (strsA (splitB (UInt8.ofNat n.toNat) s))):=if_pos ⟨hs,hn0,hn⟩
  have kr:∀ p:L8,p.length≤s.length→acall Γ [] g [.str p]=some (.bool (right p)):=by
    intro p hp
    have hp2:p.length < mid:=by omega
    have hp3:p.length < big:=by simp only [mid] at hp2; simp only [big]; omega
    simp only [rightOf] at hr
    split at hr
    · rename_i e; subst e; injection hr with hr; subst hr
      have:con_MPut1 [.str p]=some (.bool (foOk p)):=if_pos hp3
      simp [acall,h108,this]
    · split at hr
      · rename_i e; subst e; injection hr with hr; subst hr
        simp [acall,h109,con_MPut2]
      · split at hr
        · rename_i e; subst e; injection hr with hr; subst hr
          have:con_muri [.str p]=some (.bool (muri p)):=if_pos hp2
          simp [acall,h110,this]
        · simp at hr
  have hml:=splitB_mem_length (UInt8.ofNat n.toNat) s
  have hll:=splitB_length (UInt8.ofNat n.toNat) s
  simp only [mlist]
  simp only [mid] at hs
  generalize splitB (UInt8.ofNat n.toNat) s=L at *
  have hR1:L.all right=true→mlV (if L.all right=true then some L else none)=.tup [.sl 1 (strsA L),.bool true]:=fun h=>by rw [if_pos h]; rfl
  have hR2:L.all right=false→mlV (if L.all right=true then some L else none)=.tup [.nilS,.bool false]:=fun h=>by rw [h]; rfl
  generalize mlV (if L.all right=true then some L else none)=R at *
  simp -implicitDefEqProofs [c_spec_mlist,acall,h101,k101]
  refine awp_loop2 (σ:=List L8 × List L8) (fun p=>⟨[(2,.fn g []),(8,.sl 1 (strsA L)),(14,.sl 1 (strsA L)),(15,.int .i64 L.length),(16,.int .i64 p.1.length)],[]⟩)
    (fun p=>L=p.1++p.2∧p.1.all right=true) (fun p=>p.2.length) ([],L) (by simp) (by simp) ?_
  rintro ⟨pre,post⟩ ⟨e1,e2⟩ LQ hLQ
  simp only at e1 e2
  subst e1
  cases post with
  | nil =>
    simp only [List.append_nil] at *
    rw [hR1 e2]
    simp -implicitDefEqProofs [b_spec_mlist_1,t_spec_mlist_2]
  | cons x post =>
    have hxl:=hml x (by simp)
    simp at hll
    have k:=kr x hxl
    have hlt:(pre.length:Int) < (pre.length:Int)+((post.length:Int)+1):=by omega
    have ew:IntKind.i64.wrap ((pre.length:Int)+1)=(pre.length:Int)+1:=wrap64 (by omega) (by omega)
    cases hx:right x with
    | false =>
      have:(pre++x::post).all right=false:=by simp [hx]
      rw [hR2 this]
      simp -implicitDefEqProofs [b_spec_mlist_1,hlt,k,hx]
    | true =>
      simp -implicitDefEqProofs [b_spec_mlist_1,hlt,k,hx,ew]
      exact hLQ (pre++[x],post) ⟨by simp,by simp only [List.all_append,e2,List.all_cons,hx]; rfl⟩ (by simp) _ (by simp)

theorem contains_any {c:UInt8} {l:L8}:l.contains c=anyN c.toNat l:=by
  rw [Bool.eq_iff_iff]
  simp only [anyN,List.any_eq_true,decide_eq_true_eq,List.contains_eq_mem]
  constructor
  · intro h; exact ⟨c,h,rfl⟩
  · rintro ⟨y,hy,h⟩
    have:y=c:=UInt8.toNat_inj.1 (by omega)
    exact this ▸ hy

theorem cutAt_lens {c:Int} {s:L8} {p:L8 × L8} (h:cutAt c s=some p):p.1.length < s.length∧p.2.length < s.length:=by
  have:=(cutAt_le h).1
  omega

section
variable {Γ:Gam} (h100:Γ.fn 100=con_MailAny) (h102:Γ.fn 102=con_MailHalves) (h103:Γ.fn 103=con_mnumber) (h104:Γ.fn 104=con_MailToken) (h105:Γ.fn 105=con_MailDomain)
include h102 h104 h105

theorem mu_1 {Q:APost} (a:L8) (ex:List (Nat × AV)) (ha:a.length < mid) (hQ:Q .ret ⟨[(2,.bool (addrB a))],[]⟩):awp Γ f_spec_muri_2 Q ⟨(3,.str a)::ex,[]⟩:=by
  have ha':a.length < big:=by simp only [mid] at ha; simp only [big]; omega
  have k102:con_MailHalves [.str a,.int .u8 64]=some (cutV 64 a):=if_pos ha'
  cases hc:cutAt 64 a with
  | none =>
    have e:addrB a=false:=by simp [addrB,hc]
    rw [e] at hQ
    simp -implicitDefEqProofs [f_spec_muri_2,acall,h102,k102,cutV,hc,hQ]
  | some p =>
    obtain ⟨l1,l2⟩:=cutAt_lens hc
    have k104:con_MailToken [.str p.1]=some (.bool (mTok p.1)):=if_pos (by omega)
    have k105:con_MailDomain [.str p.2]=some (.bool (mDom p.2)):=if_pos (by omega)
    have e:addrB a=(mTok p.1 && mDom p.2):=by simp [addrB,hc]
    rw [e] at hQ
    cases ht:mTok p.1 with
    | false =>
      rw [ht] at hQ
      simp at hQ
      simp -implicitDefEqProofs [f_spec_muri_2,acall,h102,k102,cutV,hc,h104,k104,ht,hQ]
    | true =>
      rw [ht] at hQ
      simp at hQ
      simp -implicitDefEqProofs [f_spec_muri_2,acall,h102,k102,cutV,hc,h104,k104,ht,h105,k105,hQ]

include h103
theorem mu_2 {Q:APost} (a w:L8) (ex:List (Nat × AV)) (ha:a.length < mid) (hw:w.length < mid) (hQ:Q .ret ⟨[(2,.bool ((mNum w 9).2 && addrB a))],[]⟩):awp Γ f_spec_muri_1 (thenQ (awp Γ f_spec_muri_2 Q) Q) ⟨(3,.str a)::(4,.str w)::ex,[]⟩:=by
  have m:=fun ex=>mu_1 h102 h104 h105 (Q:=Q) a ex ha
  have hw':w.length < big:=by simp only [mid] at hw; simp only [big]; omega
  have k103:con_mnumber [.str w,.int .i64 9]=some (numV2 (mNum w 9)):=if_pos hw'
  cases hn:(mNum w 9).2 with
  | false =>
    rw [hn] at hQ
    simp at hQ
    simp -implicitDefEqProofs [f_spec_muri_1,acall,h103,k103,numV2,hn,hQ]
  | true =>
    rw [hn] at hQ
    simp at hQ
    simp -implicitDefEqProofs [f_spec_muri_1,acall,h103,k103,numV2,hn]
    exact m _ hQ

include h100
theorem mu_3 {Q:APost} (a z:L8) (ha:a.length < mid) (hz:z.length < mid) (hQ:Q .ret ⟨[(2,.bool ((mNum (sizeOff z) 9).2 && addrB a))],[]⟩):awp Γ f_spec_muri_3 Q ⟨[(3,.str a),(4,.str z),(5,.bool true)],[]⟩:=by
  rcases List.eq_nil_or_concat z with rfl | ⟨w,c,rfl⟩
  · have l:=fun ex=>mu_2 h102 h103 h104 h105 (Q:=Q) a [] ex ha (by simp [mid]) hQ
    simp -implicitDefEqProofs [f_spec_muri_3]
    exact l _
  · rw [List.concat_eq_append] at *
    have hw:w.length+1 < 1099511627776:=by simpa [mid] using hz
    have k100:con_MailAny [.int .u8 c.toNat,.str [107,109,103,116]]=some (.bool (decide (c∈sKmgt))):=by
      rw [← List.contains_eq_mem,contains_any]
      have h4:([107,109,103,116]:L8).length < big:=by decide
      simp only [con_MailAny,if_pos h4]; rfl
    have ew:IntKind.i64.wrap (w.length:Int)=w.length:=wrap64 (by omega) (by omega)
    have g:(w++[c])[w.length]? = some c:=get_mid rfl
    by_cases hk:c∈sKmgt
    · have e:sizeOff (w++[c])=w:=by simp [sizeOff,hk]
      rw [e] at hQ
      have l:=fun ex=>mu_2 h102 h103 h104 h105 (Q:=Q) a w ex ha (by simp only [mid]; omega) hQ
      simp -implicitDefEqProofs [f_spec_muri_3,ew,g,acall,h100,k100,hk]
      exact l _
    · have e:sizeOff (w++[c])=w++[c]:=by simp [sizeOff,hk]
      rw [e] at hQ
      have l:=fun ex=>mu_2 h102 h103 h104 h105 (Q:=Q) a (w++[c]) ex ha hz hQ
      simp -implicitDefEqProofs [f_spec_muri_3,ew,g,acall,h100,k100,hk]
      exact l _
end

set_option maxHeartbeats 1000000 in
theorem ok_muri (Γ:Gam) (h100:Γ.fn 100=con_MailAny) (h102:Γ.fn 102=con_MailHalves) (h103:Γ.fn 103=con_mnumber) (h104:Γ.fn 104=con_MailToken) (h105:Γ.fn 105=con_MailDomain) :
    ∀ args r,con_muri args=some r→runs Γ c_spec_muri args (fun v=>v=r):=by
  intro args r h
  simp only [con_muri] at h
  split at h <;> (try simp at h; done)
  rename_i s
  obtain ⟨hs,rfl⟩:=ite_some h
  clear h
  have hs':=hs
  simp only [mid] at hs
  by_cases h8:(s.length:Int) < 8
  · have:muri s=false:=by
      have:¬ 8≤s.length:=by omega
      simp [muri,this]
    simp -implicitDefEqProofs [c_spec_muri,h8,this]
  have h7:(7:Int)≤(s.length:Int):=by omega
  have e8:8≤s.length:=by omega
  by_cases hm:s.take 7=sMailto
  · have hmu:muri s=(match cutAt 33 (s.drop 7) with | some p=>(mNum (sizeOff p.2) 9).2 && addrB p.1 | none=>addrB (s.drop 7)):=by
      simp only [muri,e8,hm,decide_true,Bool.true_and]
      try (cases cutAt 33 (s.drop 7) <;> rfl)
    rw [hmu]
    simp only [sMailto] at hm
    have k102:con_MailHalves [.str (s.drop 7),.int .u8 33]=some (cutV 33 (s.drop 7)):=if_pos (by simp [big]; omega)
    have hdl:(s.drop 7).length < mid:=by simp [mid]; omega
    cases hc:cutAt 33 (s.drop 7) with
    | none =>
      have m:=fun ex hQ=>mu_1 (Γ:=Γ) h102 h104 h105 (Q:=finQ [.t 2] fun v=>v=.bool (addrB (s.drop 7))) (s.drop 7) ex hdl hQ
      simp -implicitDefEqProofs [c_spec_muri,h8,h7,hm,acall,h102,k102,cutV,hc]
      simp -implicitDefEqProofs [f_spec_muri_3]
      exact m _ (by simp)
    | some p =>
      obtain ⟨l1,l2⟩:=cutAt_lens hc
      have m:=mu_3 (Γ:=Γ) h100 h102 h103 h104 h105 (Q:=finQ [.t 2] fun v=>v=.bool ((mNum (sizeOff p.2) 9).2 && addrB p.1)) p.1 p.2 (by omega) (by omega) (by simp)
      simp -implicitDefEqProofs [c_spec_muri,h8,h7,hm,acall,h102,k102,cutV,hc]
      exact m
  · have:muri s=false:=by simp [muri,hm]
    simp only [sMailto] at hm
    simp -implicitDefEqProofs [c_spec_muri,h8,h7,hm,this]

def con_MKnown:List AV→Option AV
  | []=>some (.sl 1 (strsA mKnown))
  | _=>none
theorem ok_MKnown (Γ:Gam):∀ args r,con_MKnown args=some r→runs Γ c_spec_MKnown args (fun v=>v=r):=by
  intro args r h
  cases args <;> simp [con_MKnown] at h
  subst h
  simp -implicitDefEqProofs [c_spec_MKnown,mKnown,kP,kAdkim,kAspf,kFo,kPct,kRf,kRi,kRua,kRuf,kSp,snap,resolveA]

def mSpace (n:Nat):L8:=([[],[],[32],[32,32],[9],[32,9]]:List L8).getD (n % 6) []
def con_MSpace:List AV→Option AV
  | [.int .u8 n]=>if 0≤n∧n < 256 then some (.str (mSpace n.toNat)) else none
  | _=>none
theorem ok_MSpace (Γ:Gam):∀ args r,con_MSpace args=some r→runs Γ c_spec_MSpace args (fun v=>v=r):=by
  intro args r h
  simp only [con_MSpace] at h
  split at h <;> (try simp at h; done)
  rename_i n
  obtain ⟨⟨h0,hn⟩,rfl⟩:=ite_some h
  clear h
  obtain ⟨m,rfl⟩:∃ m:Nat,n=(m:Int):=⟨n.toNat,by omega⟩
  obtain ⟨q,e,hlt,hq⟩:∃ q:Nat,(m:Int).tmod 6=(q:Int)∧q < 6∧m % 6=q:=⟨m % 6,by rw [Int.tmod_eq_emod_of_nonneg (by omega)]; rfl,Nat.mod_lt _ (by omega),rfl⟩
  simp only [mSpace,Int.toNat_natCast,hq]
  simp -implicitDefEqProofs [c_spec_MSpace,e]
  clear e hq
  match q,hlt with
  | 0,_=>simp
  | 1,_=>simp
  | 2,_=>simp
  | 3,_=>simp
  | 4,_=>simp
  | 5,_=>simp

def blB (b:UInt8):Bool:=decide ((b.toNat:Int)=32∨(b.toNat:Int)=9)
end Wax


namespace Wax
open Go (IntKind)

def asO:AV→Option (Option (List L8))
  | .nilS=>some none
  | .sl es xs=>if es=1 then (asStrs xs).map some else none
  | _=>none
theorem asO_slO (x:Option (List L8)):asO (slO x)=some x:=by cases x <;> simp [slO,asO]
theorem asO_spec {v:AV} {x:Option (List L8)} (h:asO v=some x):v=slO x:=by
  cases v <;> simp [asO] at h
  · subst h; rfl
  · obtain ⟨rfl,l,h1,rfl⟩:=h
    rw [asStrs_spec h1]; rfl

def asMR:List AV→Option MR
  | [.str a,.str b,.int .i64 fo,.str p,.int .i64 pct,.bool has,rf,.int .i64 ri,rua,ruf,.str sp]=>match asO rf,asO rua,asO ruf with
    | some rf,some rua,some ruf=>some ⟨a,b,fo,p,pct,has,rf,ri,rua,ruf,sp⟩
    | _,_,_=>none
  | _=>none
theorem asMR_cells (r:MR):asMR r.cells=some r:=by simp [MR.cells,asMR,asO_slO]
theorem asMR_spec {cs:List AV} {r:MR} (h:asMR cs=some r):cs=r.cells:=by
  unfold asMR at h
  split at h
  · split at h
    · rename_i h1 h2 h3
      simp at h; subst h
      rw [asO_spec h1,asO_spec h2,asO_spec h3]; rfl
    · simp at h
  · simp at h

@[simp] theorem slO_atom (x:Option (List L8)):atom (slO x)=true:=by cases x <;> rfl
@[simp] theorem slO_ref (x:Option (List L8)):hasRef (slO x)=false:=by cases x <;> rfl
@[simp] theorem slO_refs (x:Option (List L8)):refs (slO x)=[]:=by cases x <;> rfl
@[simp] theorem slO_map (x:Option (List L8)) (g:Nat→Nat):mapId g (slO x)=slO x:=by cases x <;> rfl
@[simp] theorem slO_kill (x:Option (List L8)) (d:Nat):kill d (slO x)=slO x:=by cases x <;> rfl
@[simp] theorem slO_snapW (x:Option (List L8)) (g:AV→AV):snapW g (slO x)=slO x:=by cases x <;> rfl
@[simp] theorem slO_snap (x:Option (List L8)) (n:Nat) (hp:List (Nat × AObj)):snap (n+1) hp (slO x)=slO x:=by cases x <;> rfl
@[simp] theorem slO_cells (x:Option (List L8)):cells (slO x)=[slO x]:=by cases x <;> rfl
@[simp] theorem slO_pure (x:Option (List L8)):pureV (slO x)=true:=by cases x <;> rfl
@[simp] theorem slO_none:slO none=.nilS:=rfl
@[simp] theorem slO_flat (x:List L8):slO (some x)=.sl 1 (strsA x):=rfl
theorem slO_strs (x:Option (List L8)):slStrs (slO x)=some (x.getD []):=by cases x <;> simp [slO,slStrs]

def con_MPut:List AV→List (Nat × AObj)→Option (AV × List (Nat × AObj))
  | [.ref 0 0,.agg [.str n,.str v]],[(0,.cells cs)]=>match asMR cs with
    | some r=>if n.length < mid∧v.length < mid then some (.bool (mOk (n,v)),[(0,.cells (mPut r (n,v)).cells)]) else none
    | none=>none
  | _,_=>none

def foFrom (c:UInt8):Nat→Int→Int
  | 0,n=>foFrom1 c n
  | 1,n=>foFrom2 c n
  | 2,n=>foFrom3 c n
  | 3,n=>if c=115 then orI n 8 else n
  | _,n=>n
where
  foFrom3 (c:UInt8) (n:Int):Int:=let m:=if c=100 then orI n 4 else n; if c=115 then orI m 8 else m
  foFrom2 (c:UInt8) (n:Int):Int:=let m:=if c=49 then orI n 2 else n; foFrom3 c m
  foFrom1 (c:UInt8) (n:Int):Int:=let m:=if c=48 then orI n 1 else n; foFrom2 c m

theorem foFrom_ok {c:UInt8} {n:Int} (h:foOk [c]=true):foFrom c 0 n=orI n (foBit [c]):=by
  simp [foOk,s01ds] at h
  rcases h with rfl | rfl | rfl | rfl <;> rfl

def withFo (r:MR) (n:Int):MR:={ r with fo:=n }

theorem fo_inner {Γ:Gam} {Q:APost} (r:MR) (c:UInt8) (n0:Int) (L:List L8) (i:Int) (ok:Bool)
    (hQ:Q (.exit 3) ⟨[(0,.ref 1000000 0),(7,.bool ok),(9,.str [c]),(79,.sl 1 (strsA L)),(80,.int .i64 L.length),(81,.int .i64 i),(86,.msl 85 1 0 4),(87,.int .i64 4),(88,.int .i64 4),(89,.bool false)],[(85,.cells [.int .u8 48,.int .u8 49,.int .u8 100,.int .u8 115]),(1000000,.cells (withFo r (foFrom c 0 n0)).cells)]⟩) :
    awp Γ (.loop [0,7,9,79,80,81,86,87,88] b_spec_MPut_1) Q ⟨[(0,.ref 1000000 0),(7,.bool ok),(9,.str [c]),(79,.sl 1 (strsA L)),(80,.int .i64 L.length),(81,.int .i64 i),(86,.msl 85 1 0 4),(87,.int .i64 4),(88,.int .i64 0)],[(85,.cells [.int .u8 48,.int .u8 49,.int .u8 100,.int .u8 115]),(1000000,.cells (withFo r n0).cells)]⟩:=by
  refine awp_loop2 (σ:=Nat × Int) (fun p=>⟨[(0,.ref 1000000 0),(7,.bool ok),(9,.str [c]),(79,.sl 1 (strsA L)),(80,.int .i64 L.length),(81,.int .i64 i),(86,.msl 85 1 0 4),(87,.int .i64 4),(88,.int .i64 p.1)],[(85,.cells [.int .u8 48,.int .u8 49,.int .u8 100,.int .u8 115]),(1000000,.cells (withFo r p.2).cells)]⟩)
    (fun p=>p.1≤4∧foFrom c p.1 p.2=foFrom c 0 n0) (fun p=>4 - p.1) (0,n0) (by simp) ⟨by simp,rfl⟩ ?_
  rintro ⟨k,n⟩ ⟨hk,hn⟩ LQ hLQ
  simp only at hk hn
  have st:∀ (k':Nat) (n':Int),k'=k+1→k'≤4→foFrom c k' n'=foFrom c k n→LQ ⟨[(0,.ref 1000000 0),(7,.bool ok),(9,.str [c]),(79,.sl 1 (strsA L)),(80,.int .i64 L.length),(81,.int .i64 i),(86,.msl 85 1 0 4),(87,.int .i64 4),(88,.int .i64 k')],[(85,.cells [.int .u8 48,.int .u8 49,.int .u8 100,.int .u8 115]),(1000000,.cells (withFo r n').cells)]⟩:=by
    intro k' n' h1 h2 h3
    exact hLQ (k',n') ⟨h2,by rw [h3,hn]⟩ (by simp only; omega) _ (by simp)
  have eI:∀ d:UInt8,((c.toNat:Int)=(d.toNat:Int)) ↔ c=d:=by
    intro d; rw [← UInt8.toNat_inj]; omega
  have e48:=eI 48
  have e49:=eI 49
  have e100:=eI 100
  have e115:=eI 115
  simp at e48 e49 e100 e115
  match k,hk with
  | 0,_ =>
    by_cases h:c=48
    · have s:=st 1 (orI n 1) rfl (by omega) (by simp [foFrom,foFrom.foFrom1,h])
      simp [withFo,MR.cells,orI,h] at s
      simp -implicitDefEqProofs [b_spec_MPut_1,withFo,MR.cells,h]
      exact s
    · have s:=st 1 n rfl (by omega) (by simp [foFrom,foFrom.foFrom1,h])
      simp [withFo,MR.cells] at s
      simp -implicitDefEqProofs [b_spec_MPut_1,withFo,MR.cells,e48,h]
      exact s
  | 1,_ =>
    by_cases h:c=49
    · have s:=st 2 (orI n 2) rfl (by omega) (by simp [foFrom,foFrom.foFrom2,h])
      simp [withFo,MR.cells,orI,h] at s
      simp -implicitDefEqProofs [b_spec_MPut_1,withFo,MR.cells,h]
      exact s
    · have s:=st 2 n rfl (by omega) (by simp [foFrom,foFrom.foFrom2,h])
      simp [withFo,MR.cells] at s
      simp -implicitDefEqProofs [b_spec_MPut_1,withFo,MR.cells,e49,h]
      exact s
  | 2,_ =>
    by_cases h:c=100
    · have s:=st 3 (orI n 4) rfl (by omega) (by simp [foFrom,foFrom.foFrom3,h])
      simp [withFo,MR.cells,orI,h] at s
      simp -implicitDefEqProofs [b_spec_MPut_1,withFo,MR.cells,h]
      exact s
    · have s:=st 3 n rfl (by omega) (by simp [foFrom,foFrom.foFrom3,h])
      simp [withFo,MR.cells] at s
      simp -implicitDefEqProofs [b_spec_MPut_1,withFo,MR.cells,e100,h]
      exact s
  | 3,_ =>
    by_cases h:c=115
    · have s:=st 4 (orI n 8) rfl (by omega) (by simp [foFrom,h])
      simp [withFo,MR.cells,orI,h] at s
      simp -implicitDefEqProofs [b_spec_MPut_1,withFo,MR.cells,h]
      exact s
    · have s:=st 4 n rfl (by omega) (by simp [foFrom,h])
      simp [withFo,MR.cells] at s
      simp -implicitDefEqProofs [b_spec_MPut_1,withFo,MR.cells,e115,h]
      exact s
  | 4,_ =>
    have hn':n=foFrom c 0 n0:=hn
    rw [← hn'] at hQ
    simp [withFo,MR.cells] at hQ
    simp -implicitDefEqProofs [b_spec_MPut_1,withFo,MR.cells,hQ]

theorem fo_outer {Γ:Gam} {Q:APost} (r:MR) (ok:Bool) (V:AV) (L:List L8) (hV:slStrs V=some L) (hL:∀ x∈L,foOk x=true) (hLl:L.length < 4611686018427387904)
    (hQ:Q (.exit 1) ⟨[(0,.ref 1000000 0),(7,.bool ok),(79,V),(80,.int .i64 L.length),(81,.int .i64 L.length),(82,.bool false)],[(1000000,.cells (withFo r (foOf L)).cells)]⟩) :
    awp Γ (.loop [0,7,79,80,81] b_spec_MPut_3) Q ⟨[(0,.ref 1000000 0),(7,.bool ok),(79,V),(80,.int .i64 L.length),(81,.int .i64 0)],[(1000000,.cells (withFo r 0).cells)]⟩:=by
  refine awp_loop2 (σ:=List L8 × List L8 × Int) (fun p=>⟨[(0,.ref 1000000 0),(7,.bool ok),(79,V),(80,.int .i64 L.length),(81,.int .i64 p.1.length)],[(1000000,.cells (withFo r p.2.2).cells)]⟩)
    (fun p=>L=p.1++p.2.1∧p.2.1.foldl (fun n x=>orI n (foBit x)) p.2.2=foOf L) (fun p=>p.2.1.length) ([],L,0) (by simp) ⟨by simp,rfl⟩ ?_
  rintro ⟨pre,post,n⟩ ⟨e1,e2⟩ LQ hLQ
  simp only at e1 e2
  cases post with
  | nil =>
    simp at e1 e2
    subst e1
    rw [← e2] at hQ
    simp [withFo,MR.cells] at hQ
    simp -implicitDefEqProofs [b_spec_MPut_3,withFo,MR.cells,hQ]
  | cons x post =>
    have hx:=hL x (by rw [e1]; simp)
    obtain ⟨c,rfl⟩:∃ c,x=[c]:=by
      match x,hx with
      | [c],_=>exact ⟨c,rfl⟩
    have hne:L ≠ []:=by rw [e1]; simp
    have hv:=slf_ne hV hne
    subst hv
    have hlen:L.length=pre.length+(post.length+1):=by rw [e1]; simp
    have hlt:(pre.length:Int) < (L.length:Int):=by omega
    have ew:IntKind.i64.wrap ((pre.length:Int)+1)=(pre.length:Int)+1:=wrap64 (by omega) (by omega)
    have g:L[pre.length]? = some [c]:=by rw [e1]; exact get_mid rfl
    have fi:=fo_inner (Γ:=Γ) (Q:=blockQ 3 (thenQ (awp Γ t_spec_MPut_2 (thenQ LQ Q)) (thenQ LQ Q))) r c n L (pre.length:Int) ok (by
      have l:=hLQ (pre++[[c]],post,foFrom c 0 n) ⟨by rw [e1]; simp,by rw [foFrom_ok hx,← e2]; rfl⟩ (by simp)
      have l2:=l ⟨[(0,.ref 1000000 0),(7,.bool ok),(79,.sl 1 (strsA L)),(80,.int .i64 L.length),(81,.int .i64 ((pre.length:Int)+1))],[(1000000,.cells (withFo r (foFrom c 0 n)).cells)]⟩ (by simp)
      simp [withFo,MR.cells] at l2
      simp -implicitDefEqProofs [t_spec_MPut_2,withFo,MR.cells,ew,l2])
    simp [withFo,MR.cells] at fi
    simp -implicitDefEqProofs [b_spec_MPut_3,withFo,MR.cells,hlt,g]
    exact fi

theorem mnum_con {v:L8} {m:Int} (h:v.length < mid):con_mnumber [.str v,.int .i64 m]=some (numV2 (mNum v m)):=if_pos (by simp only [mid] at h; simp only [big]; omega)

set_option maxHeartbeats 4000000 in
theorem ok_MPut (Γ:Gam) (h103:Γ.fn 103=con_mnumber) (h106:Γ.fn 106=con_mpolicy) (h107:Γ.fn 107=con_mlist):∀ args hp q,con_MPut args hp=some q→runsS Γ c_spec_MPut args hp (fun v=>v=some q):=by
  intro args hp q h
  simp only [con_MPut] at h
  split at h <;> (try simp at h; done)
  rename_i n v cs
  split at h <;> (try simp at h; done)
  rename_i r hr
  obtain ⟨⟨hn,hv⟩,rfl⟩:=ite_some h
  clear h
  rw [asMR_spec hr]
  clear hr
  have kl:∀ (b:Int) (g:Nat) (right:L8→Bool),rightOf g=some right→0≤b→b < 256→con_mlist [.str v,.int .u8 b,.fn g []]=some (mlV (mlist (UInt8.ofNat b.toNat) right v)):=by
    intro b g right hr h1 h2
    simp only [con_mlist,hr]
    exact if_pos ⟨hv,h1,h2⟩
  have al:alignB v=(decide (v=[114]) || decide (v=[115])):=by
    by_cases a:v=[114] <;> by_cases b:v=[115] <;> simp [alignB,sR,sS,a,b]
  by_cases c1:n=kAdkim
  · subst c1
    simp only [mOk,mPut,if_true,al]
    by_cases h1:v=[114]
    · subst h1; simp -implicitDefEqProofs [c_spec_MPut,reach_succ,kAdkim,MR.cells]
    · simp -implicitDefEqProofs [c_spec_MPut,reach_succ,kAdkim,MR.cells,h1]
  by_cases c2:n=kAspf
  · subst c2
    simp only [mOk,mPut,if_neg c1,if_true,al]
    by_cases h1:v=[114]
    · subst h1; simp -implicitDefEqProofs [c_spec_MPut,reach_succ,kAspf,MR.cells]
    · simp -implicitDefEqProofs [c_spec_MPut,reach_succ,kAspf,MR.cells,h1]
  by_cases c3:n=kP
  · subst c3
    simp only [mOk,mPut,if_neg c1,if_neg c2,if_true]
    by_cases h1:v=[114]
    · subst h1; simp -implicitDefEqProofs [c_spec_MPut,reach_succ,kP,MR.cells,acall,h106,con_mpolicy]
    · simp -implicitDefEqProofs [c_spec_MPut,reach_succ,kP,MR.cells,h1,acall,h106,con_mpolicy]
  by_cases c4:n=kSp
  · subst c4
    simp only [mOk,mPut,if_neg c1,if_neg c2,if_neg c3,if_true]
    by_cases h1:v=[114]
    · subst h1; simp -implicitDefEqProofs [c_spec_MPut,reach_succ,kSp,MR.cells,acall,h106,con_mpolicy]
    · simp -implicitDefEqProofs [c_spec_MPut,reach_succ,kSp,MR.cells,h1,acall,h106,con_mpolicy]
  by_cases c5:n=kFo
  · subst c5
    simp only [mOk,mPut,if_neg c1,if_neg c2,if_neg c3,if_neg c4,if_true]
    have k:=kl 58 108 foOk (by simp [rightOf]) (by omega) (by omega)
    have fin:∀ (V:AV) (L:List L8) (ok:Bool),slStrs V=some L→(∀ x∈L,foOk x=true)→L.length < 4611686018427387904→mlV (mlist 58 foOk v)=.tup [V,.bool ok]→(mlist 58 foOk v).isSome=ok→(mlist 58 foOk v).getD []=L →
        runsS Γ c_spec_MPut [.ref 0 0,.agg [.str kFo,.str v]] [(0,.cells r.cells)] (fun v_1=>v_1=some (.bool (mlist 58 foOk v).isSome,[(0,.cells (withFo r (foOf ((mlist 58 foOk v).getD []))).cells)])):=by
      intro V L ok h1 h2 h3 h4 h5 h6
      rw [show UInt8.ofNat (58:Int).toNat=58 from rfl,h4] at k
      rw [h5,h6]
      have hVc:=slf_cells h1
      by_cases g1:v=[114]
      · subst g1
        simp -implicitDefEqProofs [-alen,reach_succ,c_spec_MPut,kFo,MR.cells,acall,h107,k,slf_alen h1,slf_ref h1]
        refine fo_outer r ok V L h1 h2 h3 ?_
        simp -implicitDefEqProofs [t_spec_MPut_4,reach_succ,withFo,MR.cells]
      · simp -implicitDefEqProofs [-alen,reach_succ,c_spec_MPut,kFo,MR.cells,g1,acall,h107,k,slf_alen h1,slf_ref h1]
        refine fo_outer r ok V L h1 h2 h3 ?_
        simp -implicitDefEqProofs [t_spec_MPut_4,reach_succ,withFo,MR.cells]
    have hml:=splitB_length 58 v
    cases hm:mlist 58 foOk v with
    | none =>
      rw [hm] at fin
      exact fin .nilS [] false rfl (by simp) (by simp) rfl rfl rfl
    | some L =>
      have hL:L=splitB 58 v∧(splitB 58 v).all foOk=true:=by
        simp only [mlist] at hm
        split at hm
        · rename_i ha; injection hm with hm; exact ⟨hm.symm,ha⟩
        · simp at hm
      rw [hm] at fin
      refine fin (.sl 1 (strsA L)) L true (by simp [slStrs]) (by rw [hL.1]; simpa using hL.2) (by rw [hL.1]; simp only [mid] at hv; omega) rfl rfl rfl
  by_cases c6:n=kPct
  · subst c6
    simp only [mOk,mPut,if_neg c1,if_neg c2,if_neg c3,if_neg c4,if_neg c5,if_true]
    have k:=mnum_con (m:=3) hv
    cases ho:(mNum v 3).2 <;> by_cases h1:v=[114]
    · subst h1; simp -implicitDefEqProofs [c_spec_MPut,reach_succ,kPct,MR.cells,acall,h103,k,numV2,ho]
    · simp -implicitDefEqProofs [c_spec_MPut,reach_succ,kPct,MR.cells,h1,acall,h103,k,numV2,ho]
    · subst h1; simp -implicitDefEqProofs [c_spec_MPut,reach_succ,kPct,MR.cells,acall,h103,k,numV2,ho]
    · simp -implicitDefEqProofs [c_spec_MPut,reach_succ,kPct,MR.cells,h1,acall,h103,k,numV2,ho]
  by_cases c7:n=kRf
  · subst c7
    simp only [mOk,mPut,if_neg c1,if_neg c2,if_neg c3,if_neg c4,if_neg c5,if_neg c6,if_true]
    have k:=kl 58 109 (fun s=>decide (s=sAfrf)) (by simp [rightOf]) (by omega) (by omega)
    rw [show UInt8.ofNat (58:Int).toNat=58 from rfl] at k
    cases hm:mlist 58 (fun s=>decide (s=sAfrf)) v <;> rw [hm] at k <;> by_cases h1:v=[114]
    · subst h1; simp -implicitDefEqProofs [c_spec_MPut,reach_succ,kRf,MR.cells,acall,h107,k,mlV,slO_none]
    · simp -implicitDefEqProofs [c_spec_MPut,reach_succ,kRf,MR.cells,h1,acall,h107,k,mlV,slO_none]
    · subst h1; simp -implicitDefEqProofs [c_spec_MPut,reach_succ,kRf,MR.cells,acall,h107,k,mlV,slO_none]
    · simp -implicitDefEqProofs [c_spec_MPut,reach_succ,kRf,MR.cells,h1,acall,h107,k,mlV,slO_none]
  by_cases c8:n=kRi
  · subst c8
    simp only [mOk,mPut,if_neg c1,if_neg c2,if_neg c3,if_neg c4,if_neg c5,if_neg c6,if_neg c7,if_true]
    have k:=mnum_con (m:=10) hv
    cases ho:(mNum v 10).2 <;> by_cases h1:v=[114]
    · subst h1; simp -implicitDefEqProofs [c_spec_MPut,reach_succ,kRi,MR.cells,acall,h103,k,numV2,ho]
    · simp -implicitDefEqProofs [c_spec_MPut,reach_succ,kRi,MR.cells,h1,acall,h103,k,numV2,ho]
    · subst h1
      by_cases h2:0 < (mNum [114] 10).1 <;> simp -implicitDefEqProofs [c_spec_MPut,reach_succ,kRi,MR.cells,acall,h103,k,numV2,ho,h2]
    · by_cases h2:0 < (mNum v 10).1 <;> simp -implicitDefEqProofs [c_spec_MPut,reach_succ,kRi,MR.cells,h1,acall,h103,k,numV2,ho,h2]
  by_cases c9:n=kRua
  · subst c9
    simp only [mOk,mPut,if_neg c1,if_neg c2,if_neg c3,if_neg c4,if_neg c5,if_neg c6,if_neg c7,if_neg c8,if_true]
    have k:=kl 44 110 muri (by simp [rightOf]) (by omega) (by omega)
    rw [show UInt8.ofNat (44:Int).toNat=44 from rfl] at k
    cases hm:mlist 44 muri v <;> rw [hm] at k <;> by_cases h1:v=[114]
    · subst h1; simp -implicitDefEqProofs [c_spec_MPut,reach_succ,kRua,MR.cells,acall,h107,k,mlV,slO_none]
    · simp -implicitDefEqProofs [c_spec_MPut,reach_succ,kRua,MR.cells,h1,acall,h107,k,mlV,slO_none]
    · subst h1; simp -implicitDefEqProofs [c_spec_MPut,reach_succ,kRua,MR.cells,acall,h107,k,mlV,slO_none]
    · simp -implicitDefEqProofs [c_spec_MPut,reach_succ,kRua,MR.cells,h1,acall,h107,k,mlV,slO_none]
  by_cases c10:n=kRuf
  · subst c10
    simp only [mOk,mPut,if_neg c1,if_neg c2,if_neg c3,if_neg c4,if_neg c5,if_neg c6,if_neg c7,if_neg c8,if_neg c9,if_true]
    have k:=kl 44 110 muri (by simp [rightOf]) (by omega) (by omega)
    rw [show UInt8.ofNat (44:Int).toNat=44 from rfl] at k
    cases hm:mlist 44 muri v <;> rw [hm] at k <;> by_cases h1:v=[114]
    · subst h1; simp -implicitDefEqProofs [c_spec_MPut,reach_succ,kRuf,MR.cells,acall,h107,k,mlV,slO_none]
    · simp -implicitDefEqProofs [c_spec_MPut,reach_succ,kRuf,MR.cells,h1,acall,h107,k,mlV,slO_none]
    · subst h1; simp -implicitDefEqProofs [c_spec_MPut,reach_succ,kRuf,MR.cells,acall,h107,k,mlV,slO_none]
    · simp -implicitDefEqProofs [c_spec_MPut,reach_succ,kRuf,MR.cells,h1,acall,h107,k,mlV,slO_none]
  · simp only [mOk,mPut,if_neg c1,if_neg c2,if_neg c3,if_neg c4,if_neg c5,if_neg c6,if_neg c7,if_neg c8,if_neg c9,if_neg c10]
    simp only [kAdkim,kAspf,kP,kSp,kFo,kPct,kRf,kRi,kRua,kRuf] at c1 c2 c3 c4 c5 c6 c7 c8 c9 c10
    by_cases h1:v=[114]
    · subst h1; simp -implicitDefEqProofs [c_spec_MPut,reach_succ,t_spec_MPut_5,MR.cells,c1,c2,c3,c4,c5,c6,c7,c8,c9,c10]
    · simp -implicitDefEqProofs [c_spec_MPut,reach_succ,t_spec_MPut_5,MR.cells,h1,c1,c2,c3,c4,c5,c6,c7,c8,c9,c10]
end Wax


namespace Wax
open Go (IntKind)

def fits14 (a b:L8):Bool:=decide (a.length≤2147483647) && decide (b.length≤2147483647)
def con_zzFits14:List AV→Option AV
  | [.agg [.str a,.str b]]=>some (.bool (fits14 a b))
  | _=>none
theorem ok_zzFits14 (Γ:Gam):∀ args r,con_zzFits14 args=some r→runs Γ c_laws_zzFits14 args (fun v=>v=r):=by
  intro args r h
  simp only [con_zzFits14] at h
  split at h <;> simp at h
  rename_i a b
  subst h
  by_cases h1:(2147483647:Int) < (a.length:Int)
  · have e:¬ a.length≤2147483647:=by omega
    simp -implicitDefEqProofs [c_laws_zzFits14,h1,fits14,e]
  · have e:a.length≤2147483647:=by omega
    by_cases h2:(2147483647:Int) < (b.length:Int)
    · have e2:¬ b.length≤2147483647:=by omega
      simp -implicitDefEqProofs [c_laws_zzFits14,h1,h2,fits14,e,e2]
    · have e2:b.length≤2147483647:=by omega
      simp -implicitDefEqProofs [c_laws_zzFits14,h1,h2,fits14,e,e2]

def fits13 (l:List KVp):Bool:=decide (l.length≤2147483647) && l.all fun t=>fits14 t.1 t.2
def con_zzFits13:List AV→Option AV
  | [u]=>match slPairs u with
    | some l=>if l.length < 9223372036854775808 then some (.bool (fits13 l)) else none
    | none=>none
  | _=>none

theorem ok_zzFits13 (Γ:Gam) (h119:Γ.fn 119=con_zzFits14):∀ args r,con_zzFits13 args=some r→runs Γ c_laws_zzFits13 args (fun v=>v=r):=by
  intro args r h
  simp only [con_zzFits13] at h
  split at h <;> (try simp at h; done)
  rename_i u
  split at h <;> (try simp at h; done)
  rename_i l hl
  obtain ⟨h1,rfl⟩:=ite_some h
  clear h
  by_cases hb:(2147483647:Int) < (l.length:Int)
  · have e:¬ l.length≤2147483647:=by omega
    simp -implicitDefEqProofs [-alen,c_laws_zzFits13,slp_alen hl,hb,fits13,e]
  · have e:l.length≤2147483647:=by omega
    simp -implicitDefEqProofs [-alen,c_laws_zzFits13,slp_alen hl,hb]
    refine awp_loop2 (σ:=List KVp × List KVp) (fun p=>⟨[(8,u),(9,.int .i64 l.length),(10,.int .i64 p.1.length)],[]⟩)
      (fun p=>l=p.1++p.2∧(p.1.all fun t=>fits14 t.1 t.2)=true) (fun p=>p.2.length) ([],l) (by simp) (by simp) ?_
    rintro ⟨pre,post⟩ ⟨e1,e2⟩ LQ hLQ
    simp only at e1 e2
    cases post with
    | nil =>
      simp only [List.append_nil] at e1
      subst e1
      have:fits13 l=true:=by simp only [fits13,e2,e]; rfl
      simp -implicitDefEqProofs [b_laws_zzFits13_1,t_laws_zzFits13_2,this]
    | cons x post =>
      obtain ⟨a,b⟩:=x
      have hu:=slp_ne hl (by rw [e1]; simp)
      subst hu
      have hlen:l.length=pre.length+(post.length+1):=by rw [e1]; simp
      have hlt:(pre.length:Int) < (l.length:Int):=by omega
      have ew:IntKind.i64.wrap ((pre.length:Int)+1)=(pre.length:Int)+1:=wrap64 (by omega) (by omega)
      have g:l[pre.length]? = some (a,b):=by rw [e1]; exact get_mid rfl
      cases hf:fits14 a b with
      | true =>
        simp -implicitDefEqProofs [b_laws_zzFits13_1,hlt,g,acall,h119,con_zzFits14,hf,ew]
        exact hLQ (pre++[(a,b)],post) ⟨by rw [e1]; simp,by simp only [List.all_append,e2,List.all_cons,hf]; rfl⟩ (by simp) _ (by simp)
      | false =>
        have:fits13 l=false:=by
          have:(l.all fun t=>fits14 t.1 t.2)=false:=by rw [e1]; simp [hf]
          simp only [fits13,this,Bool.and_false]
        simp -implicitDefEqProofs [b_laws_zzFits13_1,hlt,g,acall,h119,con_zzFits14,hf,this]

section
variable {Γ:Gam} (h99:Γ.fn 99=con_MailKeyword) (h100:Γ.fn 100=con_MailAny) (s111:Γ.st 111=con_MPut) (h112:Γ.fn 112=con_MailLower) (h113:Γ.fn 113=con_MKnown)

theorem low_con {n:L8} (hn:n.length < mid):con_MailLower [.str n]=some (.str (lowS n)):=if_pos (by simp only [mid] at hn; simp only [big]; omega)

include h112
theorem mr_4 {Q:APost} (u:AV) (n v:L8) (len i:Int) (rc:List AV) (x7 x10 x101:AV) (hn:n.length < mid)
    (hbad:¬ (v ≠ []∧lowS n ≠ kV)→Q .ret ⟨[(2,.bool false)],[]⟩)
    (hgood:v ≠ []→lowS n ≠ kV→Q .normal ⟨[(0,u),(3,.ref 3 0),(11,u),(12,.int .i64 len),(13,.int .i64 i),(131,.bool false)],[(3,.cells rc)]⟩) :
    awp Γ t_spec_MRight_4 Q ⟨[(0,u),(3,.ref 3 0),(5,.ptr [.str n,.str v]),(7,x7),(10,x10),(11,u),(12,.int .i64 len),(13,.int .i64 i),(101,x101)],[(3,.cells rc)]⟩:=by
  by_cases hv:v=[]
  · have b:=hbad (fun h=>h.1 hv)
    subst hv
    simp -implicitDefEqProofs [t_spec_MRight_4,b]
  · by_cases hl:lowS n=kV
    · have b:=hbad (fun h=>h.2 hl)
      have hl':lowS n=[118]:=hl
      simp -implicitDefEqProofs [t_spec_MRight_4,hv,acall,h112,low_con hn,hl',b]
    · have g:=hgood hv hl
      have hl':¬ lowS n=[118]:=hl
      simp -implicitDefEqProofs [t_spec_MRight_4,hv,acall,h112,low_con hn,hl',g]

include h100
theorem mr_5 {Q:APost} (u:AV) (n v:L8) (len i:Int) (rc:List AV) (known:Bool) (hn:n.length < mid) (hv:v.length < mid) (ex:List (Nat × AV)) (hex:keep ex [0,3,5,7,11,12,13]=[(0,u),(3,.ref 3 0),(5,.ptr [.str n,.str v]),(7,.bool known),(11,u),(12,.int .i64 len),(13,.int .i64 i)])
    (hbad:¬ ((known=true∨v.all valB=true)∧v ≠ []∧lowS n ≠ kV)→Q .ret ⟨[(2,.bool false)],[]⟩)
    (hgood:(known=true∨v.all valB=true)→v ≠ []→lowS n ≠ kV→Q .normal ⟨[(0,u),(3,.ref 3 0),(11,u),(12,.int .i64 len),(13,.int .i64 i),(131,.bool false)],[(3,.cells rc)]⟩) :
    awp Γ t_spec_MRight_5 Q ⟨ex,[(3,.cells rc)]⟩:=by
  simp only [keep,List.cons.injEq,Prod.mk.injEq,true_and,and_true] at hex
  obtain ⟨x0,x3,x5,x7,x11,x12,x13⟩:=hex
  simp only [mid] at hv
  simp -implicitDefEqProofs [t_spec_MRight_5,x0,x3,x5,x7,x11,x12,x13]
  refine awp_loop2 (σ:=L8 × L8) (fun p=>⟨[(0,u),(3,.ref 3 0),(5,.ptr [.str n,.str v]),(7,.bool known),(10,.int .i64 p.1.length),(11,u),(12,.int .i64 len),(13,.int .i64 i)],[(3,.cells rc)]⟩)
    (fun p=>v=p.1++p.2∧(known=true∨p.1.all valB=true)) (fun p=>p.2.length) ([],v) (by simp) (by simp) ?_
  rintro ⟨pre,post⟩ ⟨e1,e2⟩ LQ hLQ
  simp only at e1 e2
  have last:∀ x10 x101,(known=true∨v.all valB=true)→awp Γ t_spec_MRight_4 Q ⟨[(0,u),(3,.ref 3 0),(5,.ptr [.str n,.str v]),(7,.bool known),(10,x10),(11,u),(12,.int .i64 len),(13,.int .i64 i),(101,x101)],[(3,.cells rc)]⟩ :=
    fun x10 x101 hk=>mr_4 h112 u n v len i rc _ x10 x101 hn (fun h=>hbad (fun g=>h g.2)) (hgood hk)
  cases known with
  | true =>
    have l:=last (.int .i64 pre.length) (.bool false) (.inl rfl)
    by_cases hlt:(pre.length:Int) < (v.length:Int)
    · simp -implicitDefEqProofs [b_spec_MRight_3,hlt,l]
    · simp -implicitDefEqProofs [b_spec_MRight_3,hlt,l]
  | false =>
    have e2:pre.all valB=true:=by simpa using e2
    cases post with
    | nil =>
      simp only [List.append_nil] at e1
      subst e1
      have l:=last (.int .i64 v.length) (.bool false) (.inr e2)
      simp -implicitDefEqProofs [b_spec_MRight_3,l]
    | cons x post =>
      have hlen:v.length=pre.length+(post.length+1):=by rw [e1]; simp
      have hlt:(pre.length:Int) < (v.length:Int):=by omega
      have ew:IntKind.i64.wrap ((pre.length:Int)+1)=(pre.length:Int)+1:=wrap64 (by omega) (by omega)
      have g:v[pre.length]? = some x:=by rw [e1]; exact get_mid rfl
      have k100:con_MailAny [.int .u8 x.toNat,.str [59,61]]=some (.bool (anyN x.toNat [59,61])):=by
        have h4:([59,61]:L8).length < big:=by decide
        simp only [con_MailAny,if_pos h4]
      have ev:valB x=(decide (32 < (x.toNat:Int)) && decide ((x.toNat:Int) < 127) && !anyN x.toNat [59,61]):=by
        have q:∀ d:UInt8,decide ((d.toNat:Int)=(x.toNat:Int))=decide (x=d):=by
          intro d; rw [decide_eq_decide,← UInt8.toNat_inj]; omega
        simp only [valB,anyN,List.any_cons,List.any_nil,q,Bool.or_false]
        have a1:decide (32 < (x.toNat:Int))=decide (32 < x.toNat):=by rw [decide_eq_decide]; omega
        have a2:decide ((x.toNat:Int) < 127)=decide (x.toNat < 127):=by rw [decide_eq_decide]; omega
        rw [a1,a2]
        by_cases b1:x=59 <;> by_cases b2:x=61 <;> simp [b1,b2]
      have bad:valB x=false→Q .ret ⟨[(2,.bool false)],[]⟩:=fun h=>hbad (fun hh=>by
        have:v.all valB=false:=by rw [e1]; simp [h]
        rw [this] at hh; simp at hh)
      have good:valB x=true→LQ ⟨[(0,u),(3,.ref 3 0),(5,.ptr [.str n,.str v]),(7,.bool false),(10,.int .i64 ((pre.length:Int)+1)),(11,u),(12,.int .i64 len),(13,.int .i64 i)],[(3,.cells rc)]⟩:=fun h =>
        hLQ (pre++[x],post) ⟨by rw [e1]; simp,.inr (by simp only [List.all_append,e2,List.all_cons,h]; rfl)⟩ (by simp) _ (by simp)
      rw [ev] at bad good
      by_cases h1:(x.toNat:Int)≤32
      · have h1':¬ (32 < (x.toNat:Int)):=by omega
        have b:=bad (by simp [h1'])
        simp -implicitDefEqProofs [b_spec_MRight_3,hlt,ew,g,h1,b]
      · have h1':32 < (x.toNat:Int):=by omega
        by_cases h2:127≤(x.toNat:Int)
        · have h2':¬ ((x.toNat:Int) < 127):=by omega
          have b:=bad (by simp [h2'])
          simp -implicitDefEqProofs [b_spec_MRight_3,hlt,ew,g,h1,h2,b]
        · have h2':(x.toNat:Int) < 127:=by omega
          cases h3:anyN x.toNat [59,61] with
          | true =>
            have b:=bad (by simp [h3])
            simp -implicitDefEqProofs [b_spec_MRight_3,hlt,ew,g,h1,h2,acall,h100,k100,h3,b]
          | false =>
            have gd:=good (by simp [h3,h1',h2'])
            simp -implicitDefEqProofs [b_spec_MRight_3,hlt,ew,g,h1,h2,acall,h100,k100,h3,gd]

def kwOk (n:L8) (k:L8):Bool:=decide (k=n) || decide (k ≠ lowS n)

include h113
theorem mr_6 {Q:APost} (u:AV) (n v:L8) (len i:Int) (rc:List AV) (hn:n.length < mid) (hv:v.length < mid) (ex:List (Nat × AV)) (hex:keep ex [0,3,5,11,12,13]=[(0,u),(3,.ref 3 0),(5,.ptr [.str n,.str v]),(11,u),(12,.int .i64 len),(13,.int .i64 i)])
    (hbad:¬ (mKnown.all (kwOk n)=true∧(mKnown.contains n=true∨v.all valB=true)∧v ≠ []∧lowS n ≠ kV)→Q .ret ⟨[(2,.bool false)],[]⟩)
    (hgood:mKnown.all (kwOk n)=true→(mKnown.contains n=true∨v.all valB=true)→v ≠ []→lowS n ≠ kV→Q .normal ⟨[(0,u),(3,.ref 3 0),(11,u),(12,.int .i64 len),(13,.int .i64 i),(131,.bool false)],[(3,.cells rc)]⟩) :
    awp Γ t_spec_MRight_6 Q ⟨ex,[(3,.cells rc)]⟩:=by
  simp only [keep,List.cons.injEq,Prod.mk.injEq,true_and,and_true] at hex
  obtain ⟨x0,x3,x5,x11,x12,x13⟩:=hex
  have hk10:mKnown.length=10:=rfl
  generalize hK:mKnown=K at *
  have hk:con_MKnown []=some (.sl 1 (strsA K)):=by rw [← hK]; rfl
  simp -implicitDefEqProofs [t_spec_MRight_6,x0,x3,x5,x11,x12,x13,acall,h113,hk,hk10]
  refine awp_loop2 (σ:=List L8 × List L8) (fun p=>⟨[(0,u),(3,.ref 3 0),(5,.ptr [.str n,.str v]),(7,.bool (p.1.contains n)),(11,u),(12,.int .i64 len),(13,.int .i64 i),(68,.sl 1 (strsA K)),(69,.int .i64 10),(70,.int .i64 p.1.length)],[(3,.cells rc)]⟩)
    (fun p=>K=p.1++p.2∧p.1.all (kwOk n)=true) (fun p=>p.2.length) ([],K) (by simp) (by simp) ?_
  rintro ⟨pre,post⟩ ⟨e1,e2⟩ LQ hLQ
  simp only at e1 e2
  cases post with
  | nil =>
    simp only [List.append_nil] at e1
    subst e1
    have l:=fun ex hex=>mr_5 h100 h112 (Q:=Q) u n v len i rc (K.contains n) hn hv ex hex (fun h=>hbad (fun g=>h g.2)) (hgood e2)
    simp -implicitDefEqProofs [b_spec_MRight_2,hk10]
    exact l _ (by simp)
  | cons k post =>
    have hlen:pre.length+(post.length+1)=10:=by rw [← hk10,e1]; simp
    have hlt:(pre.length:Int) < 10:=by omega
    have ew:IntKind.i64.wrap ((pre.length:Int)+1)=(pre.length:Int)+1:=wrap64 (by omega) (by omega)
    have g:K[pre.length]? = some k:=by rw [e1]; exact get_mid rfl
    have bad:kwOk n k=false→Q .ret ⟨[(2,.bool false)],[]⟩:=fun h=>hbad (fun hh=>by
      have:K.all (kwOk n)=false:=by rw [e1]; simp [h]
      rw [this] at hh; simp at hh)
    have good:∀ b:Bool,b=(pre.contains n || decide (k=n))→kwOk n k=true→LQ ⟨[(0,u),(3,.ref 3 0),(5,.ptr [.str n,.str v]),(7,.bool b),(11,u),(12,.int .i64 len),(13,.int .i64 i),(68,.sl 1 (strsA K)),(69,.int .i64 10),(70,.int .i64 ((pre.length:Int)+1))],[(3,.cells rc)]⟩:=by
      intro b hb h
      refine hLQ (pre++[k],post) ⟨by rw [e1]; simp,by simp only [List.all_append,e2,List.all_cons,h]; rfl⟩ (by simp) _ ?_
      subst hb
      have:decide (n=k)=decide (k=n):=by rw [decide_eq_decide]; exact eq_comm
      simp [this]
    by_cases h1:k=n
    · have gd:=good true (by simp [h1]) (by simp [kwOk,h1])
      subst h1
      cases hc:pre.contains k <;> simp -implicitDefEqProofs [b_spec_MRight_2,hlt,ew,g,hc,gd]
    · by_cases h2:k=lowS n
      · have b:=bad (by simp only [kwOk,h2]; simp; exact fun h=>h1 (h2.trans h))
        have h1':¬ lowS n=n:=fun h=>h1 (h2.trans h)
        subst h2
        cases hc:pre.contains n <;> simp -implicitDefEqProofs [b_spec_MRight_2,hlt,ew,g,hc,h1',acall,h112,low_con hn,b]
      · have gd:=good (pre.contains n) (by simp [h1]) (by simp [kwOk,h2])
        cases hc:pre.contains n <;> rw [hc] at gd <;> simp -implicitDefEqProofs [b_spec_MRight_2,hlt,ew,g,hc,h1,h2,acall,h112,low_con hn,gd]
end
end Wax


namespace Wax
open Go (IntKind)

def tagMore (n v:L8):Prop:=mKnown.all (kwOk n)=true∧(mKnown.contains n=true∨v.all valB=true)∧v ≠ []∧lowS n ≠ kV

section
variable {Γ:Gam} (h99:Γ.fn 99=con_MailKeyword) (h100:Γ.fn 100=con_MailAny) (s111:Γ.st 111=con_MPut) (h112:Γ.fn 112=con_MailLower) (h113:Γ.fn 113=con_MKnown)

include h100 h112 h113
theorem mr_7 {Q:APost} (l pre:List KVp) (post:List KVp) (hl:l=pre++post) (hpre:∀ t∈pre,t.1.length < mid) (hll:l.length < mid) (n v:L8) (rc:List AV) (hn:n.length < mid) (hv:v.length < mid) (ex:List (Nat × AV))
    (hex:keep ex [0,3,4,5,11,12,13]=[(0,.sl 2 (pr2 l)),(3,.ref 3 0),(4,.int .i64 pre.length),(5,.ptr [.str n,.str v]),(11,.sl 2 (pr2 l)),(12,.int .i64 l.length),(13,.int .i64 pre.length)])
    (hbad:¬ ((∀ t∈pre,lowS t.1 ≠ lowS n)∧tagMore n v)→Q .ret ⟨[(2,.bool false)],[]⟩)
    (hgood:(∀ t∈pre,lowS t.1 ≠ lowS n)→tagMore n v→Q .normal ⟨[(0,.sl 2 (pr2 l)),(3,.ref 3 0),(11,.sl 2 (pr2 l)),(12,.int .i64 l.length),(13,.int .i64 pre.length),(131,.bool false)],[(3,.cells rc)]⟩) :
    awp Γ f_spec_MRight_7 Q ⟨ex,[(3,.cells rc)]⟩:=by
  simp only [keep,List.cons.injEq,Prod.mk.injEq,true_and,and_true] at hex
  obtain ⟨x0,x3,x4,x5,x11,x12,x13⟩:=hex
  simp only [mid] at hll
  have hlen:l.length=pre.length+post.length:=by rw [hl]; simp
  simp -implicitDefEqProofs [f_spec_MRight_7,x0,x3,x4,x5,x11,x12,x13]
  refine awp_loop2 (σ:=List KVp × List KVp) (fun p=>⟨[(0,.sl 2 (pr2 l)),(3,.ref 3 0),(4,.int .i64 pre.length),(5,.ptr [.str n,.str v]),(6,.int .i64 p.1.length),(11,.sl 2 (pr2 l)),(12,.int .i64 l.length),(13,.int .i64 pre.length)],[(3,.cells rc)]⟩)
    (fun p=>pre=p.1++p.2∧∀ t∈p.1,lowS t.1 ≠ lowS n) (fun p=>p.2.length) ([],pre) (by simp) (by simp) ?_
  rintro ⟨a,b⟩ ⟨e1,e2⟩ LQ hLQ
  simp only at e1 e2
  cases b with
  | nil =>
    simp only [List.append_nil] at e1
    have hal:(a.length:Int)=pre.length:=by rw [e1]
    rw [← e1] at e2
    have m:=fun ex hex=>mr_6 h100 h112 h113 (Q:=Q) (.sl 2 (pr2 l)) n v l.length pre.length rc hn hv ex hex (fun h=>hbad (fun g=>h g.2)) (fun g1 g2 g3 g4=>hgood e2 ⟨g1,g2,g3,g4⟩)
    simp -implicitDefEqProofs [b_spec_MRight_1,hal]
    exact m _ (by simp)
  | cons t b =>
    obtain ⟨tn,tv⟩:=t
    have hlen2:pre.length=a.length+(b.length+1):=by rw [e1]; simp
    have hlt:(a.length:Int) < (pre.length:Int):=by omega
    have ew:IntKind.i64.wrap ((a.length:Int)+1)=(a.length:Int)+1:=wrap64 (by omega) (by omega)
    have g:l[a.length]? = some (tn,tv):=by rw [hl,e1]; simp
    have htn:tn.length < mid:=hpre (tn,tv) (by rw [e1]; simp)
    by_cases h:lowS tn=lowS n
    · have bb:=hbad (fun hh=>hh.1 (tn,tv) (by rw [e1]; simp) h)
      simp -implicitDefEqProofs [b_spec_MRight_1,hlt,ew,g,acall,h112,low_con htn,low_con hn,h,bb]
    · simp -implicitDefEqProofs [b_spec_MRight_1,hlt,ew,g,acall,h112,low_con htn,low_con hn,h]
      refine hLQ (a++[(tn,tv)],b) ⟨by rw [e1]; simp,?_⟩ (by simp) _ (by simp)
      intro t ht
      rcases List.mem_append.1 ht with ht | ht
      · exact e2 t ht
      · simp at ht; subst ht; exact h
end

theorem tagOk_iff (pre:List KVp) (n v:L8):tagOk pre (n,v)=true ↔ (((pre ≠ []∨n=kP)∧n ≠ kV∧n.length≤20∧v.length≤200∧mOk (n,v)=true∧mKw n=true)∧(∀ t∈pre,lowS t.1 ≠ lowS n)∧tagMore n v):=by
  have e:mKnown.all (fun k=>decide (k=n) || decide (k ≠ lowS n))=mKnown.all (kwOk n):=rfl
  simp only [tagOk,tagMore,Bool.and_eq_true,Bool.or_eq_true,decide_eq_true_eq,e,List.all_eq_true (l:=pre),and_assoc]

def con_MRight:List AV→Option AV
  | [u]=>match slPairs u with
    | some l=>if l.length < mid∧∀ t∈l,t.1.length < mid∧t.2.length < mid then some (.bool (mRight l)) else none
    | none=>none
  | _=>none

@[simp] theorem mrc_refs (r:MR):refsL r.cells=[]:=by simp [MR.cells]
@[simp] theorem mrc_map (r:MR) (g:Nat→Nat):mapIdL g r.cells=r.cells:=by simp [MR.cells]
@[simp] theorem mrc_kill (r:MR) (d:Nat):killL d r.cells=r.cells:=by simp [MR.cells]
@[simp] theorem mrc_snapW (r:MR) (g:AV→AV):snapWL g r.cells=r.cells:=by simp [MR.cells]
@[simp] theorem mrc_len (r:MR):r.cells.length=11:=rfl

theorem put_con {r:MR} {n v:L8} (hn:n.length < mid) (hv:v.length < mid):con_MPut [.ref 0 0,.agg [.str n,.str v]] [(0,.cells r.cells)]=some (.bool (mOk (n,v)),[(0,.cells (mPut r (n,v)).cells)]):=by
  simp only [con_MPut,asMR_cells]
  exact if_pos ⟨hn,hv⟩
theorem kw_con {n:L8} (hn:n.length < mid):con_MailKeyword [.str n]=some (.bool (mKw n)):=if_pos (by simp only [mid] at hn; simp only [big]; omega)

def tagSelf (pre:List KVp) (n v:L8):Prop:=(pre ≠ []∨n=kP)∧n ≠ kV∧n.length≤20∧v.length≤200∧mOk (n,v)=true∧mKw n=true

section
variable {Γ:Gam} (h99:Γ.fn 99=con_MailKeyword) (h100:Γ.fn 100=con_MailAny) (s111:Γ.st 111=con_MPut) (h112:Γ.fn 112=con_MailLower) (h113:Γ.fn 113=con_MKnown)
include h99 h100 s111 h112 h113

set_option maxHeartbeats 4000000 in
theorem mr_9 {Q:APost} (l pre post:List KVp) (n v:L8) (hl:l=pre++(n,v)::post) (hpre:∀ t∈pre,t.1.length < mid) (hll:l.length < mid) (r:MR) (hn:n.length < mid) (hv:v.length < mid)
    (hbad:¬ tagOk pre (n,v)=true→Q .ret ⟨[(2,.bool false)],[]⟩)
    (hgood:tagOk pre (n,v)=true→Q .normal ⟨[(0,.sl 2 (pr2 l)),(3,.ref 3 0),(11,.sl 2 (pr2 l)),(12,.int .i64 l.length),(13,.int .i64 ((pre.length:Int)+1))],[(3,.cells (mPut r (n,v)).cells)]⟩) :
    awp Γ b_spec_MRight_9 Q ⟨[(0,.sl 2 (pr2 l)),(3,.ref 3 0),(11,.sl 2 (pr2 l)),(12,.int .i64 l.length),(13,.int .i64 pre.length)],[(3,.cells r.cells)]⟩:=by
  rw [tagOk_iff] at hbad hgood
  have hlen:l.length=pre.length+(post.length+1):=by rw [hl]; simp
  have hll':=hll
  simp only [mid] at hll'
  have hlt:(pre.length:Int) < (l.length:Int):=by omega
  have ew:IntKind.i64.wrap ((pre.length:Int)+1)=(pre.length:Int)+1:=wrap64 (by omega) (by omega)
  have g:l[pre.length]? = some (n,v):=by rw [hl]; exact get_mid rfl
  have kp:=put_con (r:=r) hn hv
  have kw:=kw_con hn
  have m:=fun Q ex hex hb hg=>mr_7 h100 h112 h113 (Q:=Q) l pre ((n,v)::post) hl hpre hll n v (mPut r (n,v)).cells hn hv ex hex hb hg
  have hm1:tagSelf pre n v→(¬ ((∀ t∈pre,lowS t.1 ≠ lowS n)∧tagMore n v)→Q .ret ⟨[(2,.bool false)],[]⟩):=fun hs h=>hbad (fun g=>h g.2)
  have hz:((pre.length:Int)=0) ↔ pre=[]:=by
    rw [← List.length_eq_zero_iff]; omega
  by_cases c1:pre ≠ []∨n=kP
  · have hf:pre=[]→n=[112]:=fun h=>by
      rcases c1 with c1 | c1
      · exact absurd h c1
      · exact c1
    by_cases c2:n=kV
    · have b:=hbad (fun h=>h.1.2.1 c2)
      subst c2
      have hp:¬ pre=[]:=by
        rcases c1 with c1 | c1
        · exact c1
        · simp [kV,kP] at c1
      simp -implicitDefEqProofs [b_spec_MRight_9,hlt,g,hz,hp,kV,b]
    · have c2':¬ n=[118]:=c2
      by_cases c3:n.length≤20
      · have c3':¬ (20 < (n.length:Int)):=by omega
        by_cases c4:v.length≤200
        · have c4':¬ (200 < (v.length:Int)):=by omega
          cases c5:mOk (n,v) with
          | false =>
            have b:=hbad (fun h=>by rw [h.1.2.2.2.2.1] at c5; simp at c5)
            rw [c5] at kp
            by_cases hp:pre=[]
            · have hnp:=hf hp
              have hpT:=eq_true hp
              subst hnp
              simp -implicitDefEqProofs [b_spec_MRight_9,hlt,g,hpT,c4',acallS,reach_succ,s111,kp,b]
            · simp -implicitDefEqProofs [b_spec_MRight_9,hlt,g,hp,c2',c3',c4',acallS,reach_succ,s111,kp,b]
          | true =>
            rw [c5] at kp
            cases c6:mKw n with
            | false =>
              have b:=hbad (fun h=>by rw [h.1.2.2.2.2.2] at c6; simp at c6)
              rw [c6] at kw
              by_cases hp:pre=[]
              · have hnp:=hf hp
                subst hnp
                simp [mKw,kwB] at c6
              · simp -implicitDefEqProofs [b_spec_MRight_9,hlt,g,hp,c2',c3',c4',acallS,reach_succ,s111,kp,acall,h99,kw,b]
            | true =>
              rw [c6] at kw
              have hs:tagSelf pre n v:=⟨c1,c2,c3,c4,c5,c6⟩
              have f1:=hm1 hs
              have f2:=fun g1 g2=>hgood ⟨hs,g1,g2⟩
              by_cases hp:pre=[]
              · have hnp:=hf hp
                have hpT:=eq_true hp
                subst hnp
                simp -implicitDefEqProofs [b_spec_MRight_9,hlt,g,hpT,c4',acallS,reach_succ,s111,kp,acall,h99,kw]
                refine m _ _ (by simp) (fun h=>f1 h) (fun g1 g2=>?_)
                have f:=f2 g1 g2
                simp -implicitDefEqProofs [t_spec_MRight_8,ew,f]
              · simp -implicitDefEqProofs [b_spec_MRight_9,hlt,g,hp,c2',c3',c4',acallS,reach_succ,s111,kp,acall,h99,kw]
                refine m _ _ (by simp) (fun h=>f1 h) (fun g1 g2=>?_)
                have f:=f2 g1 g2
                simp -implicitDefEqProofs [t_spec_MRight_8,ew,f]
        · have c4':200 < (v.length:Int):=by omega
          have b:=hbad (fun h=>c4 h.1.2.2.2.1)
          by_cases hp:pre=[]
          · have hnp:=hf hp
            have hpT:=eq_true hp
            subst hnp
            simp -implicitDefEqProofs [b_spec_MRight_9,hlt,g,hpT,c4',b]
          · simp -implicitDefEqProofs [b_spec_MRight_9,hlt,g,hp,c2',c3',c4',b]
      · have c3':20 < (n.length:Int):=by omega
        have b:=hbad (fun h=>c3 h.1.2.2.1)
        by_cases hp:pre=[]
        · have hnp:=hf hp
          subst hnp
          simp at c3
        · simp -implicitDefEqProofs [b_spec_MRight_9,hlt,g,hp,c2',c3',b]
  · have b:=hbad (fun h=>c1 h.1.1)
    have hp:pre=[]:=Classical.byContradiction fun h=>c1 (.inl h)
    have hnp:¬ n=[112]:=fun h=>c1 (.inr h)
    have hpT:=eq_true hp
    simp -implicitDefEqProofs [b_spec_MRight_9,hlt,g,hpT,hnp,b]
end

theorem tagsOk_app (pre:List KVp):∀ post,tagsOk pre post=true ↔ ∀ a t b,post=a++t::b→tagOk (pre++a) t=true:=by
  intro post
  induction post generalizing pre with
  | nil=>simp [tagsOk]
  | cons x r ih =>
    simp only [tagsOk,Bool.and_eq_true,ih]
    constructor
    · rintro ⟨h1,h2⟩ a t b e
      cases a with
      | nil=>simp at e; obtain ⟨rfl,rfl⟩:=e; simpa using h1
      | cons y a =>
        simp at e
        obtain ⟨rfl,e⟩:=e
        have:=h2 a t b e
        simpa using this
    · intro h
      exact ⟨by simpa using h [] x r rfl,fun a t b e=>by have:=h (x::a) t b (by rw [e]; rfl); simpa using this⟩

theorem tgs_kill {u:AV} {l:List KVp} (h:slPairs u=some l) (d:Nat):kill d u=u:=by
  rcases slPairs_cases h with ⟨rfl,rfl⟩ | rfl <;> rfl
theorem tgs_ref {u:AV} {l:List KVp} (h:slPairs u=some l):hasRef u=false:=by
  rcases slPairs_cases h with ⟨rfl,rfl⟩ | rfl <;> rfl
set_option maxHeartbeats 1000000 in
theorem ok_MRight (Γ:Gam) (h99:Γ.fn 99=con_MailKeyword) (h100:Γ.fn 100=con_MailAny) (s111:Γ.st 111=con_MPut) (h112:Γ.fn 112=con_MailLower) (h113:Γ.fn 113=con_MKnown):∀ args r,con_MRight args=some r→runs Γ c_spec_MRight args (fun v=>v=r):=by
  intro args r h
  simp only [con_MRight] at h
  split at h <;> (try simp at h; done)
  rename_i u
  split at h <;> (try simp at h; done)
  rename_i l hl
  obtain ⟨⟨h1,h2⟩,rfl⟩:=ite_some h
  clear h
  have h1':=h1
  simp only [mid] at h1'
  simp -implicitDefEqProofs [-alen,c_spec_MRight,slp_alen hl,tgs_kill hl]
  refine awp_loop2 (σ:=List KVp × List KVp × MR) (fun p=>⟨[(0,u),(3,.ref 3 0),(11,u),(12,.int .i64 l.length),(13,.int .i64 p.1.length)],[(3,.cells p.2.2.cells)]⟩)
    (fun p=>l=p.1++p.2.1∧∀ a t b,p.1=a++t::b→tagOk a t=true) (fun p=>p.2.1.length) ([],l,mr0) ?_ (by simp) ?_
  · simp [MR.cells,mr0]
  rintro ⟨pre,post,r⟩ ⟨e1,e2⟩ LQ hLQ
  simp only at e1 e2
  cases post with
  | nil =>
    simp only [List.append_nil] at e1
    subst e1
    have ht:tagsOk [] l=true:=by rw [tagsOk_app]; intro a t b e; simpa using e2 a t b e
    have hm:mRight l=(decide (l ≠ []) && decide (l.length≤20)):=by simp only [mRight,ht,Bool.true_and]
    rw [hm]
    by_cases hp:l=[]
    · have hpT:=eq_true hp
      have h0:¬ (0:Int) < (l.length:Int):=by rw [hp]; simp
      simp -implicitDefEqProofs [-alen,b_spec_MRight_9,t_spec_MRight_10,slp_alen hl,h0,hpT]
      intro h; omega
    · have h0:(0:Int) < (l.length:Int):=by
        have:=List.length_pos_iff.2 hp
        omega
      simp -implicitDefEqProofs [-alen,b_spec_MRight_9,t_spec_MRight_10,slp_alen hl,h0,hp]
      omega
  | cons t post =>
    obtain ⟨n,v⟩:=t
    have hu:=slp_ne hl (by rw [e1]; simp)
    subst hu
    have hn:=h2 (n,v) (by rw [e1]; simp)
    refine mr_9 h99 h100 s111 h112 h113 l pre post n v e1 (fun t ht=>(h2 t (by rw [e1]; simp [ht])).1) h1 r hn.1 hn.2 ?_ ?_
    · intro hb
      have:mRight l=false:=by
        cases hm:mRight l with
        | false=>rfl
        | true =>
          simp only [mRight,Bool.and_eq_true] at hm
          have:=(tagsOk_app [] l).1 hm.1.1 pre (n,v) post e1
          exact absurd (by simpa using this) hb
      rw [this]
      simp
    · intro hg
      refine hLQ (pre++[(n,v)],post,mPut r (n,v)) ⟨by rw [e1]; simp,?_⟩ (by simp) _ (by simp)
      intro a t b e
      rcases List.eq_nil_or_concat b with rfl | ⟨b',z,rfl⟩
      · have:=List.append_inj' (t₁:=[(n,v)]) (t₂:=[t]) e rfl
        obtain ⟨rfl,e3⟩:=this
        simp at e3
        subst e3
        exact hg
      · rw [List.concat_eq_append,← List.cons_append,← List.append_assoc] at e
        have:=List.append_inj' (t₁:=[(n,v)]) (t₂:=[z]) e rfl
        exact e2 a t b' this.1
end Wax


namespace Wax
open Go (IntKind)

def bytesOf:List AV→Option (List UInt8)
  | []=>some []
  | .int .u8 n::r=>if 0≤n∧n < 256 then (bytesOf r).map (UInt8.ofNat n.toNat :: ·) else none
  | _::_=>none

theorem bytesOf_eq:∀ {cs:List AV} {o:List UInt8},bytesOf cs=some o→cs=bcA o
  | [],o,h=>by simp [bytesOf] at h; subst h; rfl
  | x::r,o,h=>by
    unfold bytesOf at h
    split at h
    · rename_i heq; simp at heq
    · rename_i n r' heq
      simp only [List.cons.injEq] at heq
      obtain ⟨rfl,rfl⟩:=heq
      split at h
      · rename_i hn
        cases hr:bytesOf r with
        | none=>simp [hr] at h
        | some o' =>
          simp [hr] at h
          subst h
          rw [bytesOf_eq hr]
          have h2:n.toNat % 256=n.toNat:=Nat.mod_eq_of_lt (by omega)
          simp [h2]
          omega
      · simp at h
    · simp at h

@[simp] theorem bytesOf_bcA {o:List UInt8}:bytesOf (bcA o)=some o:=by
  induction o with
  | nil=>rfl
  | cons b r ih =>
    have:=b.toNat_lt
    have h1:0≤(b.toNat:Int)∧(b.toNat:Int) < 256:=by omega
    simp [bytesOf,ih,h1]

def slBytes:AV→Option (List UInt8)
  | .nilS=>some []
  | .sl es cs=>if es=1 then bytesOf cs else none
  | _=>none
theorem slBytes_cases {v:AV} {o:List UInt8} (h:slBytes v=some o):(v=.nilS∧o=[])∨v=.sl 1 (bcA o):=by
  unfold slBytes at h
  split at h
  · simp at h; exact .inl ⟨rfl,h⟩
  · split at h
    · rename_i he; subst he; rw [bytesOf_eq h]; exact .inr rfl
    · simp at h
  · simp at h
theorem slb_kill {v:AV} {o:List UInt8} (h:slBytes v=some o) (d:Nat):kill d v=v:=by
  rcases slBytes_cases h with ⟨rfl,rfl⟩ | rfl <;> simp
theorem slb_ref {v:AV} {o:List UInt8} (h:slBytes v=some o):hasRef v=false:=by
  rcases slBytes_cases h with ⟨rfl,rfl⟩ | rfl <;> simp
theorem slb_atom {v:AV} {o:List UInt8} (h:slBytes v=some o):atom v=true:=by
  rcases slBytes_cases h with ⟨rfl,rfl⟩ | rfl <;> simp
theorem slb_cells {v:AV} {o:List UInt8} (h:slBytes v=some o):cells v=[v]:=by
  rcases slBytes_cases h with ⟨rfl,rfl⟩ | rfl <;> simp
theorem slb_refs {v:AV} {o:List UInt8} (h:slBytes v=some o):refs v=[]:=by
  rcases slBytes_cases h with ⟨rfl,rfl⟩ | rfl <;> simp
end Wax


namespace Wax
open Go (IntKind)

def spAt (fm:L8) (k:Nat):L8:=if fm=[] then [] else mSpace (fm.getD (k % fm.length) 0).toNat
def cntAt (fm:L8) (k:Nat):Nat:=if fm=[] then 0 else k

theorem mSpace_len (n:Nat):(mSpace n).length≤2:=by
  have h:n % 6 < 6:=Nat.mod_lt _ (by omega)
  simp only [mSpace]
  generalize n % 6=q at *
  match q,h with
  | 0,_=>simp
  | 1,_=>simp
  | 2,_=>simp
  | 3,_=>simp
  | 4,_=>simp
  | 5,_=>simp
theorem spAt_len (fm:L8) (k:Nat):(spAt fm k).length≤2:=by
  unfold spAt
  split
  · simp
  · exact mSpace_len _

def con_MText1:List AV→List (Nat × AObj)→Option (AV × List (Nat × AObj))
  | [.bx [u],.ref 0 0],[(0,.cells [.int .i64 n])]=>match slBytes u with
    | some fm=>if 0≤n∧n < 1099511627776 then some (.str (spAt fm (n.toNat+1)),[(0,.cells [.int .i64 (if fm=[] then n else n+1)])]) else none
    | none=>none
  | _,_=>none

theorem slb_map {v:AV} {o:List UInt8} (h:slBytes v=some o) (g:Nat→Nat):mapId g v=v:=by
  rcases slBytes_cases h with ⟨rfl,rfl⟩ | rfl <;> simp
theorem ok_MText1 (Γ:Gam) (h115:Γ.fn 115=con_MSpace):∀ args hp q,con_MText1 args hp=some q→runsS Γ c_spec_MText_1 args hp (fun v=>v=some q):=by
  intro args hp q h
  simp only [con_MText1] at h
  split at h <;> (try simp at h; done)
  rename_i u n
  split at h <;> (try simp at h; done)
  rename_i fm hu
  obtain ⟨⟨h0,hn⟩,rfl⟩:=ite_some h
  clear h
  rcases slBytes_cases hu with ⟨rfl,rfl⟩ | rfl
  · simp -implicitDefEqProofs [c_spec_MText_1,spAt,reach_succ]
  · by_cases hf:fm=[]
    · subst hf
      simp -implicitDefEqProofs [c_spec_MText_1,spAt,reach_succ]
    · have hl:0 < fm.length:=List.length_pos_iff.2 hf
      have hz:¬ ((fm.length:Int)=0):=by omega
      have ew:IntKind.i64.wrap (n+1)=n+1:=wrap64 (by omega) (by omega)
      obtain ⟨m,rfl⟩:∃ m:Nat,n=(m:Int):=⟨n.toNat,by omega⟩
      obtain ⟨q,e,hlt,hq⟩:∃ q:Nat,((m:Int)+1).tmod (fm.length:Int)=(q:Int)∧q < fm.length∧(m+1) % fm.length=q :=
        ⟨(m+1) % fm.length,by rw [Int.tmod_eq_emod_of_nonneg (by omega)]; simp,Nat.mod_lt _ hl,rfl⟩
      obtain ⟨b,hb⟩:∃ b,fm[q]? = some b:=⟨fm[q],by simp [hlt]⟩
      have hb':fm[q]=b:=by rw [List.getElem?_eq_getElem hlt] at hb; injection hb
      have hgd:fm.getD q 0=b:=by rw [List.getD_eq_getElem?_getD,hb]; rfl
      have k:con_MSpace [.int .u8 b.toNat]=some (.str (mSpace b.toNat)):=by
        simp only [con_MSpace]
        have:=b.toNat_lt
        rw [if_pos (by omega)]; simp
      have es:spAt fm (m+1)=mSpace b.toNat:=by simp only [spAt,if_neg hf,hq,hgd]
      simp -implicitDefEqProofs [c_spec_MText_1,hf,ew,hz,e,hlt,hb,hb',acall,h115,k,es,reach_succ]

def oneT (fm:L8) (k:Nat) (t:KVp):L8:=spAt fm (k+1)++59::(spAt fm (k+2)++t.1++spAt fm (k+3)++61::(spAt fm (k+4)++t.2))
def tagsT (fm:L8):Nat→List KVp→L8
  | _,[]=>[]
  | k,t::r=>oneT fm k t++tagsT fm (k+4) r
theorem tagsT_app (fm:L8):∀ (a:List KVp) (k:Nat) (b:List KVp),tagsT fm k (a++b)=tagsT fm k a++tagsT fm (k+4 * a.length) b
  | [],k,b=>by simp [tagsT]
  | t::a,k,b=>by
    simp only [List.cons_append,tagsT,tagsT_app fm a,List.append_assoc,List.length_cons]
    congr 3
    omega
def headT (fm:L8):L8:=118::(spAt fm 1++61::(spAt fm 2++sDM))
def mText (fm:L8) (l:List KVp) (e:Bool):L8:=headT fm++tagsT fm 2 l++(if e then spAt fm (2+4 * l.length+1)++[59] else [])

theorem oneT_len {fm:L8} {k:Nat} {t:KVp} (h1:t.1.length≤20) (h2:t.2.length≤200):(oneT fm k t).length≤230:=by
  have a:=spAt_len fm (k+1)
  have b:=spAt_len fm (k+2)
  have c:=spAt_len fm (k+3)
  have d:=spAt_len fm (k+4)
  simp [oneT]; omega
theorem tagsT_len {fm:L8}:∀ {l:List KVp} {k:Nat},(∀ t∈l,t.1.length≤20∧t.2.length≤200)→(tagsT fm k l).length≤230 * l.length
  | [],_,_=>by simp [tagsT]
  | t::l,k,h=>by
    have h1:=h t (by simp)
    have:=tagsT_len (fm:=fm) (l:=l) (k:=k+4) (fun t ht=>h t (by simp [ht]))
    have o:=oneT_len (fm:=fm) (k:=k) h1.1 h1.2
    simp only [tagsT,List.length_append,List.length_cons]; omega
theorem headT_len (fm:L8):(headT fm).length≤12:=by
  have a:=spAt_len fm 1
  have b:=spAt_len fm 2
  simp [headT,sDM]; omega

def con_MText:List AV→Option AV
  | [u,f,.bool e]=>match slPairs u,slBytes f with
    | some l,some fm=>if l.length≤20∧∀ t∈l,t.1.length≤20∧t.2.length≤200 then some (.str (mText fm l e)) else none
    | _,_=>none
  | _=>none

set_option maxHeartbeats 4000000 in
theorem ok_MText (Γ:Gam) (s114:Γ.st 114=con_MText1):∀ args r,con_MText args=some r→runs Γ c_spec_MText args (fun v=>v=r):=by
  intro args r h
  simp only [con_MText] at h
  split at h <;> (try simp at h; done)
  rename_i u f e
  split at h <;> (try simp at h; done)
  rename_i l fm hl hf
  obtain ⟨⟨h1,h2⟩,rfl⟩:=ite_some h
  clear h
  have k:∀ m:Nat,m < 1099511627776→con_MText1 [.bx [f],.ref 0 0] [(0,.cells [.int .i64 (cntAt fm m:Nat)])]=some (.str (spAt fm (m+1)),[(0,.cells [.int .i64 (cntAt fm (m+1):Nat)])]):=by
    intro m hm
    simp only [con_MText1,hf]
    by_cases hfm:fm=[]
    · simp [cntAt,spAt,hfm]
    · simp [cntAt,hfm]; omega
  have sl:=spAt_len fm
  have k0:=k 0 (by omega)
  have k1:=k 1 (by omega)
  have c0:cntAt fm 0=0:=by simp [cntAt]
  have k0':con_MText1 [.bx [f],.ref 0 0] [(0,.cells [.int .i64 0])]=some (.str (spAt fm 1),[(0,.cells [.int .i64 (cntAt fm 1:Nat)])]):=by simpa [c0] using k0
  have l1:=sl 1
  have l2:=sl 2
  have cf:=slb_cells hf
  simp only [cells] at cf
  have hh:=headT_len fm
  have hdr:118::(spAt fm 1++61::(spAt fm 2++[68,77,65,82,67,49]))=headT fm:=rfl
  have at_:=slb_atom hf
  have rf:=slb_ref hf
  have mf:=slb_map hf
  have uf:refs f=[]:=slb_refs hf
  have kf:=slb_kill hf
  simp -implicitDefEqProofs [-alen,c_spec_MText,cf,at_,rf,mf,uf,kf,acallS,reach_succ,s114,k0',k1,slp_alen hl,tgs_kill hl,hdr]
  refine ⟨by omega,by omega,by omega,by omega,?_⟩
  refine awp_loop2 (σ:=List KVp × List KVp) (fun p=>⟨[(2,.bool e),(8,.fn 114 [.bx [f],.ref 7 0]),(9,.str (headT fm++tagsT fm 2 p.1)),(21,u),(22,.int .i64 l.length),(23,.int .i64 p.1.length)],[(7,.cells [.int .i64 (cntAt fm (2+4 * p.1.length):Nat)])]⟩)
    (fun p=>l=p.1++p.2) (fun p=>p.2.length) ([],l) ?_ (by simp) ?_
  · simp [tagsT]
  rintro ⟨pre,post⟩ e1 LQ hLQ
  simp only at e1
  have hlen:l.length=pre.length+post.length:=by rw [e1]; simp
  have hp2:∀ t∈pre,t.1.length≤20∧t.2.length≤200:=fun t ht=>h2 t (by rw [e1]; simp [ht])
  have tl:=tagsT_len (fm:=fm) (k:=2) hp2
  have tl':(tagsT fm 2 pre).length≤4600:=by omega
  cases post with
  | nil =>
    simp only [List.append_nil] at e1
    subst e1
    cases e with
    | false=>simp -implicitDefEqProofs [b_spec_MText_1,t_spec_MText_2,mText]
    | true =>
      have kE:=k (2+4 * l.length) (by omega)
      have lE:=sl (2+4 * l.length+1)
      simp -implicitDefEqProofs [b_spec_MText_1,t_spec_MText_2,mText,uf,mf,acallS,reach_succ,s114,kE]
      refine ⟨by omega,by omega⟩
  | cons t post =>
    obtain ⟨n,v⟩:=t
    have hu:=slp_ne hl (by rw [e1]; simp)
    subst hu
    have ht:=h2 (n,v) (by rw [e1]; simp)
    simp only at ht
    have hlt:(pre.length:Int) < (l.length:Int):=by simp at hlen; omega
    have ew:IntKind.i64.wrap ((pre.length:Int)+1)=(pre.length:Int)+1:=wrap64 (by omega) (by omega)
    have g:l[pre.length]? = some (n,v):=by rw [e1]; exact get_mid rfl
    have kA:=k (2+4 * pre.length) (by omega)
    have kB:=k (2+4 * pre.length+1) (by omega)
    have kC:=k (2+4 * pre.length+2) (by omega)
    have kD:=k (2+4 * pre.length+3) (by omega)
    have lA:=sl (2+4 * pre.length+1)
    have lB:=sl (2+4 * pre.length+1+1)
    have lC:=sl (2+4 * pre.length+2+1)
    have lD:=sl (2+4 * pre.length+3+1)
    have fin:∀ st,norm [2,8,9,21,22,23] st=⟨[(2,.bool e),(8,.fn 114 [.bx [f],.ref 7 0]),(9,.str (headT fm++(tagsT fm 2 pre++oneT fm (2+4 * pre.length) (n,v)))),(21,.sl 2 (pr2 l)),(22,.int .i64 l.length),(23,.int .i64 ((pre.length:Int)+1))],[(7,.cells [.int .i64 (cntAt fm (2+4 * pre.length+3+1):Nat)])]⟩→LQ st:=by
      intro st hst
      refine hLQ (pre++[(n,v)],post) (by rw [e1]; simp) (by simp) st ?_
      rw [hst]
      have e4:2+4 * (pre.length+1)=2+4 * pre.length+3+1:=by omega
      simp [tagsT_app,tagsT,e4]
    simp -implicitDefEqProofs [b_spec_MText_1,hlt,g,uf,mf,kf,rf,at_,acallS,reach_succ,s114,kA,kB,kC,kD,ew]
    refine ⟨by omega,by omega,by omega,by omega,by omega,by omega,by omega,by omega,fin _ ?_⟩
    simp [oneT]
end Wax


namespace Wax
open Go (IntKind)

theorem txt_con {a b:Option (List L8)} (h1:(a.getD []).length < mid) (h2:(b.getD []).length < mid):con_MailTexts [slO a,slO b]=some (.bool (decide (a.getD []=b.getD []))):=by
  simp only [con_MailTexts,slO_strs]
  exact if_pos ⟨h1,h2⟩

def MR.short (r:MR):Prop:=(r.rf.getD []).length < mid∧(r.rua.getD []).length < mid∧(r.ruf.getD []).length < mid
instance (r:MR):Decidable r.short:=by unfold MR.short; infer_instance

def con_MSame:List AV→Option AV
  | [.agg x,.agg y]=>match asMR x,asMR y with
    | some a,some b=>if a.short∧b.short then some (.bool (mSame a b)) else none
    | _,_=>none
  | _=>none

set_option maxRecDepth 100000 in
set_option maxHeartbeats 4000000 in
theorem ok_MSame (Γ:Gam) (h116:Γ.fn 116=con_MailTexts):∀ args r,con_MSame args=some r→runs Γ c_spec_MSame args (fun v=>v=r):=by
  intro args r h
  simp only [con_MSame] at h
  split at h <;> (try simp at h; done)
  rename_i x y
  split at h <;> (try simp at h; done)
  rename_i a b ha hb
  obtain ⟨⟨sa,sb⟩,rfl⟩:=ite_some h
  clear h
  rw [asMR_spec ha,asMR_spec hb]
  clear ha hb
  have k1:=txt_con sa.1 sb.1
  have k2:=txt_con sa.2.1 sb.2.1
  have k3:=txt_con sa.2.2 sb.2.2
  clear sa sb
  obtain ⟨a1,a2,a3,a4,a5,a6,a7,a8,a9,a10,a11⟩:=a
  obtain ⟨b1,b2,b3,b4,b5,b6,b7,b8,b9,b10,b11⟩:=b
  simp only at k1 k2 k3
  simp only [mSame,MR.cells]
  by_cases c1:a1=b1
  case neg=>simp -implicitDefEqProofs [c_spec_MSame,c1]
  by_cases c2:a2=b2
  case neg=>simp -implicitDefEqProofs [c_spec_MSame,c1,c2]
  by_cases c3:a3=b3
  case neg=>simp -implicitDefEqProofs [c_spec_MSame,c1,c2,c3]
  by_cases c4:a4=b4
  case neg=>simp -implicitDefEqProofs [c_spec_MSame,c1,c2,c3,c4]
  by_cases c5:a5=b5
  case neg=>simp -implicitDefEqProofs [c_spec_MSame,c1,c2,c3,c4,c5]
  by_cases c6:a6=b6
  case neg=>simp -implicitDefEqProofs [c_spec_MSame,c1,c2,c3,c4,c5,c6]
  by_cases c8:a8=b8
  case neg=>simp -implicitDefEqProofs [c_spec_MSame,c1,c2,c3,c4,c5,c6,c8]
  by_cases c11:a11=b11
  case neg=>simp -implicitDefEqProofs [c_spec_MSame,c1,c2,c3,c4,c5,c6,c8,c11]
  by_cases c7:a7.getD []=b7.getD []
  case neg=>simp -implicitDefEqProofs [c_spec_MSame,c1,c2,c3,c4,c5,c6,c8,c11,c7,acall,h116,k1]
  by_cases c9:a9.getD []=b9.getD []
  case neg=>simp -implicitDefEqProofs [c_spec_MSame,c1,c2,c3,c4,c5,c6,c8,c11,c7,c9,acall,h116,k1,k2]
  by_cases c10:a10.getD []=b10.getD []
  · simp -implicitDefEqProofs [c_spec_MSame,c1,c2,c3,c4,c5,c6,c8,c11,c7,c9,c10,acall,h116,k1,k2,k3]
  · simp -implicitDefEqProofs [c_spec_MSame,c1,c2,c3,c4,c5,c6,c8,c11,c7,c9,c10,acall,h116,k1,k2,k3]
end Wax


namespace Wax
open Go (IntKind)

theorem dm_ok_zzIndex (Γ:Gam):∀ args r,con_zzIndex args=some r→runs Γ c_dmarc_zzIndex args (fun v=>v=r):=by
  intro args r h
  simp only [con_zzIndex] at h
  split at h <;> (try simp at h; done)
  rename_i s sub
  obtain ⟨⟨hs,hb⟩,rfl⟩:=ite_some h
  clear h
  simp only [big] at hs hb
  simp [c_dmarc_zzIndex]
  refine awp_loop (σ:=List UInt8 × List UInt8) (fun p=>⟨[(0,.str s),(1,.str sub),(5,.int .i64 p.1.length)],[]⟩) (fun p=>s=p.1++p.2∧findAt sub s 0=findAt sub p.2 p.1.length) (fun p=>p.2.length) ([],s) (by simp) (by simp) ?_
  rintro ⟨pre,post⟩ ⟨hs1,hs2⟩
  simp only at hs1 hs2
  subst hs1
  simp at hs
  simp (disch:=omega) [wrap64]
  refine ⟨fun hle=>?_,fun hlt=>?_⟩
  · have et:((pre.length:Int)+(sub.length:Int)).toNat=pre.length+sub.length:=by omega
    have e:List.drop pre.length (List.take (pre.length+sub.length) (pre++post))=post.take sub.length:=by
      rw [List.take_length_add_append,List.drop_left]
    rw [et,e]
    refine ⟨⟨by omega,hle⟩,fun h=>?_,fun h=>?_⟩
    · rw [idxV,hs2]
      cases post with
      | nil =>
        have:sub=[]:=by cases sub <;> simp at hle ⊢
        simp [findAt,this]
      | cons x post=>simp only [findAt,isPrefixOf_take sub (x::post) hle,h,decide_true,if_true]
    · cases post with
      | nil =>
        have:sub=[]:=by cases sub <;> simp at hle ⊢
        subst this; simp at h
      | cons x post =>
        refine ⟨(pre++[x],post),by simp,⟨by simp,?_⟩,by simp⟩
        rw [hs2]
        simp only [findAt,isPrefixOf_take sub (x::post) hle,h,decide_false,Bool.false_eq_true,if_false]
        simp
  · rw [idxV,hs2,findAt_none sub post _ (by omega)]


theorem dm_ok_zzSplit (Γ:Gam) (h22:Γ.fn 161=con_zzIndex):∀ args hp q,con_zzSplit args hp=some q→runsS Γ c_dmarc_zzSplit args hp (fun v=>v=some q):=by
  intro args hp q h
  simp only [con_zzSplit] at h
  split at h <;> (try simp at h; done)
  rename_i s b
  obtain ⟨hs,rfl⟩:=ite_some h
  clear h
  simp only [mid] at hs
  have h1:1 < big:=by decide
  simp [c_dmarc_zzSplit,t_dmarc_zzSplit_4]
  refine awp_loop2 (σ:=List (List UInt8) × List UInt8) (fun p=>⟨[(0,.str p.2),(1,.str [b]),(5,grV 51 1 p.1.length)],grH 51 p.1.length (strsA p.1)⟩)
    (fun p=>splitB b s=p.1++splitB b p.2∧p.1.length+p.2.length≤s.length) (fun p=>p.2.length) ([],s) (by simp) (by simp) ?_
  rintro ⟨done,cur⟩ ⟨hs1,hs2⟩ LQ hLQ
  simp only at hs1 hs2
  have hcb:cur.length < big:=by simp only [big]; omega
  simp [b_dmarc_zzSplit_3,acall,h22,con_zzIndex,hcb,h1]
  simp only [idxV,findAt_one]
  rw [splitB_cut b cur] at hs1
  cases hc:cutAt b.toNat cur with
  | none =>
    simp only [hc] at hs1
    rw [hs1]
    cases done with
    | nil=>simp [reach_succ]
    | cons d0 dr =>
      simp [reach_succ]
      simp at hs2
      omega
  | some p =>
    obtain ⟨a,c⟩:=p
    simp only [hc] at hs1
    obtain ⟨x,hx1,hx2,hx3⟩:=cutAt_eq hc
    subst hx2
    simp at hs2
    have fin:∀ st,norm [0,1,5] st=⟨[(0,.str c),(1,.str [b]),(5,grV 51 1 (done++[a]).length)],grH 51 (done++[a]).length (strsA (done++[a]))⟩→LQ st:=by
      intro st hst
      exact hLQ (done++[a],c) ⟨by simpa using hs1,by simp; omega⟩ (by simp; omega) st hst
    have e2:((a.length:Int)+1).toNat=a.length+1:=by omega
    cases done with
    | nil =>
      simp (disch:=omega) [wrap64]
      refine ⟨by omega,by omega,⟨by omega,by omega⟩,fin _ ?_⟩
      simp
    | cons d0 dr =>
      simp at hs2
      simp (disch:=omega) [wrap64]
      refine ⟨by omega,by omega,by omega,⟨by omega,by omega⟩,fin _ ?_⟩
      simp

theorem dm_ok_zzIsSpace (Γ:Gam):∀ args r,con_zzIsSpace args=some r→runs Γ c_dmarc_zzIsSpace args (fun v=>v=r):=by
  intro args r h
  simp only [con_zzIsSpace] at h
  split at h <;> (try simp at h; done)
  rename_i n
  obtain ⟨hn,rfl⟩:=ite_some h
  clear h
  have f1:¬ n=133:=by omega
  have f2:¬ n=160:=by omega
  have f3:¬ n=5760:=by omega
  have f4:¬ 8192≤n:=by omega
  have f5:¬ n=8232:=by omega
  have f6:¬ n=8233:=by omega
  have f7:¬ n=8239:=by omega
  have f8:¬ n=8287:=by omega
  have f9:¬ n=12288:=by omega
  have key:∀ b:Bool,((9≤n∧n≤13)∨n=32 ↔ b=true)→b=isSp n:=by
    intro b hb; unfold isSp; cases b <;> simp at hb ⊢ <;> omega
  by_cases h1:9≤n <;> by_cases h2:n≤13 <;> by_cases h3:n=32 <;>
    simp [c_dmarc_zzIsSpace,f1,f2,f3,f4,f5,f6,f7,f8,f9,h1,h2,h3] <;> first | rfl | exact decide_eq_true (by omega) | exact decide_eq_false (by omega)

theorem dm_trim_inner (Γ:Gam) (Q:APost) (S:List UInt8) (x:UInt8) (i n:Nat) (f t:Int) (hn:S.length=n) (hi:S[i]? = some x) (hx:x.toNat < 128) (hb:n < 1099511627776) (hib:i < 1099511627776)
    (h:Q (.exit 4) ⟨[(0,.str S),(3,.int .i64 f),(4,.int .i64 t),(7,.int .i64 i),(8,.int .i64 1),(54,.bool false)],[]⟩) :
    awp Γ b_dmarc_zzTrimSpace_2 Q ⟨[(0,.str S),(3,.int .i64 f),(4,.int .i64 t),(7,.int .i64 i),(8,.int .i64 1)],[]⟩:=by
  have e192:¬ (192:Int)≤(x.toNat:Int):=by omega
  have ew:IntKind.i64.wrap ((i:Int)+1)=(i:Int)+1:=wrap64 (by omega) (by omega)
  simp only [b_dmarc_zzTrimSpace_2,awp_seq]
  refine awp_region_to ⟨[(0,.str S),(3,.int .i64 f),(4,.int .i64 t),(7,.int .i64 i),(8,.int .i64 1),(54,.bool false)],[]⟩ ?_ ?_
  · by_cases hlast:(i:Int)+1 < (n:Int)
    · have h1:((i:Int)+1 < (n:Int))=True:=eq_true hlast
      simp (maxSteps:=1000000) [ew,hn,hi,e192,h1]
    · have h1:((i:Int)+1 < (n:Int))=False:=eq_false hlast
      simp (maxSteps:=1000000) [ew,hn,h1]
  · simpa using h

theorem dm_trim_loop2 (Γ:Gam) (h23:Γ.fn 168=con_zzIsSpace) (a b:List UInt8) (hp:plain (a++b)=true) (hs:(a++b).length < 1099511627776) (ha:∀ x∈a,isWs x.toNat=true) (hb:∀ x r,b=x::r→isWs x.toNat=false) :
    awp Γ (.loop [0,3,4,7] b_dmarc_zzTrimSpace_4) (blockQ 2 (thenQ (awp Γ t_dmarc_zzTrimSpace_5 (finQ [.t 2] fun v=>v=.str (trimS (a++b)))) (finQ [.t 2] fun v=>v=.str (trimS (a++b)))))
      ⟨[(0,.str (a++b)),(3,.int .i64 a.length),(4,.int .i64 (a++b).length),(7,.int .i64 a.length)],[]⟩:=by
  have htrim:trimS (a++b)=trimR b:=by rw [trimS,trimL_app ha,trimL_nw hb]
  rw [htrim]
  refine awp_loop (σ:=List UInt8 × List UInt8) (fun p=>⟨[(0,.str (a++b)),(3,.int .i64 a.length),(4,.int .i64 (toV (a++b).length a p.1)),(7,.int .i64 (a.length+p.1.length))],[]⟩)
    (fun p=>b=p.1++p.2) (fun p=>p.2.length) ([],b) (by simp [toV]) (by simp) ?_
  rintro ⟨c,d⟩ hcd
  simp only at hcd
  subst hcd
  simp at hs
  cases d with
  | nil =>
    simp [b_dmarc_zzTrimSpace_4,t_dmarc_zzTrimSpace_5]
    refine ⟨fun h=>?_,fun h=>?_⟩
    · have:c=[]:=List.length_eq_zero_iff.1 (by omega)
      subst this; simp [trimR]
    · have hc:c ≠ []:=by intro e; subst e; simp at h
      obtain ⟨t,ht⟩:=trimR_prefix c
      have hl:(trimR c).length≤c.length:=trimR_length c
      have e1:toV (a.length+c.length) a c=(a.length:Int)+((trimR c).length:Int):=if_neg hc
      have e2:((a.length:Int)+((trimR c).length:Int)).toNat=a.length+(trimR c).length:=by omega
      rw [e1,e2]
      refine ⟨⟨by omega,by omega⟩,?_⟩
      rw [List.take_length_add_append,List.drop_left]
      generalize trimR c=q at ht ⊢
      subst ht; simp
  | cons x d =>
    have hpx:plainB x=true:=by
      have h1:(plain a && (plain c && plain (x::d)))=true:=by rw [← plain_app,← plain_app]; exact hp
      simp only [Bool.and_eq_true,plain,List.all_cons] at h1
      exact h1.2.2.1
    have hx:=plainB_lt hpx
    have hx2:(x.toNat:Int) < 128:=by omega
    have step:∀ v:Int,v=toV (a++(c++x::d)).length a (c++[x])→loopQ [0,3,4,7] (fun p:List UInt8 × List UInt8=>⟨[(0,.str (a++(c++x::d))),(3,.int .i64 a.length),(4,.int .i64 (toV (a++(c++x::d)).length a p.1)),(7,.int .i64 (a.length+p.1.length))],[]⟩)
        (fun p=>c++x::d=p.1++p.2) (fun p=>p.2.length) (c,x::d)
        ⟨[(0,.str (a++(c++x::d))),(3,.int .i64 a.length),(4,.int .i64 v),(7,.int .i64 (a.length+c.length+1))],[]⟩:=by
      intro v hv
      subst hv
      refine ⟨(c++[x],d),?_,by simp,by simp⟩
      have:((a.length:Int)+c.length+1)=(a.length:Int)+((c++[x]).length:Int):=by simp; omega
      rw [this]
      simp
    generalize hl:loopQ [0,3,4,7] (fun p:List UInt8 × List UInt8=>(⟨[(0,.str (a++(c++x::d))),(3,.int .i64 a.length),(4,.int .i64 (toV (a++(c++x::d)).length a p.1)),(7,.int .i64 (a.length+p.1.length))],[]⟩:St))
        (fun p=>c++x::d=p.1++p.2) (fun p=>p.2.length) (c,x::d)=LQ at step ⊢
    clear hl
    simp at hs
    have hget:(a++(c++x::d))[a.length+c.length]? = some x:=by
      rw [← List.append_assoc,List.getElem?_append_right (by simp)]; simp
    simp [b_dmarc_zzTrimSpace_4]
    refine ⟨fun _=>?_,fun h=>by omega⟩
    refine awp_loop (σ:=Unit) (fun _=>⟨[(0,.str (a++(c++x::d))),(3,.int .i64 a.length),(4,.int .i64 (toV (a.length+(c.length+(d.length+1))) a c)),(7,.int .i64 (a.length+c.length)),(8,.int .i64 1)],[]⟩) (fun _=>True) (fun _=>0) () (by simp) trivial ?_
    intro _ _
    have en:((a.length:Int)+(c.length:Int))=((a.length+c.length:Nat):Int):=by omega
    have ew:IntKind.i64.wrap ((a.length:Int)+c.length+1)=(a.length:Int)+c.length+1:=wrap64 (by omega) (by omega)
    rw [en]
    refine dm_trim_inner Γ _ (a++(c++x::d)) x (a.length+c.length) (a.length+(c.length+(d.length+1))) _ _ (by simp) hget hx (by omega) (by omega) ?_
    rw [← en]
    have en2:((a.length:Int)+(c.length:Int)).toNat=a.length+c.length:=by omega
    have en3:((a.length:Int)+(c.length:Int)+1).toNat=a.length+c.length+1:=by omega
    have esl:List.drop (a.length+c.length) (List.take (a.length+c.length+1) (a++(c++x::d)))=[x]:=by
      rw [← List.append_assoc,show a.length+c.length=(a++c).length by simp,List.take_length_add_append,List.drop_left]; rfl
    have erun:runesF 1 [x]=[x.toNat]:=by simp [runesF,decR_ascii hx]
    simp [t_dmarc_zzTrimSpace_3,ew,en2,en3,esl,erun,rcA,acall,h23,con_zzIsSpace,hx2]
    refine ⟨⟨by omega,by omega,by omega⟩,fun hw=>step _ ?_,fun hw=>step _ ?_⟩
    · rw [isSp_ws hpx] at hw
      simp [toV,trimR_nw hw]
      try omega
    · rw [isSp_ws hpx] at hw
      have hc:c ≠ []:=by
        intro e; subst e
        rw [hb x d rfl] at hw; simp at hw
      simp [toV,hc,trimR_ws hw]

theorem dm_ok_zzTrimSpace (Γ:Gam) (h23:Γ.fn 168=con_zzIsSpace):∀ args r,con_zzTrimSpace args=some r→runs Γ c_dmarc_zzTrimSpace args (fun v=>v=r):=by
  intro args r h
  simp only [con_zzTrimSpace] at h
  split at h <;> (try simp at h; done)
  rename_i s
  obtain ⟨⟨hs,hp⟩,rfl⟩:=ite_some h
  clear h
  simp only [mid] at hs
  simp [c_dmarc_zzTrimSpace]
  refine awp_loop (σ:=List UInt8 × List UInt8) (fun p=>⟨[(0,.str s),(3,.int .i64 s.length),(4,.int .i64 s.length),(16,.ref 16 0)],[(16,.sit s p.1.length)]⟩)
    (fun p=>s=p.1++p.2∧∀ x∈p.1,isWs x.toNat=true) (fun p=>p.2.length) ([],s) (by simp) (by simp) ?_
  rintro ⟨a,b⟩ ⟨hs1,ha⟩
  simp only at hs1 ha
  cases b with
  | nil =>
    simp at hs1
    subst hs1
    simp [b_dmarc_zzTrimSpace_1,t_dmarc_zzTrimSpace_6]
    have:=dm_trim_loop2 Γ h23 s [] (by simpa using hp) (by simpa using hs) ha (by simp)
    simpa using this
  | cons x b =>
    subst hs1
    have hpx:plainB x=true∧plain b=true:=by
      have:(plain a && plain (x::b))=true:=by rw [← plain_app]; exact hp
      simp only [Bool.and_eq_true] at this
      have h2:=this.2
      simp only [plain,List.all_cons,Bool.and_eq_true] at h2
      exact h2
    have e1:List.drop a.length (a++x::b)=x::b:=by simp
    have hx:=plainB_lt hpx.1
    have hx2:(x.toNat:Int) < 128:=by omega
    simp [b_dmarc_zzTrimSpace_1,t_dmarc_zzTrimSpace_6,e1,decR_ascii hx,acall,h23,con_zzIsSpace,hx2]
    refine ⟨fun hw=>?_,fun hw=>?_⟩
    · have:=dm_trim_loop2 Γ h23 a (x::b) hp hs ha (fun y r e=>by injection e with e1 e2; subst e1; rw [← isSp_ws hpx.1]; exact hw)
      simpa using this
    · refine ⟨(a++[x],b),by simp,⟨by simp,?_⟩,by simp⟩
      intro y hy
      simp at hy
      rcases hy with hy | rfl
      · exact ha y hy
      · rw [← isSp_ws hpx.1]; exact hw

def cutTwo (c:Int) (s:List UInt8):List (List UInt8):=match cutAt c s with | none=>[s] | some p=>[p.1,p.2]

def con_dmCut2:List AV→Option AV
  | [.str s,.int .u8 c]=>if s.length < mid then some (.sl 1 (strsA (cutTwo c s))) else none
  | _=>none

theorem dm_ok_zzCut2 (Γ:Gam):∀ args r,con_dmCut2 args=some r→runs Γ c_dmarc_zzCut2 args (fun v=>v=r):=by
  intro args r h
  simp only [con_dmCut2] at h
  split at h <;> (try simp at h; done)
  rename_i s c
  obtain ⟨hs,rfl⟩:=ite_some h
  clear h
  simp only [mid] at hs
  simp -implicitDefEqProofs [c_dmarc_zzCut2]
  refine awp_loop2 (σ:=List UInt8 × List UInt8) (fun p=>⟨[(0,.str s),(1,.int .u8 c),(5,.int .i64 p.1.length)],[]⟩) (fun p=>s=p.1++p.2∧noB c p.1) (fun p=>p.2.length) ([],s) (by simp) (by simp [noB]) ?_
  rintro ⟨pre,post⟩ ⟨hs1,hs2⟩ LQ hLQ
  simp only at hs1 hs2
  subst hs1
  cases post with
  | nil =>
    have e:cutAt c pre=none:=by have:=cutAt_app c pre [] hs2; simpa [cutAt] using this
    simp -implicitDefEqProofs [b_dmarc_zzCut2_1,t_dmarc_zzCut2_2,cutTwo,e]
  | cons x post =>
    simp at hs
    have ew:IntKind.i64.wrap ((pre.length:Int)+1)=(pre.length:Int)+1:=wrap64 (by omega) (by omega)
    have hlt:(pre.length:Int) < (pre.length:Int)+((post.length:Int)+1):=by omega
    by_cases he:(x.toNat:Int)=c
    · have e1:(0:Int)≤(pre.length:Int)+1∧(pre.length:Int)+1≤(pre.length:Int)+((post.length:Int)+1):=by omega
      have e2:((pre.length:Int)+1).toNat=pre.length+1:=by omega
      simp -implicitDefEqProofs [b_dmarc_zzCut2_1,ew,cutTwo,cutAt_app _ _ _ hs2,cutAt,e1,e2,he]
      omega
    · simp -implicitDefEqProofs [b_dmarc_zzCut2_1,ew,he,hlt]
      refine hLQ (pre++[x],post) ⟨by simp,?_⟩ (by simp) _ (by simp)
      intro y hy
      simp at hy
      rcases hy with hy | rfl
      · exact hs2 y hy
      · exact he

end Wax


namespace Wax
open Go (IntKind)

def findP:List (List UInt8 × List UInt8)→List UInt8→Option (List UInt8)
  | [],_=>none
  | (i,v)::r,k=>if i=k then some v else findP r k

def valV:Option (List UInt8)→AV
  | some v=>.tup [.str v,.bool true]
  | none=>.tup [.str [],.bool false]

end Wax


namespace Wax
open Go (IntKind)

def eN (m:L8):AV:=.ifc 3 (.ptr [.str m])
def mBad:L8:=[100,109,97,114,99,58,32,109,97,108,102,111,114,109,101,100,32,112,97,114,97,109,115]

def prdV (x:List KVp × Bool):AV:=.tup [.mp (pmA x.1),if x.2 then .nilI else eN mBad]
def prd2:List L8→List KVp→List KVp × Bool
  | [],acc=>(acc,true)
  | p::r,acc=>match cutAt 61 p with
    | none=>if trimS p=[] then prd2 r acc else (acc,false)
    | some q=>prd2 r (psetL acc (trimS q.1) (trimS q.2))
def con_dmParams:List AV→Option AV
  | [.str s]=>if s.length < mid∧plain s=true then some (prdV (prd2 (splitB 59 s) [])) else none
  | _=>none

set_option maxRecDepth 100000 in
theorem ok_dmParams (Γ:Gam) (s154:Γ.st 154=con_zzSplit) (h159:Γ.fn 159=con_dmCut2) (h160:Γ.fn 160=con_zzTrimSpace) (h50:Γ.fn 50=con_errorsNew):∀ args r,con_dmParams args=some r→runs Γ c_dmarc_parseParams args (fun v=>v=r):=by
  intro args r h
  simp only [con_dmParams] at h
  split at h <;> (try simp at h; done)
  rename_i s
  obtain ⟨⟨hs,hp⟩,rfl⟩:=ite_some h
  clear h
  have hsp:con_zzSplit [.str s,.str [59]] []=some (.msl 0 1 0 (splitB 59 s).length,[(0,.cells (strsA (splitB 59 s)))]):=if_pos hs
  have hl:=splitB_length 59 s
  have hml:=splitB_mem_length 59 s
  have hmp:=fun p=>splitB_plain 59 s p hp
  simp -implicitDefEqProofs [c_dmarc_parseParams,acallS,s154,hsp]
  clear hsp
  generalize splitB 59 s=L at *
  have hs':=hs
  simp only [mid] at hs'
  refine awp_loop2 (σ:=List L8 × List L8 × List KVp) (fun p=>⟨[(5,.mref 11),(12,.msl 10 1 0 L.length),(13,.int .i64 L.length),(14,.int .i64 p.1.length)],[(11,.mp (pmA p.2.2)),(10,.cells (strsA L))]⟩)
    (fun p=>L=p.1++p.2.1∧prd2 L []=prd2 p.2.1 p.2.2) (fun p=>p.2.1.length) ([],L,[]) ?_ (by simp) ?_
  · simp [pmA]
  rintro ⟨pre,post,acc⟩ ⟨e1,e2⟩ LQ hLQ
  simp only at e1 e2
  cases post with
  | nil =>
    simp at e1
    rw [e2]
    simp -implicitDefEqProofs [b_dmarc_parseParams_1,t_dmarc_parseParams_2,e1,prd2,prdV]
  | cons x post =>
    have hxm:x∈L:=by rw [e1]; simp
    have hxl:=hml x hxm
    have hxp:=hmp x hxm
    have hlen:L.length=pre.length+post.length+1:=by rw [e1]; simp; omega
    have hlt:pre.length < L.length:=by omega
    have g2:List.drop pre.length L=x::post:=by rw [e1]; simp
    have g3:L[pre.length]? = some x:=by rw [e1]; exact get_mid rfl
    have ew:IntKind.i64.wrap ((pre.length:Int)+1)=(pre.length:Int)+1:=wrap64 (by omega) (by omega)
    have hlt':(pre.length:Int) < (L.length:Int):=by omega
    have k159:con_dmCut2 [.str x,.int .u8 61]=some (.sl 1 (strsA (cutTwo 61 x))):=by
      simp only [con_dmCut2]; exact if_pos (by omega)
    have k160:∀ t:L8,t.length≤s.length→plain t=true→con_zzTrimSpace [.str t]=some (.str (trimS t)):=by
      intro t ht hpt
      simp only [con_zzTrimSpace]; exact if_pos ⟨by omega,hpt⟩
    have fin:∀ acc',prd2 (x::post) acc=prd2 post acc'→∀ st,norm [5,12,13,14] st=⟨[(5,.mref 11),(12,.msl 10 1 0 L.length),(13,.int .i64 L.length),(14,.int .i64 ((pre.length:Int)+1))],[(11,.mp (pmA acc')),(10,.cells (strsA L))]⟩→LQ st:=by
      intro acc' he st hst
      exact hLQ (pre++[x],post,acc') ⟨by rw [e1]; simp,by rw [e2,he]⟩ (by simp) st (by simpa using hst)
    cases hc:cutAt 61 x with
    | none =>
      have kx:=k160 x hxl hxp
      by_cases ht:trimS x=[]
      · have f1:=fin acc (by simp [prd2,hc,ht])
        simp -implicitDefEqProofs [b_dmarc_parseParams_1,hlt,hlt',g2,g3,acall,h159,k159,cutTwo,hc,h160,kx,ht,ew]
        exact f1 _ (by simp)
      · rw [e2]
        simp -implicitDefEqProofs [b_dmarc_parseParams_1,hlt,hlt',g2,g3,acall,h159,k159,cutTwo,hc,h160,kx,ht,h50,con_errorsNew,prd2,prdV,mBad,eN]
    | some q =>
      obtain ⟨hql,y,hy⟩:=cutAt_le hc
      have hxp':=hxp
      rw [hy,plain_app] at hxp'
      simp only [Bool.and_eq_true] at hxp'
      have hp2:plain q.2=true:=by
        have:=hxp'.2
        simp only [plain,List.all_cons,Bool.and_eq_true] at this
        exact this.2
      have kk:=k160 q.1 (by omega) hxp'.1
      have kv:=k160 q.2 (by omega) hp2
      have f1:=fin (psetL acc (trimS q.1) (trimS q.2)) (by simp [prd2,hc])
      simp -implicitDefEqProofs [b_dmarc_parseParams_1,hlt,hlt',g2,g3,acall,h159,k159,cutTwo,hc,h160,kk,kv,mset_pmA,ew]
      exact f1 _ (by simp)

def mPol:L8:=[100,109,97,114,99,58,32,105,110,118,97,108,105,100,32,112,111,108,105,99,121,32,102,111,114,32,112,97,114,97,109,101,116,101,114,32]
def mAlign:L8:=[100,109,97,114,99,58,32,105,110,118,97,108,105,100,32,97,108,105,103,110,109,101,110,116,32,109,111,100,101,32,102,111,114,32,112,97,114,97,109,101,116,101,114,32]

def con_dmPolicy:List AV→Option AV
  | [.str s,.str p]=>if p.length < mid then some (if polB s=true then .tup [.str s,.nilI] else .tup [.str [],eN (mPol++p)]) else none
  | _=>none
theorem ok_dmPolicy (Γ:Gam) (h50:Γ.fn 50=con_errorsNew):∀ args r,con_dmPolicy args=some r→runs Γ c_dmarc_parsePolicy args (fun v=>v=r):=by
  intro args r h
  simp only [con_dmPolicy] at h
  split at h <;> (try simp at h; done)
  rename_i s p
  obtain ⟨hp,rfl⟩:=ite_some h
  clear h
  simp only [mid] at hp
  have hp2:36+p.length < 4611686018427387904:=by omega
  by_cases h1:s=sNone
  · subst h1
    simp -implicitDefEqProofs [c_dmarc_parsePolicy,sNone,polB]
  · by_cases h2:s=sQuar
    · subst h2
      simp -implicitDefEqProofs [c_dmarc_parsePolicy,sNone,sQuar,polB]
    · by_cases h3:s=sReject
      · subst h3
        simp -implicitDefEqProofs [c_dmarc_parsePolicy,sNone,sQuar,sReject,polB]
      · have e:polB s=false:=by simp [polB,h1,h2,h3]
        simp only [sNone,sQuar,sReject] at h1 h2 h3
        simp -implicitDefEqProofs [c_dmarc_parsePolicy,h1,h2,h3,e,hp2,acall,h50,con_errorsNew,eN,mPol]
        try omega

def con_dmAlign:List AV→Option AV
  | [.str s,.str p]=>if p.length < mid then some (if alignB s=true then .tup [.str s,.nilI] else .tup [.str [],eN (mAlign++p)]) else none
  | _=>none
theorem ok_dmAlign (Γ:Gam) (h50:Γ.fn 50=con_errorsNew):∀ args r,con_dmAlign args=some r→runs Γ c_dmarc_parseAlignmentMode args (fun v=>v=r):=by
  intro args r h
  simp only [con_dmAlign] at h
  split at h <;> (try simp at h; done)
  rename_i s p
  obtain ⟨hp,rfl⟩:=ite_some h
  clear h
  simp only [mid] at hp
  by_cases h1:s=sR
  · subst h1
    simp -implicitDefEqProofs [c_dmarc_parseAlignmentMode,sR,alignB]
  · by_cases h2:s=sS
    · subst h2
      simp -implicitDefEqProofs [c_dmarc_parseAlignmentMode,sR,sS,alignB]
    · have e:alignB s=false:=by simp [alignB,h1,h2]
      simp only [sR,sS] at h1 h2
      simp -implicitDefEqProofs [c_dmarc_parseAlignmentMode,h1,h2,e,acall,h50,con_errorsNew,eN,mAlign]
      try omega

def mFo:L8:=[100,109,97,114,99,58,32,105,110,118,97,108,105,100,32,102,97,105,108,117,114,101,32,111,112,116,105,111,110,32,105,110,32,112,97,114,97,109,101,116,101,114,32,39,102,111,39]
def foV (s:L8):AV:=match fo2 0 (splitB 58 s) with
  | some n=>.tup [.int .i64 n,.nilI]
  | none=>.tup [.int .i64 0,eN mFo]
def con_dmFo:List AV→Option AV
  | [.str s]=>if s.length < mid∧plain s=true then some (foV s) else none
  | _=>none

set_option maxHeartbeats 1000000 in
theorem ok_dmFo (Γ:Gam) (s154:Γ.st 154=con_zzSplit) (h160:Γ.fn 160=con_zzTrimSpace) (h50:Γ.fn 50=con_errorsNew):∀ args r,con_dmFo args=some r→runs Γ c_dmarc_parseFailureOptions args (fun v=>v=r):=by
  intro args r h
  simp only [con_dmFo] at h
  split at h <;> (try simp at h; done)
  rename_i s
  obtain ⟨⟨hs,hp⟩,rfl⟩:=ite_some h
  clear h
  have hsp:con_zzSplit [.str s,.str [58]] []=some (.msl 0 1 0 (splitB 58 s).length,[(0,.cells (strsA (splitB 58 s)))]):=if_pos hs
  have hl:=splitB_length 58 s
  have hml:=splitB_mem_length 58 s
  have hmp:=fun p=>splitB_plain 58 s p hp
  simp only [foV]
  simp -implicitDefEqProofs [c_dmarc_parseFailureOptions,acallS,s154,hsp]
  clear hsp
  generalize splitB 58 s=L at *
  simp only [mid] at hs
  refine awp_loop2 (σ:=List L8 × List L8 × Int) (fun p=>⟨[(5,.int .i64 p.2.2),(10,.msl 9 1 0 L.length),(11,.int .i64 L.length),(12,.int .i64 p.1.length)],[(9,.cells (strsA L))]⟩)
    (fun p=>L=p.1++p.2.1∧fo2 0 L=fo2 p.2.2 p.2.1) (fun p=>p.2.1.length) ([],L,0) ?_ (by simp) ?_
  · simp
  rintro ⟨pre,post,n⟩ ⟨e1,e2⟩ LQ hLQ
  simp only at e1 e2
  cases post with
  | nil =>
    simp at e1
    rw [e2]
    simp -implicitDefEqProofs [b_dmarc_parseFailureOptions_1,t_dmarc_parseFailureOptions_2,e1,fo2]
  | cons x post =>
    have hxm:x∈L:=by rw [e1]; simp
    have hxl:=hml x hxm
    have hxp:=hmp x hxm
    have hlen:L.length=pre.length+post.length+1:=by rw [e1]; simp; omega
    have hlt':(pre.length:Int) < (L.length:Int):=by omega
    have hlt:pre.length < L.length:=by omega
    have g2:List.drop pre.length L=x::post:=by rw [e1]; simp
    have g3:L[pre.length]? = some x:=by rw [e1]; exact get_mid rfl
    have ew:IntKind.i64.wrap ((pre.length:Int)+1)=(pre.length:Int)+1:=wrap64 (by omega) (by omega)
    have k160:con_zzTrimSpace [.str x]=some (.str (trimS x)):=if_pos ⟨by simp only [mid]; omega,hxp⟩
    have fin:∀ m,fo2 n (x::post)=fo2 m post→∀ st,norm [5,10,11,12] st=⟨[(5,.int .i64 m),(10,.msl 9 1 0 L.length),(11,.int .i64 L.length),(12,.int .i64 ((pre.length:Int)+1))],[(9,.cells (strsA L))]⟩→LQ st:=by
      intro m he st hst
      exact hLQ (pre++[x],post,m) ⟨by rw [e1]; simp,by rw [e2,he]⟩ (by simp) st (by simpa using hst)
    generalize ht:trimS x=tx at *
    by_cases c1:tx=[48]
    · have f:=fin (orI n 1) (by simp [fo2,fobit2,ht,c1])
      simp -implicitDefEqProofs [b_dmarc_parseFailureOptions_1,hlt,hlt',g2,g3,acall,h160,k160,ew,c1]
      exact f _ (by simp [orI]; rfl)
    · by_cases c2:tx=[49]
      · have f:=fin (orI n 2) (by simp [fo2,fobit2,ht,c2])
        simp -implicitDefEqProofs [b_dmarc_parseFailureOptions_1,hlt,hlt',g2,g3,acall,h160,k160,ew,c2]
        exact f _ (by simp [orI]; rfl)
      · by_cases c3:tx=[100]
        · have f:=fin (orI n 4) (by simp [fo2,fobit2,ht,c3])
          simp -implicitDefEqProofs [b_dmarc_parseFailureOptions_1,hlt,hlt',g2,g3,acall,h160,k160,ew,c3]
          exact f _ (by simp [orI]; rfl)
        · by_cases c4:tx=[115]
          · have f:=fin (orI n 8) (by simp [fo2,fobit2,ht,c4])
            simp -implicitDefEqProofs [b_dmarc_parseFailureOptions_1,hlt,hlt',g2,g3,acall,h160,k160,ew,c4]
            exact f _ (by simp [orI]; rfl)
          · have e3:fo2 0 L=none:=by rw [e2]; simp [fo2,fobit2,ht,c1,c2,c3,c4]
            rw [e3]
            simp -implicitDefEqProofs [b_dmarc_parseFailureOptions_1,hlt,hlt',g2,g3,acall,h160,k160,c1,c2,c3,c4,h50,con_errorsNew,eN,mFo]

def con_dmURIs:List AV→Option AV
  | [.str s]=>if s.length < mid∧plain s=true then some (.sl 1 (strsA (uris s))) else none
  | _=>none

theorem ok_dmURIs (Γ:Gam) (s154:Γ.st 154=con_zzSplit) (h160:Γ.fn 160=con_zzTrimSpace):∀ args r,con_dmURIs args=some r→runs Γ c_dmarc_parseURIList args (fun v=>v=r):=by
  intro args r h
  simp only [con_dmURIs] at h
  split at h <;> (try simp at h; done)
  rename_i s
  obtain ⟨⟨hs,hp⟩,rfl⟩:=ite_some h
  clear h
  have hsp:con_zzSplit [.str s,.str [44]] []=some (.msl 0 1 0 (splitB 44 s).length,[(0,.cells (strsA (splitB 44 s)))]):=if_pos hs
  have hl:=splitB_length 44 s
  have hml:=splitB_mem_length 44 s
  have hmp:=fun p=>splitB_plain 44 s p hp
  simp only [uris]
  simp -implicitDefEqProofs [c_dmarc_parseURIList,acallS,s154,hsp]
  clear hsp
  generalize splitB 44 s=L at *
  simp only [mid] at hs
  refine awp_loop2 (σ:=List L8 × List L8) (fun p=>⟨[(3,.msl 7 1 0 L.length),(8,.msl 7 1 0 L.length),(9,.int .i64 L.length),(10,.int .i64 p.1.length)],[(7,.cells (strsA (p.1.map trimS++p.2)))]⟩)
    (fun p=>L=p.1++p.2) (fun p=>p.2.length) ([],L) ?_ (by simp) ?_
  · simp
  rintro ⟨pre,post⟩ e1 LQ hLQ
  simp only at e1
  cases post with
  | nil =>
    simp at e1
    simp -implicitDefEqProofs [b_dmarc_parseURIList_1,t_dmarc_parseURIList_2,e1,snap,resolveA,List.take_of_length_le]
  | cons x post =>
    have hxm:x∈L:=by rw [e1]; simp
    have hxl:=hml x hxm
    have hxp:=hmp x hxm
    have hlen:L.length=pre.length+post.length+1:=by rw [e1]; simp; omega
    have hlt':(pre.length:Int) < (L.length:Int):=by omega
    have hlt:pre.length < L.length:=by omega
    have ew:IntKind.i64.wrap ((pre.length:Int)+1)=(pre.length:Int)+1:=wrap64 (by omega) (by omega)
    have k160:con_zzTrimSpace [.str x]=some (.str (trimS x)):=if_pos ⟨by simp only [mid]; omega,hxp⟩
    simp (disch:=first | omega | simp) [b_dmarc_parseURIList_1,hlt,hlt',acall,h160,k160,ew,get_mid,set_mid]
    refine hLQ (pre++[x],post) (by simp [e1]) (by simp) _ ?_
    simp
end Wax


namespace Wax
open Go (IntKind)

theorem lk_rmFi (ds:List Nat) (i:Nat):∀ fr:List (Nat × AV),lk (rmF ds fr) i=if ds.contains i=true then .junk else lk fr i
  | []=>by simp [rmF,lk]
  | (j,v)::r=>by
    have ih:=lk_rmFi ds i r
    simp only [rmF]
    by_cases hj:ds.contains j=true
    · rw [if_pos hj,ih]
      by_cases hi:ds.contains i=true
      · rw [if_pos hi,if_pos hi]
      · rw [if_neg hi,if_neg hi]
        have:j ≠ i:=fun e=>hi (e ▸ hj)
        simp [lk,this]
    · rw [if_neg hj]
      by_cases e:j=i
      · subst e; simp only [lk,if_true,if_neg hj]
      · simp only [lk,if_neg e,ih]

theorem lookA_two:∀ (l:List KVp) (k:L8),lookA (pmA l) k (.str []) true=valV (findP l k)
  | [],k=>rfl
  | (i,v)::r,k=>by
    have ih:=lookA_two r k
    by_cases h:k=i
    · simp [pmA,lookA,mfind,findP,h,valV]
    · have h':¬ i=k:=fun e=>h e.symm
      simp only [pmA,List.map_cons,lookA,mfind,findP,if_neg h,if_neg h'] at ih ⊢
      exact ih
theorem lookA_one:∀ (l:List KVp) (k:L8),lookA (pmA l) k (.str []) false=.str ((findP l k).getD [])
  | [],k=>rfl
  | (i,v)::r,k=>by
    have ih:=lookA_one r k
    by_cases h:k=i
    · simp [pmA,lookA,mfind,findP,h]
    · have h':¬ i=k:=fun e=>h e.symm
      simp only [pmA,List.map_cons,lookA,mfind,findP,if_neg h,if_neg h'] at ih ⊢
      exact ih

def pctA:Option Int→AV
  | none=>.nilP
  | some n=>.ptr [.int .i64 n]
@[simp] theorem pctA_atom (x:Option Int):atom (pctA x)=true:=by cases x <;> rfl
@[simp] theorem pctA_ref (x:Option Int):hasRef (pctA x)=false:=by cases x <;> rfl
@[simp] theorem pctA_refs (x:Option Int):refs (pctA x)=[]:=by cases x <;> rfl
@[simp] theorem pctA_kill (x:Option Int) (d:Nat):kill d (pctA x)=pctA x:=by cases x <;> rfl
@[simp] theorem pctA_snapW (x:Option Int) (g:AV→AV):snapW g (pctA x)=pctA x:=by cases x <;> rfl
@[simp] theorem pctA_snap (x:Option Int) (n:Nat) (hp:List (Nat × AObj)):snap (n+1) hp (pctA x)=pctA x:=by cases x <;> rfl
@[simp] theorem pctA_some (n:Int):pctA (some n)=.ptr [.int .i64 n]:=rfl
@[simp] theorem pctA_none:pctA none=.nilP:=rfl

def DR.cells (r:DR):List AV:=[.str r.dk,.str r.sp,.int .i64 r.fo,.str r.p,pctA r.pct,slO r.rf,.int .i64 r.ri,slO r.rua,slO r.ruf,.str r.sub]
def dr0:DR:=⟨[],[],0,[],none,none,0,none,none,[]⟩

def mPct:L8:=[100,109,97,114,99,58,32,105,110,118,97,108,105,100,32,112,97,114,97,109,101,116,101,114,32,39,112,99,116,39]
def mPct2:L8:=mPct++[58,32,118,97,108,117,101,32,111,117,116,32,111,102,32,98,111,117,110,100,115]
def mRf:L8:=[100,109,97,114,99,58,32,105,110,118,97,108,105,100,32,112,97,114,97,109,101,116,101,114,32,39,114,102,39]
def mRi:L8:=[100,109,97,114,99,58,32,105,110,118,97,108,105,100,32,112,97,114,97,109,101,116,101,114,32,39,114,105,39]
def mRi2:L8:=mRi++[58,32,110,101,103,97,116,105,118,101,32,111,114,32,122,101,114,111,32,100,117,114,97,116,105,111,110]
def mNoP:L8:=[100,109,97,114,99,58,32,114,101,99,111,114,100,32,105,115,32,109,105,115,115,105,110,103,32,97,32,39,112,39,32,112,97,114,97,109,101,116,101,114]

section
variable (acc:List KVp)
def mdSp (r:DR):AV ⊕ DR:=match findP acc kSp with
  | none=>.inr r
  | some v=>if polB v=true then .inr { r with sub:=v } else .inl (eN (mPol++kSp))
def mdRuf (r:DR):AV ⊕ DR:=mdSp acc (match findP acc kRuf with | none=>r | some v=>{ r with ruf:=some (uris v) })
def mdRua (r:DR):AV ⊕ DR:=mdRuf acc (match findP acc kRua with | none=>r | some v=>{ r with rua:=some (uris v) })
def mdRi (r:DR):AV ⊕ DR:=match findP acc kRi with
  | none=>mdRua acc r
  | some v=>match Go.Lib.atoiAll v with
    | .ok n=>if n≤0 then .inl (eN mRi2) else mdRua acc { r with ri:=n }
    | _=>.inl (eN mRi)
def mdRf (r:DR):AV ⊕ DR:=match findP acc kRf with
  | none=>mdRi acc r
  | some v=>if (splitB 58 v).all (fun s=>decide (s=sAfrf))=true then mdRi acc { r with rf:=some (splitB 58 v) } else .inl (eN mRf)
def mdPct (r:DR):AV ⊕ DR:=match findP acc kPct with
  | none=>mdRf acc r
  | some v=>match Go.Lib.atoiAll v with
    | .ok n=>if n < 0∨100 < n then .inl (eN mPct2) else mdRf acc { r with pct:=some n }
    | _=>.inl (eN mPct)
def mdFo (r:DR):AV ⊕ DR:=match findP acc kFo with
  | none=>mdPct acc r
  | some v=>match fo2 0 (splitB 58 v) with
    | some n=>mdPct acc { r with fo:=n }
    | none=>.inl (eN mFo)
def mdAspf (r:DR):AV ⊕ DR:=match findP acc kAspf with
  | none=>mdFo acc { r with sp:=sR }
  | some v=>if alignB v=true then mdFo acc { r with sp:=v } else .inl (eN (mAlign++kAspf))
def mdAdkim (r:DR):AV ⊕ DR:=match findP acc kAdkim with
  | none=>mdAspf acc { r with dk:=sR }
  | some v=>if alignB v=true then mdAspf acc { r with dk:=v } else .inl (eN (mAlign++kAdkim))
def mdAll:AV ⊕ DR:=if (findP acc kV).getD []=sDM then (match findP acc kP with
  | none=>.inl (eN mNoP)
  | some v=>if polB v=true then mdAdkim acc { dr0 with p:=v } else .inl (eN (mPol++kP))) else .inl (.ifc 3 (.gp 1))
end

def mdV:AV ⊕ DR→AV
  | .inl e=>.tup [.nilP,e]
  | .inr r=>.tup [.ptr r.cells,.nilI]

abbrev mdQ (x:AV ⊕ DR):APost:=finQ [.t 2,.t 3] fun v=>v=mdV x

def valsOk (acc:List KVp):Prop:=∀ q∈acc,q.2.length < mid∧plain q.2=true
theorem findP_in:∀ {l:List KVp} {k v:L8},findP l k=some v→(k,v)∈l
  | [],_,_,h=>by simp [findP] at h
  | (i,u)::r,k,v,h=>by
    simp only [findP] at h
    split at h
    · rename_i e; simp at h; subst e; subst h; simp
    · exact List.mem_cons_of_mem _ (findP_in h)

section
variable {Γ:Gam} (h150:Γ.fn 150=con_dmPolicy) (h151:Γ.fn 151=con_dmAlign) (h152:Γ.fn 152=con_dmFo) (h153:Γ.fn 153=con_Atoi) (s154:Γ.st 154=con_zzSplit) (h155:Γ.fn 155=con_dmURIs) (h50:Γ.fn 50=con_errorsNew)

theorem valV_tup {x:Option L8} {a b:AV} (h:valV x=.tup [a,b]):(∀ g,snapW g a=a)∧(∀ g,snapW g b=b)∧(∀ d,kill d a=a)∧∀ d,kill d b=b:=by
  cases x <;> simp [valV] at h <;> obtain ⟨rfl,rfl⟩:=h <;> exact ⟨fun _=>rfl,fun _=>rfl,fun _=>rfl,fun _=>rfl⟩
@[simp] theorem drc_kill (r:DR) (d:Nat):killL d r.cells=r.cells:=by simp [DR.cells]
@[simp] theorem drc_snapW (r:DR) (g:AV→AV):snapWL g r.cells=r.cells:=by simp [DR.cells]
@[simp] theorem drc_ref (r:DR):hasRefL r.cells=false:=by simp [DR.cells]

theorem pd_4 (r:DR) (ex:List (Nat × AV)) (h6:lk ex 6=.ref 46 0):awp Γ f_dmarc_Parse_4 (mdQ (.inr r)) ⟨ex,[(46,.cells r.cells)]⟩:=by
  simp -implicitDefEqProofs [f_dmarc_Parse_4,h6,mdV,DR.cells]

theorem pol_con {v p:L8} (hp:p.length < mid):con_dmPolicy [.str v,.str p]=some (if polB v=true then .tup [.str v,.nilI] else .tup [.str [],eN (mPol++p)]):=if_pos hp
theorem align_con {v p:L8} (hp:p.length < mid):con_dmAlign [.str v,.str p]=some (if alignB v=true then .tup [.str v,.nilI] else .tup [.str [],eN (mAlign++p)]):=if_pos hp

include h150
theorem pd_5 (acc:List KVp) (r:DR) (ex:List (Nat × AV)) (h4:lk ex 4=.mp (pmA acc)) (h6:lk ex 6=.ref 46 0):awp Γ f_dmarc_Parse_5 (mdQ (mdSp acc r)) ⟨ex,[(46,.cells r.cells)]⟩:=by
  have hk:=lookA_two acc [115,112]
  simp only [mdSp,kSp]
  cases hf:findP acc [115,112] with
  | none =>
    rw [hf] at hk
    simp only
    have e:=fun ex h=>pd_4 (Γ:=Γ) r ex h
    simp -implicitDefEqProofs [f_dmarc_Parse_5,lk_rmFi,h4,h6,hk,valV]
    refine e _ ?_
    simp [lk_rmFi,h4,h6]
  | some v =>
    rw [hf] at hk
    have k:=pol_con (v:=v) (p:=[115,112]) (by decide)
    simp only
    cases hp:polB v with
    | false =>
      rw [hp] at k
      simp -implicitDefEqProofs [f_dmarc_Parse_5,lk_rmFi,h4,h6,hk,valV,acall,h150,k,eN,DR.cells,mdV]
    | true =>
      rw [hp] at k
      simp only [if_true]
      have e:=fun ex h=>pd_4 (Γ:=Γ) { r with sub:=v } ex h
      simp only [DR.cells] at e
      simp -implicitDefEqProofs [f_dmarc_Parse_5,lk_rmFi,h4,h6,hk,valV,acall,h150,k,DR.cells]
      refine e _ ?_
      simp [lk_rmFi,h4,h6]

include h155
theorem pd_6 (acc:List KVp) (ha:valsOk acc) (r:DR) (ex:List (Nat × AV)) (h4:lk ex 4=.mp (pmA acc)) (h6:lk ex 6=.ref 46 0):awp Γ f_dmarc_Parse_6 (mdQ (mdRuf acc r)) ⟨ex,[(46,.cells r.cells)]⟩:=by
  have hk:=lookA_two acc [114,117,102]
  simp only [mdRuf,kRuf]
  cases hf:findP acc [114,117,102] with
  | none =>
    rw [hf] at hk
    simp only
    have e:=fun ex h h'=>pd_5 (Γ:=Γ) h150 acc r ex h h'
    simp -implicitDefEqProofs [f_dmarc_Parse_6,lk_rmFi,h4,h6,hk,valV]
    refine e _ ?_ ?_ <;> simp [lk_rmFi,h4,h6]
  | some v =>
    rw [hf] at hk
    have hv:=ha _ (findP_in hf)
    have k:con_dmURIs [.str v]=some (.sl 1 (strsA (uris v))):=if_pos hv
    simp only
    have e:=fun ex h h'=>pd_5 (Γ:=Γ) h150 acc { r with ruf:=some (uris v) } ex h h'
    simp only [DR.cells] at e
    simp -implicitDefEqProofs [f_dmarc_Parse_6,lk_rmFi,h4,h6,hk,valV,acall,h155,k,DR.cells]
    refine e _ ?_ ?_ <;> simp [lk_rmFi,h4,h6]

theorem pd_7 (acc:List KVp) (ha:valsOk acc) (r:DR) (ex:List (Nat × AV)) (h4:lk ex 4=.mp (pmA acc)) (h6:lk ex 6=.ref 46 0):awp Γ f_dmarc_Parse_7 (mdQ (mdRua acc r)) ⟨ex,[(46,.cells r.cells)]⟩:=by
  have hk:=lookA_two acc [114,117,97]
  simp only [mdRua,kRua]
  cases hf:findP acc [114,117,97] with
  | none =>
    rw [hf] at hk
    simp only
    have e:=fun ex h h'=>pd_6 (Γ:=Γ) h150 h155 acc ha r ex h h'
    simp -implicitDefEqProofs [f_dmarc_Parse_7,lk_rmFi,h4,h6,hk,valV]
    refine e _ ?_ ?_ <;> simp [lk_rmFi,h4,h6]
  | some v =>
    rw [hf] at hk
    have hv:=ha _ (findP_in hf)
    have k:con_dmURIs [.str v]=some (.sl 1 (strsA (uris v))):=if_pos hv
    simp only
    have e:=fun ex h h'=>pd_6 (Γ:=Γ) h150 h155 acc ha { r with rua:=some (uris v) } ex h h'
    simp only [DR.cells] at e
    simp -implicitDefEqProofs [f_dmarc_Parse_7,lk_rmFi,h4,h6,hk,valV,acall,h155,k,DR.cells]
    refine e _ ?_ ?_ <;> simp [lk_rmFi,h4,h6]

include h153 h50
theorem pd_3 (acc:List KVp) (ha:valsOk acc) (r:DR) (a b:AV) (hab:valV (findP acc kRi)=.tup [a,b]) :
    awp Γ f_dmarc_Parse_3 (thenQ (awp Γ f_dmarc_Parse_7 (mdQ (mdRi acc r))) (mdQ (mdRi acc r))) ⟨[(4,.mp (pmA acc)),(6,.ref 46 0),(24,a),(25,b)],[(46,.cells r.cells)]⟩:=by
  simp only [mdRi]
  cases hf:findP acc kRi with
  | none =>
    rw [hf] at hab
    simp [valV] at hab
    obtain ⟨rfl,rfl⟩:=hab
    simp only
    simp -implicitDefEqProofs [f_dmarc_Parse_3]
    exact pd_7 h150 h155 acc ha r _ rfl rfl
  | some v =>
    rw [hf] at hab
    simp [valV] at hab
    obtain ⟨rfl,rfl⟩:=hab
    have hv:=ha _ (findP_in hf)
    have k:con_Atoi [.str v]=some (atoiV v):=if_pos hv.1
    simp only [atoiV] at k
    simp only
    cases hq:Go.Lib.atoiAll v with
    | ok n =>
      rw [hq] at k
      simp only at k ⊢
      by_cases hn:n≤0
      · rw [if_pos hn]
        simp -implicitDefEqProofs [f_dmarc_Parse_3,acall,h153,k,hn,h50,con_errorsNew,mdV,eN,mRi2,mRi]
      · rw [if_neg hn]
        have e:=pd_7 (Γ:=Γ) h150 h155 acc ha { r with ri:=n } [(4,.mp (pmA acc)),(6,.ref 46 0)] rfl rfl
        simp only [DR.cells] at e
        simp -implicitDefEqProofs [f_dmarc_Parse_3,acall,h153,k,hn,DR.cells]
        exact e
    | range =>
      rw [hq] at k
      simp only at k ⊢
      simp -implicitDefEqProofs [f_dmarc_Parse_3,acall,h153,k,h50,con_errorsNew,mdV,eN,mRi]
    | _ =>
      rw [hq] at k
      simp only at k ⊢
      simp -implicitDefEqProofs [f_dmarc_Parse_3,acall,h153,k,h50,con_errorsNew,mdV,eN,mRi]

theorem pd_8 (acc:List KVp) (ha:valsOk acc) (r:DR) (ex:List (Nat × AV)) (h4:lk ex 4=.mp (pmA acc)) (h6:lk ex 6=.ref 46 0):awp Γ f_dmarc_Parse_8 (mdQ (mdRi acc r)) ⟨ex,[(46,.cells r.cells)]⟩:=by
  have hk:=lookA_two acc [114,105]
  obtain ⟨a,b,hab⟩:∃ a b,valV (findP acc kRi)=.tup [a,b]:=by cases findP acc kRi <;> exact ⟨_,_,rfl⟩
  have hab':=hab
  rw [kRi] at hab'
  rw [hab'] at hk
  obtain ⟨_,_,ha2,hb2⟩:=valV_tup hab
  simp -implicitDefEqProofs [f_dmarc_Parse_8,lk_rmFi,h4,h6,hk,ha2,hb2]
  exact pd_3 h150 h153 h155 h50 acc ha r a b hab

theorem pd_8b (acc:List KVp) (ha:valsOk acc) (r:DR) (L:List L8) (ex:List (Nat × AV)) (h4:lk ex 4=.mp (pmA acc)) (h6:lk ex 6=.ref 46 0) :
    awp Γ f_dmarc_Parse_8 (mdQ (mdRi acc { r with rf:=some L })) ⟨ex,[(158,.cells (strsA L)),(154,.cells (strsA L)),(46,.cells [.str r.dk,.str r.sp,.int .i64 r.fo,.str r.p,pctA r.pct,.msl 158 1 0 L.length,.int .i64 r.ri,slO r.rua,slO r.ruf,.str r.sub])]⟩:=by
  have hk:=lookA_two acc [114,105]
  obtain ⟨a,b,hab⟩:∃ a b,valV (findP acc kRi)=.tup [a,b]:=by cases findP acc kRi <;> exact ⟨_,_,rfl⟩
  have hab':=hab
  rw [kRi] at hab'
  obtain ⟨ha1,hb1,ha2,hb2⟩:=valV_tup hab
  rw [hab'] at hk
  have e:=pd_3 h150 h153 h155 h50 acc ha { r with rf:=some L } a b hab
  simp only [DR.cells] at e
  simp -implicitDefEqProofs [f_dmarc_Parse_8,lk_rmFi,h4,h6,hk,ha1,hb1,ha2,hb2,List.take_of_length_le]
  exact e

include s154
theorem pd_2 (acc:List KVp) (ha:valsOk acc) (r:DR) (a b:AV) (hab:valV (findP acc kRf)=.tup [a,b]) :
    awp Γ f_dmarc_Parse_2 (thenQ (awp Γ f_dmarc_Parse_8 (mdQ (mdRf acc r))) (mdQ (mdRf acc r))) ⟨[(4,.mp (pmA acc)),(6,.ref 46 0),(19,a),(20,b)],[(46,.cells r.cells)]⟩:=by
  simp only [mdRf]
  cases hf:findP acc kRf with
  | none =>
    rw [hf] at hab
    simp [valV] at hab
    obtain ⟨rfl,rfl⟩:=hab
    simp only
    simp -implicitDefEqProofs [f_dmarc_Parse_2]
    exact pd_8 h150 h153 h155 h50 acc ha r _ rfl rfl
  | some v =>
    rw [hf] at hab
    simp [valV] at hab
    obtain ⟨rfl,rfl⟩:=hab
    have hv:=ha _ (findP_in hf)
    simp only at hv
    have hsp:con_zzSplit [.str v,.str [58]] []=some (.msl 0 1 0 (splitB 58 v).length,[(0,.cells (strsA (splitB 58 v)))]):=if_pos hv.1
    have hl:=splitB_length 58 v
    have hv1:=hv.1
    simp only [mid] at hv1
    simp only
    generalize splitB 58 v=L at *
    have hL1:L.all (fun s=>decide (s=sAfrf))=true→(if L.all (fun s=>decide (s=sAfrf))=true then mdRi acc { r with rf:=some L } else .inl (eN mRf))=mdRi acc { r with rf:=some L }:=fun h=>if_pos h
    have hL2:L.all (fun s=>decide (s=sAfrf))=false→(if L.all (fun s=>decide (s=sAfrf))=true then mdRi acc { r with rf:=some L } else .inl (eN mRf))=.inl (eN mRf):=fun h=>by rw [h]; rfl
    generalize (if L.all (fun s=>decide (s=sAfrf))=true then mdRi acc { r with rf:=some L } else .inl (eN mRf))=X at *
    have hbound:((L.length:Int).toNat+1) * 17 < 35184372088832∧(L.length:Int).toNat < 35184372088832:=by omega
    simp -implicitDefEqProofs [f_dmarc_Parse_2,acallS,s154,hsp,DR.cells]
    refine ⟨by omega,?_⟩
    refine awp_loop2 (σ:=List L8 × List L8) (fun p=>⟨[(4,.mp (pmA acc)),(6,.ref 46 0),(161,.msl 154 1 0 L.length),(162,.int .i64 L.length),(163,.int .i64 p.1.length)],[(158,.cells (strsA p.1++List.replicate p.2.length (.str []))),(154,.cells (strsA L)),(46,.cells [.str r.dk,.str r.sp,.int .i64 r.fo,.str r.p,pctA r.pct,.msl 158 1 0 L.length,.int .i64 r.ri,slO r.rua,slO r.ruf,.str r.sub])]⟩)
      (fun p=>L=p.1++p.2∧p.1.all (fun s=>decide (s=sAfrf))=true) (fun p=>p.2.length) ([],L) ?_ (by simp) ?_
    · simp
    rintro ⟨pre,post⟩ ⟨e1,e2⟩ LQ hLQ
    simp only at e1 e2
    cases post with
    | nil =>
      simp only [List.append_nil] at e1
      subst e1
      rw [hL1 e2]
      have e:=fun ex h h'=>pd_8b (Γ:=Γ) h150 h153 h155 h50 acc ha r L ex h h'
      simp -implicitDefEqProofs [b_dmarc_Parse_1]
      refine e _ ?_ ?_ <;> simp
    | cons x post =>
      have hlen:L.length=pre.length+(post.length+1):=by rw [e1]; simp
      have hlt':(pre.length:Int) < (L.length:Int):=by omega
      have hlt:pre.length < L.length:=by omega
      have g3:L[pre.length]? = some x:=by rw [e1]; exact get_mid rfl
      have ew:IntKind.i64.wrap ((pre.length:Int)+1)=(pre.length:Int)+1:=wrap64 (by omega) (by omega)
      by_cases hx:x=sAfrf
      · subst hx
        have hb:pre.length < pre.length+(post.length+1):=by omega
        have fin:∀ st,norm [4,6,161,162,163] st=⟨[(4,.mp (pmA acc)),(6,.ref 46 0),(161,.msl 154 1 0 L.length),(162,.int .i64 L.length),(163,.int .i64 ((pre.length:Int)+1))],[(158,.cells (strsA pre++(.str sAfrf::List.replicate post.length (.str [])))),(154,.cells (strsA L)),(46,.cells [.str r.dk,.str r.sp,.int .i64 r.fo,.str r.p,pctA r.pct,.msl 158 1 0 L.length,.int .i64 r.ri,slO r.rua,slO r.ruf,.str r.sub])]⟩→LQ st:=by
          intro st hst
          refine hLQ (pre++[sAfrf],post) ⟨by rw [e1]; simp,by simp [e2]⟩ (by simp) st ?_
          rw [hst]; simp
        have gdrop:L.drop pre.length=sAfrf::post:=by rw [e1]; simp
        simp only [sAfrf] at g3 fin gdrop
        simp -implicitDefEqProofs [b_dmarc_Parse_1,hlt,hlt',g3,gdrop,ew,List.replicate_succ]
        exact fin _ (by simp)
      · have hf2:L.all (fun s=>decide (s=sAfrf))=false:=by rw [e1]; simp [hx]
        rw [hL2 hf2]
        have gdrop:L.drop pre.length=x::post:=by rw [e1]; simp
        simp only [sAfrf] at hx
        simp -implicitDefEqProofs [b_dmarc_Parse_1,hlt,hlt',g3,gdrop,hx,acall,h50,con_errorsNew,mdV,eN,mRf]
end
end Wax


namespace Wax
open Go (IntKind)

section
variable {Γ:Gam} (h149:Γ.fn 149=con_dmParams) (h150:Γ.fn 150=con_dmPolicy) (h151:Γ.fn 151=con_dmAlign) (h152:Γ.fn 152=con_dmFo) (h153:Γ.fn 153=con_Atoi) (s154:Γ.st 154=con_zzSplit) (h155:Γ.fn 155=con_dmURIs) (h50:Γ.fn 50=con_errorsNew)
include h150 h153 s154 h155 h50

theorem pd_9 (acc:List KVp) (ha:valsOk acc) (r:DR) (ex:List (Nat × AV)) (h4:lk ex 4=.mp (pmA acc)) (h6:lk ex 6=.ref 46 0):awp Γ f_dmarc_Parse_9 (mdQ (mdRf acc r)) ⟨ex,[(46,.cells r.cells)]⟩:=by
  have hk:=lookA_two acc [114,102]
  obtain ⟨a,b,hab⟩:∃ a b,valV (findP acc kRf)=.tup [a,b]:=by cases findP acc kRf <;> exact ⟨_,_,rfl⟩
  have hab':=hab
  rw [kRf] at hab'
  rw [hab'] at hk
  obtain ⟨_,_,ha2,hb2⟩:=valV_tup hab
  simp -implicitDefEqProofs [f_dmarc_Parse_9,lk_rmFi,h4,h6,hk,ha2,hb2]
  exact pd_2 h150 h153 s154 h155 h50 acc ha r a b hab

theorem pd_9b (acc:List KVp) (ha:valsOk acc) (r:DR) (n:Int) (ex:List (Nat × AV)) (h4:lk ex 4=.mp (pmA acc)) (h6:lk ex 6=.ref 46 0) :
    awp Γ f_dmarc_Parse_9 (mdQ (mdRf acc { r with pct:=some n })) ⟨ex,[(17,.cells [.int .i64 n]),(46,.cells [.str r.dk,.str r.sp,.int .i64 r.fo,.str r.p,.ref 17 0,slO r.rf,.int .i64 r.ri,slO r.rua,slO r.ruf,.str r.sub])]⟩:=by
  have hk:=lookA_two acc [114,102]
  obtain ⟨a,b,hab⟩:∃ a b,valV (findP acc kRf)=.tup [a,b]:=by cases findP acc kRf <;> exact ⟨_,_,rfl⟩
  have hab':=hab
  rw [kRf] at hab'
  rw [hab'] at hk
  obtain ⟨ha1,hb1,ha2,hb2⟩:=valV_tup hab
  have e:=pd_2 h150 h153 s154 h155 h50 acc ha { r with pct:=some n } a b hab
  simp only [DR.cells] at e
  simp -implicitDefEqProofs [f_dmarc_Parse_9,lk_rmFi,h4,h6,hk,ha1,hb1,ha2,hb2]
  exact e

theorem pd_10 (acc:List KVp) (ha:valsOk acc) (r:DR) (ex:List (Nat × AV)) (h4:lk ex 4=.mp (pmA acc)) (h6:lk ex 6=.ref 46 0):awp Γ f_dmarc_Parse_10 (mdQ (mdPct acc r)) ⟨ex,[(46,.cells r.cells)]⟩:=by
  have hk:=lookA_two acc [112,99,116]
  simp only [mdPct,kPct]
  cases hf:findP acc [112,99,116] with
  | none =>
    rw [hf] at hk
    simp only
    have e:=fun ex h h'=>pd_9 (Γ:=Γ) h150 h153 s154 h155 h50 acc ha r ex h h'
    simp -implicitDefEqProofs [f_dmarc_Parse_10,lk_rmFi,h4,h6,hk,valV]
    refine e _ ?_ ?_ <;> simp [lk_rmFi,h4,h6]
  | some v =>
    rw [hf] at hk
    have hv:=ha _ (findP_in hf)
    have k:con_Atoi [.str v]=some (atoiV v):=if_pos hv.1
    simp only [atoiV] at k
    simp only
    cases hq:Go.Lib.atoiAll v with
    | ok n =>
      rw [hq] at k
      simp only at k ⊢
      by_cases h1:n < 0
      · rw [if_pos (.inl h1)]
        simp -implicitDefEqProofs [f_dmarc_Parse_10,lk_rmFi,h4,h6,hk,valV,acall,h153,k,h1,h50,con_errorsNew,mdV,eN,mPct2,mPct,DR.cells]
      · by_cases h2:100 < n
        · rw [if_pos (.inr h2)]
          simp -implicitDefEqProofs [f_dmarc_Parse_10,lk_rmFi,h4,h6,hk,valV,acall,h153,k,h1,h2,h50,con_errorsNew,mdV,eN,mPct2,mPct,DR.cells]
        · rw [if_neg (by omega)]
          have e:=fun ex h h'=>pd_9b (Γ:=Γ) h150 h153 s154 h155 h50 acc ha r n ex h h'
          simp -implicitDefEqProofs [f_dmarc_Parse_10,lk_rmFi,h4,h6,hk,valV,acall,h153,k,h1,h2,DR.cells]
          refine e _ ?_ ?_ <;> simp [lk_rmFi,h4,h6]
    | range =>
      rw [hq] at k
      simp only at k ⊢
      simp -implicitDefEqProofs [f_dmarc_Parse_10,lk_rmFi,h4,h6,hk,valV,acall,h153,k,h50,con_errorsNew,mdV,eN,mPct,DR.cells]
    | _ =>
      rw [hq] at k
      simp only at k ⊢
      simp -implicitDefEqProofs [f_dmarc_Parse_10,lk_rmFi,h4,h6,hk,valV,acall,h153,k,h50,con_errorsNew,mdV,eN,mPct,DR.cells]

include h152
theorem pd_11 (acc:List KVp) (ha:valsOk acc) (r:DR) (ex:List (Nat × AV)) (h4:lk ex 4=.mp (pmA acc)) (h6:lk ex 6=.ref 46 0):awp Γ f_dmarc_Parse_11 (mdQ (mdFo acc r)) ⟨ex,[(46,.cells r.cells)]⟩:=by
  have hk:=lookA_two acc [102,111]
  simp only [mdFo,kFo]
  cases hf:findP acc [102,111] with
  | none =>
    rw [hf] at hk
    simp only
    have e:=fun ex h h'=>pd_10 (Γ:=Γ) h150 h153 s154 h155 h50 acc ha r ex h h'
    simp -implicitDefEqProofs [f_dmarc_Parse_11,lk_rmFi,h4,h6,hk,valV]
    refine e _ ?_ ?_ <;> simp [lk_rmFi,h4,h6]
  | some v =>
    rw [hf] at hk
    have hv:=ha _ (findP_in hf)
    have k:con_dmFo [.str v]=some (foV v):=if_pos hv
    simp only [foV] at k
    simp only
    cases hq:fo2 0 (splitB 58 v) with
    | some n =>
      rw [hq] at k
      simp only at k ⊢
      have e:=fun ex h h'=>pd_10 (Γ:=Γ) h150 h153 s154 h155 h50 acc ha { r with fo:=n } ex h h'
      simp only [DR.cells] at e
      simp -implicitDefEqProofs [f_dmarc_Parse_11,lk_rmFi,h4,h6,hk,valV,acall,h152,k,DR.cells]
      refine e _ ?_ ?_ <;> simp [lk_rmFi,h4,h6]
    | none =>
      rw [hq] at k
      simp only at k ⊢
      simp -implicitDefEqProofs [f_dmarc_Parse_11,lk_rmFi,h4,h6,hk,valV,acall,h152,k,mdV,eN,DR.cells]

include h151
theorem pd_12 (acc:List KVp) (ha:valsOk acc) (r:DR) (ex:List (Nat × AV)) (h4:lk ex 4=.mp (pmA acc)) (h6:lk ex 6=.ref 46 0):awp Γ f_dmarc_Parse_12 (mdQ (mdAspf acc r)) ⟨ex,[(46,.cells r.cells)]⟩:=by
  have hk:=lookA_two acc [97,115,112,102]
  simp only [mdAspf,kAspf]
  cases hf:findP acc [97,115,112,102] with
  | none =>
    rw [hf] at hk
    simp only
    have e:=fun ex h h'=>pd_11 (Γ:=Γ) h150 h152 h153 s154 h155 h50 acc ha { r with sp:=sR } ex h h'
    simp only [DR.cells,sR] at e
    simp -implicitDefEqProofs [f_dmarc_Parse_12,lk_rmFi,h4,h6,hk,valV,DR.cells]
    refine e _ ?_ ?_ <;> simp [lk_rmFi,h4,h6]
  | some v =>
    rw [hf] at hk
    have k:=align_con (v:=v) (p:=[97,115,112,102]) (by decide)
    simp only
    cases hp:alignB v with
    | false =>
      rw [hp] at k
      simp -implicitDefEqProofs [f_dmarc_Parse_12,lk_rmFi,h4,h6,hk,valV,acall,h151,k,eN,DR.cells,mdV]
    | true =>
      rw [hp] at k
      simp only [if_true]
      have e:=fun ex h h'=>pd_11 (Γ:=Γ) h150 h152 h153 s154 h155 h50 acc ha { r with sp:=v } ex h h'
      simp only [DR.cells] at e
      simp -implicitDefEqProofs [f_dmarc_Parse_12,lk_rmFi,h4,h6,hk,valV,acall,h151,k,DR.cells]
      refine e _ ?_ ?_ <;> simp [lk_rmFi,h4,h6]

theorem pd_13 (acc:List KVp) (ha:valsOk acc) (r:DR) (ex:List (Nat × AV)) (h4:lk ex 4=.mp (pmA acc)) (h6:lk ex 6=.ref 46 0):awp Γ f_dmarc_Parse_13 (mdQ (mdAdkim acc r)) ⟨ex,[(46,.cells r.cells)]⟩:=by
  have hk:=lookA_two acc [97,100,107,105,109]
  simp only [mdAdkim,kAdkim]
  cases hf:findP acc [97,100,107,105,109] with
  | none =>
    rw [hf] at hk
    simp only
    have e:=fun ex h h'=>pd_12 (Γ:=Γ) h150 h151 h152 h153 s154 h155 h50 acc ha { r with dk:=sR } ex h h'
    simp only [DR.cells,sR] at e
    simp -implicitDefEqProofs [f_dmarc_Parse_13,lk_rmFi,h4,h6,hk,valV,DR.cells]
    refine e _ ?_ ?_ <;> simp [lk_rmFi,h4,h6]
  | some v =>
    rw [hf] at hk
    have k:=align_con (v:=v) (p:=[97,100,107,105,109]) (by decide)
    simp only
    cases hp:alignB v with
    | false =>
      rw [hp] at k
      simp -implicitDefEqProofs [f_dmarc_Parse_13,lk_rmFi,h4,h6,hk,valV,acall,h151,k,eN,DR.cells,mdV]
    | true =>
      rw [hp] at k
      simp only [if_true]
      have e:=fun ex h h'=>pd_12 (Γ:=Γ) h150 h151 h152 h153 s154 h155 h50 acc ha { r with dk:=v } ex h h'
      simp only [DR.cells] at e
      simp -implicitDefEqProofs [f_dmarc_Parse_13,lk_rmFi,h4,h6,hk,valV,acall,h151,k,DR.cells]
      refine e _ ?_ ?_ <;> simp [lk_rmFi,h4,h6]
end

def mdText (s:L8):AV ⊕ DR:=if (prd2 (splitB 59 s) []).2=true then mdAll (prd2 (splitB 59 s) []).1 else .inl (eN mBad)

theorem psetL_vals {l:List KVp} {k v:L8} (h:valsOk l) (hv:v.length < mid∧plain v=true):valsOk (psetL l k v):=by
  induction l with
  | nil=>intro q hq; simp [psetL] at hq; subst hq; exact hv
  | cons p r ih =>
    obtain ⟨i,u⟩:=p
    have hr:valsOk r:=fun q hq=>h q (by simp [hq])
    intro q hq
    simp only [psetL] at hq
    split at hq
    · rcases List.mem_cons.1 hq with rfl | hq
      · exact hv
      · exact h q (by simp [hq])
    · rcases List.mem_cons.1 hq with rfl | hq
      · exact h _ (by simp)
      · exact ih hr q hq

theorem trimS_plain {s:L8} (h:plain s=true):plain (trimS s)=true:=plain_sub (fun x hx=>trimS_sub x hx) h

theorem prd2_vals (n:Nat) (hn:n < mid):∀ (L:List L8) (acc:List KVp),(∀ p∈L,p.length≤n∧plain p=true)→valsOk acc→valsOk (prd2 L acc).1
  | [],acc,_,h=>h
  | p::r,acc,hL,h=>by
    have hr:∀ p∈r,p.length≤n∧plain p=true:=fun q hq=>hL q (by simp [hq])
    obtain ⟨hpl,hpp⟩:=hL p (by simp)
    simp only [prd2]
    cases hc:cutAt 61 p with
    | none =>
      simp only
      by_cases ht:trimS p=[]
      · rw [if_pos ht]; exact prd2_vals n hn r acc hr h
      · rw [if_neg ht]; exact h
    | some q =>
      obtain ⟨hql,y,hy⟩:=cutAt_le hc
      rw [hy,plain_app] at hpp
      simp only [Bool.and_eq_true] at hpp
      have hp2:plain q.2=true:=by
        have:=hpp.2
        simp only [plain,List.all_cons,Bool.and_eq_true] at this
        exact this.2
      have:=trimS_length q.2
      exact prd2_vals n hn r _ hr (psetL_vals h ⟨by omega,trimS_plain hp2⟩)

def con_dmParse:List AV→Option AV
  | [.str s]=>if s.length < mid∧plain s=true then some (mdV (mdText s)) else none
  | _=>none

set_option maxHeartbeats 1000000 in
theorem ok_dmParse (Γ:Gam) (h149:Γ.fn 149=con_dmParams) (h150:Γ.fn 150=con_dmPolicy) (h151:Γ.fn 151=con_dmAlign) (h152:Γ.fn 152=con_dmFo) (h153:Γ.fn 153=con_Atoi) (s154:Γ.st 154=con_zzSplit) (h155:Γ.fn 155=con_dmURIs) (h50:Γ.fn 50=con_errorsNew) :
    ∀ args r,con_dmParse args=some r→runs Γ c_dmarc_Parse args (fun v=>v=r):=by
  intro args r h
  simp only [con_dmParse] at h
  split at h <;> (try simp at h; done)
  rename_i s
  obtain ⟨hs,rfl⟩:=ite_some h
  clear h
  have k149:con_dmParams [.str s]=some (prdV (prd2 (splitB 59 s) [])):=if_pos hs
  have ha:=prd2_vals s.length hs.1 (splitB 59 s) [] (fun p hp=>⟨splitB_mem_length 59 s p hp,splitB_plain 59 s p hs.2 hp⟩) (fun q hq=>by simp at hq)
  simp only [mdText]
  generalize prd2 (splitB 59 s) []=x at *
  obtain ⟨acc,ok⟩:=x
  cases ok with
  | false=>simp -implicitDefEqProofs [c_dmarc_Parse,acall,h149,k149,prdV,eN,mdV]
  | true =>
    simp only [prdV] at k149
    simp only at ha
    have hk1:=lookA_one acc [118]
    have hk2:=lookA_two acc [112]
    by_cases hv:(findP acc kV).getD []=sDM
    · have hv':(findP acc [118]).getD []=[68,77,65,82,67,49]:=hv
      rw [hv'] at hk1
      have hm:mdAll acc=(match findP acc [112] with
        | none=>.inl (eN mNoP)
        | some v=>if polB v=true then mdAdkim acc { dr0 with p:=v } else .inl (eN (mPol++kP))):=if_pos hv
      rw [if_pos rfl,hm]
      cases hf:findP acc [112] with
      | none =>
        rw [hf] at hk2
        simp -implicitDefEqProofs [c_dmarc_Parse,acall,h149,k149,hk1,hk2,valV,h50,con_errorsNew,eN,mNoP,mdV]
      | some v =>
        rw [hf] at hk2
        have k:=pol_con (v:=v) (p:=[112]) (by decide)
        simp only
        cases hp:polB v with
        | false =>
          rw [hp] at k
          simp -implicitDefEqProofs [c_dmarc_Parse,acall,h149,k149,hk1,hk2,valV,h150,k,eN,mdV,mPol,kP]
        | true =>
          rw [hp] at k
          have e:=fun ex h h'=>pd_13 (Γ:=Γ) h150 h151 h152 h153 s154 h155 h50 acc ha { dr0 with p:=v } ex h h'
          simp only [DR.cells,dr0] at e
          simp -implicitDefEqProofs [c_dmarc_Parse,acall,h149,k149,hk1,hk2,valV,h150,k]
          refine e _ ?_ ?_ <;> simp
    · have hv':¬ (findP acc [118]).getD []=[68,77,65,82,67,49]:=hv
      have hm:mdAll acc=.inl (.ifc 3 (.gp 1)):=if_neg hv
      rw [if_pos rfl,hm]
      simp -implicitDefEqProofs [c_dmarc_Parse,acall,h149,k149,hk1,hv',eN,mdV]
end Wax


namespace Wax
open Go (IntKind)

def asDR:List AV→Option DR
  | [.str dk,.str sp,.int .i64 fo,.str p,pct,rf,.int .i64 ri,rua,ruf,.str sub]=>match (match pct with | .nilP=>some none | .ptr [.int .i64 n]=>some (some n) | _=>none:Option (Option Int)),asO rf,asO rua,asO ruf with
    | some pct,some rf,some rua,some ruf=>some ⟨dk,sp,fo,p,pct,rf,ri,rua,ruf,sub⟩
    | _,_,_,_=>none
  | _=>none
theorem asDR_cells (r:DR):asDR r.cells=some r:=by
  obtain ⟨dk,sp,fo,p,pct,rf,ri,rua,ruf,sub⟩:=r
  cases pct <;> simp [DR.cells,asDR,asO_slO]
theorem asDR_spec {cs:List AV} {r:DR} (h:asDR cs=some r):cs=r.cells:=by
  unfold asDR at h
  split at h
  · split at h
    · rename_i h0 h1 h2 h3
      simp at h; subst h
      rw [asO_spec h1,asO_spec h2,asO_spec h3]
      split at h0
      · simp at h0; subst h0; rfl
      · simp at h0; subst h0; rfl
      · simp at h0
    · simp at h
  · simp at h

def con_recordOf:List AV→Option AV
  | [.ptr c]=>match asDR c with
    | some r=>if (r.rf.getD []).length≤mid then some (.agg (recM r).cells) else none
    | none=>none
  | _=>none
theorem rec_con {r:DR} (h:(r.rf.getD []).length≤mid):con_recordOf [.ptr r.cells]=some (.agg (recM r).cells):=by
  simp only [con_recordOf,asDR_cells]
  exact if_pos h

theorem slO_alen (hp:List (Nat × AObj)) (x:Option (List L8)):alen hp 1 (slO x)=some (x.getD []).length:=by cases x <;> simp [slO]
def slN (l:List L8):AV:=if l=[] then .nilS else .sl 1 (strsA l)
@[simp] theorem slN_atom (x:List L8):atom (slN x)=true:=by unfold slN; split <;> rfl
@[simp] theorem slN_ref (x:List L8):hasRef (slN x)=false:=by unfold slN; split <;> rfl
@[simp] theorem slN_refs (x:List L8):refs (slN x)=[]:=by unfold slN; split <;> rfl
@[simp] theorem slN_kill (x:List L8) (d:Nat):kill d (slN x)=slN x:=by unfold slN; split <;> rfl
@[simp] theorem slN_snapW (x:List L8) (g:AV→AV):snapW g (slN x)=slN x:=by unfold slN; split <;> rfl
@[simp] theorem slN_cells (x:List L8):cells (slN x)=[slN x]:=by unfold slN; split <;> rfl

def slM (l:List L8):AV:=if l=[] then .nilS else .msl 66 1 0 l.length
def hpM (l:List L8) (h:List (Nat × AObj)):List (Nat × AObj):=if l=[] then h else (66,.cells (strsA l))::h
theorem ro_loop {Γ:Gam} (dk sp:L8) (fo:Int) (p:L8) (P:Int) (hs:Bool) (rf:Option (List L8)) (ri:Int) (rua ruf:Option (List L8)) (sub:L8) (L:List L8) (hL:rf.getD []=L) (hl:L.length≤1099511627776) :
    awp Γ (SCode.loop [2,3,56,57,58] b_impl_recordOf_1) (blockQ 0 (thenQ (awp Γ t_impl_recordOf_2 (finQ [RV.c (some 11) 2] fun v=>v=.agg (MR.cells ⟨dk,sp,fo,p,P,hs,if L=[] then none else rf,ri,rua,ruf,sub⟩)))
      (finQ [RV.c (some 11) 2] fun v=>v=.agg (MR.cells ⟨dk,sp,fo,p,P,hs,if L=[] then none else rf,ri,rua,ruf,sub⟩))))
    ⟨[(2,AV.ref 2 0),(3,AV.ref 3 0),(56,slO rf),(57,AV.int IntKind.i64 L.length),(58,AV.int IntKind.i64 0)],
      [(3,AObj.cells [AV.str dk,AV.str sp,AV.int IntKind.i64 fo,AV.str p,AV.int IntKind.i64 P,AV.bool hs,AV.nilS,AV.int IntKind.i64 ri,slO rua,slO ruf,AV.str sub]),
       (2,AObj.cells [AV.str [],AV.str [],AV.int IntKind.i64 0,AV.str [],AV.int IntKind.i64 0,AV.bool false,AV.nilS,AV.int IntKind.i64 0,AV.nilS,AV.nilS,AV.str []])]⟩:=by
  have cu:=slO_cells rua
  have cf:=slO_cells ruf
  have cn:=slO_cells (if L=[] then none else rf)
  simp only [cells] at cu cf cn
  refine awp_loop2 (σ:=List L8 × List L8) (fun q=>⟨[(2,AV.ref 2 0),(3,AV.ref 3 0),(56,slO rf),(57,AV.int IntKind.i64 L.length),(58,AV.int IntKind.i64 q.1.length)],
      hpM q.1 [(3,AObj.cells [AV.str dk,AV.str sp,AV.int IntKind.i64 fo,AV.str p,AV.int IntKind.i64 P,AV.bool hs,slM q.1,AV.int IntKind.i64 ri,slO rua,slO ruf,AV.str sub]),
       (2,AObj.cells [AV.str [],AV.str [],AV.int IntKind.i64 0,AV.str [],AV.int IntKind.i64 0,AV.bool false,AV.nilS,AV.int IntKind.i64 0,AV.nilS,AV.nilS,AV.str []])]⟩)
    (fun q=>L=q.1++q.2) (fun q=>q.2.length) ([],L) ?_ (by simp) ?_
  · simp [slM,hpM]
  rintro ⟨pre,post⟩ e1 LQ hLQ
  simp only at e1
  have hlen:L.length=pre.length+post.length:=by rw [e1]; simp
  cases post with
  | nil =>
    simp only [List.append_nil] at e1
    subst e1
    by_cases hp:L=[]
    · subst hp
      have hs':slM []=.nilS:=rfl
      have hh:∀ h,hpM [] h=h:=fun h=>rfl
      simp -implicitDefEqProofs [b_impl_recordOf_1,t_impl_recordOf_2,hs',hh,cu,cf,MR.cells]
    · have hs':slM L=.msl 66 1 0 L.length:=by simp [slM,hp]
      have hh:∀ h,hpM L h=(66,.cells (strsA L))::h:=fun h=>by simp [hpM,hp]
      obtain rfl:rf=some L:=by
        cases rf with
        | none=>simp at hL; exact absurd hL hp
        | some l=>simp at hL; rw [hL]
      simp -implicitDefEqProofs [b_impl_recordOf_1,t_impl_recordOf_2,hs',hh,cu,cf,hp,MR.cells]
  | cons x post =>
    obtain rfl:rf=some L:=by
      cases rf with
      | none=>simp at hL; rw [hL] at e1; simp at e1
      | some l=>simp at hL; rw [hL]
    have hlen':L.length=pre.length+(post.length+1):=by rw [e1]; simp
    have hlt:(pre.length:Int) < (L.length:Int):=by omega
    have g:L[pre.length]? = some x:=by rw [e1]; exact get_mid rfl
    have ew:IntKind.i64.wrap ((pre.length:Int)+1)=(pre.length:Int)+1:=wrap64 (by omega) (by omega)
    have fin:=fun st=>hLQ (pre++[x],post) (by rw [e1]; simp) (by simp) st
    have hs2:slM (pre++[x])=.msl 66 1 0 (pre.length+1):=by simp [slM]
    have hh2:∀ h,hpM (pre++[x]) h=(66,.cells (strsA pre++[.str x]))::h:=fun h=>by simp [hpM]
    simp only [hs2,hh2] at fin
    by_cases hp:pre=[]
    · subst hp
      simp at g
      have h0:0 < L.length:=by simp at hlen; omega
      have ew1:IntKind.i64.wrap 1=1:=rfl
      have g0:L[0]=x:=by rw [List.getElem?_eq_getElem h0] at g; injection g
      have hs':slM []=.nilS:=rfl
      have hh:∀ h,hpM [] h=h:=fun h=>rfl
      simp -implicitDefEqProofs [b_impl_recordOf_1,h0,g0,hs',hh,ew1]
      refine fin _ ?_
      simp
    · have hs':slM pre=.msl 66 1 0 pre.length:=by simp [slM,hp]
      have hh:∀ h,hpM pre h=(66,.cells (strsA pre))::h:=fun h=>by simp [hpM,hp]
      simp -implicitDefEqProofs [b_impl_recordOf_1,hlt,g,hs',hh,ew]
      refine ⟨by omega,?_⟩
      refine fin _ ?_
      simp

set_option maxHeartbeats 1000000 in
theorem ok_recordOf (Γ:Gam):∀ args r,con_recordOf args=some r→runs Γ c_impl_recordOf args (fun v=>v=r):=by
  intro args q h
  simp only [con_recordOf] at h
  split at h <;> (try simp at h; done)
  rename_i c
  split at h <;> (try simp at h; done)
  rename_i r hr
  obtain ⟨hl,rfl⟩:=ite_some h
  clear h
  rw [asDR_spec hr]
  clear hr
  obtain ⟨dk,sp,fo,p,pct,rf,ri,rua,ruf,sub⟩:=r
  simp only at hl
  have hl':=hl
  simp only [mid] at hl'
  generalize hL:rf.getD []=L at *
  have hal:∀ hp,alen hp 1 (slO rf)=some L.length:=fun hp=>by rw [slO_alen,hL]
  have hrec:recM ⟨dk,sp,fo,p,pct,rf,ri,rua,ruf,sub⟩=⟨dk,sp,fo,p,pct.getD 0,pct.isSome,if L=[] then none else rf,IntKind.i64.wrap (ri * 1000000000),rua,ruf,sub⟩:=by simp [recM,hL]
  have cu:=slO_cells rua
  have cf:=slO_cells ruf
  have cn:=fun l=>slN_cells l
  simp only [cells] at cu cf cn
  cases pct with
  | none =>
    simp -implicitDefEqProofs [-alen,c_impl_recordOf,DR.cells,hal,cu,cf]
    rw [hrec]
    exact ro_loop dk sp fo p 0 false rf _ rua ruf sub L hL hl'
  | some n =>
    simp -implicitDefEqProofs [-alen,c_impl_recordOf,DR.cells,hal,cu,cf]
    rw [hrec]
    exact ro_loop dk sp fo p n true rf _ rua ruf sub L hL hl'
def mdOk:AV ⊕ DR→Prop
  | .inl e=>e=.ifc 3 (.gp 1)∨∃ m,e=eN m
  | .inr r=>(r.rf.getD []).length≤mid

section
variable (acc:List KVp) (ha:valsOk acc)
theorem sp_ok {r:DR} (h:(r.rf.getD []).length≤mid):mdOk (mdSp acc r):=by
  unfold mdSp
  split
  · exact h
  · split
    · exact h
    · exact .inr ⟨_,rfl⟩
theorem ruf_ok {r:DR} (h:(r.rf.getD []).length≤mid):mdOk (mdRuf acc r):=by
  unfold mdRuf
  apply sp_ok
  split <;> exact h
theorem rua_ok {r:DR} (h:(r.rf.getD []).length≤mid):mdOk (mdRua acc r):=by
  unfold mdRua
  apply ruf_ok
  split <;> exact h
theorem ri_ok {r:DR} (h:(r.rf.getD []).length≤mid):mdOk (mdRi acc r):=by
  unfold mdRi
  split
  · exact rua_ok acc h
  · split
    · split
      · exact .inr ⟨_,rfl⟩
      · exact rua_ok acc h
    · exact .inr ⟨_,rfl⟩
include ha
theorem rf_ok {r:DR} (h:(r.rf.getD []).length≤mid):mdOk (mdRf acc r):=by
  unfold mdRf
  split
  · exact ri_ok acc h
  · rename_i v hf
    have hv:=ha _ (findP_in hf)
    have hl:=splitB_length 58 v
    have hv1:=hv.1
    simp only at hv1
    split
    · rename_i hall
      refine ri_ok acc ?_
      simp only [Option.getD_some]
      omega
    · exact .inr ⟨_,rfl⟩
theorem pct_ok {r:DR} (h:(r.rf.getD []).length≤mid):mdOk (mdPct acc r):=by
  unfold mdPct
  split
  · exact rf_ok acc ha h
  · split
    · split
      · exact .inr ⟨_,rfl⟩
      · exact rf_ok acc ha h
    · exact .inr ⟨_,rfl⟩
theorem fo_ok {r:DR} (h:(r.rf.getD []).length≤mid):mdOk (mdFo acc r):=by
  unfold mdFo
  split
  · exact pct_ok acc ha h
  · split
    · exact pct_ok acc ha h
    · exact .inr ⟨_,rfl⟩
theorem aspf_ok {r:DR} (h:(r.rf.getD []).length≤mid):mdOk (mdAspf acc r):=by
  unfold mdAspf
  split
  · exact fo_ok acc ha h
  · split
    · exact fo_ok acc ha h
    · exact .inr ⟨_,rfl⟩
theorem adkim_ok {r:DR} (h:(r.rf.getD []).length≤mid):mdOk (mdAdkim acc r):=by
  unfold mdAdkim
  split
  · exact aspf_ok acc ha h
  · split
    · exact aspf_ok acc ha h
    · exact .inr ⟨_,rfl⟩
theorem all_ok:mdOk (mdAll acc):=by
  unfold mdAll
  split
  · split
    · exact .inr ⟨_,rfl⟩
    · split
      · exact adkim_ok acc ha (by simp [dr0])
      · exact .inr ⟨_,rfl⟩
  · exact .inl rfl
end
theorem text_ok {s:L8} (hs:s.length < mid) (hp:plain s=true):mdOk (mdText s):=by
  have ha:=prd2_vals s.length hs (splitB 59 s) [] (fun p hp'=>⟨splitB_mem_length 59 s p hp',splitB_plain 59 s p hp hp'⟩) (fun q hq=>by simp at hq)
  unfold mdText
  split
  · exact all_ok _ ha
  · exact .inr ⟨_,rfl⟩

def mpV:AV ⊕ DR→AV
  | .inl _=>.tup [.agg mr0.cells,.bool false]
  | .inr r=>.tup [.agg (recM r).cells,.bool true]
def con_MParse:List AV→Option AV
  | [.str s]=>if s.length < mid∧plain s=true then some (mpV (mdText s)) else none
  | _=>none

theorem ok_MParse (Γ:Gam) (h142:Γ.fn 142=con_dmParse) (h143:Γ.fn 143=con_recordOf):∀ args r,con_MParse args=some r→runs Γ c_impl_MParse args (fun v=>v=r):=by
  intro args q h
  simp only [con_MParse] at h
  split at h <;> (try simp at h; done)
  rename_i s
  obtain ⟨hs,rfl⟩:=ite_some h
  clear h
  have k:con_dmParse [.str s]=some (mdV (mdText s)):=if_pos hs
  have ho:=text_ok hs.1 hs.2
  generalize mdText s=x at *
  cases x with
  | inl e =>
    rcases ho with rfl | ⟨m,rfl⟩ <;> simp -implicitDefEqProofs [c_impl_MParse,acall,h142,k,mdV,mpV,eN,MR.cells,mr0]
  | inr r =>
    have k2:=rec_con ho
    simp only [mpV]
    generalize recM r=R at *
    simp only [MR.cells] at k2
    have cu:=slO_cells R.rua
    have cf:=slO_cells R.ruf
    have cn:=slO_cells R.rf
    simp only [cells] at cu cf cn
    simp -implicitDefEqProofs [c_impl_MParse,acall,h142,h143,k,k2,mdV,cu,cf,cn,MR.cells]
end Wax


namespace Wax
open Go (IntKind)
def tIn:L8:=[118,61,68,77,65,82,67,49,59,32,112,61,110,111,110,101]
def con_awake:List AV→Option AV
  | []=>some (.bool true)
  | _=>none
theorem tIn_ok:mpV (mdText tIn)=.tup [.agg (MR.cells { mr0 with adkim:=sR,aspf:=sR,p:=sNone }),.bool true]:=by rfl
theorem ok_awake (Γ:Gam) (h144:Γ.fn 144=con_AParse0) (h133:Γ.fn 133=con_MParse):∀ args r,con_awake args=some r→runs Γ c_laws_awake args (fun v=>v=r):=by
  intro args r h
  simp only [con_awake] at h
  split at h <;> (try simp at h; done)
  injection h with h
  subst h
  have k:con_AParse0 [.str [97,59,32,100,107,105,109,61,112,97,115,115,32,104,101,97,100,101,114,46,100,61,98]]=some aOut:=rfl
  have k2:con_MParse [.str tIn]=some (.tup [.agg (MR.cells { mr0 with adkim:=sR,aspf:=sR,p:=sNone }),.bool true]):=by
    have e:tIn.length < mid∧plain tIn=true:=⟨by simp [tIn,mid],by kernel_rfl⟩
    simp only [con_MParse]
    rw [if_pos e,tIn_ok]
  simp only [aOut] at k
  simp only [MR.cells,mr0,slO_none,tIn,sR,sNone] at k2
  simp -implicitDefEqProofs [c_laws_awake,acall,h144,h133,k,k2,sNone]
end Wax


namespace Wax
open Go (IntKind)

def con_HasPrefix:List AV→Option AV
  | [.str s,.str p]=>if s.length < big∧p.length < big then some (.bool (decide (p.length≤s.length) && decide (s.take p.length=p))) else none
  | _=>none
theorem ok_HasPrefix0 (Γ:Gam):∀ args r,con_HasPrefix args=some r→runs Γ c_stringslite_HasPrefix args (fun v=>v=r):=by
  intro args r h
  simp only [con_HasPrefix] at h
  split at h <;> (try simp at h; done)
  rename_i s p
  obtain ⟨⟨h1,h2⟩,rfl⟩:=ite_some h
  clear h
  by_cases hl:(p.length:Int)≤(s.length:Int)
  · have hl':p.length≤s.length:=by omega
    simp -implicitDefEqProofs [c_stringslite_HasPrefix,hl,hl']
  · have hl':¬ p.length≤s.length:=by omega
    simp -implicitDefEqProofs [c_stringslite_HasPrefix,hl,hl']
theorem ok_HasPrefix (Γ:Gam) (h198:Γ.fn 198=con_HasPrefix):∀ args r,con_HasPrefix args=some r→runs Γ c_strings_HasPrefix args (fun v=>v=r):=by
  intro args r h
  have h':=h
  simp only [con_HasPrefix] at h
  split at h <;> (try simp at h; done)
  rename_i s p
  obtain ⟨h1,rfl⟩:=ite_some h
  simp -implicitDefEqProofs [c_strings_HasPrefix,acall,h198,h']
end Wax


namespace Wax
@[simp 2000] theorem guardK_tt {Γ:Gam} {dst:Option Nat} {op:SOp} {g:Nat} {r:List SO} {dd:List (List Nat)} {st:St} {K:St→Prop}:guardK (.bool true) Γ dst op g true r dd st K=opsK Γ (⟨dst,op,none⟩::r) dd ⟨(g,.bool true)::st.fr,st.hp⟩ K:=by simp [guardK]
@[simp 2000] theorem guardK_ff {Γ:Gam} {dst:Option Nat} {op:SOp} {g:Nat} {r:List SO} {dd:List (List Nat)} {st:St} {K:St→Prop}:guardK (.bool false) Γ dst op g false r dd st K=opsK Γ (⟨dst,op,none⟩::r) dd ⟨(g,.bool false)::st.fr,st.hp⟩ K:=by simp [guardK]
@[simp 2000] theorem guardK_tf {Γ:Gam} {dst:Option Nat} {op:SOp} {g:Nat} {r:List SO} {dd:List (List Nat)} {st:St} {K:St→Prop}:guardK (.bool true) Γ dst op g false r dd st K=opsK Γ r (dTl dd) ⟨rmF (dHd dd) (putS ((g,.bool true)::st.fr) dst (.tup [])),st.hp⟩ K:=by simp [guardK]
@[simp 2000] theorem guardK_ft {Γ:Gam} {dst:Option Nat} {op:SOp} {g:Nat} {r:List SO} {dd:List (List Nat)} {st:St} {K:St→Prop}:guardK (.bool false) Γ dst op g true r dd st K=opsK Γ r (dTl dd) ⟨rmF (dHd dd) (putS ((g,.bool false)::st.fr) dst (.tup [])),st.hp⟩ K:=by simp [guardK]
end Wax


namespace Wax
open Go (IntKind)

def mtA (m:L8 × AV × Int):AV:=.agg [.str m.1,m.2.1,.int .i64 m.2.2]
def asMts:List AV→Option (List (L8 × AV × Int))
  | []=>some []
  | .agg [.str d,t,.int .i64 f]::r=>(asMts r).map ((d,t,f) :: ·)
  | _::_=>none
theorem asMts_A:∀ l:List (L8 × AV × Int),asMts (l.map mtA)=some l
  | []=>rfl
  | m::l=>by simp [asMts,mtA,asMts_A l]
theorem asMts_spec:∀ {xs:List AV} {l:List (L8 × AV × Int)},asMts xs=some l→xs=l.map mtA
  | [],l,h=>by simp [asMts] at h; subst h; rfl
  | x::r,l,h=>by
    unfold asMts at h
    split at h
    · rename_i e; cases e
    · rename_i d t f r' e
      injection e with e1 e2; subst e1; subst e2
      cases hr:asMts r with
      | none=>rw [hr] at h; simp at h
      | some q=>rw [hr] at h; simp at h; subst h; rw [asMts_spec hr]; rfl
    · simp at h
def mts:AV→Option (List (L8 × AV × Int))
  | .nilS=>some []
  | .sl 3 xs=>asMts xs
  | _=>none
theorem mts_cases {A:AV} {l:List (L8 × AV × Int)} (h:mts A=some l):(A=.nilS∧l=[])∨A=.sl 3 (l.map mtA):=by
  unfold mts at h
  split at h
  · simp at h; exact .inl ⟨rfl,h⟩
  · exact .inr (by rw [asMts_spec h])
  · simp at h
def mtFind (n:L8):List (L8 × AV × Int)→Int ⊕ AV
  | []=>.inl 2
  | m::r=>if m.1=n then (if m.2.2=0 then .inr m.2.1 else .inl m.2.2) else mtFind n r
def mtV:Int ⊕ AV→AV
  | .inl f=>.tup [.nilS,.ifc 16 (.int .i64 f)]
  | .inr t=>.tup [t,.nilI]
def mtsOk (l:List (L8 × AV × Int)):Bool:=decide (l.length < mid) && l.all fun m=>(slStrs m.2.1).isSome
def con_MLk1:List AV→Option AV
  | [.str n,.bx [A]]=>match mts A with
    | some l=>if mtsOk l=true then some (mtV (mtFind n l)) else none
    | none=>none
  | _=>none
theorem ok_MLk1 (Γ:Gam):∀ args r,con_MLk1 args=some r→runs Γ c_impl_MLookup_1 args (fun v=>v=r):=by
  intro args r h
  simp only [con_MLk1] at h
  split at h <;> (try simp at h; done)
  rename_i n A
  split at h <;> (try simp at h; done)
  rename_i l hl
  obtain ⟨hok,rfl⟩:=ite_some h
  clear h
  simp only [mtsOk,Bool.and_eq_true,decide_eq_true_eq,mid,List.all_eq_true] at hok
  obtain ⟨hlen,hall⟩:=hok
  have hlen':l.length < 1099511627776:=of_decide_eq_true hlen
  rcases mts_cases hl with ⟨rfl,rfl⟩ | rfl
  · simp -implicitDefEqProofs [c_impl_MLookup_1]
    refine awp_loop2 (σ:=Unit) (fun _=>⟨[(0,.str n),(7,.nilS),(8,.int .i64 0),(9,.int .i64 0)],[]⟩) (fun _=>True) (fun _=>0) () (by simp) trivial ?_
    rintro - - LQ hLQ
    simp -implicitDefEqProofs [b_impl_MLookup_1_1,t_impl_MLookup_1_2,mtFind,mtV]
  · clear hl
    simp -implicitDefEqProofs [c_impl_MLookup_1]
    refine awp_loop2 (σ:=List (L8 × AV × Int) × List (L8 × AV × Int)) (fun p=>⟨[(0,.str n),(7,.sl 3 (l.map mtA)),(8,.int .i64 l.length),(9,.int .i64 p.1.length)],[]⟩)
      (fun p=>l=p.1++p.2∧mtFind n l=mtFind n p.2) (fun p=>p.2.length) ([],l) (by simp) (by simp) ?_
    rintro ⟨pre,post⟩ ⟨e1,e2⟩ LQ hLQ
    simp only at e1 e2
    cases post with
    | nil =>
      have hl:l.length=pre.length:=by rw [e1]; simp
      simp -implicitDefEqProofs [b_impl_MLookup_1_1,t_impl_MLookup_1_2,hl,e2,mtFind,mtV]
    | cons m post =>
      have hl:l.length=pre.length+(post.length+1):=by rw [e1]; simp
      have hlt:(pre.length:Int) < (l.length:Int):=by omega
      have g:l[pre.length]? = some m:=by rw [e1]; exact get_mid rfl
      have ew:IntKind.i64.wrap ((pre.length:Int)+1)=(pre.length:Int)+1:=wrap64 (by omega) (by omega)
      obtain ⟨d,t,f⟩:=m
      have ht:=hall (d,t,f) (by rw [e1]; simp)
      simp only at ht
      obtain ⟨ts,hts⟩:=Option.isSome_iff_exists.1 ht
      have tc:cells t=[t]∧atom t=true∧hasRef t=false∧(∀ d,kill d t=t)∧refs t=[]:=by
        rcases slStrs_cases hts with ⟨rfl,_⟩ | rfl <;> simp [cells]
      obtain ⟨c1,c2,c3,c4,c5⟩:=tc
      simp only [cells] at c1
      by_cases hn:d=n
      · subst hn
        by_cases hf:f=0
        · subst hf
          simp -implicitDefEqProofs [b_impl_MLookup_1_1,hlt,g,mtA,c1,c2,c3,c4,e2,mtFind,mtV]
        · simp -implicitDefEqProofs [b_impl_MLookup_1_1,hlt,g,mtA,c1,c2,c3,c4,e2,mtFind,mtV,hf]
      · simp -implicitDefEqProofs [b_impl_MLookup_1_1,hlt,g,mtA,c1,c2,c3,c4,hn,ew]
        exact hLQ (pre++[(d,t,f)],post) ⟨by rw [e1]; simp,by rw [e2]; simp [mtFind,hn]⟩ (by simp) _ (by simp)

def vEq:L8:=[118,61]
def isV (t:L8):Bool:=decide (2≤t.length) && decide (t.take 2=vEq)
def lkRec:List L8→Option DR
  | []=>none
  | t::r=>if isV t then (match mdText t with | .inr d=>some d | .inl _=>lkRec r) else lkRec r
def lkOk (t:L8):Prop:=t.length < mid∧(isV t=true→plain t=true∧(mdText t=.inl (.ifc 3 (.gp 1))∨∃ d,mdText t=.inr d))
def lkV:Option DR→AV
  | some d=>.tup [.ptr d.cells,.nilI]
  | none=>.tup [.nilP,.ifc 3 (.gp 2)]
def dmP:L8:=[95,100,109,97,114,99,46]
def lkFail (f:Int):AV :=
  if f=1 then .tup [.nilP,.ifc 17 (.str [84,88,84,32,114,101,99,111,114,100,32,117,110,97,118,97,105,108,97,98,108,101,58,32,108,111,111,107,117,112])]
  else if f=2 then .tup [.nilP,.ifc 3 (.gp 2)]
  else .tup [.nilP,.ifc 3 (.ptr [.str [100,109,97,114,99,58,32,102,97,105,108,101,100,32,116,111,32,108,111,111,107,117,112,32,84,88,84,32,114,101,99,111,114,100,58,32,108,111,111,107,117,112]])]
def con_fErr:List AV→Option AV
  | [.int .i64 _]=>some (.str [108,111,111,107,117,112])
  | _=>none
def con_fTmp:List AV→Option AV
  | [.int .i64 f]=>some (.bool (decide (f=1)))
  | _=>none
def con_fNot:List AV→Option AV
  | [.int .i64 f]=>some (.bool (decide (f=2)))
  | _=>none
theorem ok_fErr (Γ:Gam):∀ args r,con_fErr args=some r→runs Γ c_impl_failed_Error args (fun v=>v=r):=by
  intro args r h
  simp only [con_fErr] at h
  split at h <;> (try simp at h; done)
  simp only [Option.some.injEq] at h; subst h
  simp -implicitDefEqProofs [c_impl_failed_Error]
theorem ok_fTmp (Γ:Gam):∀ args r,con_fTmp args=some r→runs Γ c_impl_failed_Temporary args (fun v=>v=r):=by
  intro args r h
  simp only [con_fTmp] at h
  split at h <;> (try simp at h; done)
  simp only [Option.some.injEq] at h; subst h
  simp -implicitDefEqProofs [c_impl_failed_Temporary]
theorem ok_fNot (Γ:Gam):∀ args r,con_fNot args=some r→runs Γ c_impl_failed_NotFound args (fun v=>v=r):=by
  intro args r h
  simp only [con_fNot] at h
  split at h <;> (try simp at h; done)
  simp only [Option.some.injEq] at h; subst h
  simp -implicitDefEqProofs [c_impl_failed_NotFound]
def con_IsTemp:List AV→Option AV
  | [.ifc t (.str _)]=>if t=17 then some (.bool true) else none
  | [.ifc t (.ptr _)]=>if t=17 then none else some (.bool false)
  | _=>none
theorem ok_IsTemp (Γ:Gam):∀ args r,con_IsTemp args=some r→runs Γ c_dmarc_IsTempFail args (fun v=>v=r):=by
  intro args r h
  simp only [con_IsTemp] at h
  split at h <;> (try simp at h; done)
  · obtain ⟨rfl,rfl⟩:=ite_some h
    simp -implicitDefEqProofs [c_dmarc_IsTempFail]
  · split at h
    · simp at h
    · rename_i ht
      simp only [Option.some.injEq] at h; subst h
      simp -implicitDefEqProofs [c_dmarc_IsTempFail,ht]
open Classical in
noncomputable def con_LWO:List AV→List (Nat × AObj)→Option (AV × List (Nat × AObj))
  | [.str d,.ref 0 0],[(0,.cells [.fn 146 [.bx [A]]])]=>match mts A with
    | some l=>match mtFind (dmP++d) l with
      | .inr t=>match slStrs t with
        | some ts=>if d.length < mid∧mtsOk l=true∧ts.length < mid∧∀ x∈ts,lkOk x then some (lkV (lkRec ts),[(0,.cells [.fn 146 [.bx [A]]])]) else none
        | none=>none
      | .inl f=>if d.length < mid∧mtsOk l=true then some (lkFail f,[(0,.cells [.fn 146 [.bx [A]]])]) else none
    | none=>none
  | _,_=>none

open Classical in
theorem ok_LWO (Γ:Gam) (h146:Γ.fn 146=con_MLk1) (h158:Γ.fn 158=con_HasPrefix) (h142:Γ.fn 142=con_dmParse) (h50:Γ.fn 50=con_errorsNew)
    (mT:Γ.mth 16 "Temporary" = some 185) (mN:Γ.mth 16 "NotFound" = some 184) (mE:Γ.mth 16 "Error" = some 183) (h185:Γ.fn 185=con_fTmp) (h184:Γ.fn 184=con_fNot) (h183:Γ.fn 183=con_fErr) :
    ∀ args hp q,con_LWO args hp=some q→runsS Γ c_dmarc_LookupWithOptions args hp (fun r=>r=some q):=by
  intro args hp q h
  simp only [con_LWO] at h
  split at h <;> (try simp at h; done)
  rename_i d A
  split at h <;> (try simp at h; done)
  rename_i l hl
  split at h
  rotate_left
  · rename_i f hf
    obtain ⟨⟨h1,h2⟩,rfl⟩:=ite_some h
    clear h
    simp only [mid] at h1
    have k1:con_MLk1 [.str (dmP++d),.bx [A]]=some (.tup [.nilS,.ifc 16 (.int .i64 f)]):=by
      simp only [con_MLk1,hl,if_pos h2,hf,mtV]
    simp only [dmP,List.cons_append,List.nil_append] at k1
    have hb:d.length+7 < 4611686018427387904:=by omega
    have hb2:7+d.length < 4611686018427387904:=by omega
    by_cases f1:f=1
    · subst f1
      simp -implicitDefEqProofs [-alen,c_dmarc_LookupWithOptions,acall,h146,k1,hb,hb2,mT,mN,mE,h185,h184,h183,con_fTmp,con_fNot,con_fErr,lkFail,reach_succ]
    · by_cases f2:f=2
      · subst f2
        simp -implicitDefEqProofs [-alen,c_dmarc_LookupWithOptions,acall,h146,k1,hb,hb2,mT,mN,mE,h185,h184,h183,con_fTmp,con_fNot,con_fErr,lkFail,reach_succ]
      · simp -implicitDefEqProofs [-alen,c_dmarc_LookupWithOptions,acall,h146,k1,hb,hb2,mT,mN,mE,h185,h184,h183,con_fTmp,con_fNot,con_fErr,f1,f2,h50,con_errorsNew,lkFail,reach_succ]
  rename_i t ht
  split at h <;> (try simp at h; done)
  rename_i ts hts
  obtain ⟨⟨h1,h2,h3,h4⟩,rfl⟩:=ite_some h
  clear h
  simp only [mid] at h1 h3
  have k1:con_MLk1 [.str (dmP++d),.bx [A]]=some (.tup [t,.nilI]):=by
    simp only [con_MLk1,hl,if_pos h2,ht,mtV]
  simp only [dmP,List.cons_append,List.nil_append] at k1
  have hb:d.length+7 < 4611686018427387904:=by omega
  have hb2:7+d.length < 4611686018427387904:=by omega
  have tr:hasRef t=false∧(∀ d,kill d t=t)∧refs t=[]∧(∀ hp,alen hp 1 t=some ts.length):=by
    rcases slStrs_cases hts with ⟨rfl,rfl⟩ | rfl <;> simp [alen]
  obtain ⟨r1,r2,r3,r4⟩:=tr
  have gt:∀ (i:Nat) (x:L8),ts[i]? = some x→t=.sl 1 (strsA ts):=by
    intro i x hx
    rcases slStrs_cases hts with ⟨_,rfl⟩ | e
    · simp at hx
    · exact e
  simp -implicitDefEqProofs [-alen,c_dmarc_LookupWithOptions,acall,h146,k1,r1,r2,r4,hb,hb2]
  refine awp_loop2 (σ:=List L8 × List L8) (fun p=>⟨[(57,t),(58,.int .i64 ts.length),(59,.int .i64 p.1.length)],[(1000000,.cells [.fn 146 [.bx [A]]])]⟩)
    (fun p=>ts=p.1++p.2∧lkRec ts=lkRec p.2) (fun p=>p.2.length) ([],ts) (by simp) (by simp) ?_
  rintro ⟨pre,post⟩ ⟨e1,e2⟩ LQ hLQ
  simp only at e1 e2
  cases post with
  | nil =>
    have hln:ts.length=pre.length:=by rw [e1]; simp
    simp -implicitDefEqProofs [b_dmarc_LookupWithOptions_1,t_dmarc_LookupWithOptions_2,hln,e2,lkRec,lkV,reach_succ]
  | cons x post =>
    have hln:ts.length=pre.length+(post.length+1):=by rw [e1]; simp
    have hlt:(pre.length:Int) < (ts.length:Int):=by omega
    have g:ts[pre.length]? = some x:=by rw [e1]; exact get_mid rfl
    have ew:IntKind.i64.wrap ((pre.length:Int)+1)=(pre.length:Int)+1:=wrap64 (by omega) (by omega)
    obtain ⟨x1,x2⟩:=h4 x (by rw [e1]; simp)
    have et:=gt _ _ g
    have kp:con_HasPrefix [.str x,.str [118,61]]=some (.bool (isV x)):=if_pos ⟨by simp only [mid] at x1; simp only [big]; omega,by simp [big]⟩
    have more:=fun (hq:lkRec (x::post)=lkRec post) st h=>hLQ (pre++[x],post) ⟨by rw [e1]; simp,by rw [e2,hq]⟩ (by simp) st h
    subst et
    cases hv:isV x with
    | false =>
      rw [hv] at kp
      simp -implicitDefEqProofs [b_dmarc_LookupWithOptions_1,hlt,g,acall,h158,kp,ew]
      exact more (by simp [lkRec,hv]) _ (by simp)
    | true =>
      rw [hv] at kp
      obtain ⟨p1,p2⟩:=x2 hv
      have kd:con_dmParse [.str x]=some (mdV (mdText x)):=if_pos ⟨x1,p1⟩
      rcases p2 with p2 | ⟨D,p2⟩
      · rw [p2] at kd
        simp only [mdV] at kd
        simp -implicitDefEqProofs [b_dmarc_LookupWithOptions_1,hlt,g,acall,h158,kp,h142,kd,ew]
        exact more (by simp [lkRec,hv,p2]) _ (by simp)
      · rw [p2] at kd
        simp only [mdV] at kd
        have e3:lkRec ts=some D:=by rw [e2]; simp [lkRec,hv,p2]
        simp -implicitDefEqProofs [b_dmarc_LookupWithOptions_1,hlt,g,acall,h158,kp,h142,kd,e3,lkV,reach_succ]

open Classical in
noncomputable def con_MLookup:List AV→Option AV
  | [.str d,A]=>match mts A with
    | some l=>match mtFind (dmP++d) l with
      | .inr t=>match slStrs t with
        | some ts=>if d.length < mid∧mtsOk l=true∧ts.length < mid∧∀ x∈ts,lkOk x then some (match lkRec ts with | some D=>.tup [.agg (recM D).cells,.int .i64 0] | none=>.tup [.agg mr0.cells,.int .i64 1]) else none
        | none=>none
      | .inl f=>if d.length < mid∧mtsOk l=true then some (.tup [.agg mr0.cells,.int .i64 (if f=1 then 2 else if f=2 then 1 else 3)]) else none
    | none=>none
  | _=>none
theorem lkRec_ok:∀ {ts:List L8} {D:DR},(∀ x∈ts,lkOk x)→lkRec ts=some D→(D.rf.getD []).length≤mid
  | [],_,_,h=>by simp [lkRec] at h
  | t::r,D,ho,h=>by
    have ih:=fun h=>lkRec_ok (ts:=r) (D:=D) (fun x hx=>ho x (by simp [hx])) h
    obtain ⟨x1,x2⟩:=ho t (by simp)
    simp only [lkRec] at h
    split at h
    · rename_i hv
      have:=text_ok x1 (x2 hv).1
      cases hm:mdText t with
      | inl e=>rw [hm] at h; exact ih h
      | inr d =>
        rw [hm] at h this
        simp only [Option.some.injEq] at h
        subst h; exact this
    · exact ih h
open Classical in
theorem ok_MLookup (Γ:Gam) (s145:Γ.st 145=con_LWO) (h143:Γ.fn 143=con_recordOf) (h147:Γ.fn 147=con_IsTemp) :
    ∀ args r,con_MLookup args=some r→runs Γ c_impl_MLookup args (fun v=>v=r):=by
  intro args r h
  simp only [con_MLookup] at h
  split at h <;> (try simp at h; done)
  rename_i d A
  split at h <;> (try simp at h; done)
  rename_i l hl
  have at1:atom A=true∧cells A=[A]∧hasRef A=false∧(∀ d,kill d A=A):=by
    rcases mts_cases hl with ⟨rfl,_⟩ | rfl <;> simp [cells]
  obtain ⟨a1,a2,a3,a4⟩:=at1
  simp only [cells] at a2
  split at h
  rotate_left
  · rename_i f hf
    obtain ⟨hc,rfl⟩:=ite_some h
    clear h
    have k1:con_LWO [.str d,.ref 0 0] [(0,.cells [.fn 146 [.bx [A]]])]=some (lkFail f,[(0,.cells [.fn 146 [.bx [A]]])]):=by
      simp only [con_LWO,hl,hf,if_pos hc]
    by_cases f1:f=1
    · subst f1
      simp [lkFail] at k1
      simp -implicitDefEqProofs [c_impl_MLookup,acallS,s145,k1,a1,a2,a3,a4,mr0,MR.cells,reach_succ,acall,h147,con_IsTemp,gcA,farC]
    · by_cases f2:f=2
      · subst f2
        simp [lkFail] at k1
        simp -implicitDefEqProofs [c_impl_MLookup,acallS,s145,k1,a1,a2,a3,a4,mr0,MR.cells,reach_succ,acall,h147,con_IsTemp,gcA,farC]
      · simp [lkFail,f1,f2] at k1
        simp -implicitDefEqProofs [c_impl_MLookup,acallS,s145,k1,a1,a2,a3,a4,mr0,MR.cells,reach_succ,acall,h147,con_IsTemp,gcA,farC,f1,f2]
  rename_i t ht
  split at h <;> (try simp at h; done)
  rename_i ts hts
  obtain ⟨hc,rfl⟩:=ite_some h
  clear h
  have k1:con_LWO [.str d,.ref 0 0] [(0,.cells [.fn 146 [.bx [A]]])]=some (lkV (lkRec ts),[(0,.cells [.fn 146 [.bx [A]]])]):=by
    simp only [con_LWO,hl,ht,hts,if_pos hc]
  cases hr:lkRec ts with
  | none =>
    rw [hr] at k1
    simp only [lkV] at k1
    simp -implicitDefEqProofs [c_impl_MLookup,acallS,s145,k1,a1,a2,a3,a4,mr0,MR.cells,reach_succ]
  | some D =>
    rw [hr] at k1
    simp only [lkV] at k1
    have kr:=rec_con (lkRec_ok hc.2.2.2 hr)
    simp only [hr]
    generalize recM D=R at *
    simp only [MR.cells] at kr
    have cu:=slO_cells R.rua
    have cf:=slO_cells R.ruf
    have cn:=slO_cells R.rf
    simp only [cells] at cu cf cn
    simp -implicitDefEqProofs [c_impl_MLookup,acallS,s145,k1,a1,a2,a3,a4,acall,h143,kr,cu,cf,cn,MR.cells,reach_succ]
end Wax


namespace Wax
open Go (IntKind)

def gB (c:UInt8):Prop:=32 < c.toNat∧c.toNat < 127∧c ≠ 59
def allBl (s:L8):Prop:=∀ x∈s,blB x=true
theorem blB_ws {x:UInt8} (h:blB x=true):isWs x.toNat=true:=by
  simp only [blB,decide_eq_true_eq] at h
  simp only [isWs,decide_eq_true_eq]
  omega
theorem gB_ws {x:UInt8} (h:gB x):isWs x.toNat=false:=by
  obtain ⟨h1,h2,_⟩:=h
  simp only [isWs,decide_eq_false_iff_not]
  omega
theorem allBl_ws {s:L8} (h:allBl s):allWs s:=fun x hx=>blB_ws (h x hx)
theorem allBl_no {s:L8} (h:allBl s) {n:Int} (hn:32 < n):noB n s:=by
  intro x hx
  have:=h x hx
  simp only [blB,decide_eq_true_eq] at this
  omega
theorem allBl_nil:allBl []:=by intro x hx; simp at hx
theorem mSpace_bl (n:Nat):allBl (mSpace n):=by
  have h:n % 6 < 6:=Nat.mod_lt _ (by omega)
  simp only [mSpace]
  generalize n % 6=q at *
  match q,h with
  | 0,_=>simp [allBl,blB]
  | 1,_=>simp [allBl,blB]
  | 2,_=>simp [allBl,blB]
  | 3,_=>simp [allBl,blB]
  | 4,_=>simp [allBl,blB]
  | 5,_=>simp [allBl,blB]
theorem spAt_bl (fm:L8) (k:Nat):allBl (spAt fm k):=by
  unfold spAt
  split
  · exact allBl_nil
  · exact mSpace_bl _
theorem trimS_mid {a n b:L8} (ha:allBl a) (hn:∀ x∈n,gB x) (hne:n ≠ []) (hb:allBl b):trimS (a++n++b)=n:=by
  have e:trimS (a++n++b)=trimS (n++b):=by
    rw [List.append_assoc]
    simp only [trimS]
    rw [trimL_app (allBl_ws ha)]
  rw [e]
  exact trimS_word (fun x hx=>gB_ws (hn x hx)) hne (allBl_ws hb)
theorem trimS_bl {a:L8} (ha:allBl a):trimS a=[]:=by
  have e:=trimL_app (a:=a) (b:=[]) (allBl_ws ha)
  simp only [List.append_nil] at e
  simp only [trimS,e]
  rfl

structure Gt (t:KVp):Prop where
  n1:t.1 ≠ []
  n2:∀ x∈t.1,gB x∧x ≠ 61
  v1:t.2 ≠ []
  v2:∀ x∈t.2,gB x

def Pc (p:L8) (t:KVp):Prop:=∃ a b c d,allBl a∧allBl b∧allBl c∧allBl d∧p=a++t.1++b++61::(c++t.2++d)

theorem prd2_pc {p:L8} {t:KVp} (h:Pc p t) (g:Gt t) {acc:List KVp} (hk:hasK t.1 acc=false) (r:List L8):prd2 (p::r) acc=prd2 r (acc++[t]):=by
  obtain ⟨a,b,c,d,ha,hb,hc,hd,rfl⟩:=h
  have hno:noB (61:UInt8).toNat (a++t.1++b):=by
    intro x hx
    simp only [List.mem_append] at hx
    rcases hx with (hx | hx) | hx
    · exact allBl_no ha (by decide) x hx
    · have:=(g.n2 x hx).2
      intro e
      exact this (UInt8.toNat_inj.1 (by exact_mod_cast e))
    · exact allBl_no hb (by decide) x hx
  have e:cutAt 61 (a++t.1++b++61::(c++t.2++d))=some (a++t.1++b,c++t.2++d):=cutAt_noB hno
  simp only [prd2,e]
  rw [trimS_mid ha (fun x hx=>(g.n2 x hx).1) g.n1 hb,trimS_mid hc g.v2 g.v1 hd,psetL_new hk]
theorem prd2_bl {p:L8} (h:allBl p) (r:List L8) (acc:List KVp):prd2 (p::r) acc=prd2 r acc:=by
  have e:cutAt 61 p=none:=by
    have:=cutAt_app 61 p [] (allBl_no h (by decide))
    simpa [cutAt] using this
  simp only [prd2,e,trimS_bl h,if_true]

def tailT (fm:L8) (k:Nat) (e:Bool):L8:=if e then spAt fm (k+1)++[59] else []
def pcsL (fm:L8):Nat→L8→List KVp→Bool→List L8
  | k,cur,[],e=>if e then [cur++spAt fm (k+1),[]] else [cur]
  | k,cur,t::r,e=>(cur++spAt fm (k+1))::pcsL fm (k+4) (spAt fm (k+2)++t.1++spAt fm (k+3)++61::(spAt fm (k+4)++t.2)) r e
theorem noB_app {c:Int} {a b:L8} (ha:noB c a) (hb:noB c b):noB c (a++b):=by
  intro x hx
  rcases List.mem_append.1 hx with hx | hx
  · exact ha x hx
  · exact hb x hx
theorem gB_no {s:L8} (h:∀ x∈s,gB x):noB 59 s:=fun x hx e=>(h x hx).2.2 (UInt8.toNat_inj.1 (by exact_mod_cast e))
theorem cur_no {fm:L8} {k:Nat} {t:KVp} (g:Gt t):noB 59 (spAt fm (k+2)++t.1++spAt fm (k+3)++61::(spAt fm (k+4)++t.2)):=by
  have h1:noB 59 (61::(spAt fm (k+4)++t.2)):=by
    intro x hx
    rcases List.mem_cons.1 hx with rfl | hx
    · decide
    · exact noB_app (allBl_no (spAt_bl fm _) (by decide)) (gB_no g.v2) x hx
  exact noB_app (noB_app (noB_app (allBl_no (spAt_bl fm _) (by decide)) (gB_no fun x hx=>(g.n2 x hx).1)) (allBl_no (spAt_bl fm _) (by decide))) h1
theorem split_tags (fm:L8) (e:Bool):∀ (l:List KVp) (k:Nat) (cur:L8),noB 59 cur→(∀ t∈l,Gt t)→splitB 59 (cur++(tagsT fm k l++tailT fm (k+4 * l.length) e))=pcsL fm k cur l e
  | [],k,cur,hc,_=>by
    cases e with
    | false =>
      simp only [tagsT,tailT,pcsL]
      simpa using splitB_only (b:=59) hc
    | true =>
      have h:=splitB_app (b:=59) (post:=[]) (noB_app hc (allBl_no (spAt_bl fm (k+1)) (by decide)))
      simp only [tagsT,tailT,pcsL,List.nil_append,List.length_nil,Nat.mul_zero,Nat.add_zero,if_true]
      rw [← List.append_assoc]
      simpa [splitB] using h
  | t::r,k,cur,hc,hg=>by
    have ih:=split_tags fm e r (k+4) _ (cur_no (fm:=fm) (k:=k) (hg t (by simp))) (fun t' ht=>hg t' (by simp [ht]))
    have h:=splitB_app (b:=59) (post:=(spAt fm (k+2)++t.1++spAt fm (k+3)++61::(spAt fm (k+4)++t.2))++(tagsT fm (k+4) r++tailT fm (k+4+4 * r.length) e)) (noB_app hc (allBl_no (spAt_bl fm (k+1)) (by decide)))
    simp only [pcsL]
    rw [← ih,← h]
    have e4:k+4 * (t::r).length=k+4+4 * r.length:=by simp; omega
    rw [e4]
    congr 1
    simp [tagsT,oneT]
theorem prd2_pcsL (fm:L8) (e:Bool):∀ (l:List KVp) (k:Nat) (cur:L8) (t:KVp) (acc:List KVp),(∃ a b c,allBl a∧allBl b∧allBl c∧cur=a++t.1++b++61::(c++t.2))→Gt t→(∀ t∈l,Gt t)→((acc++t::l).map (·.1)).Nodup→prd2 (pcsL fm k cur l e) acc=(acc++t::l,true)
  | [],k,cur,t,acc,⟨a,b,c,ha,hb,hc,hcur⟩,g,_,nd=>by
    have hk:hasK t.1 acc=false:=by
      simp only [hasK,List.any_eq_false,decide_eq_true_eq]
      intro u hu e
      rw [List.map_append,List.nodup_append] at nd
      exact nd.2.2 u.1 (List.mem_map.2 ⟨u,hu,rfl⟩) t.1 (by simp) e.symm
    cases e with
    | false =>
      simp only [pcsL]
      rw [if_neg (by simp),prd2_pc ⟨a,b,c,[],ha,hb,hc,allBl_nil,by simpa using hcur⟩ g hk]
      rfl
    | true =>
      simp only [pcsL,if_true]
      rw [prd2_pc ⟨a,b,c,spAt fm (k+1),ha,hb,hc,spAt_bl _ _,by rw [hcur]; simp⟩ g hk,prd2_bl allBl_nil]
      rfl
  | t2::r,k,cur,t,acc,⟨a,b,c,ha,hb,hc,hcur⟩,g,hg,nd=>by
    have hk:hasK t.1 acc=false:=by
      simp only [hasK,List.any_eq_false,decide_eq_true_eq]
      intro u hu e
      rw [List.map_append,List.nodup_append] at nd
      exact nd.2.2 u.1 (List.mem_map.2 ⟨u,hu,rfl⟩) t.1 (by simp) e.symm
    simp only [pcsL]
    rw [prd2_pc ⟨a,b,c,spAt fm (k+1),ha,hb,hc,spAt_bl _ _,by rw [hcur]; simp⟩ g hk]
    rw [prd2_pcsL fm e r (k+4) _ t2 (acc++[t]) ⟨spAt fm (k+2),spAt fm (k+3),spAt fm (k+4),spAt_bl _ _,spAt_bl _ _,spAt_bl _ _,rfl⟩ (hg t2 (by simp)) (fun t' ht=>hg t' (by simp [ht])) (by simpa using nd)]
    simp
theorem gt_v:Gt (kV,sDM):=⟨by simp [kV],by simp only [kV,gB]; decide,by simp [sDM],by simp only [sDM,gB]; decide⟩
theorem mText_eq (fm:L8) (l:List KVp) (e:Bool):mText fm l e=(spAt [] 0++kV++spAt fm 1++61::(spAt fm 2++sDM))++(tagsT fm 2 l++tailT fm (2+4 * l.length) e):=by
  simp [mText,headT,tailT,kV,spAt]
theorem prd2_text (fm:L8) (l:List KVp) (e:Bool) (hg:∀ t∈l,Gt t) (nd:(((kV,sDM)::l).map (·.1)).Nodup):prd2 (splitB 59 (mText fm l e)) []=((kV,sDM)::l,true):=by
  have hno:noB 59 (spAt [] 0++kV++spAt fm 1++61::(spAt fm 2++sDM)):=by
    have h1:noB 59 (61::(spAt fm 2++sDM)):=by
      intro x hx
      rcases List.mem_cons.1 hx with rfl | hx
      · decide
      · exact noB_app (allBl_no (spAt_bl fm _) (by decide)) (gB_no gt_v.v2) x hx
    exact noB_app (noB_app (noB_app (allBl_no (spAt_bl [] _) (by decide)) (gB_no fun x hx=>(gt_v.n2 x hx).1)) (allBl_no (spAt_bl fm _) (by decide))) h1
  rw [mText_eq,split_tags fm e l 2 _ hno hg]
  exact prd2_pcsL fm e l 2 _ (kV,sDM) [] ⟨spAt [] 0,spAt fm 1,spAt fm 2,spAt_bl _ _,spAt_bl _ _,spAt_bl _ _,rfl⟩ gt_v hg (by simpa using nd)
end Wax


namespace Wax
open Go (IntKind)

theorem pu_num:∀ (l:L8) (acc:Nat),l.all digB=true→(acc+1) * 10 ^ l.length≤100000000000→∃ m:Nat,Go.Lib.parseUint10 acc l=.ok m∧numW (acc:Int) l=(m:Int)∧m+1≤100000000000
  | [],acc,_,h=>⟨acc,rfl,rfl,by simpa using h⟩
  | c::r,acc,hd,h=>by
    simp only [List.all_cons,Bool.and_eq_true] at hd
    have hc:=hd.1
    simp only [digB,decide_eq_true_eq] at hc
    have hp:1≤10 ^ r.length:=Nat.pos_of_ne_zero (by simp)
    have h2:(acc+1) * 10 * 10 ^ r.length≤100000000000:=by
      have:(acc+1) * 10 ^ (c::r).length=(acc+1) * 10 * 10 ^ r.length:=by rw [List.length_cons,Nat.pow_succ]; simp [Nat.mul_assoc,Nat.mul_comm]
      omega
    have h3:(acc+1) * 10≤100000000000:=Nat.le_trans (Nat.le_mul_of_pos_right _ hp) h2
    have h4:(acc * 10+(c.toNat - 48)+1) * 10 ^ r.length≤100000000000:=Nat.le_trans (Nat.mul_le_mul_right _ (by omega)) h2
    obtain ⟨m,e1,e2,e3⟩:=pu_num r (acc * 10+(c.toNat - 48)) hd.2 h4
    refine ⟨m,?_,?_,e3⟩
    · simp only [Go.Lib.parseUint10]
      rw [if_pos hc,if_neg (by omega),if_neg (by omega),e1]
    · rw [← e2]
      have w1:IntKind.i64.wrap (10 * (acc:Int))=10 * (acc:Int):=wrap64 (by omega) (by omega)
      have w2:IntKind.i64.wrap (10 * (acc:Int)+((c.toNat:Int) - 48))=((acc * 10+(c.toNat - 48):Nat):Int):=by
        rw [wrap64 (by omega) (by omega)]; omega
      simp only [numW,List.foldl_cons,w1,w2]
theorem num_atoi {v:L8} {n:Int} (h:(mNum v n).2=true) (hn:n≤10):∃ m:Nat,Go.Lib.atoiAll v=.ok (m:Int)∧(mNum v n).1=(m:Int)∧m+1≤100000000000:=by
  unfold mNum at h ⊢
  split at h
  · rename_i hd
    rw [if_pos hd]
    simp only [Bool.and_eq_true,decide_eq_true_eq] at h
    obtain ⟨h1,h2⟩:=h
    have hp:10 ^ v.length≤10 ^ 10:=Nat.pow_le_pow_right (by omega) (by omega)
    obtain ⟨m,e1,e2,e3⟩:=pu_num v 0 hd (by omega)
    refine ⟨m,?_,by simpa using e2,e3⟩
    cases v with
    | nil=>exact absurd rfl h1
    | cons c r =>
      simp only [List.all_cons,Bool.and_eq_true] at hd
      have hc:=hd.1
      simp only [digB,decide_eq_true_eq] at hc
      have e0:Go.Lib.parseMag (c::r)=.ok m:=by simp only [Go.Lib.parseMag]; rw [if_neg (by simp),e1]
      simp only [Go.Lib.atoiAll]
      rw [if_neg (by omega),e0]
      simp only
      rw [if_neg (by omega),if_neg (by omega),if_neg (by omega)]
  · simp at h

theorem tokB_g {c:UInt8} (h:tokB c=true):gB c:=by
  simp only [tokB,Bool.and_eq_true,decide_eq_true_eq,Bool.not_eq_true'] at h
  refine ⟨h.1.1,h.1.2,?_⟩
  rintro rfl
  simp [tokStop] at h
theorem kwB_g {c:UInt8} (h:kwB c=true):gB c∧c ≠ 61:=by
  simp only [kwB,decide_eq_true_eq] at h
  refine ⟨⟨by omega,by omega,?_⟩,?_⟩ <;> rintro rfl <;> simp at h
theorem digB_g {c:UInt8} (h:digB c=true):gB c:=by
  simp only [digB,decide_eq_true_eq] at h
  refine ⟨by omega,by omega,?_⟩; rintro rfl; simp at h
theorem valB_g {c:UInt8} (h:valB c=true):gB c:=by
  simp only [valB,Bool.and_eq_true,decide_eq_true_eq] at h
  exact ⟨h.1.1.1,h.1.1.2,h.1.2⟩
theorem split_g {b:UInt8} (hb:gB b):∀ {v:L8},(∀ p∈splitB b v,∀ x∈p,gB x)→∀ x∈v,gB x
  | [],_,x,hx=>by simp at hx
  | c::r,h,x,hx=>by
    simp only [splitB] at h
    split at h
    · rename_i e
      rcases List.mem_cons.1 hx with rfl | hx
      · rw [e]; exact hb
      · exact split_g hb (v:=r) (fun p hp=>h p (by simp [hp])) x hx
    · cases hs:splitB b r with
      | nil=>exact absurd hs (splitB_ne b r)
      | cons p t =>
        rw [hs] at h
        simp only at h
        rcases List.mem_cons.1 hx with rfl | hx
        · exact h (x::p) (by simp) x (by simp)
        · refine split_g hb (v:=r) ?_ x hx
          intro q hq y hy
          rw [hs] at hq
          rcases List.mem_cons.1 hq with rfl | hq
          · exact h (c::q) (by simp) y (by simp [hy])
          · exact h q (by simp [hq]) y hy
theorem mlist_g {b:UInt8} (hb:gB b) {right:L8→Bool} (hr:∀ p,right p=true→∀ x∈p,gB x) {v:L8} (h:(mlist b right v).isSome=true):(∀ x∈v,gB x)∧mlist b right v=some (splitB b v)∧(splitB b v).all right=true:=by
  unfold mlist at h ⊢
  split at h
  · rename_i ha
    rw [if_pos ha]
    refine ⟨split_g hb (fun p hp=>hr p (List.all_eq_true.1 ha p hp)),rfl,ha⟩
  · simp at h
theorem dom_g {s:L8} (h:mDom s=true):∀ x∈s,gB x:=by
  simp only [mDom,Bool.and_eq_true] at h
  refine split_g (b:=46) (by simp only [gB]; decide) (fun p hp x hx=>?_)
  have:=List.all_eq_true.1 h.1 p hp
  simp only [Bool.and_eq_true,mKw] at this
  exact (kwB_g (List.all_eq_true.1 this.1.1.1.1 x hx)).1
theorem cut_mem {c:UInt8} {s:L8} {p:L8 × L8} (h:cutAt c.toNat s=some p):s=p.1++c::p.2:=by
  obtain ⟨x,hx,e,_⟩:=cutAt_eq (a:=p.1) (b:=p.2) h
  have:x=c:=UInt8.toNat_inj.1 (by exact_mod_cast hx)
  rw [e,this]
theorem addr_g {s:L8} (h:addrB s=true):∀ x∈s,gB x:=by
  unfold addrB at h
  split at h
  · rename_i p hp
    simp only [Bool.and_eq_true,mTok] at h
    rw [cut_mem (c:=64) hp]
    intro x hx
    simp only [List.mem_append,List.mem_cons] at hx
    rcases hx with hx | rfl | hx
    · exact tokB_g (List.all_eq_true.1 h.1.1 x hx)
    · simp only [gB]; decide
    · exact dom_g h.2 x hx
  · simp at h
theorem mNum_g {v:L8} {n:Int} (h:(mNum v n).2=true):∀ x∈v,gB x:=by
  unfold mNum at h
  split at h
  · rename_i hd
    exact fun x hx=>digB_g (List.all_eq_true.1 hd x hx)
  · simp at h
theorem size_g {s:L8} (h:∀ x∈sizeOff s,gB x):∀ x∈s,gB x:=by
  unfold sizeOff at h
  split at h
  · rename_i c hc
    split at h
    · rename_i hk
      have e:s=s.dropLast++[c]:=by
        rw [List.getLast?_eq_some_iff] at hc
        obtain ⟨ys,rfl⟩:=hc
        simp
      rw [e]
      intro x hx
      simp only [List.mem_append,List.mem_singleton] at hx
      rcases hx with hx | rfl
      · exact h x hx
      · simp only [sKmgt,List.contains_eq_mem,decide_eq_true_eq,List.mem_cons,List.not_mem_nil,or_false] at hk
        rcases hk with rfl | rfl | rfl | rfl <;> (simp only [gB]; decide)
    · exact h
  · exact h
theorem muri_g {s:L8} (h:muri s=true):∀ x∈s,gB x:=by
  simp only [muri,Bool.and_eq_true,decide_eq_true_eq] at h
  obtain ⟨⟨h1,h2⟩,h3⟩:=h
  have hd:∀ x∈s.drop 7,gB x:=by
    split at h3
    · rename_i p hp
      simp only [Bool.and_eq_true] at h3
      rw [cut_mem (c:=33) hp]
      intro x hx
      simp only [List.mem_append,List.mem_cons] at hx
      rcases hx with hx | rfl | hx
      · exact addr_g h3.2 x hx
      · simp only [gB]; decide
      · exact size_g (mNum_g h3.1) x hx
    · exact addr_g h3
  rw [← List.take_append_drop 7 s,h2]
  intro x hx
  rcases List.mem_append.1 hx with hx | hx
  · clear h3 hd h1 h2
    have hm:∀ y∈sMailto,gB y:=by simp only [sMailto,gB]; decide
    exact hm x hx
  · exact hd x hx
theorem align_g {s:L8} (h:alignB s=true):∀ x∈s,gB x:=by
  simp only [alignB,decide_eq_true_eq] at h
  rcases h with rfl | rfl <;> (simp only [sR,sS,gB]; decide)
theorem pol_g {s:L8} (h:polB s=true):∀ x∈s,gB x:=by
  simp only [polB,decide_eq_true_eq] at h
  rcases h with rfl | rfl | rfl <;> (simp only [sNone,sQuar,sReject,gB]; decide)
theorem foOk_c {s:L8} (h:foOk s=true):∃ c,s=[c]∧(c=48∨c=49∨c=100∨c=115):=by
  unfold foOk at h
  split at h
  · rename_i c
    simp only [s01ds,List.contains_eq_mem,decide_eq_true_eq,List.mem_cons,List.not_mem_nil,or_false] at h
    exact ⟨c,rfl,h⟩
  · simp at h
theorem foOk_g {s:L8} (h:foOk s=true):∀ x∈s,gB x:=by
  obtain ⟨c,rfl,rfl | rfl | rfl | rfl⟩:=foOk_c h <;> (simp only [gB]; decide)
theorem mOk_g {t:KVp} (h:mOk t=true) (hk:mKnown.contains t.1=true):∀ x∈t.2,gB x:=by
  unfold mOk at h
  split at h; · exact align_g h
  split at h; · exact align_g h
  split at h; · exact pol_g h
  split at h; · exact pol_g h
  split at h; · exact (mlist_g (by simp only [gB]; decide) (fun p=>foOk_g) h).1
  split at h
  · simp only [Bool.and_eq_true] at h; exact mNum_g h.1
  split at h
  · refine (mlist_g (by simp only [gB]; decide) (fun p hp=>?_) h).1
    simp only [decide_eq_true_eq] at hp
    subst hp; simp only [sAfrf,gB]; decide
  split at h
  · simp only [Bool.and_eq_true] at h; exact mNum_g h.1.1
  split at h; · exact (mlist_g (by simp only [gB]; decide) (fun p=>muri_g) h).1
  split at h; · exact (mlist_g (by simp only [gB]; decide) (fun p=>muri_g) h).1
  rename_i a b c d e f g i j k
  simp only [mKnown,List.contains_eq_mem,decide_eq_true_eq,List.mem_cons,List.not_mem_nil,or_false] at hk
  rcases hk with hk | hk | hk | hk | hk | hk | hk | hk | hk | hk <;> exact absurd hk (by assumption)

structure Rd (l:List KVp):Prop where
  ok:∀ t∈l,mOk t=true∧Gt t
  nd:(((kV,sDM)::l).map (·.1)).Nodup
  p:∃ v,findP l kP=some v

def recOf (f:L8→Option L8):DR :=
  { dk:=(f kAdkim).getD sR,sp:=(f kAspf).getD sR,fo:=(match f kFo with | none=>0 | some v=>foOf (splitB 58 v)),p:=(f kP).getD [],pct:=(f kPct).map fun v=>(mNum v 3).1,
    rf:=(f kRf).map (splitB 58),ri:=(match f kRi with | none=>0 | some v=>(mNum v 10).1),rua:=(f kRua).map (splitB 44),ruf:=(f kRuf).map (splitB 44),sub:=(f kSp).getD [] }

theorem fo2_of:∀ (L:List L8) (n:Int),L.all foOk=true→fo2 n L=some (L.foldl (fun n x=>orI n (foBit x)) n)
  | [],n,_=>rfl
  | x::r,n,h=>by
    simp only [List.all_cons,Bool.and_eq_true] at h
    have ih:=fun m=>fo2_of r m h.2
    obtain ⟨c,rfl,hc⟩:=foOk_c h.1
    have ht:trimS [c]=[c]:=by rcases hc with rfl | rfl | rfl | rfl <;> decide
    have hb:fobit2 [c]=some (foBit [c]):=by
      simp only [fobit2,ht]
      rcases hc with rfl | rfl | rfl | rfl <;> decide
    simp only [fo2,hb,ih,List.foldl_cons]
theorem uris_of {v:L8} (h:(splitB 44 v).all muri=true):uris v=splitB 44 v:=by
  simp only [uris]
  have:∀ (L:List L8),L.all muri=true→L.map trimS=L:=by
    intro L
    induction L with
    | nil=>intro _; rfl
    | cons x r ih =>
      intro h
      simp only [List.all_cons,Bool.and_eq_true] at h
      have hne:x ≠ []:=by rintro rfl; simp [muri] at h
      have:=trimS_word (n:=x) (b:=[]) (fun y hy=>gB_ws (muri_g h.1 y hy)) hne (fun y hy=>by simp at hy)
      simp only [List.append_nil] at this
      simp [this,ih h.2]
  exact this _ h

section
variable {acc:List KVp} (ha:∀ k v,findP acc k=some v→k ≠ kV→mOk (k,v)=true)
include ha
theorem mdSp_of (r:DR) (hr:r.sub=[]):mdSp acc r=.inr { r with sub:=(findP acc kSp).getD [] }:=by
  unfold mdSp
  split
  · rename_i h; rw [h]; simp [← hr]
  · rename_i v h
    have:=ha _ _ h (by decide)
    rw [h]
    have hp:polB v=true:=by simpa [mOk,kSp,kAdkim,kAspf,kP] using this
    rw [if_pos hp]; rfl
theorem mdRuf_of (r:DR) (hr:r.sub=[]∧r.ruf=none):mdRuf acc r=.inr { r with sub:=(findP acc kSp).getD [],ruf:=(findP acc kRuf).map (splitB 44) }:=by
  unfold mdRuf
  cases h:findP acc kRuf with
  | none=>simp only; rw [mdSp_of ha _ hr.1]; simp [← hr.2]
  | some v =>
    have:=ha _ _ h (by decide)
    have hp:(mlist 44 muri v).isSome=true:=by simpa [mOk,kSp,kAdkim,kAspf,kP,kFo,kPct,kRf,kRi,kRua,kRuf] using this
    have hu:=(mlist_g (by simp only [gB]; decide) (fun p=>muri_g) hp).2.2
    simp only
    rw [uris_of hu,mdSp_of ha]; rfl
    exact hr.1
theorem mdRua_of (r:DR) (hr:r.sub=[]∧r.ruf=none∧r.rua=none):mdRua acc r=.inr { r with sub:=(findP acc kSp).getD [],ruf:=(findP acc kRuf).map (splitB 44),rua:=(findP acc kRua).map (splitB 44) }:=by
  unfold mdRua
  cases h:findP acc kRua with
  | none=>simp only; rw [mdRuf_of ha _ ⟨hr.1,hr.2.1⟩]; simp [← hr.2.2]
  | some v =>
    have:=ha _ _ h (by decide)
    have hp:(mlist 44 muri v).isSome=true:=by simpa [mOk,kSp,kAdkim,kAspf,kP,kFo,kPct,kRf,kRi,kRua,kRuf] using this
    have hu:=(mlist_g (by simp only [gB]; decide) (fun p=>muri_g) hp).2.2
    simp only
    rw [uris_of hu,mdRuf_of ha]; rfl
    exact ⟨hr.1,hr.2.1⟩
theorem mdRi_of (r:DR) (hr:r.sub=[]∧r.ruf=none∧r.rua=none∧r.ri=0):mdRi acc r=.inr { r with sub:=(findP acc kSp).getD [],ruf:=(findP acc kRuf).map (splitB 44),rua:=(findP acc kRua).map (splitB 44),ri:=(match findP acc kRi with | none=>0 | some v=>(mNum v 10).1) }:=by
  unfold mdRi
  cases h:findP acc kRi with
  | none=>simp only; rw [mdRua_of ha _ ⟨hr.1,hr.2.1,hr.2.2.1⟩]; simp [← hr.2.2.2]
  | some v =>
    have:=ha _ _ h (by decide)
    have hp:((mNum v 10).2=true∧0 < (mNum v 10).1)∧(mNum v 10).1 < 4294967296:=by simpa [mOk,kSp,kAdkim,kAspf,kP,kFo,kPct,kRf,kRi,kRua,kRuf] using this
    obtain ⟨m,e1,e2,e3⟩:=num_atoi hp.1.1 (by omega)
    simp only [e1,e2]
    rw [if_neg (by omega),mdRua_of ha]
    exact ⟨hr.1,hr.2.1,hr.2.2.1⟩
theorem mdRf_of (r:DR) (hr:r.sub=[]∧r.ruf=none∧r.rua=none∧r.ri=0∧r.rf=none):mdRf acc r=.inr { r with sub:=(findP acc kSp).getD [],ruf:=(findP acc kRuf).map (splitB 44),rua:=(findP acc kRua).map (splitB 44),ri:=(match findP acc kRi with | none=>0 | some v=>(mNum v 10).1),rf:=(findP acc kRf).map (splitB 58) }:=by
  unfold mdRf
  cases h:findP acc kRf with
  | none=>simp only; rw [mdRi_of ha _ ⟨hr.1,hr.2.1,hr.2.2.1,hr.2.2.2.1⟩]; simp [← hr.2.2.2.2]
  | some v =>
    have:=ha _ _ h (by decide)
    have hp:(mlist 58 (fun s=>decide (s=sAfrf)) v).isSome=true:=by simpa [mOk,kSp,kAdkim,kAspf,kP,kFo,kPct,kRf,kRi,kRua,kRuf] using this
    have hu:(splitB 58 v).all (fun s=>decide (s=sAfrf))=true:=by
      unfold mlist at hp; split at hp
      · assumption
      · simp at hp
    simp only
    rw [if_pos hu,mdRi_of ha]; rfl
    exact ⟨hr.1,hr.2.1,hr.2.2.1,hr.2.2.2.1⟩
theorem mdPct_of (r:DR) (hr:r.sub=[]∧r.ruf=none∧r.rua=none∧r.ri=0∧r.rf=none∧r.pct=none):mdPct acc r=.inr { r with sub:=(findP acc kSp).getD [],ruf:=(findP acc kRuf).map (splitB 44),rua:=(findP acc kRua).map (splitB 44),ri:=(match findP acc kRi with | none=>0 | some v=>(mNum v 10).1),rf:=(findP acc kRf).map (splitB 58),pct:=(findP acc kPct).map fun v=>(mNum v 3).1 }:=by
  unfold mdPct
  cases h:findP acc kPct with
  | none=>simp only; rw [mdRf_of ha _ ⟨hr.1,hr.2.1,hr.2.2.1,hr.2.2.2.1,hr.2.2.2.2.1⟩]; simp [← hr.2.2.2.2.2]
  | some v =>
    have:=ha _ _ h (by decide)
    have hp:(mNum v 3).2=true∧(mNum v 3).1≤100:=by simpa [mOk,kSp,kAdkim,kAspf,kP,kFo,kPct,kRf,kRi,kRua,kRuf] using this
    obtain ⟨m,e1,e2,e3⟩:=num_atoi hp.1 (by omega)
    simp only [e1,Option.map_some,e2]
    rw [if_neg (by omega),mdRf_of ha]
    exact ⟨hr.1,hr.2.1,hr.2.2.1,hr.2.2.2.1,hr.2.2.2.2.1⟩
theorem mdFo_of (r:DR) (hr:r.sub=[]∧r.ruf=none∧r.rua=none∧r.ri=0∧r.rf=none∧r.pct=none∧r.fo=0):mdFo acc r=.inr { r with sub:=(findP acc kSp).getD [],ruf:=(findP acc kRuf).map (splitB 44),rua:=(findP acc kRua).map (splitB 44),ri:=(match findP acc kRi with | none=>0 | some v=>(mNum v 10).1),rf:=(findP acc kRf).map (splitB 58),pct:=(findP acc kPct).map (fun v=>(mNum v 3).1),fo:=(match findP acc kFo with | none=>0 | some v=>foOf (splitB 58 v)) }:=by
  have hr6:r.sub=[]∧r.ruf=none∧r.rua=none∧r.ri=0∧r.rf=none∧r.pct=none:=⟨hr.1,hr.2.1,hr.2.2.1,hr.2.2.2.1,hr.2.2.2.2.1,hr.2.2.2.2.2.1⟩
  unfold mdFo
  cases h:findP acc kFo with
  | none=>simp only; rw [mdPct_of ha _ hr6]; simp [← hr.2.2.2.2.2.2]
  | some v =>
    have:=ha _ _ h (by decide)
    have hp:(mlist 58 foOk v).isSome=true:=by simpa [mOk,kSp,kAdkim,kAspf,kP,kFo,kPct,kRf,kRi,kRua,kRuf] using this
    have hu:=(mlist_g (by simp only [gB]; decide) (fun p=>foOk_g) hp).2.2
    simp only [fo2_of _ 0 hu]
    rw [mdPct_of ha]; rfl
    exact hr6
theorem mdAspf_of (r:DR) (hr:r.sub=[]∧r.ruf=none∧r.rua=none∧r.ri=0∧r.rf=none∧r.pct=none∧r.fo=0):mdAspf acc r=.inr { r with sub:=(findP acc kSp).getD [],ruf:=(findP acc kRuf).map (splitB 44),rua:=(findP acc kRua).map (splitB 44),ri:=(match findP acc kRi with | none=>0 | some v=>(mNum v 10).1),rf:=(findP acc kRf).map (splitB 58),pct:=(findP acc kPct).map (fun v=>(mNum v 3).1),fo:=(match findP acc kFo with | none=>0 | some v=>foOf (splitB 58 v)),sp:=(findP acc kAspf).getD sR }:=by
  unfold mdAspf
  cases h:findP acc kAspf with
  | none=>simp only; rw [mdFo_of ha]; rfl; exact hr
  | some v =>
    have:=ha _ _ h (by decide)
    have hp:alignB v=true:=by simpa [mOk,kSp,kAdkim,kAspf] using this
    simp only
    rw [if_pos hp,mdFo_of ha]; rfl; exact hr
theorem mdAdkim_of (r:DR) (hr:r.sub=[]∧r.ruf=none∧r.rua=none∧r.ri=0∧r.rf=none∧r.pct=none∧r.fo=0):mdAdkim acc r=.inr { r with sub:=(findP acc kSp).getD [],ruf:=(findP acc kRuf).map (splitB 44),rua:=(findP acc kRua).map (splitB 44),ri:=(match findP acc kRi with | none=>0 | some v=>(mNum v 10).1),rf:=(findP acc kRf).map (splitB 58),pct:=(findP acc kPct).map (fun v=>(mNum v 3).1),fo:=(match findP acc kFo with | none=>0 | some v=>foOf (splitB 58 v)),sp:=(findP acc kAspf).getD sR,dk:=(findP acc kAdkim).getD sR }:=by
  unfold mdAdkim
  cases h:findP acc kAdkim with
  | none=>simp only; rw [mdAspf_of ha]; rfl; exact hr
  | some v =>
    have:=ha _ _ h (by decide)
    have hp:alignB v=true:=by simpa [mOk,kSp,kAdkim] using this
    simp only
    rw [if_pos hp,mdAspf_of ha]; rfl; exact hr
end
theorem mdAll_of {acc:List KVp} (ha:∀ k v,findP acc k=some v→k ≠ kV→mOk (k,v)=true) (hv:findP acc kV=some sDM) {v:L8} (hp:findP acc kP=some v):mdAll acc=.inr (recOf (findP acc)):=by
  unfold mdAll
  have e:(some sDM:Option L8).getD []=sDM:=rfl
  rw [hv,if_pos e,hp]
  have:=ha _ _ hp (by decide)
  have hpv:polB v=true:=by simpa [mOk,kAdkim,kAspf,kP] using this
  simp only
  rw [if_pos hpv,mdAdkim_of ha]
  · simp only [recOf,hp,dr0,Option.getD_some]
    congr 1
  · simp [dr0]
end Wax


namespace Wax
open Go (IntKind)

theorem findP_cons_ne {k i v:L8} {l:List KVp} (h:k ≠ i):findP ((i,v)::l) k=findP l k:=by
  simp only [findP]; rw [if_neg (fun e=>h e.symm)]
theorem findP_of_mem:∀ {l:List KVp} {k v:L8},(l.map (·.1)).Nodup→(k,v)∈l→findP l k=some v
  | [],_,_,_,h=>by simp at h
  | (i,u)::r,k,v,nd,h=>by
    simp only [List.map_cons,List.nodup_cons] at nd
    rcases List.mem_cons.1 h with h2 | h2
    · injection h2 with h3 h4; subst h3; subst h4; simp [findP]
    · have hne:k ≠ i:=fun e=>nd.1 (List.mem_map.2 ⟨(k,v),h2,e⟩)
      rw [findP_cons_ne hne]
      exact findP_of_mem nd.2 h2
theorem recOf_congr {f g:L8→Option L8} (h:∀ k∈mKnown,f k=g k):recOf f=recOf g:=by
  have:=fun k hk=>h k hk
  simp only [recOf,h kAdkim (by decide),h kAspf (by decide),h kFo (by decide),h kP (by decide),h kPct (by decide),h kRf (by decide),h kRi (by decide),h kRua (by decide),h kRuf (by decide),h kSp (by decide)]
theorem known_ne {k:L8} (h:k∈mKnown):k ≠ kV:=by
  simp only [mKnown,List.mem_cons,List.not_mem_nil,or_false] at h
  rcases h with rfl | rfl | rfl | rfl | rfl | rfl | rfl | rfl | rfl | rfl <;> decide
theorem Rd.text {l:List KVp} (h:Rd l) (fm:L8) (e:Bool):mdText (mText fm l e)=.inr (recOf (findP l)):=by
  have hp:=prd2_text fm l e (fun t ht=>(h.ok t ht).2) h.nd
  simp only [mdText,hp,if_true]
  obtain ⟨v,hv⟩:=h.p
  rw [mdAll_of (acc:=(kV,sDM)::l) (v:=v) _ (by simp [findP]) (by rw [findP_cons_ne (by decide)]; exact hv)]
  · rw [recOf_congr (g:=findP l)]
    intro k hk
    exact findP_cons_ne (known_ne hk)
  · intro k v hf hk
    rw [findP_cons_ne hk] at hf
    exact (h.ok _ (findP_in hf)).1

theorem gB_plain {x:UInt8} (h:gB x):plainB x=true:=plainB_true (by have:=h.1; have:=h.2.1; omega)
theorem allBl_plain {s:L8} (h:allBl s):plain s=true:=by
  simp only [plain,List.all_eq_true]
  intro x hx
  have:=h x hx
  simp only [blB,decide_eq_true_eq] at this
  exact plainB_true (by omega)
theorem gt_plain {t:KVp} (g:Gt t):plain t.1=true∧plain t.2=true:=by
  simp only [plain,List.all_eq_true]
  exact ⟨fun x hx=>gB_plain (g.n2 x hx).1,fun x hx=>gB_plain (g.v2 x hx)⟩
theorem plain_cons {x:UInt8} {s:L8}:plain (x::s)=(plainB x && plain s):=rfl
theorem tagsT_plain (fm:L8):∀ (l:List KVp) (k:Nat),(∀ t∈l,Gt t)→plain (tagsT fm k l)=true
  | [],_,_=>rfl
  | t::r,k,h=>by
    have g:=gt_plain (h t (by simp))
    have s:=fun j=>allBl_plain (spAt_bl fm j)
    have b1:plainB 59=true:=by decide
    have b2:plainB 61=true:=by decide
    simp only [tagsT,oneT,plain_app,plain_cons,g.1,g.2,s,b1,b2,tagsT_plain fm r (k+4) (fun t ht=>h t (by simp [ht])),Bool.and_self]
theorem mText_plain {fm:L8} {l:List KVp} {e:Bool} (h:∀ t∈l,Gt t):plain (mText fm l e)=true:=by
  have s:=fun j=>allBl_plain (spAt_bl fm j)
  have b1:plainB 59=true:=by decide
  have b2:plainB 61=true:=by decide
  have b3:plainB 118=true:=by decide
  have b4:plain sDM=true:=by decide
  have b5:plain []=true:=rfl
  cases e <;> simp only [mText,headT,plain_app,plain_cons,b1,b2,b3,b4,b5,s,tagsT_plain fm l 2 h,Bool.and_self,if_true,if_false,Bool.false_eq_true]
theorem mText_len {fm:L8} {l:List KVp} {e:Bool} (h:l.length≤20) (h2:∀ t∈l,t.1.length≤20∧t.2.length≤200):(mText fm l e).length < mid:=by
  have a:=headT_len fm
  have b:=tagsT_len (fm:=fm) (k:=2) h2
  have c:=spAt_len fm (2+4 * l.length+1)
  simp only [mText,List.length_append,mid]
  cases e <;> simp <;> omega

structure Sz (l:List KVp):Prop where
  n:l.length≤20
  t:∀ t∈l,t.1.length≤20∧t.2.length≤200
theorem Rd.parse {l:List KVp} (h:Rd l) (z:Sz l) (fm:L8) (e:Bool):con_MParse [.str (mText fm l e)]=some (.tup [.agg (recM (recOf (findP l))).cells,.bool true]):=by
  have b:(mText fm l e).length < mid∧plain (mText fm l e)=true:=⟨mText_len z.n z.t,mText_plain fun t ht=>(h.ok t ht).2⟩
  simp only [con_MParse]
  rw [if_pos b,h.text]; rfl

theorem has_one {f:L8→Option L8} {k v:L8} (hf:f k=some v) (ho:mOk (k,v)=true):mSameAt k (recM (recOf f)) (mPut mr0 (k,v))=true:=by
  unfold mOk at ho
  simp only at ho
  unfold mSameAt mPut
  simp only
  by_cases h1:k=kAdkim
  · rw [if_pos h1,if_pos h1]; subst h1; simp [recM,recOf,hf]
  rw [if_neg h1,if_neg h1]; rw [if_neg h1] at ho
  by_cases h2:k=kAspf
  · rw [if_pos h2,if_pos h2]; subst h2; simp [recM,recOf,hf]
  rw [if_neg h2,if_neg h2]; rw [if_neg h2] at ho
  by_cases h3:k=kP
  · rw [if_pos h3,if_pos h3]; subst h3; simp [recM,recOf,hf]
  rw [if_neg h3,if_neg h3]; rw [if_neg h3] at ho
  by_cases h4:k=kSp
  · rw [if_pos h4,if_pos h4]; subst h4; simp [recM,recOf,hf]
  rw [if_neg h4,if_neg h4]; rw [if_neg h4] at ho
  by_cases h5:k=kFo
  · rw [if_pos h5,if_pos h5]; rw [if_pos h5] at ho; subst h5
    have:=(mlist_g (by simp only [gB]; decide) (fun p=>foOk_g) ho).2.1
    have e:(mlist 58 foOk v)=some (splitB 58 v):=this
    simp [recM,recOf,hf,e]
  rw [if_neg h5,if_neg h5]; rw [if_neg h5] at ho
  by_cases h6:k=kPct
  · rw [if_pos h6,if_pos h6]; subst h6; simp [recM,recOf,hf]
  rw [if_neg h6,if_neg h6]; rw [if_neg h6] at ho
  by_cases h7:k=kRf
  · rw [if_pos h7,if_pos h7]; rw [if_pos h7] at ho; subst h7
    have e:mlist 58 (fun s=>decide (s=sAfrf)) v=some (splitB 58 v):=by
      unfold mlist at ho ⊢; split at ho
      · rename_i hh; rw [if_pos hh]
      · simp at ho
    simp [recM,recOf,hf,e,splitB_ne]
  rw [if_neg h7,if_neg h7]; rw [if_neg h7] at ho
  by_cases h8:k=kRi
  · rw [if_pos h8,if_pos h8]; subst h8; simp [recM,recOf,hf]
  rw [if_neg h8,if_neg h8]; rw [if_neg h8] at ho
  by_cases h9:k=kRua
  · rw [if_pos h9,if_pos h9]; rw [if_pos h9] at ho; subst h9
    have e:mlist 44 muri v=some (splitB 44 v):=(mlist_g (by simp only [gB]; decide) (fun p=>muri_g) ho).2.1
    simp [recM,recOf,hf,e]
  rw [if_neg h9,if_neg h9]; rw [if_neg h9] at ho
  by_cases h10:k=kRuf
  · rw [if_pos h10,if_pos h10]; rw [if_pos h10] at ho; subst h10
    have e:mlist 44 muri v=some (splitB 44 v):=(mlist_g (by simp only [gB]; decide) (fun p=>muri_g) ho).2.1
    simp [recM,recOf,hf,e]
  rw [if_neg h10]
theorem Rd.nd' {l:List KVp} (h:Rd l):(l.map (·.1)).Nodup:=by
  have:=h.nd
  simp only [List.map_cons,List.nodup_cons] at this
  exact this.2
theorem Rd.has {l:List KVp} (h:Rd l):mHas (recM (recOf (findP l))) l=true:=by
  simp only [mHas,List.all_eq_true]
  rintro ⟨k,v⟩ ht
  exact has_one (findP_of_mem h.nd' ht) (h.ok _ ht).1

theorem tagsOk_nd:∀ (l pre:List KVp),tagsOk pre l=true→(pre.map (·.1)).Nodup→((pre++l).map (·.1)).Nodup
  | [],pre,_,h=>by simpa using h
  | t::r,pre,h,nd=>by
    simp only [tagsOk,Bool.and_eq_true] at h
    have:=tagsOk_nd r (pre++[t]) h.2 ?_
    · simpa using this
    · have h2:=(tagOk_iff pre t.1 t.2).1 h.1
      simp only [List.map_append,List.map_cons,List.map_nil,List.nodup_append,nd,true_and]
      refine ⟨by simp,?_⟩
      intro a ha b hb
      simp only [List.mem_singleton] at hb
      subst hb
      obtain ⟨u,hu,rfl⟩:=List.mem_map.1 ha
      intro e
      exact h2.2.1 u hu (by rw [e])
theorem tagOk_gt {pre:List KVp} {t:KVp} (h:tagOk pre t=true):Gt t∧mOk t=true∧t.1 ≠ kV∧t.1.length≤20∧t.2.length≤200∧(pre=[]→t.1=kP):=by
  obtain ⟨n,v⟩:=t
  obtain ⟨⟨h1,h2,h3,h4,h5,h6⟩,_,h7⟩:=(tagOk_iff pre n v).1 h
  simp only [mKw,Bool.and_eq_true,decide_eq_true_eq] at h6
  refine ⟨⟨h6.1.1.2,fun x hx=>kwB_g (List.all_eq_true.1 h6.1.1.1 x hx),h7.2.2.1,?_⟩,h5,h2,h3,h4,fun e=>h1.resolve_left (fun h=>h e)⟩
  rcases h7.2.1 with hk | hk
  · exact mOk_g h5 hk
  · exact fun x hx=>valB_g (List.all_eq_true.1 hk x hx)
theorem right_each {l:List KVp} (h:mRight l=true) {t:KVp} (ht:t∈l):∃ pre,tagOk pre t=true:=by
  simp only [mRight,Bool.and_eq_true] at h
  obtain ⟨a,b,e⟩:=List.append_of_mem ht
  exact ⟨_,(tagsOk_app [] l).1 h.1.1 a t b e⟩
theorem right_first {l:List KVp} (h:mRight l=true):∃ v r,l=(kP,v)::r:=by
  simp only [mRight,Bool.and_eq_true,decide_eq_true_eq] at h
  cases l with
  | nil=>exact absurd rfl h.1.2
  | cons t r =>
    have:=(tagOk_gt ((tagsOk_app [] (t::r)).1 h.1.1 [] t r rfl)).2.2.2.2.2 rfl
    exact ⟨t.2,r,by rw [← this]⟩
theorem right_rd {l:List KVp} (h:mRight l=true):Rd l∧Sz l:=by
  have h':=h
  simp only [mRight,Bool.and_eq_true,decide_eq_true_eq] at h'
  refine ⟨⟨?_,?_,?_⟩,h'.2,?_⟩
  · intro t ht
    obtain ⟨pre,hp⟩:=right_each h ht
    exact ⟨(tagOk_gt hp).2.1,(tagOk_gt hp).1⟩
  · simp only [List.map_cons,List.nodup_cons]
    refine ⟨?_,by simpa using tagsOk_nd l [] h'.1.1 (by simp)⟩
    intro hm
    obtain ⟨t,ht,e⟩:=List.mem_map.1 hm
    obtain ⟨pre,hp⟩:=right_each h ht
    exact (tagOk_gt hp).2.2.1 e
  · obtain ⟨v,r,rfl⟩:=right_first h
    exact ⟨v,by simp [findP]⟩
  · intro t ht
    obtain ⟨pre,hp⟩:=right_each h ht
    exact ⟨(tagOk_gt hp).2.2.2.1,(tagOk_gt hp).2.2.2.2.1⟩
end Wax


namespace Wax
open Go (IntKind)

theorem sz_short {l:List KVp} (z:Sz l):(recM (recOf (findP l))).short:=by
  have hv:∀ k v,findP l k=some v→v.length≤200:=fun k v h=>(z.t _ (findP_in h)).2
  have hs:∀ (b:UInt8) k,(((findP l k).map (splitB b)).getD []).length < mid:=by
    intro b k
    cases h:findP l k with
    | none=>simp [mid]
    | some v =>
      have:=hv k v h
      have:=splitB_length b v
      simp only [Option.map_some,Option.getD_some,mid]; omega
  refine ⟨?_,hs 44 kRua,hs 44 kRuf⟩
  simp only [recM]
  split
  · simp [mid]
  · exact hs 58 kRf

section
variable {u f:AV} {l:List KVp} {fm:L8}
theorem k_fits (hu:slPairs u=some l) (h:l.length < 9223372036854775808):con_zzFits13 [u]=some (.bool (fits13 l)):=by
  simp only [con_zzFits13,hu]; exact if_pos h
theorem fits_all (h:fits13 l=true):l.length < mid∧∀ t∈l,t.1.length < mid∧t.2.length < mid:=by
  simp only [fits13,Bool.and_eq_true,decide_eq_true_eq,List.all_eq_true,fits14] at h
  refine ⟨by have:=h.1; simp only [mid]; omega,fun t ht=>?_⟩
  have:=h.2 t ht
  simp only [mid]; omega
theorem k_right (hu:slPairs u=some l) (h:fits13 l=true):con_MRight [u]=some (.bool (mRight l)):=by
  simp only [con_MRight,hu]; exact if_pos (fits_all h)
theorem k_text (hu:slPairs u=some l) (hf:slBytes f=some fm) (z:Sz l) (e:Bool):con_MText [u,f,.bool e]=some (.str (mText fm l e)):=by
  simp only [con_MText,hu,hf]; exact if_pos ⟨z.n,z.t⟩
theorem k_same {A B:MR} (hA:A.short) (hB:B.short):con_MSame [.agg A.cells,.agg B.cells]=some (.bool (mSame A B)):=by
  simp only [con_MSame,asMR_cells]
  exact if_pos ⟨hA,hB⟩
end
theorem nil_bytes:slBytes .nilS=some []:=rfl
theorem rd_short {l:List KVp} (h:mRight l=true):(recM (recOf (findP l))).short:=sz_short (right_rd h).2

end Wax


