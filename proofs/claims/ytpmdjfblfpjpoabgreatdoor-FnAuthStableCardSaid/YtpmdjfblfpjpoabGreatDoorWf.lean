/- The machine by which the functions are read, and what is proved of them (part 6): no premise. -/
import Derived.Lib.AtoiAll
import Derived.Lib.ConvBytes
import Derived.Calls
import Derived.Test.YtpmdjfblfpjpoabGreatDoorWe
set_option linter.all false
namespace Wax
open Go (IntKind)

theorem pl_cons {x:UInt8} {s:L8}:plain (x::s)=(plainB x && plain s):=rfl

def wordsV (l:List L8):AV:=match l with | []=>.nilS | _=>.sl 1 (strsA l)
def con_zzFields:List AV→Option AV
  | [.str s]=>if s.length < mid∧plain s=true then some (wordsV (wordsOf s)) else none
  | _=>none

def fromV (pre cur:L8):Int:=if cur=[] then -1 else (pre.length:Int)

set_option maxHeartbeats 1000000 in
theorem ok_zzFields (Γ:Gam) (h165:Γ.fn 165=con_zzIsSpace):∀ args r,con_zzFields args=some r→runs Γ c_authres_zzFields args (fun v=>v=r):=by
  intro args r h
  simp only [con_zzFields] at h
  split at h <;> (try simp at h; done)
  rename_i s
  obtain ⟨⟨hs,hp⟩,rfl⟩:=ite_some h
  clear h
  simp only [mid] at hs
  simp -implicitDefEqProofs [c_authres_zzFields]
  refine awp_loop2 (σ:=List L8 × L8 × L8 × L8) (fun p=>⟨[(0,.str s),(3,grV 24 1 p.1.length),(4,.int .i64 (fromV p.2.1 p.2.2.1)),(8,.ref 8 0)],grH 24 p.1.length (strsA p.1)++[(8,.sit s (p.2.1.length+p.2.2.1.length))]⟩)
    (fun p=>s=p.2.1++(p.2.2.1++p.2.2.2)∧wordsOf s=p.1++wordsGo p.2.2.1 p.2.2.2∧p.1.length≤p.2.1.length) (fun p=>p.2.2.2.length) ([],[],[],s) (by simp [fromV]) (by simp [wordsOf]) ?_
  rintro ⟨outs,pre,cur,post⟩ ⟨e1,e2,e3⟩ LQ hLQ
  simp only at e1 e2 e3
  have hlen:s.length=pre.length+(cur.length+post.length):=by rw [e1]; simp
  cases post with
  | nil =>
    simp only [List.append_nil,wordsGo] at e1 e2
    simp only [List.length_nil,Nat.add_zero] at hlen
    rw [e2]
    by_cases hc:cur=[]
    · subst hc
      cases outs with
      | nil=>simp -implicitDefEqProofs [b_authres_zzFields_1,t_authres_zzFields_2,hlen,fromV,wordsV]
      | cons o outs=>simp -implicitDefEqProofs [b_authres_zzFields_1,t_authres_zzFields_2,hlen,fromV,wordsV]
    · have ed:s.drop pre.length=cur:=by rw [e1,List.drop_left' rfl]
      have hf:fromV pre cur=(pre.length:Int):=if_neg hc
      have hle:(pre.length:Int)≤(s.length:Int):=by omega
      cases outs with
      | nil =>
        simp -implicitDefEqProofs [b_authres_zzFields_1,t_authres_zzFields_2,hlen,hf,hc,wordsV,ed]
        try omega
      | cons o outs =>
        simp at e3
        simp -implicitDefEqProofs [b_authres_zzFields_1,t_authres_zzFields_2,hlen,hf,hc,wordsV,ed]
        exact ⟨by omega,List.take_of_length_le (by simp)⟩
  | cons x post =>
    have hpx:plainB x=true:=by
      rw [e1,plain_app,plain_app,pl_cons] at hp
      simp only [Bool.and_eq_true] at hp
      exact hp.2.2.1
    have hx:=plainB_lt hpx
    have hx2:(x.toNat:Int) < 128:=by omega
    have hpos:pre.length+cur.length < s.length:=by rw [hlen]; simp
    have hdr:s.drop (pre.length+cur.length)=x::post:=by
      rw [e1,← List.append_assoc,show pre.length+cur.length=(pre++cur).length by simp,List.drop_left' rfl]
    have hd:decR (x::post)=(x.toNat,1):=decR_ascii hx
    have hsp:=isSp_ws hpx
    simp only [List.length_cons] at hlen
    cases hw:isWs x.toNat with
    | false =>
      rw [hw] at hsp
      have e2':wordsOf s=outs++wordsGo (cur++[x]) post:=by rw [e2]; simp [wordsGo,hw]
      have f:∀ st,norm [0,3,4,8] st=⟨[(0,.str s),(3,grV 24 1 outs.length),(4,.int .i64 (pre.length:Int)),(8,.ref 8 0)],grH 24 outs.length (strsA outs)++[(8,.sit s (pre.length+(cur.length+1)))]⟩→LQ st:=by
        intro st hst
        refine hLQ (outs,pre,cur++[x],post) ⟨by rw [e1]; simp,e2',e3⟩ (by simp) st ?_
        rw [hst]; simp [fromV]
      by_cases hc:cur=[]
      · subst hc
        have hf:fromV pre ([]:L8) = -1:=if_pos rfl
        simp only [List.length_nil,Nat.add_zero] at hpos hdr
        cases outs with
        | nil =>
          simp -implicitDefEqProofs [b_authres_zzFields_1,hpos,hdr,hd,acall,h165,con_zzIsSpace,hx2,hsp,hf]
          exact f _ (by simp)
        | cons o outs =>
          simp -implicitDefEqProofs [b_authres_zzFields_1,hpos,hdr,hd,acall,h165,con_zzIsSpace,hx2,hsp,hf]
          exact f _ (by simp)
      · have hf:fromV pre cur=(pre.length:Int):=if_neg hc
        have hng:¬ ((pre.length:Int) < 0):=by omega
        cases outs with
        | nil =>
          simp -implicitDefEqProofs [b_authres_zzFields_1,hpos,hdr,hd,acall,h165,con_zzIsSpace,hx2,hsp,hf,hng]
          exact f _ (by simp [Nat.add_assoc])
        | cons o outs =>
          simp -implicitDefEqProofs [b_authres_zzFields_1,hpos,hdr,hd,acall,h165,con_zzIsSpace,hx2,hsp,hf,hng]
          exact f _ (by simp [Nat.add_assoc])
    | true =>
      rw [hw] at hsp
      by_cases hc:cur=[]
      · subst hc
        have hf:fromV pre ([]:L8) = -1:=if_pos rfl
        simp only [List.length_nil,Nat.add_zero] at hpos hdr
        have e2':wordsOf s=outs++wordsGo [] post:=by rw [e2]; simp [wordsGo,hw]
        have f:∀ st,norm [0,3,4,8] st=⟨[(0,.str s),(3,grV 24 1 outs.length),(4,.int .i64 (-1)),(8,.ref 8 0)],grH 24 outs.length (strsA outs)++[(8,.sit s (pre.length+1))]⟩→LQ st:=by
          intro st hst
          refine hLQ (outs,pre++[x],[],post) ⟨by rw [e1]; simp,e2',by simp; omega⟩ (by simp) st ?_
          rw [hst]; simp [fromV]
        cases outs with
        | nil =>
          simp -implicitDefEqProofs [b_authres_zzFields_1,hpos,hdr,hd,acall,h165,con_zzIsSpace,hx2,hsp,hf]
          exact f _ (by simp)
        | cons o outs =>
          simp -implicitDefEqProofs [b_authres_zzFields_1,hpos,hdr,hd,acall,h165,con_zzIsSpace,hx2,hsp,hf]
          exact f _ (by simp)
      · have hf:fromV pre cur=(pre.length:Int):=if_neg hc
        have hcl:0 < cur.length:=List.length_pos_iff.2 hc
        have e2':wordsOf s=(outs++[cur])++wordsGo [] post:=by rw [e2]; simp [wordsGo,hw,hc]
        have et:List.drop pre.length (List.take (pre.length+cur.length) s)=cur:=by
          rw [e1,← List.append_assoc,show pre.length+cur.length=(pre++cur).length by simp,List.take_left' rfl,List.drop_left' rfl]
        have f:∀ st,norm [0,3,4,8] st=⟨[(0,.str s),(3,.msl 24 1 0 (outs.length+1)),(4,.int .i64 (-1)),(8,.ref 8 0)],[(24,.cells (strsA outs++[.str cur])),(8,.sit s (pre.length+cur.length+1))]⟩→LQ st:=by
          intro st hst
          refine hLQ (outs++[cur],pre++cur++[x],[],post) ⟨by rw [e1]; simp,e2',by simp; omega⟩ (by simp) st ?_
          rw [hst]; simp [fromV,Nat.add_assoc]
        have en1:((pre.length:Int)+(cur.length:Int)).toNat=pre.length+cur.length:=by omega
        cases outs with
        | nil =>
          simp -implicitDefEqProofs [b_authres_zzFields_1,hpos,hdr,hd,acall,h165,con_zzIsSpace,hx2,hsp,hf,et,en1]
          refine ⟨?_,f _ ?_⟩
          · omega
          · simp
        | cons o outs =>
          simp at e3
          simp -implicitDefEqProofs [b_authres_zzFields_1,hpos,hdr,hd,acall,h165,con_zzIsSpace,hx2,hsp,hf,et,en1]
          refine ⟨?_,?_,f _ ?_⟩
          · omega
          · omega
          · simp

def arMsg:L8:=[109,115,103,97,117,116,104,58,32,109,97,108,102,111,114,109,101,100,32,97,117,116,104,101,110,116,105,99,97,116,105,111,110,32,109,101,116,104,111,100,32,97,110,100,32,118,97,108,117,101]
def kvOf (s:L8):Option KVp:=(cutAt 61 s).map fun p=>(lowS (trimS p.1),trimS p.2)
def kvV:Option KVp→AV
  | some p=>.tup [.str p.1,.str p.2,.nilI]
  | none=>.tup [.str [],.str [],.ifc 3 (.ptr [.str arMsg])]
def wsAt:L8→Nat→Option Nat
  | [],_=>none
  | x::r,n=>if isWs x.toNat then some n else wsAt r (n+1)
def wsV (s:L8):Int:=match wsAt s 0 with | some n=>(n:Int) | none => -1
def con_indexFunc:List AV→Option AV
  | [.str s,.fn 165 [],.bool true]=>if s.length < mid∧plain s=true then some (.int .i64 (wsV s)) else none
  | _=>none
theorem ok_indexFunc (Γ:Gam) (h165:Γ.fn 165=con_zzIsSpace):∀ args r,con_indexFunc args=some r→runs Γ c_strings_indexFunc args (fun v=>v=r):=by
  intro args r h
  simp only [con_indexFunc] at h
  split at h <;> (try simp at h; done)
  rename_i s
  obtain ⟨⟨hs,hp⟩,rfl⟩:=ite_some h
  clear h
  simp only [mid] at hs
  simp -implicitDefEqProofs [c_strings_indexFunc]
  refine awp_loop2 (σ:=L8 × L8) (fun p=>⟨[(1,.fn 165 []),(2,.bool true),(10,.ref 10 0)],[(10,.sit s p.1.length)]⟩)
    (fun p=>s=p.1++p.2∧wsAt s 0=wsAt p.2 p.1.length) (fun p=>p.2.length) ([],s) (by simp) (by simp) ?_
  rintro ⟨pre,post⟩ ⟨e1,e2⟩ LQ hLQ
  simp only at e1 e2
  cases post with
  | nil =>
    have hlen:s.length=pre.length:=by rw [e1]; simp
    simp -implicitDefEqProofs [hlen,wsV,e2,wsAt]
  | cons x post =>
    have hpx:plainB x=true:=by
      rw [e1,plain_app,pl_cons] at hp
      simp only [Bool.and_eq_true] at hp
      exact hp.2.1
    have hx:=plainB_lt hpx
    have hx2:(x.toNat:Int) < 128:=by omega
    have hlen:s.length=pre.length+(post.length+1):=by rw [e1]; simp
    have hpos:pre.length < s.length:=by omega
    have hdr:s.drop pre.length=x::post:=by rw [e1,List.drop_left' rfl]
    have hd:decR (x::post)=(x.toNat,1):=decR_ascii hx
    have hsp:=isSp_ws hpx
    cases hw:isWs x.toNat with
    | true =>
      rw [hw] at hsp
      simp -implicitDefEqProofs [hpos,hdr,hd,acall,h165,con_zzIsSpace,hx2,hsp,wsV,e2,wsAt,hw,leafEq]
    | false =>
      rw [hw] at hsp
      simp -implicitDefEqProofs [hpos,hdr,hd,acall,h165,con_zzIsSpace,hx2,hsp,leafEq]
      exact hLQ (pre++[x],post) ⟨by rw [e1]; simp,by rw [e2]; simp [wsAt,hw]⟩ (by simp) _ (by simp)
end Wax


namespace Wax
open Go Go.RowKit

def badAt (x:Lib.NumEnd Int):Prop:=(∀ v,x ≠ .ok v)∧x ≠ .range
theorem badAt_eq {x y:Lib.NumEnd Int} (h:badAt x) (hy:badAt y:=by exact ⟨fun v h=>(by cases h),fun h=>(by cases h)⟩):x=y:=by
  cases x <;> cases y <;> first | rfl | exact absurd rfl (h.1 _) | exact absurd rfl h.2 | exact absurd rfl (hy.1 _) | exact absurd rfl hy.2

def AtoiSays (P:Program) (T:Tab) (f:FuncId):Prop :=
  ∃ (e5 tE:TypeId) (gS gR:Nat),lkN T.tys tE=some 4∧lkGl T.gl gS=some [.ifc 3 .junk]∧lkGl T.gl gR=some [.ifc 3 .junk] ∧
  (∀ (s:ByteArray) (_:s.size≤9223372036854775806) (v:Int) (_:Lib.atoiAll s.data.toList=.ok v) (w:World),
    Calls P f #[.string s] w fun e w'=>e=.returned (.tuple #[.int .i64 v,.nilIface])∧(w'=w∨∃ t,w'=Lib.bytesWorld w e5 t)) ∧
  (∀ (s:ByteArray) (_:s.size≤281474976710656) (_:badAt (Lib.atoiAll s.data.toList)) (ev:Value) (w:World) (_:w.cell? ⟨gS,0,none⟩=some ev) (_:ev=.nilIface∨∃ te pe,ev=.iface te pe),
    Calls P f #[.string s] w fun e w'=>∃ y,e=.returned (.tuple #[.int .i64 0,.iface tE y])∧Below w.heap.size w w') ∧
  (∀ (s:ByteArray) (_:s.size≤281474976710656) (_:Lib.atoiAll s.data.toList=.range) (ev:Value) (w:World) (_:w.cell? ⟨gR,0,none⟩=some ev) (_:ev=.nilIface∨∃ te pe,ev=.iface te pe),
    Calls P f #[.string s] w fun e w'=>∃ y,e=.returned (.tuple #[.int .i64 (Lib.atoiSat s.data.toList),.iface tE y])∧Below w.heap.size w w')

def atoiV (s:List UInt8):AV:=match Lib.atoiAll s with
  | .ok v=>.tup [.int .i64 v,.nilI]
  | .range=>.tup [.int .i64 (Lib.atoiSat s),.ifc 4 .junk]
  | _=>.tup [.int .i64 0,.ifc 4 .junk]

def con_Atoi:List AV→Option AV
  | [.str s]=>if s.length < mid then some (atoiV s) else none
  | _=>none

theorem globErr2 {T:Tab} {w:World} {F:Frz} {g:Nat} (hgl:GlobOk T w F) (hg:lkGl T.gl g=some [.ifc 3 .junk]):∃ ev,w.cell? ⟨g,0,none⟩=some ev∧(ev=.nilIface∨∃ te pe,ev=.iface te pe):=by
  have h:=(hgl g _ hg).1
  simp only [RepAt,Rep,and_true] at h
  obtain ⟨_,x,hx,t,y,rfl,_⟩:=h
  exact ⟨_,hx,.inr ⟨t,y,rfl⟩⟩

theorem below_bytesW2 (w:World) (e:TypeId) (s:ByteArray):Below w.heap.size w (Lib.bytesWorld w e s) :=
  ⟨rfl,rfl,rfl,by rw [Lib.bytesWorld_size]; omega,fun j hj=>Lib.bytesWorld_at_old w e s j hj⟩

theorem ok_Atoi {P:Program} {T:Tab} {f:FuncId} (H:AtoiSays P T f):∀ args r,con_Atoi args=some r→OkCall P T f args r:=by
  intro args r h w F vs hF hgl hx
  obtain ⟨e5,tE,gS,gR,ht,hgS,hgR,H1,H2,H3⟩:=H
  simp only [con_Atoi] at h
  split at h <;> (try simp at h; done)
  rename_i s
  obtain ⟨hlen,rfl⟩:=ite_some h
  clear h
  simp only [mid] at hlen
  match vs,hx with
  | [v1],hx =>
    simp only [RepL,and_true,Rep] at hx
    subst hx
    have hsz:(⟨s.toArray⟩:ByteArray).size=s.length:=by show s.toArray.size=_; simp
    have he:Lib.atoiAll (⟨s.toArray⟩:ByteArray).data.toList=Lib.atoiAll s:=rfl
    have he2:Lib.atoiSat (⟨s.toArray⟩:ByteArray).data.toList=Lib.atoiSat s:=rfl
    have bad:∀ (n:Int) e w',(∃ y,e=Ending.returned (.tuple #[.int .i64 n,.iface tE y])∧Below w.heap.size w w')→∃ v,e=.returned v∧Below w.heap.size w w'∧Rep T w' (fun b=>F b∨(w.heap.size≤b∧b < w'.heap.size)) noRho (.tup [.int .i64 n,.ifc 4 .junk]) v:=by
      rintro n e w' ⟨y,rfl,hb⟩
      refine ⟨_,rfl,hb,_,rfl,?_⟩
      simp only [RepL,Rep,and_true,true_and]
      exact ⟨tE,y,rfl,ht⟩
    simp only [atoiV]
    cases hq:Lib.atoiAll s with
    | ok v =>
      refine (H1 _ (by omega) v (by rw [he,hq]) w).mono ?_
      rintro e w' ⟨rfl,hw⟩
      refine ⟨_,rfl,?_,?_⟩
      · rcases hw with rfl | ⟨t,rfl⟩
        · exact Below.refl _ _
        · exact below_bytesW2 _ _ _
      · exact ⟨_,rfl,by simp [RepL,Rep]⟩
    | range =>
      obtain ⟨ev,h1,h2⟩:=globErr2 hgl hgR
      exact (H3 _ (by omega) (by rw [he,hq]) ev w h1 h2).mono (bad _ · ·)
    | _ =>
      obtain ⟨ev,h1,h2⟩:=globErr2 hgl hgS
      exact (H2 _ (by omega) (by rw [he,hq]; exact ⟨fun v h=>(by cases h),fun h=>(by cases h)⟩) ev w h1 h2).mono (bad _ · ·)
end Wax


namespace Wax

theorem lexLt_eq:∀ x y:List UInt8,lexLt x y=decide (x < y)
  | [],[]=>by simp [lexLt,Go.Op.bytesLess]
  | _::_,[]=>by simp [lexLt,Go.Op.bytesLess]
  | [],_::_=>by simp [lexLt,Go.Op.bytesLess]
  | a::x,b::y=>by
    have ih:=lexLt_eq x y
    simp only [lexLt] at ih
    simp only [lexLt,Go.Op.bytesLess,ih,List.cons_lt_cons_iff,Bool.decide_or,Bool.decide_and]
    congr 2

abbrev KV:=List UInt8 × List UInt8

def Asc (l:List KV):Prop:=l.Pairwise fun a b=>a.1 < b.1

theorem lookP_mem:∀ {l:List KV} {k v},(l.map (·.1)).Nodup→(k,v)∈l→lookP l k=v
  | [],k,v,_,h=>by simp at h
  | (i,u)::r,k,v,hn,h=>by
    simp only [List.map_cons,List.nodup_cons] at hn
    rcases List.mem_cons.1 h with h | h
    · simp at h; obtain ⟨rfl,rfl⟩:=h; simp [lookP]
    · have:¬ k=i:=fun e=>hn.1 (by rw [← e]; exact List.mem_map.2 ⟨_,h,rfl⟩)
      simp only [lookP,if_neg this]
      exact lookP_mem hn.2 h

theorem asc_sortP {out acc:List KV} (h:Asc out) (hp:out.Perm acc):out=sortP acc:=by
  have hk:(out.map (·.1)).Pairwise (· < ·):=List.pairwise_map.2 h
  have hnd:(out.map (·.1)).Nodup:=hk.imp fun hab e=>by rw [e] at hab; exact List.lt_irrefl _ hab
  have hnd2:(acc.map (·.1)).Nodup:=(hp.map (·.1)).nodup_iff.1 hnd
  have hs:out.map (·.1)=sortB (acc.map (·.1)):=by
    have p1:(out.map (·.1)).Perm (sortB (acc.map (·.1))):=(hp.map _).trans (List.mergeSort_perm _ _).symm
    refine p1.eq_of_pairwise (le:=fun a b=>a≤b) ?_ ?_ ?_
    · intro a b _ _ h1 h2; exact List.le_antisymm h1 h2
    · exact hk.imp fun hab=>List.le_of_lt hab
    · have:=List.pairwise_mergeSort (le:=fun x y:List UInt8=>decide (x≤y)) (fun a b c h1 h2=>by
        simp only [decide_eq_true_eq] at *; exact List.le_trans h1 h2) (fun a b=>by
        simp only [Bool.or_eq_true,decide_eq_true_eq]; exact List.le_total a b) (acc.map (·.1))
      exact this.imp fun h=>of_decide_eq_true h
  rw [sortP,← hs,List.map_map]
  have:∀ p∈out,(((fun k=>(k,lookP acc k)) ∘ fun x:KV=>x.1) p)=p:=by
    intro p hpm
    have:=lookP_mem (k:=p.1) (v:=p.2) hnd2 (hp.mem_iff.1 hpm)
    simp [this]
  exact (List.map_congr_left this).symm ▸ (List.map_id out).symm

end Wax


namespace Wax
open Go (IntKind)

theorem dm_ok_zzIndex (Γ:Gam):∀ args r,con_zzIndex args=some r→runs Γ c_dmarc_zzIndex args (fun v=>v=r):=by
  intro args r h
  simp only [con_zzIndex] at h
  split at h <;> (try simp at h; done)
  rename_i s sub
  obtain ⟨⟨hs,hb⟩,rfl⟩:=ite_some h
  clear h
  simp only [big] at hs hb
  simp [c_dmarc_zzIndex]
  refine awp_loop (σ:=List UInt8 × List UInt8) (fun p=>⟨[(0,.str s),(1,.str sub),(5,.int .i64 p.1.length)],[]⟩) (fun p=>s=p.1++p.2∧findAt sub s 0=findAt sub p.2 p.1.length) (fun p=>p.2.length) ([],s) (by simp) (by simp) ?_
  rintro ⟨pre,post⟩ ⟨hs1,hs2⟩
  simp only at hs1 hs2
  subst hs1
  simp at hs
  simp (disch:=omega) [wrap64]
  refine ⟨fun hle=>?_,fun hlt=>?_⟩
  · have et:((pre.length:Int)+(sub.length:Int)).toNat=pre.length+sub.length:=by omega
    have e:List.drop pre.length (List.take (pre.length+sub.length) (pre++post))=post.take sub.length:=by
      rw [List.take_length_add_append,List.drop_left]
    rw [et,e]
    refine ⟨⟨by omega,hle⟩,fun h=>?_,fun h=>?_⟩
    · rw [idxV,hs2]
      cases post with
      | nil =>
        have:sub=[]:=by cases sub <;> simp at hle ⊢
        simp [findAt,this]
      | cons x post=>simp only [findAt,isPrefixOf_take sub (x::post) hle,h,decide_true,if_true]
    · cases post with
      | nil =>
        have:sub=[]:=by cases sub <;> simp at hle ⊢
        subst this; simp at h
      | cons x post =>
        refine ⟨(pre++[x],post),by simp,⟨by simp,?_⟩,by simp⟩
        rw [hs2]
        simp only [findAt,isPrefixOf_take sub (x::post) hle,h,decide_false,Bool.false_eq_true,if_false]
        simp
  · rw [idxV,hs2,findAt_none sub post _ (by omega)]


theorem dm_ok_zzSplit (Γ:Gam) (h22:Γ.fn 161=con_zzIndex):∀ args hp q,con_zzSplit args hp=some q→runsS Γ c_dmarc_zzSplit args hp (fun v=>v=some q):=by
  intro args hp q h
  simp only [con_zzSplit] at h
  split at h <;> (try simp at h; done)
  rename_i s b
  obtain ⟨hs,rfl⟩:=ite_some h
  clear h
  simp only [mid] at hs
  have h1:1 < big:=by decide
  simp [c_dmarc_zzSplit,t_dmarc_zzSplit_4]
  refine awp_loop2 (σ:=List (List UInt8) × List UInt8) (fun p=>⟨[(0,.str p.2),(1,.str [b]),(5,grV 51 1 p.1.length)],grH 51 p.1.length (strsA p.1)⟩)
    (fun p=>splitB b s=p.1++splitB b p.2∧p.1.length+p.2.length≤s.length) (fun p=>p.2.length) ([],s) (by simp) (by simp) ?_
  rintro ⟨done,cur⟩ ⟨hs1,hs2⟩ LQ hLQ
  simp only at hs1 hs2
  have hcb:cur.length < big:=by simp only [big]; omega
  simp [b_dmarc_zzSplit_3,acall,h22,con_zzIndex,hcb,h1]
  simp only [idxV,findAt_one]
  rw [splitB_cut b cur] at hs1
  cases hc:cutAt b.toNat cur with
  | none =>
    simp only [hc] at hs1
    rw [hs1]
    cases done with
    | nil=>simp [reach_succ]
    | cons d0 dr =>
      simp [reach_succ]
      simp at hs2
      omega
  | some p =>
    obtain ⟨a,c⟩:=p
    simp only [hc] at hs1
    obtain ⟨x,hx1,hx2,hx3⟩:=cutAt_eq hc
    subst hx2
    simp at hs2
    have fin:∀ st,norm [0,1,5] st=⟨[(0,.str c),(1,.str [b]),(5,grV 51 1 (done++[a]).length)],grH 51 (done++[a]).length (strsA (done++[a]))⟩→LQ st:=by
      intro st hst
      exact hLQ (done++[a],c) ⟨by simpa using hs1,by simp; omega⟩ (by simp; omega) st hst
    have e2:((a.length:Int)+1).toNat=a.length+1:=by omega
    cases done with
    | nil =>
      simp (disch:=omega) [wrap64]
      refine ⟨by omega,by omega,⟨by omega,by omega⟩,fin _ ?_⟩
      simp
    | cons d0 dr =>
      simp at hs2
      simp (disch:=omega) [wrap64]
      refine ⟨by omega,by omega,by omega,⟨by omega,by omega⟩,fin _ ?_⟩
      simp

theorem dm_ok_zzIsSpace (Γ:Gam):∀ args r,con_zzIsSpace args=some r→runs Γ c_dmarc_zzIsSpace args (fun v=>v=r):=by
  intro args r h
  simp only [con_zzIsSpace] at h
  split at h <;> (try simp at h; done)
  rename_i n
  obtain ⟨hn,rfl⟩:=ite_some h
  clear h
  have f1:¬ n=133:=by omega
  have f2:¬ n=160:=by omega
  have f3:¬ n=5760:=by omega
  have f4:¬ 8192≤n:=by omega
  have f5:¬ n=8232:=by omega
  have f6:¬ n=8233:=by omega
  have f7:¬ n=8239:=by omega
  have f8:¬ n=8287:=by omega
  have f9:¬ n=12288:=by omega
  have key:∀ b:Bool,((9≤n∧n≤13)∨n=32 ↔ b=true)→b=isSp n:=by
    intro b hb; unfold isSp; cases b <;> simp at hb ⊢ <;> omega
  by_cases h1:9≤n <;> by_cases h2:n≤13 <;> by_cases h3:n=32 <;>
    simp [c_dmarc_zzIsSpace,f1,f2,f3,f4,f5,f6,f7,f8,f9,h1,h2,h3] <;> first | rfl | exact decide_eq_true (by omega) | exact decide_eq_false (by omega)

theorem dm_trim_inner (Γ:Gam) (Q:APost) (S:List UInt8) (x:UInt8) (i n:Nat) (f t:Int) (hn:S.length=n) (hi:S[i]? = some x) (hx:x.toNat < 128) (hb:n < 1099511627776) (hib:i < 1099511627776)
    (h:Q (.exit 4) ⟨[(0,.str S),(3,.int .i64 f),(4,.int .i64 t),(7,.int .i64 i),(8,.int .i64 1),(54,.bool false)],[]⟩) :
    awp Γ b_dmarc_zzTrimSpace_2 Q ⟨[(0,.str S),(3,.int .i64 f),(4,.int .i64 t),(7,.int .i64 i),(8,.int .i64 1)],[]⟩:=by
  have e192:¬ (192:Int)≤(x.toNat:Int):=by omega
  have ew:IntKind.i64.wrap ((i:Int)+1)=(i:Int)+1:=wrap64 (by omega) (by omega)
  simp only [b_dmarc_zzTrimSpace_2,awp_seq]
  refine awp_region_to ⟨[(0,.str S),(3,.int .i64 f),(4,.int .i64 t),(7,.int .i64 i),(8,.int .i64 1),(54,.bool false)],[]⟩ ?_ ?_
  · by_cases hlast:(i:Int)+1 < (n:Int)
    · have h1:((i:Int)+1 < (n:Int))=True:=eq_true hlast
      simp (maxSteps:=1000000) [ew,hn,hi,e192,h1]
    · have h1:((i:Int)+1 < (n:Int))=False:=eq_false hlast
      simp (maxSteps:=1000000) [ew,hn,h1]
  · simpa using h

theorem dm_trim_loop2 (Γ:Gam) (h23:Γ.fn 168=con_zzIsSpace) (a b:List UInt8) (hp:plain (a++b)=true) (hs:(a++b).length < 1099511627776) (ha:∀ x∈a,isWs x.toNat=true) (hb:∀ x r,b=x::r→isWs x.toNat=false) :
    awp Γ (.loop [0,3,4,7] b_dmarc_zzTrimSpace_4) (blockQ 2 (thenQ (awp Γ t_dmarc_zzTrimSpace_5 (finQ [.t 2] fun v=>v=.str (trimS (a++b)))) (finQ [.t 2] fun v=>v=.str (trimS (a++b)))))
      ⟨[(0,.str (a++b)),(3,.int .i64 a.length),(4,.int .i64 (a++b).length),(7,.int .i64 a.length)],[]⟩:=by
  have htrim:trimS (a++b)=trimR b:=by rw [trimS,trimL_app ha,trimL_nw hb]
  rw [htrim]
  refine awp_loop (σ:=List UInt8 × List UInt8) (fun p=>⟨[(0,.str (a++b)),(3,.int .i64 a.length),(4,.int .i64 (toV (a++b).length a p.1)),(7,.int .i64 (a.length+p.1.length))],[]⟩)
    (fun p=>b=p.1++p.2) (fun p=>p.2.length) ([],b) (by simp [toV]) (by simp) ?_
  rintro ⟨c,d⟩ hcd
  simp only at hcd
  subst hcd
  simp at hs
  cases d with
  | nil =>
    simp [b_dmarc_zzTrimSpace_4,t_dmarc_zzTrimSpace_5]
    refine ⟨fun h=>?_,fun h=>?_⟩
    · have:c=[]:=List.length_eq_zero_iff.1 (by omega)
      subst this; simp [trimR]
    · have hc:c ≠ []:=by intro e; subst e; simp at h
      obtain ⟨t,ht⟩:=trimR_prefix c
      have hl:(trimR c).length≤c.length:=trimR_length c
      have e1:toV (a.length+c.length) a c=(a.length:Int)+((trimR c).length:Int):=if_neg hc
      have e2:((a.length:Int)+((trimR c).length:Int)).toNat=a.length+(trimR c).length:=by omega
      rw [e1,e2]
      refine ⟨⟨by omega,by omega⟩,?_⟩
      rw [List.take_length_add_append,List.drop_left]
      generalize trimR c=q at ht ⊢
      subst ht; simp
  | cons x d =>
    have hpx:plainB x=true:=by
      have h1:(plain a && (plain c && plain (x::d)))=true:=by rw [← plain_app,← plain_app]; exact hp
      simp only [Bool.and_eq_true,plain,List.all_cons] at h1
      exact h1.2.2.1
    have hx:=plainB_lt hpx
    have hx2:(x.toNat:Int) < 128:=by omega
    have step:∀ v:Int,v=toV (a++(c++x::d)).length a (c++[x])→loopQ [0,3,4,7] (fun p:List UInt8 × List UInt8=>⟨[(0,.str (a++(c++x::d))),(3,.int .i64 a.length),(4,.int .i64 (toV (a++(c++x::d)).length a p.1)),(7,.int .i64 (a.length+p.1.length))],[]⟩)
        (fun p=>c++x::d=p.1++p.2) (fun p=>p.2.length) (c,x::d)
        ⟨[(0,.str (a++(c++x::d))),(3,.int .i64 a.length),(4,.int .i64 v),(7,.int .i64 (a.length+c.length+1))],[]⟩:=by
      intro v hv
      subst hv
      refine ⟨(c++[x],d),?_,by simp,by simp⟩
      have:((a.length:Int)+c.length+1)=(a.length:Int)+((c++[x]).length:Int):=by simp; omega
      rw [this]
      simp
    generalize hl:loopQ [0,3,4,7] (fun p:List UInt8 × List UInt8=>(⟨[(0,.str (a++(c++x::d))),(3,.int .i64 a.length),(4,.int .i64 (toV (a++(c++x::d)).length a p.1)),(7,.int .i64 (a.length+p.1.length))],[]⟩:St))
        (fun p=>c++x::d=p.1++p.2) (fun p=>p.2.length) (c,x::d)=LQ at step ⊢
    clear hl
    simp at hs
    have hget:(a++(c++x::d))[a.length+c.length]? = some x:=by
      rw [← List.append_assoc,List.getElem?_append_right (by simp)]; simp
    simp [b_dmarc_zzTrimSpace_4]
    refine ⟨fun _=>?_,fun h=>by omega⟩
    refine awp_loop (σ:=Unit) (fun _=>⟨[(0,.str (a++(c++x::d))),(3,.int .i64 a.length),(4,.int .i64 (toV (a.length+(c.length+(d.length+1))) a c)),(7,.int .i64 (a.length+c.length)),(8,.int .i64 1)],[]⟩) (fun _=>True) (fun _=>0) () (by simp) trivial ?_
    intro _ _
    have en:((a.length:Int)+(c.length:Int))=((a.length+c.length:Nat):Int):=by omega
    have ew:IntKind.i64.wrap ((a.length:Int)+c.length+1)=(a.length:Int)+c.length+1:=wrap64 (by omega) (by omega)
    rw [en]
    refine dm_trim_inner Γ _ (a++(c++x::d)) x (a.length+c.length) (a.length+(c.length+(d.length+1))) _ _ (by simp) hget hx (by omega) (by omega) ?_
    rw [← en]
    have en2:((a.length:Int)+(c.length:Int)).toNat=a.length+c.length:=by omega
    have en3:((a.length:Int)+(c.length:Int)+1).toNat=a.length+c.length+1:=by omega
    have esl:List.drop (a.length+c.length) (List.take (a.length+c.length+1) (a++(c++x::d)))=[x]:=by
      rw [← List.append_assoc,show a.length+c.length=(a++c).length by simp,List.take_length_add_append,List.drop_left]; rfl
    have erun:runesF 1 [x]=[x.toNat]:=by simp [runesF,decR_ascii hx]
    simp [t_dmarc_zzTrimSpace_3,ew,en2,en3,esl,erun,rcA,acall,h23,con_zzIsSpace,hx2]
    refine ⟨⟨by omega,by omega,by omega⟩,fun hw=>step _ ?_,fun hw=>step _ ?_⟩
    · rw [isSp_ws hpx] at hw
      simp [toV,trimR_nw hw]
      try omega
    · rw [isSp_ws hpx] at hw
      have hc:c ≠ []:=by
        intro e; subst e
        rw [hb x d rfl] at hw; simp at hw
      simp [toV,hc,trimR_ws hw]

theorem dm_ok_zzTrimSpace (Γ:Gam) (h23:Γ.fn 168=con_zzIsSpace):∀ args r,con_zzTrimSpace args=some r→runs Γ c_dmarc_zzTrimSpace args (fun v=>v=r):=by
  intro args r h
  simp only [con_zzTrimSpace] at h
  split at h <;> (try simp at h; done)
  rename_i s
  obtain ⟨⟨hs,hp⟩,rfl⟩:=ite_some h
  clear h
  simp only [mid] at hs
  simp [c_dmarc_zzTrimSpace]
  refine awp_loop (σ:=List UInt8 × List UInt8) (fun p=>⟨[(0,.str s),(3,.int .i64 s.length),(4,.int .i64 s.length),(16,.ref 16 0)],[(16,.sit s p.1.length)]⟩)
    (fun p=>s=p.1++p.2∧∀ x∈p.1,isWs x.toNat=true) (fun p=>p.2.length) ([],s) (by simp) (by simp) ?_
  rintro ⟨a,b⟩ ⟨hs1,ha⟩
  simp only at hs1 ha
  cases b with
  | nil =>
    simp at hs1
    subst hs1
    simp [b_dmarc_zzTrimSpace_1,t_dmarc_zzTrimSpace_6]
    have:=dm_trim_loop2 Γ h23 s [] (by simpa using hp) (by simpa using hs) ha (by simp)
    simpa using this
  | cons x b =>
    subst hs1
    have hpx:plainB x=true∧plain b=true:=by
      have:(plain a && plain (x::b))=true:=by rw [← plain_app]; exact hp
      simp only [Bool.and_eq_true] at this
      have h2:=this.2
      simp only [plain,List.all_cons,Bool.and_eq_true] at h2
      exact h2
    have e1:List.drop a.length (a++x::b)=x::b:=by simp
    have hx:=plainB_lt hpx.1
    have hx2:(x.toNat:Int) < 128:=by omega
    simp [b_dmarc_zzTrimSpace_1,t_dmarc_zzTrimSpace_6,e1,decR_ascii hx,acall,h23,con_zzIsSpace,hx2]
    refine ⟨fun hw=>?_,fun hw=>?_⟩
    · have:=dm_trim_loop2 Γ h23 a (x::b) hp hs ha (fun y r e=>by injection e with e1 e2; subst e1; rw [← isSp_ws hpx.1]; exact hw)
      simpa using this
    · refine ⟨(a++[x],b),by simp,⟨by simp,?_⟩,by simp⟩
      intro y hy
      simp at hy
      rcases hy with hy | rfl
      · exact ha y hy
      · rw [← isSp_ws hpx.1]; exact hw

def cutTwo (c:Int) (s:List UInt8):List (List UInt8):=match cutAt c s with | none=>[s] | some p=>[p.1,p.2]

def con_dmCut2:List AV→Option AV
  | [.str s,.int .u8 c]=>if s.length < mid then some (.sl 1 (strsA (cutTwo c s))) else none
  | _=>none

theorem dm_ok_zzCut2 (Γ:Gam):∀ args r,con_dmCut2 args=some r→runs Γ c_dmarc_zzCut2 args (fun v=>v=r):=by
  intro args r h
  simp only [con_dmCut2] at h
  split at h <;> (try simp at h; done)
  rename_i s c
  obtain ⟨hs,rfl⟩:=ite_some h
  clear h
  simp only [mid] at hs
  simp -implicitDefEqProofs [c_dmarc_zzCut2]
  refine awp_loop2 (σ:=List UInt8 × List UInt8) (fun p=>⟨[(0,.str s),(1,.int .u8 c),(5,.int .i64 p.1.length)],[]⟩) (fun p=>s=p.1++p.2∧noB c p.1) (fun p=>p.2.length) ([],s) (by simp) (by simp [noB]) ?_
  rintro ⟨pre,post⟩ ⟨hs1,hs2⟩ LQ hLQ
  simp only at hs1 hs2
  subst hs1
  cases post with
  | nil =>
    have e:cutAt c pre=none:=by have:=cutAt_app c pre [] hs2; simpa [cutAt] using this
    simp -implicitDefEqProofs [b_dmarc_zzCut2_1,t_dmarc_zzCut2_2,cutTwo,e]
  | cons x post =>
    simp at hs
    have ew:IntKind.i64.wrap ((pre.length:Int)+1)=(pre.length:Int)+1:=wrap64 (by omega) (by omega)
    have hlt:(pre.length:Int) < (pre.length:Int)+((post.length:Int)+1):=by omega
    by_cases he:(x.toNat:Int)=c
    · have e1:(0:Int)≤(pre.length:Int)+1∧(pre.length:Int)+1≤(pre.length:Int)+((post.length:Int)+1):=by omega
      have e2:((pre.length:Int)+1).toNat=pre.length+1:=by omega
      simp -implicitDefEqProofs [b_dmarc_zzCut2_1,ew,cutTwo,cutAt_app _ _ _ hs2,cutAt,e1,e2,he]
      omega
    · simp -implicitDefEqProofs [b_dmarc_zzCut2_1,ew,he,hlt]
      refine hLQ (pre++[x],post) ⟨by simp,?_⟩ (by simp) _ (by simp)
      intro y hy
      simp at hy
      rcases hy with hy | rfl
      · exact hs2 y hy
      · exact he

end Wax


namespace Wax
open Go (IntKind)

def d64:List UInt8:=[65,66,67,68,69,70,71,72,73,74,75,76,77,78,79,80,81,82,83,84,85,86,87,88,89,90,97,98,99,100,101,102,103,104,105,106,107,108,109,110,111,112,113,114,115,116,117,118,119,120,121,122,48,49,50,51,52,53,54,55,56,57,43,47]
def scanV (c:UInt8):List UInt8→Int→Int→Int
  | [],_,v=>v
  | x::r,k,v=>scanV c r (k+1) (if x=c then k else v)

def v64 (c:UInt8):Int:=scanV c d64 0 (-1)
end Wax


namespace Wax
open Go (IntKind)

def findP:List (List UInt8 × List UInt8)→List UInt8→Option (List UInt8)
  | [],_=>none
  | (i,v)::r,k=>if i=k then some v else findP r k

def valV:Option (List UInt8)→AV
  | some v=>.tup [.str v,.bool true]
  | none=>.tup [.str [],.bool false]

end Wax


namespace Wax
open Go (IntKind)

def eN (m:L8):AV:=.ifc 3 (.ptr [.str m])
def mBad:L8:=[100,109,97,114,99,58,32,109,97,108,102,111,114,109,101,100,32,112,97,114,97,109,115]

def prdV (x:List KVp × Bool):AV:=.tup [.mp (pmA x.1),if x.2 then .nilI else eN mBad]
def prd2:List L8→List KVp→List KVp × Bool
  | [],acc=>(acc,true)
  | p::r,acc=>match cutAt 61 p with
    | none=>if trimS p=[] then prd2 r acc else (acc,false)
    | some q=>prd2 r (psetL acc (trimS q.1) (trimS q.2))
def con_dmParams:List AV→Option AV
  | [.str s]=>if s.length < mid∧plain s=true then some (prdV (prd2 (splitB 59 s) [])) else none
  | _=>none

set_option maxRecDepth 100000 in
theorem ok_dmParams (Γ:Gam) (s154:Γ.st 154=con_zzSplit) (h159:Γ.fn 159=con_dmCut2) (h160:Γ.fn 160=con_zzTrimSpace) (h50:Γ.fn 50=con_errorsNew):∀ args r,con_dmParams args=some r→runs Γ c_dmarc_parseParams args (fun v=>v=r):=by
  intro args r h
  simp only [con_dmParams] at h
  split at h <;> (try simp at h; done)
  rename_i s
  obtain ⟨⟨hs,hp⟩,rfl⟩:=ite_some h
  clear h
  have hsp:con_zzSplit [.str s,.str [59]] []=some (.msl 0 1 0 (splitB 59 s).length,[(0,.cells (strsA (splitB 59 s)))]):=if_pos hs
  have hl:=splitB_length 59 s
  have hml:=splitB_mem_length 59 s
  have hmp:=fun p=>splitB_plain 59 s p hp
  simp -implicitDefEqProofs [c_dmarc_parseParams,acallS,s154,hsp]
  clear hsp
  generalize splitB 59 s=L at *
  have hs':=hs
  simp only [mid] at hs'
  refine awp_loop2 (σ:=List L8 × List L8 × List KVp) (fun p=>⟨[(5,.mref 11),(12,.msl 10 1 0 L.length),(13,.int .i64 L.length),(14,.int .i64 p.1.length)],[(11,.mp (pmA p.2.2)),(10,.cells (strsA L))]⟩)
    (fun p=>L=p.1++p.2.1∧prd2 L []=prd2 p.2.1 p.2.2) (fun p=>p.2.1.length) ([],L,[]) ?_ (by simp) ?_
  · simp [pmA]
  rintro ⟨pre,post,acc⟩ ⟨e1,e2⟩ LQ hLQ
  simp only at e1 e2
  cases post with
  | nil =>
    simp at e1
    rw [e2]
    simp -implicitDefEqProofs [b_dmarc_parseParams_1,t_dmarc_parseParams_2,e1,prd2,prdV]
  | cons x post =>
    have hxm:x∈L:=by rw [e1]; simp
    have hxl:=hml x hxm
    have hxp:=hmp x hxm
    have hlen:L.length=pre.length+post.length+1:=by rw [e1]; simp; omega
    have hlt:pre.length < L.length:=by omega
    have g2:List.drop pre.length L=x::post:=by rw [e1]; simp
    have g3:L[pre.length]? = some x:=by rw [e1]; exact get_mid rfl
    have ew:IntKind.i64.wrap ((pre.length:Int)+1)=(pre.length:Int)+1:=wrap64 (by omega) (by omega)
    have hlt':(pre.length:Int) < (L.length:Int):=by omega
    have k159:con_dmCut2 [.str x,.int .u8 61]=some (.sl 1 (strsA (cutTwo 61 x))):=by
      simp only [con_dmCut2]; exact if_pos (by omega)
    have k160:∀ t:L8,t.length≤s.length→plain t=true→con_zzTrimSpace [.str t]=some (.str (trimS t)):=by
      intro t ht hpt
      simp only [con_zzTrimSpace]; exact if_pos ⟨by omega,hpt⟩
    have fin:∀ acc',prd2 (x::post) acc=prd2 post acc'→∀ st,norm [5,12,13,14] st=⟨[(5,.mref 11),(12,.msl 10 1 0 L.length),(13,.int .i64 L.length),(14,.int .i64 ((pre.length:Int)+1))],[(11,.mp (pmA acc')),(10,.cells (strsA L))]⟩→LQ st:=by
      intro acc' he st hst
      exact hLQ (pre++[x],post,acc') ⟨by rw [e1]; simp,by rw [e2,he]⟩ (by simp) st (by simpa using hst)
    cases hc:cutAt 61 x with
    | none =>
      have kx:=k160 x hxl hxp
      by_cases ht:trimS x=[]
      · have f1:=fin acc (by simp [prd2,hc,ht])
        simp -implicitDefEqProofs [b_dmarc_parseParams_1,hlt,hlt',g2,g3,acall,h159,k159,cutTwo,hc,h160,kx,ht,ew]
        exact f1 _ (by simp)
      · rw [e2]
        simp -implicitDefEqProofs [b_dmarc_parseParams_1,hlt,hlt',g2,g3,acall,h159,k159,cutTwo,hc,h160,kx,ht,h50,con_errorsNew,prd2,prdV,mBad,eN]
    | some q =>
      obtain ⟨hql,y,hy⟩:=cutAt_le hc
      have hxp':=hxp
      rw [hy,plain_app] at hxp'
      simp only [Bool.and_eq_true] at hxp'
      have hp2:plain q.2=true:=by
        have:=hxp'.2
        simp only [plain,List.all_cons,Bool.and_eq_true] at this
        exact this.2
      have kk:=k160 q.1 (by omega) hxp'.1
      have kv:=k160 q.2 (by omega) hp2
      have f1:=fin (psetL acc (trimS q.1) (trimS q.2)) (by simp [prd2,hc])
      simp -implicitDefEqProofs [b_dmarc_parseParams_1,hlt,hlt',g2,g3,acall,h159,k159,cutTwo,hc,h160,kk,kv,mset_pmA,ew]
      exact f1 _ (by simp)

def mPol:L8:=[100,109,97,114,99,58,32,105,110,118,97,108,105,100,32,112,111,108,105,99,121,32,102,111,114,32,112,97,114,97,109,101,116,101,114,32]
def mAlign:L8:=[100,109,97,114,99,58,32,105,110,118,97,108,105,100,32,97,108,105,103,110,109,101,110,116,32,109,111,100,101,32,102,111,114,32,112,97,114,97,109,101,116,101,114,32]

def con_dmPolicy:List AV→Option AV
  | [.str s,.str p]=>if p.length < mid then some (if polB s=true then .tup [.str s,.nilI] else .tup [.str [],eN (mPol++p)]) else none
  | _=>none
theorem ok_dmPolicy (Γ:Gam) (h50:Γ.fn 50=con_errorsNew):∀ args r,con_dmPolicy args=some r→runs Γ c_dmarc_parsePolicy args (fun v=>v=r):=by
  intro args r h
  simp only [con_dmPolicy] at h
  split at h <;> (try simp at h; done)
  rename_i s p
  obtain ⟨hp,rfl⟩:=ite_some h
  clear h
  simp only [mid] at hp
  have hp2:36+p.length < 4611686018427387904:=by omega
  by_cases h1:s=sNone
  · subst h1
    simp -implicitDefEqProofs [c_dmarc_parsePolicy,sNone,polB]
  · by_cases h2:s=sQuar
    · subst h2
      simp -implicitDefEqProofs [c_dmarc_parsePolicy,sNone,sQuar,polB]
    · by_cases h3:s=sReject
      · subst h3
        simp -implicitDefEqProofs [c_dmarc_parsePolicy,sNone,sQuar,sReject,polB]
      · have e:polB s=false:=by simp [polB,h1,h2,h3]
        simp only [sNone,sQuar,sReject] at h1 h2 h3
        simp -implicitDefEqProofs [c_dmarc_parsePolicy,h1,h2,h3,e,hp2,acall,h50,con_errorsNew,eN,mPol]
        try omega

def con_dmAlign:List AV→Option AV
  | [.str s,.str p]=>if p.length < mid then some (if alignB s=true then .tup [.str s,.nilI] else .tup [.str [],eN (mAlign++p)]) else none
  | _=>none
theorem ok_dmAlign (Γ:Gam) (h50:Γ.fn 50=con_errorsNew):∀ args r,con_dmAlign args=some r→runs Γ c_dmarc_parseAlignmentMode args (fun v=>v=r):=by
  intro args r h
  simp only [con_dmAlign] at h
  split at h <;> (try simp at h; done)
  rename_i s p
  obtain ⟨hp,rfl⟩:=ite_some h
  clear h
  simp only [mid] at hp
  by_cases h1:s=sR
  · subst h1
    simp -implicitDefEqProofs [c_dmarc_parseAlignmentMode,sR,alignB]
  · by_cases h2:s=sS
    · subst h2
      simp -implicitDefEqProofs [c_dmarc_parseAlignmentMode,sR,sS,alignB]
    · have e:alignB s=false:=by simp [alignB,h1,h2]
      simp only [sR,sS] at h1 h2
      simp -implicitDefEqProofs [c_dmarc_parseAlignmentMode,h1,h2,e,acall,h50,con_errorsNew,eN,mAlign]
      try omega

def mFo:L8:=[100,109,97,114,99,58,32,105,110,118,97,108,105,100,32,102,97,105,108,117,114,101,32,111,112,116,105,111,110,32,105,110,32,112,97,114,97,109,101,116,101,114,32,39,102,111,39]
def foV (s:L8):AV:=match fo2 0 (splitB 58 s) with
  | some n=>.tup [.int .i64 n,.nilI]
  | none=>.tup [.int .i64 0,eN mFo]
def con_dmFo:List AV→Option AV
  | [.str s]=>if s.length < mid∧plain s=true then some (foV s) else none
  | _=>none

set_option maxHeartbeats 1000000 in
theorem ok_dmFo (Γ:Gam) (s154:Γ.st 154=con_zzSplit) (h160:Γ.fn 160=con_zzTrimSpace) (h50:Γ.fn 50=con_errorsNew):∀ args r,con_dmFo args=some r→runs Γ c_dmarc_parseFailureOptions args (fun v=>v=r):=by
  intro args r h
  simp only [con_dmFo] at h
  split at h <;> (try simp at h; done)
  rename_i s
  obtain ⟨⟨hs,hp⟩,rfl⟩:=ite_some h
  clear h
  have hsp:con_zzSplit [.str s,.str [58]] []=some (.msl 0 1 0 (splitB 58 s).length,[(0,.cells (strsA (splitB 58 s)))]):=if_pos hs
  have hl:=splitB_length 58 s
  have hml:=splitB_mem_length 58 s
  have hmp:=fun p=>splitB_plain 58 s p hp
  simp only [foV]
  simp -implicitDefEqProofs [c_dmarc_parseFailureOptions,acallS,s154,hsp]
  clear hsp
  generalize splitB 58 s=L at *
  simp only [mid] at hs
  refine awp_loop2 (σ:=List L8 × List L8 × Int) (fun p=>⟨[(5,.int .i64 p.2.2),(10,.msl 9 1 0 L.length),(11,.int .i64 L.length),(12,.int .i64 p.1.length)],[(9,.cells (strsA L))]⟩)
    (fun p=>L=p.1++p.2.1∧fo2 0 L=fo2 p.2.2 p.2.1) (fun p=>p.2.1.length) ([],L,0) ?_ (by simp) ?_
  · simp
  rintro ⟨pre,post,n⟩ ⟨e1,e2⟩ LQ hLQ
  simp only at e1 e2
  cases post with
  | nil =>
    simp at e1
    rw [e2]
    simp -implicitDefEqProofs [b_dmarc_parseFailureOptions_1,t_dmarc_parseFailureOptions_2,e1,fo2]
  | cons x post =>
    have hxm:x∈L:=by rw [e1]; simp
    have hxl:=hml x hxm
    have hxp:=hmp x hxm
    have hlen:L.length=pre.length+post.length+1:=by rw [e1]; simp; omega
    have hlt':(pre.length:Int) < (L.length:Int):=by omega
    have hlt:pre.length < L.length:=by omega
    have g2:List.drop pre.length L=x::post:=by rw [e1]; simp
    have g3:L[pre.length]? = some x:=by rw [e1]; exact get_mid rfl
    have ew:IntKind.i64.wrap ((pre.length:Int)+1)=(pre.length:Int)+1:=wrap64 (by omega) (by omega)
    have k160:con_zzTrimSpace [.str x]=some (.str (trimS x)):=if_pos ⟨by simp only [mid]; omega,hxp⟩
    have fin:∀ m,fo2 n (x::post)=fo2 m post→∀ st,norm [5,10,11,12] st=⟨[(5,.int .i64 m),(10,.msl 9 1 0 L.length),(11,.int .i64 L.length),(12,.int .i64 ((pre.length:Int)+1))],[(9,.cells (strsA L))]⟩→LQ st:=by
      intro m he st hst
      exact hLQ (pre++[x],post,m) ⟨by rw [e1]; simp,by rw [e2,he]⟩ (by simp) st (by simpa using hst)
    generalize ht:trimS x=tx at *
    by_cases c1:tx=[48]
    · have f:=fin (orI n 1) (by simp [fo2,fobit2,ht,c1])
      simp -implicitDefEqProofs [b_dmarc_parseFailureOptions_1,hlt,hlt',g2,g3,acall,h160,k160,ew,c1]
      exact f _ (by simp [orI]; rfl)
    · by_cases c2:tx=[49]
      · have f:=fin (orI n 2) (by simp [fo2,fobit2,ht,c2])
        simp -implicitDefEqProofs [b_dmarc_parseFailureOptions_1,hlt,hlt',g2,g3,acall,h160,k160,ew,c2]
        exact f _ (by simp [orI]; rfl)
      · by_cases c3:tx=[100]
        · have f:=fin (orI n 4) (by simp [fo2,fobit2,ht,c3])
          simp -implicitDefEqProofs [b_dmarc_parseFailureOptions_1,hlt,hlt',g2,g3,acall,h160,k160,ew,c3]
          exact f _ (by simp [orI]; rfl)
        · by_cases c4:tx=[115]
          · have f:=fin (orI n 8) (by simp [fo2,fobit2,ht,c4])
            simp -implicitDefEqProofs [b_dmarc_parseFailureOptions_1,hlt,hlt',g2,g3,acall,h160,k160,ew,c4]
            exact f _ (by simp [orI]; rfl)
          · have e3:fo2 0 L=none:=by rw [e2]; simp [fo2,fobit2,ht,c1,c2,c3,c4]
            rw [e3]
            simp -implicitDefEqProofs [b_dmarc_parseFailureOptions_1,hlt,hlt',g2,g3,acall,h160,k160,c1,c2,c3,c4,h50,con_errorsNew,eN,mFo]

def con_dmURIs:List AV→Option AV
  | [.str s]=>if s.length < mid∧plain s=true then some (.sl 1 (strsA (uris s))) else none
  | _=>none

theorem ok_dmURIs (Γ:Gam) (s154:Γ.st 154=con_zzSplit) (h160:Γ.fn 160=con_zzTrimSpace):∀ args r,con_dmURIs args=some r→runs Γ c_dmarc_parseURIList args (fun v=>v=r):=by
  intro args r h
  simp only [con_dmURIs] at h
  split at h <;> (try simp at h; done)
  rename_i s
  obtain ⟨⟨hs,hp⟩,rfl⟩:=ite_some h
  clear h
  have hsp:con_zzSplit [.str s,.str [44]] []=some (.msl 0 1 0 (splitB 44 s).length,[(0,.cells (strsA (splitB 44 s)))]):=if_pos hs
  have hl:=splitB_length 44 s
  have hml:=splitB_mem_length 44 s
  have hmp:=fun p=>splitB_plain 44 s p hp
  simp only [uris]
  simp -implicitDefEqProofs [c_dmarc_parseURIList,acallS,s154,hsp]
  clear hsp
  generalize splitB 44 s=L at *
  simp only [mid] at hs
  refine awp_loop2 (σ:=List L8 × List L8) (fun p=>⟨[(3,.msl 7 1 0 L.length),(8,.msl 7 1 0 L.length),(9,.int .i64 L.length),(10,.int .i64 p.1.length)],[(7,.cells (strsA (p.1.map trimS++p.2)))]⟩)
    (fun p=>L=p.1++p.2) (fun p=>p.2.length) ([],L) ?_ (by simp) ?_
  · simp
  rintro ⟨pre,post⟩ e1 LQ hLQ
  simp only at e1
  cases post with
  | nil =>
    simp at e1
    simp -implicitDefEqProofs [b_dmarc_parseURIList_1,t_dmarc_parseURIList_2,e1,snap,resolveA,List.take_of_length_le]
  | cons x post =>
    have hxm:x∈L:=by rw [e1]; simp
    have hxl:=hml x hxm
    have hxp:=hmp x hxm
    have hlen:L.length=pre.length+post.length+1:=by rw [e1]; simp; omega
    have hlt':(pre.length:Int) < (L.length:Int):=by omega
    have hlt:pre.length < L.length:=by omega
    have ew:IntKind.i64.wrap ((pre.length:Int)+1)=(pre.length:Int)+1:=wrap64 (by omega) (by omega)
    have k160:con_zzTrimSpace [.str x]=some (.str (trimS x)):=if_pos ⟨by simp only [mid]; omega,hxp⟩
    simp (disch:=first | omega | simp) [b_dmarc_parseURIList_1,hlt,hlt',acall,h160,k160,ew,get_mid,set_mid]
    refine hLQ (pre++[x],post) (by simp [e1]) (by simp) _ ?_
    simp
end Wax


namespace Wax
open Go (IntKind)

def anyN (n:Int) (s:L8):Bool:=s.any fun b=>decide ((b.toNat:Int)=n)

def con_MailAny:List AV→Option AV
  | [.int .u8 n,.str s]=>if s.length < big then some (.bool (anyN n s)) else none
  | _=>none

theorem ok_MailAny (Γ:Gam):∀ args r,con_MailAny args=some r→runs Γ c_spec_MailAny args (fun v=>v=r):=by
  intro args r h
  simp only [con_MailAny] at h
  split at h <;> (try simp at h; done)
  rename_i n s
  obtain ⟨hs,rfl⟩:=ite_some h
  clear h
  simp only [big] at hs
  simp -implicitDefEqProofs [c_spec_MailAny]
  refine awp_loop2 (σ:=L8 × L8) (fun p=>⟨[(0,.int .u8 n),(1,.str s),(5,.int .i64 p.1.length)],[]⟩) (fun p=>s=p.1++p.2∧anyN n p.1=false) (fun p=>p.2.length) ([],s) (by simp) (by simp [anyN]) ?_
  rintro ⟨pre,post⟩ ⟨e1,e2⟩ LQ hLQ
  simp only at e1 e2
  subst e1
  cases post with
  | nil=>simp -implicitDefEqProofs [b_spec_MailAny_1,t_spec_MailAny_2,e2]
  | cons x post =>
    simp at hs
    have hlt:(pre.length:Int) < (pre.length:Int)+((post.length:Int)+1):=by omega
    have ew:IntKind.i64.wrap ((pre.length:Int)+1)=(pre.length:Int)+1:=wrap64 (by omega) (by omega)
    by_cases h:(x.toNat:Int)=n
    · simp -implicitDefEqProofs [b_spec_MailAny_1,hlt,h,anyN]
    · simp -implicitDefEqProofs [b_spec_MailAny_1,hlt,h,ew]
      exact hLQ (pre++[x],post) ⟨by simp,by simp only [anyN,List.any_append,Bool.or_eq_false_iff] at e2 ⊢; exact ⟨e2,by simp [h]⟩⟩ (by simp) _ (by simp)

theorem kwB_true {x:UInt8} (h:(97≤(x.toNat:Int)∧(x.toNat:Int)≤122)∨(65≤(x.toNat:Int)∧(x.toNat:Int)≤90)∨(48≤(x.toNat:Int)∧(x.toNat:Int)≤57)∨(x.toNat:Int)=45):kwB x=true:=decide_eq_true (by omega)
theorem kwB_false {x:UInt8} (h:¬ ((97≤(x.toNat:Int)∧(x.toNat:Int)≤122)∨(65≤(x.toNat:Int)∧(x.toNat:Int)≤90)∨(48≤(x.toNat:Int)∧(x.toNat:Int)≤57)∨(x.toNat:Int)=45)):kwB x=false:=decide_eq_false (by omega)

def con_MailKeyword:List AV→Option AV
  | [.str s]=>if s.length < big then some (.bool (mKw s)) else none
  | _=>none

theorem mKw_bad {pre post:L8} {x:UInt8} (h:kwB x=false):mKw (pre++x::post)=false:=by simp [mKw,h]

theorem ok_MailKeyword (Γ:Gam):∀ args r,con_MailKeyword args=some r→runs Γ c_spec_MailKeyword args (fun v=>v=r):=by
  intro args r h
  simp only [con_MailKeyword] at h
  split at h <;> (try simp at h; done)
  rename_i s
  obtain ⟨hs,rfl⟩:=ite_some h
  clear h
  simp only [big] at hs
  simp -implicitDefEqProofs [c_spec_MailKeyword]
  refine awp_loop2 (σ:=L8 × L8) (fun p=>⟨[(0,.str s),(3,.int .i64 p.1.length)],[]⟩) (fun p=>s=p.1++p.2∧p.1.all kwB=true) (fun p=>p.2.length) ([],s) (by simp) (by simp) ?_
  rintro ⟨pre,post⟩ ⟨e1,e2⟩ LQ hLQ
  simp only at e1 e2
  subst e1
  cases post with
  | nil =>
    simp at hs
    cases pre with
    | nil=>simp -implicitDefEqProofs [b_spec_MailKeyword_1,t_spec_MailKeyword_2,mKw]
    | cons a pre =>
      simp at hs
      have ew:IntKind.i64.wrap (pre.length:Int)=pre.length:=wrap64 (by omega) (by omega)
      obtain ⟨z,hz⟩:∃ z,(a::pre)[pre.length]? = some z:=⟨(a::pre)[pre.length]'(by simp),by simp⟩
      have hl:(a::pre).getLast? = some z:=by rw [List.getLast?_eq_getElem?]; simpa using hz
      have eI:∀ c:UInt8,((c.toNat:Int)=45) ↔ c=45:=by
        intro c; rw [← UInt8.toNat_inj]; simp; omega
      have hk:mKw (a::pre)=(decide (¬ a=45) && decide (¬ z=45)):=by
        simp only [mKw,e2,hl]; simp
      simp only [List.append_nil]
      rw [hk]
      by_cases ha:a=45
      · subst ha
        simp -implicitDefEqProofs [b_spec_MailKeyword_1,t_spec_MailKeyword_2]
      · have ha':¬ ((a.toNat:Int)=45):=by rw [eI]; exact ha
        simp -implicitDefEqProofs [b_spec_MailKeyword_1,t_spec_MailKeyword_2,ha,ha',ew,hz,eI]
        rw [List.getElem?_eq_getElem (by simp)] at hz
        injection hz with hz
        rw [hz]
  | cons x post =>
    simp at hs
    have hlt:(pre.length:Int) < (pre.length:Int)+((post.length:Int)+1):=by omega
    have ew:IntKind.i64.wrap ((pre.length:Int)+1)=(pre.length:Int)+1:=wrap64 (by omega) (by omega)
    have good:kwB x=true→LQ ⟨[(0,.str (pre++x::post)),(3,.int .i64 ((pre.length:Int)+1))],[]⟩:=fun h =>
      hLQ (pre++[x],post) ⟨by simp,by simp only [List.all_append,e2,List.all_cons,h]; rfl⟩ (by simp) _ (by simp)
    simp -implicitDefEqProofs [b_spec_MailKeyword_1,hlt,ew]
    repeat' (first | apply And.intro | intro _)
    all_goals first | exact good (kwB_true (by omega)) | exact mKw_bad (kwB_false (by omega))

set_option maxRecDepth 100000 in
theorem tokB_eq {x:UInt8}:tokB x=(decide (32 < (x.toNat:Int)) && decide ((x.toNat:Int) < 127) && !anyN x.toNat tokStop):=by
  have e:anyN x.toNat tokStop=tokStop.contains x:=by
    rw [Bool.eq_iff_iff]
    simp only [anyN,List.any_eq_true,decide_eq_true_eq,List.contains_eq_mem]
    constructor
    · rintro ⟨y,hy,h⟩
      have:y=x:=UInt8.toNat_inj.1 (by omega)
      exact this ▸ hy
    · intro h; exact ⟨x,h,rfl⟩
  rw [tokB,e]
  congr 2
  · congr 1; rw [eq_iff_iff]; omega
  · congr 1; rw [eq_iff_iff]; omega

def con_MailToken:List AV→Option AV
  | [.str s]=>if s.length < big then some (.bool (mTok s)) else none
  | _=>none

set_option maxRecDepth 1000000 in
theorem ok_MailToken (Γ:Gam) (h100:Γ.fn 100=con_MailAny):∀ args r,con_MailToken args=some r→runs Γ c_spec_MailToken args (fun v=>v=r):=by
  intro args r h
  simp only [con_MailToken] at h
  split at h <;> (try simp at h; done)
  rename_i s
  obtain ⟨hs,rfl⟩:=ite_some h
  clear h
  simp only [big] at hs
  have k:∀ c:UInt8,con_MailAny [.int .u8 c.toNat,.str [40,41,60,62,64,44,59,58,92,34,47,91,93,63,61]]=some (.bool (anyN c.toNat tokStop)):=by
    intro c
    simp only [con_MailAny]
    exact if_pos (by simp [big])
  simp -implicitDefEqProofs [c_spec_MailToken]
  refine awp_loop2 (σ:=L8 × L8) (fun p=>⟨[(0,.str s),(3,.int .i64 p.1.length)],[]⟩) (fun p=>s=p.1++p.2∧p.1.all tokB=true) (fun p=>p.2.length) ([],s) (by simp) (by simp) ?_
  rintro ⟨pre,post⟩ ⟨e1,e2⟩ LQ hLQ
  simp only at e1 e2
  subst e1
  cases post with
  | nil=>simp -implicitDefEqProofs [b_spec_MailToken_1,t_spec_MailToken_2,mTok,e2]
  | cons x post =>
    simp at hs
    have hlt:(pre.length:Int) < (pre.length:Int)+((post.length:Int)+1):=by omega
    have ew:IntKind.i64.wrap ((pre.length:Int)+1)=(pre.length:Int)+1:=wrap64 (by omega) (by omega)
    have good:tokB x=true→LQ ⟨[(0,.str (pre++x::post)),(3,.int .i64 ((pre.length:Int)+1))],[]⟩:=fun h =>
      hLQ (pre++[x],post) ⟨by simp,by simp only [List.all_append,e2,List.all_cons,h]; rfl⟩ (by simp) _ (by simp)
    have bad:tokB x=false→mTok (pre++x::post)=false:=by intro h; simp [mTok,h]
    rw [tokB_eq] at good bad
    by_cases h1:(x.toNat:Int)≤32
    · have h1':¬ (32 < (x.toNat:Int)):=by omega
      have b:=bad (by simp [h1'])
      simp -implicitDefEqProofs [b_spec_MailToken_1,hlt,ew,h1,b]
    · have h1':32 < (x.toNat:Int):=by omega
      by_cases h2:127≤(x.toNat:Int)
      · have h2':¬ ((x.toNat:Int) < 127):=by omega
        have b:=bad (by simp [h2'])
        simp -implicitDefEqProofs [b_spec_MailToken_1,hlt,ew,h1,h2,b]
      · have h2':(x.toNat:Int) < 127:=by omega
        cases h3:anyN x.toNat tokStop with
        | true =>
          have b:=bad (by simp [h3])
          simp -implicitDefEqProofs [b_spec_MailToken_1,hlt,ew,h1,h2,acall,h100,k,h3,b]
        | false =>
          have g:=good (by simp [h3,h1',h2'])
          simp -implicitDefEqProofs [b_spec_MailToken_1,hlt,ew,h1,h2,acall,h100,k,h3,g]

end Wax


namespace Wax
open Go (IntKind)

def con_MailLower:List AV→Option AV
  | [.str s]=>if s.length < big then some (.str (lowS s)) else none
  | _=>none

theorem ok_MailLower (Γ:Gam):∀ args r,con_MailLower args=some r→runs Γ c_spec_MailLower args (fun v=>v=r):=by
  intro args r h
  simp only [con_MailLower] at h
  split at h <;> (try simp at h; done)
  rename_i s
  obtain ⟨hs,rfl⟩:=ite_some h
  clear h
  simp only [big] at hs
  simp -implicitDefEqProofs [c_spec_MailLower,hs]
  refine awp_loop2 (σ:=L8 × L8) (fun p=>⟨[(3,.msl 7 1 0 s.length),(8,.msl 7 1 0 s.length),(9,.int .i64 s.length),(10,.int .i64 p.1.length)],[(7,.cells (bcA (lowS p.1++p.2)))]⟩) (fun p=>s=p.1++p.2) (fun p=>p.2.length) ([],s) (by simp) (by simp) ?_
  rintro ⟨pre,post⟩ e1 LQ hLQ
  simp only at e1
  subst e1
  cases post with
  | nil =>
    have e:List.take pre.length (lowS pre)=lowS pre:=List.take_of_length_le (by simp)
    simp -implicitDefEqProofs [b_spec_MailLower_1,t_spec_MailLower_2,e]
  | cons x post =>
    simp at hs
    have hlt:(pre.length:Int) < (pre.length:Int)+((post.length:Int)+1):=by omega
    have ew:IntKind.i64.wrap ((pre.length:Int)+1)=(pre.length:Int)+1:=wrap64 (by omega) (by omega)
    have hx:=lowB_toNat x
    have fin:∀ n:Int,n=(lowB x).toNat→LQ ⟨[(3,.msl 7 1 0 (pre.length+(post.length+1))),(8,.msl 7 1 0 (pre.length+(post.length+1))),(9,.int .i64 ((pre.length:Int)+((post.length:Int)+1))),(10,.int .i64 ((pre.length:Int)+1))],[(7,.cells (bcA (lowS pre)++.int .u8 n::bcA post))]⟩:=by
      intro n hn
      refine hLQ (pre++[x],post) (by simp) (by simp) _ ?_
      subst hn
      simp
    by_cases h:65≤(x.toNat:Int)∧(x.toNat:Int)≤90
    · rw [if_pos h] at hx
      have eu:IntKind.u8.wrap ((x.toNat:Int)+32)=(x.toNat:Int)+32:=Go.IntWalk.u8_in _ ⟨by omega,by omega⟩
      have f:=fin ((x.toNat:Int)+32) hx.symm
      simp -implicitDefEqProofs [b_spec_MailLower_1,hlt,ew,h.1,h.2,eu]
      simpa using f
    · rw [if_neg h] at hx
      have f:=fin (x.toNat:Int) hx.symm
      by_cases h1:65≤(x.toNat:Int)
      · have h2:¬ ((x.toNat:Int)≤90):=fun g=>h ⟨h1,g⟩
        simp -implicitDefEqProofs [b_spec_MailLower_1,hlt,ew,h1,h2]
        simpa using f
      · simp -implicitDefEqProofs [b_spec_MailLower_1,hlt,ew,h1]
        simpa using f

def con_MailHalves:List AV→Option AV
  | [.str s,.int .u8 c]=>if s.length < big then some (cutV c s) else none
  | _=>none

theorem ok_MailHalves (Γ:Gam):∀ args r,con_MailHalves args=some r→runs Γ c_spec_MailHalves args (fun v=>v=r):=by
  intro args r h
  simp only [con_MailHalves] at h
  split at h <;> (try simp at h; done)
  rename_i s c
  obtain ⟨hs,rfl⟩:=ite_some h
  clear h
  simp only [big] at hs
  simp -implicitDefEqProofs [c_spec_MailHalves]
  refine awp_loop2 (σ:=L8 × L8) (fun p=>⟨[(0,.str s),(1,.int .u8 c),(7,.int .i64 p.1.length)],[]⟩) (fun p=>s=p.1++p.2∧noB c p.1) (fun p=>p.2.length) ([],s) (by simp) (by simp [noB]) ?_
  rintro ⟨pre,post⟩ ⟨e1,e2⟩ LQ hLQ
  simp only at e1 e2
  subst e1
  cases post with
  | nil =>
    have e:cutAt c pre=none:=by have:=cutAt_app c pre [] e2; simpa [cutAt] using this
    simp -implicitDefEqProofs [b_spec_MailHalves_1,t_spec_MailHalves_2,cutV,e]
  | cons x post =>
    simp at hs
    have hlt:(pre.length:Int) < (pre.length:Int)+((post.length:Int)+1):=by omega
    have ew:IntKind.i64.wrap ((pre.length:Int)+1)=(pre.length:Int)+1:=wrap64 (by omega) (by omega)
    by_cases h:(x.toNat:Int)=c
    · have g1:(0:Int)≤(pre.length:Int)+1∧(pre.length:Int)+1≤(pre.length:Int)+((post.length:Int)+1):=by omega
      have g2:((pre.length:Int)+1).toNat=pre.length+1:=by omega
      simp -implicitDefEqProofs [b_spec_MailHalves_1,hlt,h,ew,cutV,cutAt_app _ _ _ e2,cutAt,g1,g2]
    · simp -implicitDefEqProofs [b_spec_MailHalves_1,hlt,h,ew]
      refine hLQ (pre++[x],post) ⟨by simp,?_⟩ (by simp) _ (by simp)
      intro y hy
      simp at hy
      rcases hy with hy | rfl
      · exact e2 y hy
      · exact h

theorem splitB_app {b:UInt8} {cur post:L8} (h:noB b.toNat cur):splitB b (cur++b::post)=cur::splitB b post:=by
  rw [splitB_cut,cutAt_noB h]
theorem splitB_only {b:UInt8} {cur:L8} (h:noB b.toNat cur):splitB b cur=[cur]:=by
  have e:cutAt b.toNat cur=none:=by have:=cutAt_app b.toNat cur [] h; simpa [cutAt] using this
  rw [splitB_cut,e]

def SplitAt (b:UInt8) (s:L8) (outs:List L8) (fr i:Int):Prop :=
  (∃ p cur post,s=p++(cur++post)∧fr=(p.length:Int)∧i=(p.length:Int)+(cur.length:Int)∧noB b.toNat cur∧outs.length≤p.length∧splitB b s=outs++splitB b (cur++post)) ∨
  (i=(s.length:Int)+1∧splitB b s=outs)

theorem noB_snoc {c:Int} {cur:L8} {x:UInt8} (h:noB c cur) (hx:(x.toNat:Int) ≠ c):noB c (cur++[x]):=by
  intro y hy
  simp at hy
  rcases hy with hy | rfl
  · exact h y hy
  · exact hx

end Wax


namespace Wax
open Go (IntKind)

def labB (p:L8):Bool:=mKw p && decide (p.length≤63)
theorem mDom_eq (s:L8):mDom s=((splitB 46 s).all labB && decide (s.length≤253)):=rfl

def con_MailDomain:List AV→Option AV
  | [.str s]=>if s.length < mid then some (.bool (mDom s)) else none
  | _=>none

set_option maxHeartbeats 1000000 in
theorem ok_MailDomain (Γ:Gam) (h99:Γ.fn 99=con_MailKeyword):∀ args r,con_MailDomain args=some r→runs Γ c_spec_MailDomain args (fun v=>v=r):=by
  intro args r h
  simp only [con_MailDomain] at h
  split at h <;> (try simp at h; done)
  rename_i s
  obtain ⟨hs,rfl⟩:=ite_some h
  clear h
  simp only [mid] at hs
  rw [mDom_eq]
  simp -implicitDefEqProofs [c_spec_MailDomain]
  refine awp_loop2 (σ:=List L8 × Int × Int) (fun p=>⟨[(0,.str s),(3,.int .i64 p.2.1),(4,.int .i64 p.2.2)],[]⟩)
    (fun p=>SplitAt 46 s p.1 p.2.1 p.2.2∧p.1.all labB=true) (fun p=>((s.length:Int)+1 - p.2.2).toNat) ([],0,0) (by simp) ⟨.inl ⟨[],[],s,by simp [noB]⟩,rfl⟩ ?_
  rintro ⟨outs,fr,i⟩ ⟨hS,hA⟩ LQ hLQ
  simp only at hS hA
  rcases hS with ⟨p,cur,post,g1,rfl,rfl,g2,g3,g4⟩ | ⟨rfl,g4⟩
  · have hlen:s.length=p.length+(cur.length+post.length):=by rw [g1]; simp
    have hle:(p.length:Int)+(cur.length:Int)≤(s.length:Int):=by omega
    have ew:IntKind.i64.wrap ((p.length:Int)+(cur.length:Int)+1)=(p.length:Int)+(cur.length:Int)+1:=wrap64 (by omega) (by omega)
    have ew2:IntKind.i64.wrap ((p.length:Int)+(cur.length:Int) - (p.length:Int))=(cur.length:Int):=by rw [wrap64 (by omega) (by omega)]; omega
    have hcut:List.drop p.length (List.take (p.length+cur.length) s)=cur:=by
      rw [g1,← List.append_assoc,show p.length+cur.length=(p++cur).length by simp,List.take_left' rfl,List.drop_left' rfl]
    have e1:((p.length:Int)+(cur.length:Int)).toNat=p.length+cur.length:=by omega
    have hb0:(p.length:Int)≤(p.length:Int)+(cur.length:Int):=by omega
    have hb1:(0:Int)≤(p.length:Int)+(cur.length:Int):=by omega
    have k99:con_MailKeyword [.str cur]=some (.bool (mKw cur)):=if_pos (by simp only [big]; omega)
    cases post with
    | nil =>
      have hq:(p.length:Int)+(cur.length:Int)=(s.length:Int):=by simp at hlen; omega
      have hd:decide ((p.length:Int)+(cur.length:Int)=(s.length:Int))=true:=decide_eq_true hq
      simp only [List.append_nil] at g4
      rw [splitB_only (b:=46) g2] at g4
      have bad:labB cur=false→((splitB 46 s).all labB && decide (s.length≤253))=false:=by intro h; rw [g4]; simp [h]
      have fin:labB cur=true→LQ ⟨[(0,.str s),(3,.int .i64 ((p.length:Int)+(cur.length:Int)+1)),(4,.int .i64 ((p.length:Int)+(cur.length:Int)+1))],[]⟩:=by
        intro h
        exact hLQ (outs++[cur],(p.length:Int)+(cur.length:Int)+1,(p.length:Int)+(cur.length:Int)+1) ⟨.inr ⟨by simp only; omega,g4⟩,by simp only [List.all_append,hA,List.all_cons,h]; rfl⟩ (by simp only; omega) _ (by simp)
      cases hk:mKw cur with
      | false =>
        have b:=bad (by simp [labB,hk])
        simp -implicitDefEqProofs [b_spec_MailDomain_1,hle,hd,ew,e1,hcut,hb0,hb1,acall,h99,k99,hk,b]
      | true =>
        by_cases h63:(63:Int) < (cur.length:Int)
        · have b:=bad (by simp [labB,hk]; omega)
          simp -implicitDefEqProofs [b_spec_MailDomain_1,hle,hd,ew,ew2,e1,hcut,hb0,hb1,acall,h99,k99,hk,b,h63]
        · have f:=fin (by simp [labB,hk]; omega)
          simp -implicitDefEqProofs [b_spec_MailDomain_1,hle,hd,ew,ew2,e1,hcut,hb0,hb1,acall,h99,k99,hk,h63,f]
    | cons x post =>
      simp at hlen
      have hd:decide ((p.length:Int)+(cur.length:Int)=(s.length:Int))=false:=decide_eq_false (by omega)
      have gx:s[p.length+cur.length]? = some x:=by rw [g1,← List.append_assoc]; exact get_mid (by simp)
      by_cases hx:(x.toNat:Int)=46
      · have hxb:x=46:=UInt8.toNat_inj.1 (by simp; omega)
        subst hxb
        rw [splitB_app (b:=46) g2] at g4
        have bad:labB cur=false→((splitB 46 s).all labB && decide (s.length≤253))=false:=by intro h; rw [g4]; simp [h]
        have fin:labB cur=true→LQ ⟨[(0,.str s),(3,.int .i64 ((p.length:Int)+(cur.length:Int)+1)),(4,.int .i64 ((p.length:Int)+(cur.length:Int)+1))],[]⟩:=by
          intro h
          exact hLQ (outs++[cur],(p.length:Int)+(cur.length:Int)+1,(p.length:Int)+(cur.length:Int)+1) ⟨.inl ⟨p++cur++[46],[],post,by rw [g1]; simp,by simp; omega,by simp; omega,by simp [noB],by simp; omega,by rw [g4]; simp⟩,by simp only [List.all_append,hA,List.all_cons,h]; rfl⟩ (by simp only; omega) _ (by simp)
        cases hk:mKw cur with
        | false =>
          have b:=bad (by simp [labB,hk])
          simp -implicitDefEqProofs [b_spec_MailDomain_1,hle,hd,ew,e1,hcut,hb0,hb1,gx,acall,h99,k99,hk,b]
        | true =>
          by_cases h63:(63:Int) < (cur.length:Int)
          · have b:=bad (by simp [labB,hk]; omega)
            simp -implicitDefEqProofs [b_spec_MailDomain_1,hle,hd,ew,ew2,e1,hcut,hb0,hb1,gx,acall,h99,k99,hk,b,h63]
          · have f:=fin (by simp [labB,hk]; omega)
            simp -implicitDefEqProofs [b_spec_MailDomain_1,hle,hd,ew,ew2,e1,hcut,hb0,hb1,gx,acall,h99,k99,hk,h63,f]
      · have f:LQ ⟨[(0,.str s),(3,.int .i64 (p.length:Int)),(4,.int .i64 ((p.length:Int)+(cur.length:Int)+1))],[]⟩ :=
          hLQ (outs,(p.length:Int),(p.length:Int)+(cur.length:Int)+1) ⟨.inl ⟨p,cur++[x],post,by rw [g1]; simp,rfl,by simp; omega,noB_snoc g2 hx,g3,by rw [g4]; simp⟩,hA⟩ (by simp only; omega) _ (by simp)
        simp -implicitDefEqProofs [b_spec_MailDomain_1,hle,hd,ew,e1,hb0,hb1,gx,hx,f]
  · have hnle:¬ ((s.length:Int)+1≤(s.length:Int)):=by omega
    rw [g4,hA]
    simp -implicitDefEqProofs [b_spec_MailDomain_1,t_spec_MailDomain_2,hnle]
    omega

theorem cutAt_lens {c:Int} {s:L8} {p:L8 × L8} (h:cutAt c s=some p):p.1.length < s.length∧p.2.length < s.length:=by
  have:=(cutAt_le h).1
  omega

def con_MKnown:List AV→Option AV
  | []=>some (.sl 1 (strsA mKnown))
  | _=>none
def mSpace (n:Nat):L8:=([[],[],[32],[32,32],[9],[32,9]]:List L8).getD (n % 6) []
def blB (b:UInt8):Bool:=decide ((b.toNat:Int)=32∨(b.toNat:Int)=9)
end Wax


namespace Wax
open Go (IntKind)

def asO:AV→Option (Option (List L8))
  | .nilS=>some none
  | .sl es xs=>if es=1 then (asStrs xs).map some else none
  | _=>none
theorem asO_slO (x:Option (List L8)):asO (slO x)=some x:=by cases x <;> simp [slO,asO]
theorem asO_spec {v:AV} {x:Option (List L8)} (h:asO v=some x):v=slO x:=by
  cases v <;> simp [asO] at h
  · subst h; rfl
  · obtain ⟨rfl,l,h1,rfl⟩:=h
    rw [asStrs_spec h1]; rfl

def asMR:List AV→Option MR
  | [.str a,.str b,.int .i64 fo,.str p,.int .i64 pct,.bool has,rf,.int .i64 ri,rua,ruf,.str sp]=>match asO rf,asO rua,asO ruf with
    | some rf,some rua,some ruf=>some ⟨a,b,fo,p,pct,has,rf,ri,rua,ruf,sp⟩
    | _,_,_=>none
  | _=>none
@[simp] theorem slO_atom (x:Option (List L8)):atom (slO x)=true:=by cases x <;> rfl
@[simp] theorem slO_ref (x:Option (List L8)):hasRef (slO x)=false:=by cases x <;> rfl
@[simp] theorem slO_refs (x:Option (List L8)):refs (slO x)=[]:=by cases x <;> rfl
@[simp] theorem slO_map (x:Option (List L8)) (g:Nat→Nat):mapId g (slO x)=slO x:=by cases x <;> rfl
@[simp] theorem slO_kill (x:Option (List L8)) (d:Nat):kill d (slO x)=slO x:=by cases x <;> rfl
@[simp] theorem slO_snapW (x:Option (List L8)) (g:AV→AV):snapW g (slO x)=slO x:=by cases x <;> rfl
@[simp] theorem slO_snap (x:Option (List L8)) (n:Nat) (hp:List (Nat × AObj)):snap (n+1) hp (slO x)=slO x:=by cases x <;> rfl
@[simp] theorem slO_cells (x:Option (List L8)):cells (slO x)=[slO x]:=by cases x <;> rfl
@[simp] theorem slO_pure (x:Option (List L8)):pureV (slO x)=true:=by cases x <;> rfl
@[simp] theorem slO_none:slO none=.nilS:=rfl
@[simp] theorem slO_flat (x:List L8):slO (some x)=.sl 1 (strsA x):=rfl
def con_MPut:List AV→List (Nat × AObj)→Option (AV × List (Nat × AObj))
  | [.ref 0 0,.agg [.str n,.str v]],[(0,.cells cs)]=>match asMR cs with
    | some r=>if n.length < mid∧v.length < mid then some (.bool (mOk (n,v)),[(0,.cells (mPut r (n,v)).cells)]) else none
    | none=>none
  | _,_=>none

where
  foFrom3 (c:UInt8) (n:Int):Int:=let m:=if c=100 then orI n 4 else n; if c=115 then orI m 8 else m
  foFrom2 (c:UInt8) (n:Int):Int:=let m:=if c=49 then orI n 2 else n; foFrom3 c m
  foFrom1 (c:UInt8) (n:Int):Int:=let m:=if c=48 then orI n 1 else n; foFrom2 c m

end Wax


namespace Wax
open Go (IntKind)

theorem lk_rmFi (ds:List Nat) (i:Nat):∀ fr:List (Nat × AV),lk (rmF ds fr) i=if ds.contains i=true then .junk else lk fr i
  | []=>by simp [rmF,lk]
  | (j,v)::r=>by
    have ih:=lk_rmFi ds i r
    simp only [rmF]
    by_cases hj:ds.contains j=true
    · rw [if_pos hj,ih]
      by_cases hi:ds.contains i=true
      · rw [if_pos hi,if_pos hi]
      · rw [if_neg hi,if_neg hi]
        have:j ≠ i:=fun e=>hi (e ▸ hj)
        simp [lk,this]
    · rw [if_neg hj]
      by_cases e:j=i
      · subst e; simp only [lk,if_true,if_neg hj]
      · simp only [lk,if_neg e,ih]

theorem lookA_two:∀ (l:List KVp) (k:L8),lookA (pmA l) k (.str []) true=valV (findP l k)
  | [],k=>rfl
  | (i,v)::r,k=>by
    have ih:=lookA_two r k
    by_cases h:k=i
    · simp [pmA,lookA,mfind,findP,h,valV]
    · have h':¬ i=k:=fun e=>h e.symm
      simp only [pmA,List.map_cons,lookA,mfind,findP,if_neg h,if_neg h'] at ih ⊢
      exact ih
theorem lookA_one:∀ (l:List KVp) (k:L8),lookA (pmA l) k (.str []) false=.str ((findP l k).getD [])
  | [],k=>rfl
  | (i,v)::r,k=>by
    have ih:=lookA_one r k
    by_cases h:k=i
    · simp [pmA,lookA,mfind,findP,h]
    · have h':¬ i=k:=fun e=>h e.symm
      simp only [pmA,List.map_cons,lookA,mfind,findP,if_neg h,if_neg h'] at ih ⊢
      exact ih

def pctA:Option Int→AV
  | none=>.nilP
  | some n=>.ptr [.int .i64 n]
@[simp] theorem pctA_atom (x:Option Int):atom (pctA x)=true:=by cases x <;> rfl
@[simp] theorem pctA_ref (x:Option Int):hasRef (pctA x)=false:=by cases x <;> rfl
@[simp] theorem pctA_refs (x:Option Int):refs (pctA x)=[]:=by cases x <;> rfl
@[simp] theorem pctA_kill (x:Option Int) (d:Nat):kill d (pctA x)=pctA x:=by cases x <;> rfl
@[simp] theorem pctA_snapW (x:Option Int) (g:AV→AV):snapW g (pctA x)=pctA x:=by cases x <;> rfl
@[simp] theorem pctA_snap (x:Option Int) (n:Nat) (hp:List (Nat × AObj)):snap (n+1) hp (pctA x)=pctA x:=by cases x <;> rfl
@[simp] theorem pctA_some (n:Int):pctA (some n)=.ptr [.int .i64 n]:=rfl
@[simp] theorem pctA_none:pctA none=.nilP:=rfl

def DR.cells (r:DR):List AV:=[.str r.dk,.str r.sp,.int .i64 r.fo,.str r.p,pctA r.pct,slO r.rf,.int .i64 r.ri,slO r.rua,slO r.ruf,.str r.sub]
def dr0:DR:=⟨[],[],0,[],none,none,0,none,none,[]⟩

def mPct:L8:=[100,109,97,114,99,58,32,105,110,118,97,108,105,100,32,112,97,114,97,109,101,116,101,114,32,39,112,99,116,39]
def mPct2:L8:=mPct++[58,32,118,97,108,117,101,32,111,117,116,32,111,102,32,98,111,117,110,100,115]
def mRf:L8:=[100,109,97,114,99,58,32,105,110,118,97,108,105,100,32,112,97,114,97,109,101,116,101,114,32,39,114,102,39]
def mRi:L8:=[100,109,97,114,99,58,32,105,110,118,97,108,105,100,32,112,97,114,97,109,101,116,101,114,32,39,114,105,39]
def mRi2:L8:=mRi++[58,32,110,101,103,97,116,105,118,101,32,111,114,32,122,101,114,111,32,100,117,114,97,116,105,111,110]
def mNoP:L8:=[100,109,97,114,99,58,32,114,101,99,111,114,100,32,105,115,32,109,105,115,115,105,110,103,32,97,32,39,112,39,32,112,97,114,97,109,101,116,101,114]

section
variable (acc:List KVp)
def mdSp (r:DR):AV ⊕ DR:=match findP acc kSp with
  | none=>.inr r
  | some v=>if polB v=true then .inr { r with sub:=v } else .inl (eN (mPol++kSp))
def mdRuf (r:DR):AV ⊕ DR:=mdSp acc (match findP acc kRuf with | none=>r | some v=>{ r with ruf:=some (uris v) })
def mdRua (r:DR):AV ⊕ DR:=mdRuf acc (match findP acc kRua with | none=>r | some v=>{ r with rua:=some (uris v) })
def mdRi (r:DR):AV ⊕ DR:=match findP acc kRi with
  | none=>mdRua acc r
  | some v=>match Go.Lib.atoiAll v with
    | .ok n=>if n≤0 then .inl (eN mRi2) else mdRua acc { r with ri:=n }
    | _=>.inl (eN mRi)
def mdRf (r:DR):AV ⊕ DR:=match findP acc kRf with
  | none=>mdRi acc r
  | some v=>if (splitB 58 v).all (fun s=>decide (s=sAfrf))=true then mdRi acc { r with rf:=some (splitB 58 v) } else .inl (eN mRf)
def mdPct (r:DR):AV ⊕ DR:=match findP acc kPct with
  | none=>mdRf acc r
  | some v=>match Go.Lib.atoiAll v with
    | .ok n=>if n < 0∨100 < n then .inl (eN mPct2) else mdRf acc { r with pct:=some n }
    | _=>.inl (eN mPct)
def mdFo (r:DR):AV ⊕ DR:=match findP acc kFo with
  | none=>mdPct acc r
  | some v=>match fo2 0 (splitB 58 v) with
    | some n=>mdPct acc { r with fo:=n }
    | none=>.inl (eN mFo)
def mdAspf (r:DR):AV ⊕ DR:=match findP acc kAspf with
  | none=>mdFo acc { r with sp:=sR }
  | some v=>if alignB v=true then mdFo acc { r with sp:=v } else .inl (eN (mAlign++kAspf))
def mdAdkim (r:DR):AV ⊕ DR:=match findP acc kAdkim with
  | none=>mdAspf acc { r with dk:=sR }
  | some v=>if alignB v=true then mdAspf acc { r with dk:=v } else .inl (eN (mAlign++kAdkim))
def mdAll:AV ⊕ DR:=if (findP acc kV).getD []=sDM then (match findP acc kP with
  | none=>.inl (eN mNoP)
  | some v=>if polB v=true then mdAdkim acc { dr0 with p:=v } else .inl (eN (mPol++kP))) else .inl (.ifc 3 .junk)
end

def mdV:AV ⊕ DR→AV
  | .inl e=>.tup [.nilP,e]
  | .inr r=>.tup [.ptr r.cells,.nilI]

abbrev mdQ (x:AV ⊕ DR):APost:=finQ [.t 2,.t 3] fun v=>v=mdV x

def valsOk (acc:List KVp):Prop:=∀ q∈acc,q.2.length < mid∧plain q.2=true
theorem findP_in:∀ {l:List KVp} {k v:L8},findP l k=some v→(k,v)∈l
  | [],_,_,h=>by simp [findP] at h
  | (i,u)::r,k,v,h=>by
    simp only [findP] at h
    split at h
    · rename_i e; simp at h; subst e; subst h; simp
    · exact List.mem_cons_of_mem _ (findP_in h)

section
variable {Γ:Gam} (h150:Γ.fn 150=con_dmPolicy) (h151:Γ.fn 151=con_dmAlign) (h152:Γ.fn 152=con_dmFo) (h153:Γ.fn 153=con_Atoi) (s154:Γ.st 154=con_zzSplit) (h155:Γ.fn 155=con_dmURIs) (h50:Γ.fn 50=con_errorsNew)

theorem valV_tup {x:Option L8} {a b:AV} (h:valV x=.tup [a,b]):(∀ g,snapW g a=a)∧(∀ g,snapW g b=b)∧(∀ d,kill d a=a)∧∀ d,kill d b=b:=by
  cases x <;> simp [valV] at h <;> obtain ⟨rfl,rfl⟩:=h <;> exact ⟨fun _=>rfl,fun _=>rfl,fun _=>rfl,fun _=>rfl⟩
@[simp] theorem drc_kill (r:DR) (d:Nat):killL d r.cells=r.cells:=by simp [DR.cells]
@[simp] theorem drc_snapW (r:DR) (g:AV→AV):snapWL g r.cells=r.cells:=by simp [DR.cells]
@[simp] theorem drc_ref (r:DR):hasRefL r.cells=false:=by simp [DR.cells]

theorem pd_4 (r:DR) (ex:List (Nat × AV)) (h6:lk ex 6=.ref 46 0):awp Γ f_dmarc_Parse_4 (mdQ (.inr r)) ⟨ex,[(46,.cells r.cells)]⟩:=by
  simp -implicitDefEqProofs [f_dmarc_Parse_4,h6,mdV,DR.cells]

theorem pol_con {v p:L8} (hp:p.length < mid):con_dmPolicy [.str v,.str p]=some (if polB v=true then .tup [.str v,.nilI] else .tup [.str [],eN (mPol++p)]):=if_pos hp
theorem align_con {v p:L8} (hp:p.length < mid):con_dmAlign [.str v,.str p]=some (if alignB v=true then .tup [.str v,.nilI] else .tup [.str [],eN (mAlign++p)]):=if_pos hp

include h150
theorem pd_5 (acc:List KVp) (r:DR) (ex:List (Nat × AV)) (h4:lk ex 4=.mp (pmA acc)) (h6:lk ex 6=.ref 46 0):awp Γ f_dmarc_Parse_5 (mdQ (mdSp acc r)) ⟨ex,[(46,.cells r.cells)]⟩:=by
  have hk:=lookA_two acc [115,112]
  simp only [mdSp,kSp]
  cases hf:findP acc [115,112] with
  | none =>
    rw [hf] at hk
    simp only
    have e:=fun ex h=>pd_4 (Γ:=Γ) r ex h
    simp -implicitDefEqProofs [f_dmarc_Parse_5,lk_rmFi,h4,h6,hk,valV]
    refine e _ ?_
    simp [lk_rmFi,h4,h6]
  | some v =>
    rw [hf] at hk
    have k:=pol_con (v:=v) (p:=[115,112]) (by decide)
    simp only
    cases hp:polB v with
    | false =>
      rw [hp] at k
      simp -implicitDefEqProofs [f_dmarc_Parse_5,lk_rmFi,h4,h6,hk,valV,acall,h150,k,eN,DR.cells,mdV]
    | true =>
      rw [hp] at k
      simp only [if_true]
      have e:=fun ex h=>pd_4 (Γ:=Γ) { r with sub:=v } ex h
      simp only [DR.cells] at e
      simp -implicitDefEqProofs [f_dmarc_Parse_5,lk_rmFi,h4,h6,hk,valV,acall,h150,k,DR.cells]
      refine e _ ?_
      simp [lk_rmFi,h4,h6]

include h155
theorem pd_6 (acc:List KVp) (ha:valsOk acc) (r:DR) (ex:List (Nat × AV)) (h4:lk ex 4=.mp (pmA acc)) (h6:lk ex 6=.ref 46 0):awp Γ f_dmarc_Parse_6 (mdQ (mdRuf acc r)) ⟨ex,[(46,.cells r.cells)]⟩:=by
  have hk:=lookA_two acc [114,117,102]
  simp only [mdRuf,kRuf]
  cases hf:findP acc [114,117,102] with
  | none =>
    rw [hf] at hk
    simp only
    have e:=fun ex h h'=>pd_5 (Γ:=Γ) h150 acc r ex h h'
    simp -implicitDefEqProofs [f_dmarc_Parse_6,lk_rmFi,h4,h6,hk,valV]
    refine e _ ?_ ?_ <;> simp [lk_rmFi,h4,h6]
  | some v =>
    rw [hf] at hk
    have hv:=ha _ (findP_in hf)
    have k:con_dmURIs [.str v]=some (.sl 1 (strsA (uris v))):=if_pos hv
    simp only
    have e:=fun ex h h'=>pd_5 (Γ:=Γ) h150 acc { r with ruf:=some (uris v) } ex h h'
    simp only [DR.cells] at e
    simp -implicitDefEqProofs [f_dmarc_Parse_6,lk_rmFi,h4,h6,hk,valV,acall,h155,k,DR.cells]
    refine e _ ?_ ?_ <;> simp [lk_rmFi,h4,h6]

theorem pd_7 (acc:List KVp) (ha:valsOk acc) (r:DR) (ex:List (Nat × AV)) (h4:lk ex 4=.mp (pmA acc)) (h6:lk ex 6=.ref 46 0):awp Γ f_dmarc_Parse_7 (mdQ (mdRua acc r)) ⟨ex,[(46,.cells r.cells)]⟩:=by
  have hk:=lookA_two acc [114,117,97]
  simp only [mdRua,kRua]
  cases hf:findP acc [114,117,97] with
  | none =>
    rw [hf] at hk
    simp only
    have e:=fun ex h h'=>pd_6 (Γ:=Γ) h150 h155 acc ha r ex h h'
    simp -implicitDefEqProofs [f_dmarc_Parse_7,lk_rmFi,h4,h6,hk,valV]
    refine e _ ?_ ?_ <;> simp [lk_rmFi,h4,h6]
  | some v =>
    rw [hf] at hk
    have hv:=ha _ (findP_in hf)
    have k:con_dmURIs [.str v]=some (.sl 1 (strsA (uris v))):=if_pos hv
    simp only
    have e:=fun ex h h'=>pd_6 (Γ:=Γ) h150 h155 acc ha { r with rua:=some (uris v) } ex h h'
    simp only [DR.cells] at e
    simp -implicitDefEqProofs [f_dmarc_Parse_7,lk_rmFi,h4,h6,hk,valV,acall,h155,k,DR.cells]
    refine e _ ?_ ?_ <;> simp [lk_rmFi,h4,h6]

include h153 h50
theorem pd_3 (acc:List KVp) (ha:valsOk acc) (r:DR) (a b:AV) (hab:valV (findP acc kRi)=.tup [a,b]) :
    awp Γ f_dmarc_Parse_3 (thenQ (awp Γ f_dmarc_Parse_7 (mdQ (mdRi acc r))) (mdQ (mdRi acc r))) ⟨[(4,.mp (pmA acc)),(6,.ref 46 0),(24,a),(25,b)],[(46,.cells r.cells)]⟩:=by
  simp only [mdRi]
  cases hf:findP acc kRi with
  | none =>
    rw [hf] at hab
    simp [valV] at hab
    obtain ⟨rfl,rfl⟩:=hab
    simp only
    simp -implicitDefEqProofs [f_dmarc_Parse_3]
    exact pd_7 h150 h155 acc ha r _ rfl rfl
  | some v =>
    rw [hf] at hab
    simp [valV] at hab
    obtain ⟨rfl,rfl⟩:=hab
    have hv:=ha _ (findP_in hf)
    have k:con_Atoi [.str v]=some (atoiV v):=if_pos hv.1
    simp only [atoiV] at k
    simp only
    cases hq:Go.Lib.atoiAll v with
    | ok n =>
      rw [hq] at k
      simp only at k ⊢
      by_cases hn:n≤0
      · rw [if_pos hn]
        simp -implicitDefEqProofs [f_dmarc_Parse_3,acall,h153,k,hn,h50,con_errorsNew,mdV,eN,mRi2,mRi]
      · rw [if_neg hn]
        have e:=pd_7 (Γ:=Γ) h150 h155 acc ha { r with ri:=n } [(4,.mp (pmA acc)),(6,.ref 46 0)] rfl rfl
        simp only [DR.cells] at e
        simp -implicitDefEqProofs [f_dmarc_Parse_3,acall,h153,k,hn,DR.cells]
        exact e
    | range =>
      rw [hq] at k
      simp only at k ⊢
      simp -implicitDefEqProofs [f_dmarc_Parse_3,acall,h153,k,h50,con_errorsNew,mdV,eN,mRi]
    | _ =>
      rw [hq] at k
      simp only at k ⊢
      simp -implicitDefEqProofs [f_dmarc_Parse_3,acall,h153,k,h50,con_errorsNew,mdV,eN,mRi]

theorem pd_8 (acc:List KVp) (ha:valsOk acc) (r:DR) (ex:List (Nat × AV)) (h4:lk ex 4=.mp (pmA acc)) (h6:lk ex 6=.ref 46 0):awp Γ f_dmarc_Parse_8 (mdQ (mdRi acc r)) ⟨ex,[(46,.cells r.cells)]⟩:=by
  have hk:=lookA_two acc [114,105]
  obtain ⟨a,b,hab⟩:∃ a b,valV (findP acc kRi)=.tup [a,b]:=by cases findP acc kRi <;> exact ⟨_,_,rfl⟩
  have hab':=hab
  rw [kRi] at hab'
  rw [hab'] at hk
  obtain ⟨_,_,ha2,hb2⟩:=valV_tup hab
  simp -implicitDefEqProofs [f_dmarc_Parse_8,lk_rmFi,h4,h6,hk,ha2,hb2]
  exact pd_3 h150 h153 h155 h50 acc ha r a b hab

theorem pd_8b (acc:List KVp) (ha:valsOk acc) (r:DR) (L:List L8) (ex:List (Nat × AV)) (h4:lk ex 4=.mp (pmA acc)) (h6:lk ex 6=.ref 46 0) :
    awp Γ f_dmarc_Parse_8 (mdQ (mdRi acc { r with rf:=some L })) ⟨ex,[(158,.cells (strsA L)),(154,.cells (strsA L)),(46,.cells [.str r.dk,.str r.sp,.int .i64 r.fo,.str r.p,pctA r.pct,.msl 158 1 0 L.length,.int .i64 r.ri,slO r.rua,slO r.ruf,.str r.sub])]⟩:=by
  have hk:=lookA_two acc [114,105]
  obtain ⟨a,b,hab⟩:∃ a b,valV (findP acc kRi)=.tup [a,b]:=by cases findP acc kRi <;> exact ⟨_,_,rfl⟩
  have hab':=hab
  rw [kRi] at hab'
  obtain ⟨ha1,hb1,ha2,hb2⟩:=valV_tup hab
  rw [hab'] at hk
  have e:=pd_3 h150 h153 h155 h50 acc ha { r with rf:=some L } a b hab
  simp only [DR.cells] at e
  simp -implicitDefEqProofs [f_dmarc_Parse_8,lk_rmFi,h4,h6,hk,ha1,hb1,ha2,hb2,List.take_of_length_le]
  exact e

include s154
theorem pd_2 (acc:List KVp) (ha:valsOk acc) (r:DR) (a b:AV) (hab:valV (findP acc kRf)=.tup [a,b]) :
    awp Γ f_dmarc_Parse_2 (thenQ (awp Γ f_dmarc_Parse_8 (mdQ (mdRf acc r))) (mdQ (mdRf acc r))) ⟨[(4,.mp (pmA acc)),(6,.ref 46 0),(19,a),(20,b)],[(46,.cells r.cells)]⟩:=by
  simp only [mdRf]
  cases hf:findP acc kRf with
  | none =>
    rw [hf] at hab
    simp [valV] at hab
    obtain ⟨rfl,rfl⟩:=hab
    simp only
    simp -implicitDefEqProofs [f_dmarc_Parse_2]
    exact pd_8 h150 h153 h155 h50 acc ha r _ rfl rfl
  | some v =>
    rw [hf] at hab
    simp [valV] at hab
    obtain ⟨rfl,rfl⟩:=hab
    have hv:=ha _ (findP_in hf)
    simp only at hv
    have hsp:con_zzSplit [.str v,.str [58]] []=some (.msl 0 1 0 (splitB 58 v).length,[(0,.cells (strsA (splitB 58 v)))]):=if_pos hv.1
    have hl:=splitB_length 58 v
    have hv1:=hv.1
    simp only [mid] at hv1
    simp only
    generalize splitB 58 v=L at *
    have hL1:L.all (fun s=>decide (s=sAfrf))=true→(if L.all (fun s=>decide (s=sAfrf))=true then mdRi acc { r with rf:=some L } else .inl (eN mRf))=mdRi acc { r with rf:=some L }:=fun h=>if_pos h
    have hL2:L.all (fun s=>decide (s=sAfrf))=false→(if L.all (fun s=>decide (s=sAfrf))=true then mdRi acc { r with rf:=some L } else .inl (eN mRf))=.inl (eN mRf):=fun h=>by rw [h]; rfl
    generalize (if L.all (fun s=>decide (s=sAfrf))=true then mdRi acc { r with rf:=some L } else .inl (eN mRf))=X at *
    have hbound:((L.length:Int).toNat+1) * 17 < 35184372088832∧(L.length:Int).toNat < 35184372088832:=by omega
    simp -implicitDefEqProofs [f_dmarc_Parse_2,acallS,s154,hsp,DR.cells]
    refine ⟨by omega,?_⟩
    refine awp_loop2 (σ:=List L8 × List L8) (fun p=>⟨[(4,.mp (pmA acc)),(6,.ref 46 0),(161,.msl 154 1 0 L.length),(162,.int .i64 L.length),(163,.int .i64 p.1.length)],[(158,.cells (strsA p.1++List.replicate p.2.length (.str []))),(154,.cells (strsA L)),(46,.cells [.str r.dk,.str r.sp,.int .i64 r.fo,.str r.p,pctA r.pct,.msl 158 1 0 L.length,.int .i64 r.ri,slO r.rua,slO r.ruf,.str r.sub])]⟩)
      (fun p=>L=p.1++p.2∧p.1.all (fun s=>decide (s=sAfrf))=true) (fun p=>p.2.length) ([],L) ?_ (by simp) ?_
    · simp
    rintro ⟨pre,post⟩ ⟨e1,e2⟩ LQ hLQ
    simp only at e1 e2
    cases post with
    | nil =>
      simp only [List.append_nil] at e1
      subst e1
      rw [hL1 e2]
      have e:=fun ex h h'=>pd_8b (Γ:=Γ) h150 h153 h155 h50 acc ha r L ex h h'
      simp -implicitDefEqProofs [b_dmarc_Parse_1]
      refine e _ ?_ ?_ <;> simp
    | cons x post =>
      have hlen:L.length=pre.length+(post.length+1):=by rw [e1]; simp
      have hlt':(pre.length:Int) < (L.length:Int):=by omega
      have hlt:pre.length < L.length:=by omega
      have g3:L[pre.length]? = some x:=by rw [e1]; exact get_mid rfl
      have ew:IntKind.i64.wrap ((pre.length:Int)+1)=(pre.length:Int)+1:=wrap64 (by omega) (by omega)
      by_cases hx:x=sAfrf
      · subst hx
        have hb:pre.length < pre.length+(post.length+1):=by omega
        have fin:∀ st,norm [4,6,161,162,163] st=⟨[(4,.mp (pmA acc)),(6,.ref 46 0),(161,.msl 154 1 0 L.length),(162,.int .i64 L.length),(163,.int .i64 ((pre.length:Int)+1))],[(158,.cells (strsA pre++(.str sAfrf::List.replicate post.length (.str [])))),(154,.cells (strsA L)),(46,.cells [.str r.dk,.str r.sp,.int .i64 r.fo,.str r.p,pctA r.pct,.msl 158 1 0 L.length,.int .i64 r.ri,slO r.rua,slO r.ruf,.str r.sub])]⟩→LQ st:=by
          intro st hst
          refine hLQ (pre++[sAfrf],post) ⟨by rw [e1]; simp,by simp [e2]⟩ (by simp) st ?_
          rw [hst]; simp
        have gdrop:L.drop pre.length=sAfrf::post:=by rw [e1]; simp
        simp only [sAfrf] at g3 fin gdrop
        simp -implicitDefEqProofs [b_dmarc_Parse_1,hlt,hlt',g3,gdrop,ew,List.replicate_succ]
        exact fin _ (by simp)
      · have hf2:L.all (fun s=>decide (s=sAfrf))=false:=by rw [e1]; simp [hx]
        rw [hL2 hf2]
        have gdrop:L.drop pre.length=x::post:=by rw [e1]; simp
        simp only [sAfrf] at hx
        simp -implicitDefEqProofs [b_dmarc_Parse_1,hlt,hlt',g3,gdrop,hx,acall,h50,con_errorsNew,mdV,eN,mRf]
end
end Wax


namespace Wax
open Go (IntKind)

def sArc:L8:=[97,114,99]
def sAuth:L8:=[97,117,116,104]
def sDkim:L8:=[100,107,105,109]
def sDomk:L8:=[100,111,109,97,105,110,107,101,121,115]
def sIprev:L8:=[105,112,114,101,118]
def sSender:L8:=[115,101,110,100,101,114,45,105,100]
def sSpf:L8:=[115,112,102]
def sDmarc:L8:=[100,109,97,114,99]
def sNone0:L8:=[110,111,110,101]
def qReason:L8:=[114,101,97,115,111,110]
def qAuth:L8:=[115,109,116,112,46,97,117,116,104]
def qD:L8:=[104,101,97,100,101,114,46,100]
def qI:L8:=[104,101,97,100,101,114,46,105]
def qFrom:L8:=[104,101,97,100,101,114,46,102,114,111,109]
def qSend:L8:=[104,101,97,100,101,114,46,115,101,110,100,101,114]
def qIprev:L8:=[112,111,108,105,99,121,46,105,112,114,101,118]
def qHead:L8:=[104,101,97,100,101,114,46]
def qMail:L8:=[115,109,116,112,46,109,97,105,108,102,114,111,109]
def qHelo:L8:=[115,109,116,112,46,104,101,108,111]
def qOld:L8:=[104,101,97,100,101,114,46,111,108,100,101,115,116,45,112,97,115,115]
def qRem:L8:=[115,109,116,112,46,114,101,109,111,116,101,45,105,112]
def mArc1:L8:=[105,110,118,97,108,105,100,32,104,101,97,100,101,114,46,111,108,100,101,115,116,45,112,97,115,115,32,112,97,114,97,109]
def mArc2:L8:=[105,110,118,97,108,105,100,32,104,101,97,100,101,114,46,111,108,100,101,115,116,45,112,97,115,115,32,112,97,114,97,109,58,32,109,117,115,116,32,98,101,32,62,61,32,49]

def asPm:List (L8 × AV)→Option (List KVp)
  | []=>some []
  | (k,.str v)::r=>(asPm r).map ((k,v) :: ·)
  | _::_=>none
theorem asPm_pmA:∀ l:List KVp,asPm (pmA l)=some l
  | []=>rfl
  | (k,v)::r=>by
    have:=asPm_pmA r
    simp only [pmA,List.map_cons,asPm] at this ⊢
    rw [this]; rfl
theorem asPm_spec:∀ {es:List (L8 × AV)} {l:List KVp},asPm es=some l→es=pmA l
  | [],l,h=>by simp [asPm] at h; subst h; rfl
  | (k,v)::r,l,h=>by
    cases v <;> simp [asPm] at h
    obtain ⟨q,h1,rfl⟩:=h
    rw [asPm_spec h1]; rfl
def con_pAuth:List AV→List (Nat × AObj)→Option (AV × List (Nat × AObj))
  | [.ref 0 0,.str v,.mref 1],[(0,.cells [.str _,.str _,.str _]),(1,.mp es)]=>match asPm es with
    | some l=>some (.nilI,[(0,.cells [.str v,.str (lookP l qReason),.str (lookP l qAuth)]),(1,.mp (pmA l))])
    | none=>none
  | _,_=>none
theorem ok_pAuth (Γ:Gam):∀ args hp q,con_pAuth args hp=some q→runsS Γ c_authres_AuthResult_parse args hp (fun v=>v=some q):=by
  intro args hp q h
  simp only [con_pAuth] at h
  split at h <;> (try simp at h; done)
  split at h <;> (try simp at h; done)
  rename_i l hl
  injection h with h; subst h
  rw [asPm_spec hl]
  simp -implicitDefEqProofs [c_authres_AuthResult_parse,lookA_pmA,reach_succ,qAuth,qReason]

def con_pDKIM:List AV→List (Nat × AObj)→Option (AV × List (Nat × AObj))
  | [.ref 0 0,.str v,.mref 1],[(0,.cells [.str _,.str _,.str _,.str _]),(1,.mp es)]=>match asPm es with
    | some l=>some (.nilI,[(0,.cells [.str v,.str (lookP l qReason),.str (lookP l qD),.str (lookP l qI)]),(1,.mp (pmA l))])
    | none=>none
  | _,_=>none
theorem ok_pDKIM (Γ:Gam):∀ args hp q,con_pDKIM args hp=some q→runsS Γ c_authres_DKIMResult_parse args hp (fun v=>v=some q):=by
  intro args hp q h
  simp only [con_pDKIM] at h
  split at h <;> (try simp at h; done)
  split at h <;> (try simp at h; done)
  rename_i l hl
  injection h with h; subst h
  rw [asPm_spec hl]
  simp -implicitDefEqProofs [c_authres_DKIMResult_parse,lookA_pmA,reach_succ,qD,qI,qReason]

def con_pDomk:List AV→List (Nat × AObj)→Option (AV × List (Nat × AObj))
  | [.ref 0 0,.str v,.mref 1],[(0,.cells [.str _,.str _,.str _,.str _,.str _]),(1,.mp es)]=>match asPm es with
    | some l=>some (.nilI,[(0,.cells [.str v,.str (lookP l qReason),.str (lookP l qD),.str (lookP l qFrom),.str (lookP l qSend)]),(1,.mp (pmA l))])
    | none=>none
  | _,_=>none
theorem ok_pDomk (Γ:Gam):∀ args hp q,con_pDomk args hp=some q→runsS Γ c_authres_DomainKeysResult_parse args hp (fun v=>v=some q):=by
  intro args hp q h
  simp only [con_pDomk] at h
  split at h <;> (try simp at h; done)
  split at h <;> (try simp at h; done)
  rename_i l hl
  injection h with h; subst h
  rw [asPm_spec hl]
  simp -implicitDefEqProofs [c_authres_DomainKeysResult_parse,lookA_pmA,reach_succ,qD,qFrom,qReason,qSend]

def con_pIprev:List AV→List (Nat × AObj)→Option (AV × List (Nat × AObj))
  | [.ref 0 0,.str v,.mref 1],[(0,.cells [.str _,.str _,.str _]),(1,.mp es)]=>match asPm es with
    | some l=>some (.nilI,[(0,.cells [.str v,.str (lookP l qReason),.str (lookP l qIprev)]),(1,.mp (pmA l))])
    | none=>none
  | _,_=>none
theorem ok_pIprev (Γ:Gam):∀ args hp q,con_pIprev args hp=some q→runsS Γ c_authres_IPRevResult_parse args hp (fun v=>v=some q):=by
  intro args hp q h
  simp only [con_pIprev] at h
  split at h <;> (try simp at h; done)
  split at h <;> (try simp at h; done)
  rename_i l hl
  injection h with h; subst h
  rw [asPm_spec hl]
  simp -implicitDefEqProofs [c_authres_IPRevResult_parse,lookA_pmA,reach_succ,qIprev,qReason]

def con_pSpf:List AV→List (Nat × AObj)→Option (AV × List (Nat × AObj))
  | [.ref 0 0,.str v,.mref 1],[(0,.cells [.str _,.str _,.str _,.str _]),(1,.mp es)]=>match asPm es with
    | some l=>some (.nilI,[(0,.cells [.str v,.str (lookP l qReason),.str (lookP l qMail),.str (lookP l qHelo)]),(1,.mp (pmA l))])
    | none=>none
  | _,_=>none
theorem ok_pSpf (Γ:Gam):∀ args hp q,con_pSpf args hp=some q→runsS Γ c_authres_SPFResult_parse args hp (fun v=>v=some q):=by
  intro args hp q h
  simp only [con_pSpf] at h
  split at h <;> (try simp at h; done)
  split at h <;> (try simp at h; done)
  rename_i l hl
  injection h with h; subst h
  rw [asPm_spec hl]
  simp -implicitDefEqProofs [c_authres_SPFResult_parse,lookA_pmA,reach_succ,qHelo,qMail,qReason]

def con_pDmarc:List AV→List (Nat × AObj)→Option (AV × List (Nat × AObj))
  | [.ref 0 0,.str v,.mref 1],[(0,.cells [.str _,.str _,.str _]),(1,.mp es)]=>match asPm es with
    | some l=>some (.nilI,[(0,.cells [.str v,.str (lookP l qReason),.str (lookP l qFrom)]),(1,.mp (pmA l))])
    | none=>none
  | _,_=>none
theorem ok_pDmarc (Γ:Gam):∀ args hp q,con_pDmarc args hp=some q→runsS Γ c_authres_DMARCResult_parse args hp (fun v=>v=some q):=by
  intro args hp q h
  simp only [con_pDmarc] at h
  split at h <;> (try simp at h; done)
  split at h <;> (try simp at h; done)
  rename_i l hl
  injection h with h; subst h
  rw [asPm_spec hl]
  simp -implicitDefEqProofs [c_authres_DMARCResult_parse,lookA_pmA,reach_succ,qFrom,qReason]

def con_nArc:List AV→List (Nat × AObj)→Option (AV × List (Nat × AObj))
  | [],[]=>some (.ifc 7 (.ref 0 0),[(0,.cells [.str [],.str [],.int .i64 0])])
  | _,_=>none
theorem ok_nArc (Γ:Gam):∀ args hp q,con_nArc args hp=some q→runsS Γ c_authres_newResults_1 args hp (fun v=>v=some q):=by
  intro args hp q h
  simp only [con_nArc] at h
  split at h <;> (try simp at h; done)
  injection h with h; subst h
  simp -implicitDefEqProofs [c_authres_newResults_1,reach_succ]

def con_nAuth:List AV→List (Nat × AObj)→Option (AV × List (Nat × AObj))
  | [],[]=>some (.ifc 8 (.ref 0 0),[(0,.cells [.str [],.str [],.str []])])
  | _,_=>none
theorem ok_nAuth (Γ:Gam):∀ args hp q,con_nAuth args hp=some q→runsS Γ c_authres_newResults_2 args hp (fun v=>v=some q):=by
  intro args hp q h
  simp only [con_nAuth] at h
  split at h <;> (try simp at h; done)
  injection h with h; subst h
  simp -implicitDefEqProofs [c_authres_newResults_2,reach_succ]

def con_nDKIM:List AV→List (Nat × AObj)→Option (AV × List (Nat × AObj))
  | [],[]=>some (.ifc 9 (.ref 0 0),[(0,.cells [.str [],.str [],.str [],.str []])])
  | _,_=>none
theorem ok_nDKIM (Γ:Gam):∀ args hp q,con_nDKIM args hp=some q→runsS Γ c_authres_newResults_3 args hp (fun v=>v=some q):=by
  intro args hp q h
  simp only [con_nDKIM] at h
  split at h <;> (try simp at h; done)
  injection h with h; subst h
  simp -implicitDefEqProofs [c_authres_newResults_3,reach_succ]

def con_nDomk:List AV→List (Nat × AObj)→Option (AV × List (Nat × AObj))
  | [],[]=>some (.ifc 10 (.ref 0 0),[(0,.cells [.str [],.str [],.str [],.str [],.str []])])
  | _,_=>none
theorem ok_nDomk (Γ:Gam):∀ args hp q,con_nDomk args hp=some q→runsS Γ c_authres_newResults_4 args hp (fun v=>v=some q):=by
  intro args hp q h
  simp only [con_nDomk] at h
  split at h <;> (try simp at h; done)
  injection h with h; subst h
  simp -implicitDefEqProofs [c_authres_newResults_4,reach_succ]

def con_nIprev:List AV→List (Nat × AObj)→Option (AV × List (Nat × AObj))
  | [],[]=>some (.ifc 11 (.ref 0 0),[(0,.cells [.str [],.str [],.str []])])
  | _,_=>none
theorem ok_nIprev (Γ:Gam):∀ args hp q,con_nIprev args hp=some q→runsS Γ c_authres_newResults_5 args hp (fun v=>v=some q):=by
  intro args hp q h
  simp only [con_nIprev] at h
  split at h <;> (try simp at h; done)
  injection h with h; subst h
  simp -implicitDefEqProofs [c_authres_newResults_5,reach_succ]

def con_nSender:List AV→List (Nat × AObj)→Option (AV × List (Nat × AObj))
  | [],[]=>some (.ifc 12 (.ref 0 0),[(0,.cells [.str [],.str [],.str [],.str []])])
  | _,_=>none
theorem ok_nSender (Γ:Gam):∀ args hp q,con_nSender args hp=some q→runsS Γ c_authres_newResults_6 args hp (fun v=>v=some q):=by
  intro args hp q h
  simp only [con_nSender] at h
  split at h <;> (try simp at h; done)
  injection h with h; subst h
  simp -implicitDefEqProofs [c_authres_newResults_6,reach_succ]

def con_nSpf:List AV→List (Nat × AObj)→Option (AV × List (Nat × AObj))
  | [],[]=>some (.ifc 13 (.ref 0 0),[(0,.cells [.str [],.str [],.str [],.str []])])
  | _,_=>none
theorem ok_nSpf (Γ:Gam):∀ args hp q,con_nSpf args hp=some q→runsS Γ c_authres_newResults_7 args hp (fun v=>v=some q):=by
  intro args hp q h
  simp only [con_nSpf] at h
  split at h <;> (try simp at h; done)
  injection h with h; subst h
  simp -implicitDefEqProofs [c_authres_newResults_7,reach_succ]

def con_nDmarc:List AV→List (Nat × AObj)→Option (AV × List (Nat × AObj))
  | [],[]=>some (.ifc 14 (.ref 0 0),[(0,.cells [.str [],.str [],.str []])])
  | _,_=>none
theorem ok_nDmarc (Γ:Gam):∀ args hp q,con_nDmarc args hp=some q→runsS Γ c_authres_newResults_8 args hp (fun v=>v=some q):=by
  intro args hp q h
  simp only [con_nDmarc] at h
  split at h <;> (try simp at h; done)
  injection h with h; subst h
  simp -implicitDefEqProofs [c_authres_newResults_8,reach_succ]

def con_pGen:List AV→List (Nat × AObj)→Option (AV × List (Nat × AObj))
  | [.ref 0 0,.str v,.mref 1],[(0,.cells [.str m,.str _,.mref 1]),(1,.mp es)]=>some (.nilI,[(0,.cells [.str m,.str v,.mref 1]),(1,.mp es)])
  | _,_=>none
theorem ok_pGen (Γ:Gam):∀ args hp q,con_pGen args hp=some q→runsS Γ c_authres_GenericResult_parse args hp (fun v=>v=some q):=by
  intro args hp q h
  simp only [con_pGen] at h
  split at h <;> (try simp at h; done)
  injection h with h; subst h
  simp -implicitDefEqProofs [c_authres_GenericResult_parse,reach_succ]

def arcOf (l:List KVp):L8 ⊕ Int:=match findP l qOld with
  | none=>.inr 0
  | some s=>match Go.Lib.atoiAll s with
    | .ok v=>if v≤0 then .inl mArc2 else .inr v
    | _=>.inl mArc1
theorem lookA_findP (l:List KVp) (k:L8):lookA (pmA l) k (.str []) true=match findP l k with | some v=>.tup [.str v,.bool true] | none=>.tup [.str [],.bool false]:=by
  induction l with
  | nil=>rfl
  | cons t r ih =>
    obtain ⟨i,v⟩:=t
    by_cases h:k=i
    · simp [pmA,lookA,mfind,findP,h]
    · have h2:¬ i=k:=fun e=>h e.symm
      simp only [pmA,lookA,List.map_cons,mfind,findP,if_neg h,if_neg h2] at ih ⊢
      exact ih
def con_pArc:List AV→List (Nat × AObj)→Option (AV × List (Nat × AObj))
  | [.ref 0 0,.str v,.mref 1],[(0,.cells [.str a,.str b,.int .i64 c]),(1,.mp es)]=>match asPm es with
    | some l=>if ∀ q∈l,q.2.length < mid then some (match arcOf l with
      | .inr n=>(.nilI,[(0,.cells [.str v,.str (lookP l qRem),.int .i64 n]),(1,.mp (pmA l))])
      | .inl m=>(.ifc 3 (.ptr [.str m]),[(0,.cells [.str a,.str b,.int .i64 c]),(1,.mp (pmA l))])) else none
    | none=>none
  | _,_=>none
set_option maxHeartbeats 1000000 in
theorem ok_pArc (Γ:Gam) (h153:Γ.fn 153=con_Atoi) (h50:Γ.fn 50=con_errorsNew):∀ args hp q,con_pArc args hp=some q→runsS Γ c_authres_ARCResult_parse args hp (fun v=>v=some q):=by
  intro args hp q h
  simp only [con_pArc] at h
  split at h <;> (try simp at h; done)
  rename_i v a b c es
  split at h <;> (try simp at h; done)
  rename_i l hl
  obtain ⟨hb,rfl⟩:=ite_some h
  clear h
  rw [asPm_spec hl]
  have e:=lookA_findP l qOld
  have eR:=lookA_pmA l qRem
  simp only [qOld] at e
  simp only [qRem] at eR
  cases hf:findP l qOld with
  | none =>
    have hf':=hf
    simp only [qOld] at hf'
    rw [hf'] at e
    simp -implicitDefEqProofs [c_authres_ARCResult_parse,e,eR,reach_succ,arcOf,hf,qRem]
  | some s =>
    have hs:s.length < mid:=hb _ (findP_in hf)
    have hf':=hf
    simp only [qOld] at hf'
    rw [hf'] at e
    have k:con_Atoi [.str s]=some (atoiV s):=if_pos hs
    have bad:atoiV s=.tup [.int .i64 0,.ifc 4 .junk]∨(∃ z,atoiV s=.tup [.int .i64 z,.ifc 4 .junk])→arcOf l=.inl mArc1→runsS Γ c_authres_ARCResult_parse [.ref 0 0,.str v,.mref 1] [(0,.cells [.str a,.str b,.int .i64 c]),(1,.mp (pmA l))] (fun v=>v=some (.ifc 3 (.ptr [.str mArc1]),[(0,.cells [.str a,.str b,.int .i64 c]),(1,.mp (pmA l))])):=by
      intro h1 h2
      obtain ⟨z,hz⟩:∃ z,atoiV s=.tup [.int .i64 z,.ifc 4 .junk]:=by
        rcases h1 with h1 | h1
        · exact ⟨0,h1⟩
        · exact h1
      rw [hz] at k
      simp -implicitDefEqProofs [c_authres_ARCResult_parse,e,acall,h153,k,h50,con_errorsNew,reach_succ,mArc1]
    cases ha:Go.Lib.atoiAll s with
    | ok n =>
      have ez:atoiV s=.tup [.int .i64 n,.nilI]:=by simp only [atoiV,ha]
      rw [ez] at k
      by_cases hn:n≤0
      · have ea:arcOf l=.inl mArc2:=by simp [arcOf,hf,ha,hn]
        rw [ea]
        simp -implicitDefEqProofs [c_authres_ARCResult_parse,e,acall,h153,k,h50,con_errorsNew,reach_succ,mArc2,hn]
      · have ea:arcOf l=.inr n:=by simp [arcOf,hf,ha,hn]
        rw [ea]
        simp -implicitDefEqProofs [c_authres_ARCResult_parse,e,eR,acall,h153,k,h50,con_errorsNew,reach_succ,hn,qRem]
    | range =>
      have ea:arcOf l=.inl mArc1:=by simp [arcOf,hf,ha]
      rw [ea]
      exact bad (.inr ⟨Go.Lib.atoiSat s,by simp only [atoiV,ha]⟩) ea
    | _ =>
      have ea:arcOf l=.inl mArc1:=by simp [arcOf,hf,ha]
      rw [ea]
      exact bad (.inl (by simp only [atoiV,ha])) ea
end Wax

namespace Wax
open Go (IntKind)

inductive PR where
  | arc (v ip:L8) (o:Int)
  | auth (v r a:L8)
  | dkim (v r d i:L8)
  | domk (v r d f s:L8)
  | iprev (v r i:L8)
  | sender (v r k x:L8)
  | spf (v r f h:L8)
  | dmarc (v r f:L8)
  | gen (m v:L8) (ps:List KVp)

def PR.av:PR→AV
  | .arc v ip o=>.ifc 7 (.ptr [.str v,.str ip,.int .i64 o])
  | .auth v r a=>.ifc 8 (.ptr [.str v,.str r,.str a])
  | .dkim v r d i=>.ifc 9 (.ptr [.str v,.str r,.str d,.str i])
  | .domk v r d f s=>.ifc 10 (.ptr [.str v,.str r,.str d,.str f,.str s])
  | .iprev v r i=>.ifc 11 (.ptr [.str v,.str r,.str i])
  | .sender v r k x=>.ifc 12 (.ptr [.str v,.str r,.str k,.str x])
  | .spf v r f h=>.ifc 13 (.ptr [.str v,.str r,.str f,.str h])
  | .dmarc v r f=>.ifc 14 (.ptr [.str v,.str r,.str f])
  | .gen m v ps=>.ifc 15 (.ptr [.str m,.str v,.mp (pmA ps)])

def con_newResults:List AV→Option AV
  | [.str m]=>some (if m=sArc then .tup [.fn 175 [],.bool true] else if m=sAuth then .tup [.fn 176 [],.bool true] else if m=sDkim then .tup [.fn 177 [],.bool true]
      else if m=sDomk then .tup [.fn 178 [],.bool true] else if m=sIprev then .tup [.fn 179 [],.bool true] else if m=sSender then .tup [.fn 180 [],.bool true]
      else if m=sSpf then .tup [.fn 181 [],.bool true] else if m=sDmarc then .tup [.fn 182 [],.bool true] else .tup [.nilF,.bool false])
  | _=>none

theorem ok_newResults (Γ:Gam):∀ args r,con_newResults args=some r→runs Γ c_authres_newResults args (fun v=>v=r):=by
  intro args r h
  simp only [con_newResults] at h
  split at h <;> (try simp at h; done)
  rename_i m
  injection h with h; subst h
  simp only [sArc,sAuth,sDkim,sDomk,sIprev,sSender,sSpf,sDmarc]
  by_cases h1:m=[97,114,99]
  · subst h1; simp -implicitDefEqProofs [c_authres_newResults]
  by_cases h2:m=[97,117,116,104]
  · subst h2; simp -implicitDefEqProofs [c_authres_newResults]
  by_cases h3:m=[100,107,105,109]
  · subst h3; simp -implicitDefEqProofs [c_authres_newResults]
  by_cases h4:m=[100,111,109,97,105,110,107,101,121,115]
  · subst h4; simp -implicitDefEqProofs [c_authres_newResults]
  by_cases h5:m=[105,112,114,101,118]
  · subst h5; simp -implicitDefEqProofs [c_authres_newResults]
  by_cases h6:m=[115,101,110,100,101,114,45,105,100]
  · subst h6; simp -implicitDefEqProofs [c_authres_newResults]
  by_cases h7:m=[115,112,102]
  · subst h7; simp -implicitDefEqProofs [c_authres_newResults]
  by_cases h8:m=[100,109,97,114,99]
  · subst h8; simp -implicitDefEqProofs [c_authres_newResults]
  simp -implicitDefEqProofs [c_authres_newResults,h1,h2,h3,h4,h5,h6,h7,h8]

def headB (k:L8):Bool:=qHead.isPrefixOf k
def sidOf (l:List KVp):L8 × L8:=match (sortB (l.map (·.1))).find? headB with
  | some k=>(k.drop 7,lookP l k)
  | none=>([],[])

def prOf (m v:L8) (l:List KVp):L8 ⊕ PR :=
  if m=sArc then (match arcOf l with | .inl e=>.inl e | .inr n=>.inr (.arc v (lookP l qRem) n))
  else if m=sAuth then .inr (.auth v (lookP l qReason) (lookP l qAuth))
  else if m=sDkim then .inr (.dkim v (lookP l qReason) (lookP l qD) (lookP l qI))
  else if m=sDomk then .inr (.domk v (lookP l qReason) (lookP l qD) (lookP l qFrom) (lookP l qSend))
  else if m=sIprev then .inr (.iprev v (lookP l qReason) (lookP l qIprev))
  else if m=sSender then .inr (.sender v (lookP l qReason) (sidOf l).1 (sidOf l).2)
  else if m=sSpf then .inr (.spf v (lookP l qReason) (lookP l qMail) (lookP l qHelo))
  else if m=sDmarc then .inr (.dmarc v (lookP l qReason) (lookP l qFrom))
  else .inr (.gen m v l)

def prmsOf:List L8→List KVp→List KVp
  | [],acc=>acc
  | w::r,acc=>match kvOf w with
    | some p=>prmsOf r (psetL acc p.1 p.2)
    | none=>prmsOf r acc

def resAOf (s:L8):L8 ⊕ Option PR:=match wordsOf s with
  | []=>.inr none
  | w::r=>if w=sNone0 then .inr none else match kvOf w with
    | none=>.inl arMsg
    | some p=>match prOf p.1 (lowS p.2) (prmsOf r []) with
      | .inl e=>.inl e
      | .inr x=>.inr (some x)

end Wax


namespace Wax
open Go (IntKind)

def con_HasPrefix:List AV→Option AV
  | [.str s,.str p]=>if s.length < big∧p.length < big then some (.bool (decide (p.length≤s.length) && decide (s.take p.length=p))) else none
  | _=>none
theorem ok_HasPrefix0 (Γ:Gam):∀ args r,con_HasPrefix args=some r→runs Γ c_stringslite_HasPrefix args (fun v=>v=r):=by
  intro args r h
  simp only [con_HasPrefix] at h
  split at h <;> (try simp at h; done)
  rename_i s p
  obtain ⟨⟨h1,h2⟩,rfl⟩:=ite_some h
  clear h
  by_cases hl:(p.length:Int)≤(s.length:Int)
  · have hl':p.length≤s.length:=by omega
    simp -implicitDefEqProofs [c_stringslite_HasPrefix,hl,hl']
  · have hl':¬ p.length≤s.length:=by omega
    simp -implicitDefEqProofs [c_stringslite_HasPrefix,hl,hl']
theorem ok_HasPrefix (Γ:Gam) (h198:Γ.fn 198=con_HasPrefix):∀ args r,con_HasPrefix args=some r→runs Γ c_strings_HasPrefix args (fun v=>v=r):=by
  intro args r h
  have h':=h
  simp only [con_HasPrefix] at h
  split at h <;> (try simp at h; done)
  rename_i s p
  obtain ⟨h1,rfl⟩:=ite_some h
  simp -implicitDefEqProofs [c_strings_HasPrefix,acall,h198,h']
def con_TrimPrefix:List AV→Option AV
  | [.str s,.str p]=>if s.length < big∧p.length < big then some (.str (if p.length≤s.length∧s.take p.length=p then s.drop p.length else s)) else none
  | _=>none
theorem ok_TrimPrefix0 (Γ:Gam) (h198:Γ.fn 198=con_HasPrefix):∀ args r,con_TrimPrefix args=some r→runs Γ c_stringslite_TrimPrefix args (fun v=>v=r):=by
  intro args r h
  simp only [con_TrimPrefix] at h
  split at h <;> (try simp at h; done)
  rename_i s p
  obtain ⟨h1,rfl⟩:=ite_some h
  have k:con_HasPrefix [.str s,.str p]=some (.bool (decide (p.length≤s.length) && decide (s.take p.length=p))):=if_pos h1
  by_cases hl:p.length≤s.length
  · by_cases ht:s.take p.length=p
    · simp [hl,ht] at k
      have hl2:(p.length:Int)≤(s.length:Int):=by omega
      simp -implicitDefEqProofs [c_stringslite_TrimPrefix,acall,h198,k,hl,ht,hl2]
    · simp [hl,ht] at k
      simp -implicitDefEqProofs [c_stringslite_TrimPrefix,acall,h198,k,hl,ht]
  · simp [hl] at k
    simp -implicitDefEqProofs [c_stringslite_TrimPrefix,acall,h198,k,hl]
theorem ok_TrimPrefix (Γ:Gam) (h199:Γ.fn 199=con_TrimPrefix):∀ args r,con_TrimPrefix args=some r→runs Γ c_strings_TrimPrefix args (fun v=>v=r):=by
  intro args r h
  have h':=h
  simp only [con_TrimPrefix] at h
  split at h <;> (try simp at h; done)
  rename_i s p
  obtain ⟨h1,rfl⟩:=ite_some h
  simp -implicitDefEqProofs [c_strings_TrimPrefix,acall,h199,h']

theorem headB_iff {k:L8}:headB k=(decide (7≤k.length) && decide (k.take 7=qHead)):=by
  have e:qHead.length=7:=rfl
  unfold headB
  by_cases h:7≤k.length
  · rw [isPrefixOf_take qHead k (by rw [e]; exact h),e]; simp [h]
  · rw [isPrefixOf_long qHead k (by rw [e]; omega)]; simp [h]

def con_pSender:List AV→List (Nat × AObj)→Option (AV × List (Nat × AObj))
  | [.ref 0 0,.str v,.mref 1],[(0,.cells [.str _,.str _,.str [],.str []]),(1,.mp es)]=>match asPm es with
    | some l=>if l.length < half∧∀ q∈l,q.1.length < half then some (.nilI,[(0,.cells [.str v,.str (lookP l qReason),.str (sidOf l).1,.str (sidOf l).2])]) else none
    | none=>none
  | _,_=>none

set_option maxHeartbeats 1000000 in
theorem ok_pSender (Γ:Gam) (h48:Γ.fn 48=con_Keys) (h49:Γ.fn 49=con_Sorted) (h158:Γ.fn 158=con_HasPrefix) (h192:Γ.fn 192=con_TrimPrefix) :
    ∀ args hp q,con_pSender args hp=some q→runsS Γ c_authres_SenderIDResult_parse args hp (fun v=>v=some q):=by
  intro args hp q h
  simp only [con_pSender] at h
  split at h <;> (try simp at h; done)
  rename_i v a b es
  split at h <;> (try simp at h; done)
  rename_i l hl
  obtain ⟨⟨hb1,hb2⟩,rfl⟩:=ite_some h
  clear h
  rw [asPm_spec hl]
  have eR:=lookA_pmA l qReason
  simp only [qReason] at eR
  have k49:con_Sorted [.fn 55 [.bx [.mp (pmA l)]]]=some (strV (sortB (l.map (·.1)))):=by
    have e1:(pmA l).map (·.1)=l.map (·.1):=by simp [pmA,Function.comp_def]
    simp only [con_Sorted,e1]
    refine if_pos ⟨by simpa [pmA] using hb1,fun q hq=>?_⟩
    simp only [pmA,List.mem_map] at hq
    obtain ⟨z,hz,rfl⟩:=hq
    exact hb2 z hz
  have hkl:∀ k∈sortB (l.map (·.1)),k.length < half:=by
    intro k hk
    have:k∈l.map (·.1):=by simpa [sortB] using hk
    obtain ⟨z,hz,rfl⟩:=List.mem_map.1 this
    exact hb2 z hz
  have hsl:(sortB (l.map (·.1))).length < half:=by simpa [sortB] using hb1
  have hp1:=slf_ref (slStrs_strV (l:=sortB (l.map (·.1))))
  have hp2:=slf_alen (slStrs_strV (l:=sortB (l.map (·.1))))
  have hsv:=slStrs_strV (l:=sortB (l.map (·.1)))
  simp -implicitDefEqProofs [-alen,c_authres_SenderIDResult_parse,eR,reach_succ,acall,h48,con_Keys,h49,k49,hp1,hp2]
  simp only [sidOf]
  generalize sortB (l.map (·.1))=ks at *
  simp only [half] at hsl
  refine awp_loop2 (σ:=List L8 × List L8) (fun p=>⟨[(0,.ref 1000000 0),(2,.mp (pmA l)),(20,strV ks),(21,.int .i64 ks.length),(22,.int .i64 p.1.length)],[(1000000,.cells [.str v,.str (lookP l qReason),(.str []),(.str [])])]⟩)
    (fun p=>ks=p.1++p.2∧∀ k∈p.1,headB k=false) (fun p=>p.2.length) ([],ks) ?_ (by simp) ?_
  · simp [qReason]
  rintro ⟨pre,post⟩ ⟨hs1,hs2⟩ LQ hLQ
  simp only at hs1 hs2
  cases post with
  | nil =>
    simp only [List.append_nil] at hs1
    subst hs1
    have hn:List.find? headB ks=none:=List.find?_eq_none.2 fun k hk=>by simp [hs2 k hk]
    have hnl:¬ ((ks.length:Int) < (ks.length:Int)):=by omega
    simp -implicitDefEqProofs [-alen,hn,reach_succ,qReason]
  | cons x post =>
    have hu:=slf_ne hsv (by rw [hs1]; simp)
    rw [hu] at hLQ ⊢
    have hlen:ks.length=pre.length+(post.length+1):=by rw [hs1]; simp
    have hlt:(pre.length:Int) < (ks.length:Int):=by omega
    have hlt2:pre.length < ks.length:=by omega
    have g2:(strsA ks)[pre.length]? = some (.str x):=by rw [hs1]; simp only [strsA_app,strsA_cons]; exact get_mid (by simp)
    have g3:ks[pre.length]? = some x:=by rw [hs1]; exact get_mid rfl
    have hxl:=hkl x (by rw [hs1]; simp)
    have ew:IntKind.i64.wrap ((pre.length:Int)+1)=(pre.length:Int)+1:=wrap64 (by omega) (by omega)
    have hxb:x.length < big∧([104,101,97,100,101,114,46]:L8).length < big:=by simp only [half,big] at *; simp; omega
    have k1:con_HasPrefix [.str x,.str [104,101,97,100,101,114,46]]=some (.bool (headB x)):=by
      rw [headB_iff]; exact if_pos hxb
    cases hh:headB x with
    | false =>
      rw [hh] at k1
      simp -implicitDefEqProofs [-alen,hlt,g2,g3,acall,h158,k1,ew,qReason]
      refine hLQ (pre++[x],post) ⟨by rw [hs1]; simp,fun k hk=>?_⟩ (by simp) _ ?_
      · rcases List.mem_append.1 hk with hk | hk
        · exact hs2 k hk
        · simp at hk; rw [hk]; exact hh
      · simp [qReason]
    | true =>
      rw [hh] at k1
      have hf:List.find? headB ks=some x:=by
        rw [hs1,List.find?_append]
        have:List.find? headB pre=none:=List.find?_eq_none.2 fun k hk=>by simp [hs2 k hk]
        simp [this,hh]
      have hp:=hh
      rw [headB_iff] at hp
      simp only [Bool.and_eq_true,decide_eq_true_eq] at hp
      have k2:con_TrimPrefix [.str x,.str [104,101,97,100,101,114,46]]=some (.str (x.drop 7)):=by
        simp only [con_TrimPrefix]
        rw [if_pos hxb,if_pos]
        · rfl
        · exact hp
      simp -implicitDefEqProofs [-alen,hlt,g2,g3,acall,h158,k1,h192,k2,lookA_pmA,hf,reach_succ,qReason]
end Wax


namespace Wax
open Go (IntKind)

def nP:String := "given.example/pub-waxseal/pub/msgauth/authres.parse"
structure ArG (Γ:Gam):Prop where
  m7:Γ.mth 7 nP=some 195
  m8:Γ.mth 8 nP=some 187
  m9:Γ.mth 9 nP=some 188
  m10:Γ.mth 10 nP=some 189
  m11:Γ.mth 11 nP=some 190
  m12:Γ.mth 12 nP=some 191
  m13:Γ.mth 13 nP=some 193
  m14:Γ.mth 14 nP=some 194
  m15:Γ.mth 15 nP=some 196
  s175:Γ.st 175=con_nArc
  s176:Γ.st 176=con_nAuth
  s177:Γ.st 177=con_nDKIM
  s178:Γ.st 178=con_nDomk
  s179:Γ.st 179=con_nIprev
  s180:Γ.st 180=con_nSender
  s181:Γ.st 181=con_nSpf
  s182:Γ.st 182=con_nDmarc
  s187:Γ.st 187=con_pAuth
  s188:Γ.st 188=con_pDKIM
  s189:Γ.st 189=con_pDomk
  s190:Γ.st 190=con_pIprev
  s191:Γ.st 191=con_pSender
  s193:Γ.st 193=con_pSpf
  s194:Γ.st 194=con_pDmarc
  s195:Γ.st 195=con_pArc
  s196:Γ.st 196=con_pGen

def PsOk (l:List KVp):Prop:=l.length < half∧(∀ q∈l,q.1.length < half)∧∀ q∈l,q.2.length < mid

def prAV (m v:L8) (l:List KVp):AV:=match prOf m v l with
  | .inl e=>.tup [.ifc 7 (.ptr [.str [],.str [],.int .i64 0]),.ifc 3 (.ptr [.str e])]
  | .inr x=>.tup [x.av,.nilI]

set_option maxHeartbeats 2000000 in
theorem pr_tail (Γ:Gam) (h173:Γ.fn 173=con_newResults) (G:ArG Γ) (m v:L8) (l:List KVp) (hl:PsOk l) (x4 x11 x47:AV) :
    awp Γ t_authres_parseResult_2 (finQ [.t 2,.t 3] fun r=>r=prAV m v l) ⟨[(4,x4),(8,.str m),(9,.str v),(10,.mref 43),(11,x11),(47,x47)],[(43,.mp (pmA l))]⟩:=by
  obtain ⟨hb1,hb2,hb3⟩:=hl
  have eP : "given.example/pub-waxseal/pub/msgauth/authres.parse" = nP:=rfl
  simp only [prAV,prOf]
  have za:=asPm_pmA l
  by_cases h1:m=sArc
  · have z:con_newResults [.str m]=some (.tup [.fn 175 [],.bool true]):=by simp only [con_newResults]; rw [if_pos h1]
    rw [if_pos h1]
    clear h1
    cases ha:arcOf l with
    | inl e =>
      have zp:con_pArc [.ref 0 0,.str v,.mref 1] [(0,.cells [.str [],.str [],.int .i64 0]),(1,.mp (pmA l))]=some (.ifc 3 (.ptr [.str e]),[(0,.cells [.str [],.str [],.int .i64 0]),(1,.mp (pmA l))]):=by
        simp only [con_pArc,za]; rw [if_pos hb3,ha]
      simp -implicitDefEqProofs [t_authres_parseResult_2,acall,h173,z,acallS,G.s175,con_nArc,reach_succ,eP,G.m7,G.s195,zp]
    | inr n =>
      have zp:con_pArc [.ref 0 0,.str v,.mref 1] [(0,.cells [.str [],.str [],.int .i64 0]),(1,.mp (pmA l))]=some (.nilI,[(0,.cells [.str v,.str (lookP l qRem),.int .i64 n]),(1,.mp (pmA l))]):=by
        simp only [con_pArc,za]; rw [if_pos hb3,ha]
      simp -implicitDefEqProofs [t_authres_parseResult_2,acall,h173,z,acallS,G.s175,con_nArc,reach_succ,eP,G.m7,G.s195,zp,PR.av]
  by_cases h2:m=sAuth
  · have z:con_newResults [.str m]=some (.tup [.fn 176 [],.bool true]):=by simp only [con_newResults]; rw [if_neg h1,if_pos h2]
    rw [if_neg h1,if_pos h2]
    clear h2
    have zp:con_pAuth [.ref 0 0,.str v,.mref 1] [(0,.cells [.str [],.str [],.str []]),(1,.mp (pmA l))]=some (.nilI,[(0,.cells [.str v,.str (lookP l qReason),.str (lookP l qAuth)]),(1,.mp (pmA l))]):=by
      simp only [con_pAuth,za]
    simp -implicitDefEqProofs [t_authres_parseResult_2,acall,h173,z,acallS,G.s176,con_nAuth,reach_succ,eP,G.m8,G.s187,zp,PR.av]
  by_cases h3:m=sDkim
  · have z:con_newResults [.str m]=some (.tup [.fn 177 [],.bool true]):=by simp only [con_newResults]; rw [if_neg h1,if_neg h2,if_pos h3]
    rw [if_neg h1,if_neg h2,if_pos h3]
    clear h3
    have zp:con_pDKIM [.ref 0 0,.str v,.mref 1] [(0,.cells [.str [],.str [],.str [],.str []]),(1,.mp (pmA l))]=some (.nilI,[(0,.cells [.str v,.str (lookP l qReason),.str (lookP l qD),.str (lookP l qI)]),(1,.mp (pmA l))]):=by
      simp only [con_pDKIM,za]
    simp -implicitDefEqProofs [t_authres_parseResult_2,acall,h173,z,acallS,G.s177,con_nDKIM,reach_succ,eP,G.m9,G.s188,zp,PR.av]
  by_cases h4:m=sDomk
  · have z:con_newResults [.str m]=some (.tup [.fn 178 [],.bool true]):=by simp only [con_newResults]; rw [if_neg h1,if_neg h2,if_neg h3,if_pos h4]
    rw [if_neg h1,if_neg h2,if_neg h3,if_pos h4]
    clear h4
    have zp:con_pDomk [.ref 0 0,.str v,.mref 1] [(0,.cells [.str [],.str [],.str [],.str [],.str []]),(1,.mp (pmA l))]=some (.nilI,[(0,.cells [.str v,.str (lookP l qReason),.str (lookP l qD),.str (lookP l qFrom),.str (lookP l qSend)]),(1,.mp (pmA l))]):=by
      simp only [con_pDomk,za]
    simp -implicitDefEqProofs [t_authres_parseResult_2,acall,h173,z,acallS,G.s178,con_nDomk,reach_succ,eP,G.m10,G.s189,zp,PR.av]
  by_cases h5:m=sIprev
  · have z:con_newResults [.str m]=some (.tup [.fn 179 [],.bool true]):=by simp only [con_newResults]; rw [if_neg h1,if_neg h2,if_neg h3,if_neg h4,if_pos h5]
    rw [if_neg h1,if_neg h2,if_neg h3,if_neg h4,if_pos h5]
    clear h5
    have zp:con_pIprev [.ref 0 0,.str v,.mref 1] [(0,.cells [.str [],.str [],.str []]),(1,.mp (pmA l))]=some (.nilI,[(0,.cells [.str v,.str (lookP l qReason),.str (lookP l qIprev)]),(1,.mp (pmA l))]):=by
      simp only [con_pIprev,za]
    simp -implicitDefEqProofs [t_authres_parseResult_2,acall,h173,z,acallS,G.s179,con_nIprev,reach_succ,eP,G.m11,G.s190,zp,PR.av]
  by_cases h6:m=sSender
  · have z:con_newResults [.str m]=some (.tup [.fn 180 [],.bool true]):=by simp only [con_newResults]; rw [if_neg h1,if_neg h2,if_neg h3,if_neg h4,if_neg h5,if_pos h6]
    rw [if_neg h1,if_neg h2,if_neg h3,if_neg h4,if_neg h5,if_pos h6]
    clear h6
    have zp:con_pSender [.ref 0 0,.str v,.mref 1] [(0,.cells [.str [],.str [],.str [],.str []]),(1,.mp (pmA l))]=some (.nilI,[(0,.cells [.str v,.str (lookP l qReason),.str (sidOf l).1,.str (sidOf l).2])]):=by
      simp only [con_pSender,za]; rw [if_pos ⟨hb1,hb2⟩]
    simp -implicitDefEqProofs [t_authres_parseResult_2,acall,h173,z,acallS,G.s180,con_nSender,reach_succ,eP,G.m12,G.s191,zp,PR.av]
  by_cases h7:m=sSpf
  · have z:con_newResults [.str m]=some (.tup [.fn 181 [],.bool true]):=by simp only [con_newResults]; rw [if_neg h1,if_neg h2,if_neg h3,if_neg h4,if_neg h5,if_neg h6,if_pos h7]
    rw [if_neg h1,if_neg h2,if_neg h3,if_neg h4,if_neg h5,if_neg h6,if_pos h7]
    clear h7
    have zp:con_pSpf [.ref 0 0,.str v,.mref 1] [(0,.cells [.str [],.str [],.str [],.str []]),(1,.mp (pmA l))]=some (.nilI,[(0,.cells [.str v,.str (lookP l qReason),.str (lookP l qMail),.str (lookP l qHelo)]),(1,.mp (pmA l))]):=by
      simp only [con_pSpf,za]
    simp -implicitDefEqProofs [t_authres_parseResult_2,acall,h173,z,acallS,G.s181,con_nSpf,reach_succ,eP,G.m13,G.s193,zp,PR.av]
  by_cases h8:m=sDmarc
  · have z:con_newResults [.str m]=some (.tup [.fn 182 [],.bool true]):=by simp only [con_newResults]; rw [if_neg h1,if_neg h2,if_neg h3,if_neg h4,if_neg h5,if_neg h6,if_neg h7,if_pos h8]
    rw [if_neg h1,if_neg h2,if_neg h3,if_neg h4,if_neg h5,if_neg h6,if_neg h7,if_pos h8]
    clear h8
    have zp:con_pDmarc [.ref 0 0,.str v,.mref 1] [(0,.cells [.str [],.str [],.str []]),(1,.mp (pmA l))]=some (.nilI,[(0,.cells [.str v,.str (lookP l qReason),.str (lookP l qFrom)]),(1,.mp (pmA l))]):=by
      simp only [con_pDmarc,za]
    simp -implicitDefEqProofs [t_authres_parseResult_2,acall,h173,z,acallS,G.s182,con_nDmarc,reach_succ,eP,G.m14,G.s194,zp,PR.av]
  have z:con_newResults [.str m]=some (.tup [.nilF,.bool false]):=by simp only [con_newResults]; rw [if_neg h1,if_neg h2,if_neg h3,if_neg h4,if_neg h5,if_neg h6,if_neg h7,if_neg h8]
  rw [if_neg h1,if_neg h2,if_neg h3,if_neg h4,if_neg h5,if_neg h6,if_neg h7,if_neg h8]
  have zp:con_pGen [.ref 0 0,.str v,.mref 1] [(0,.cells [.str m,.str v,.mref 1]),(1,.mp (pmA l))]=some (.nilI,[(0,.cells [.str m,.str v,.mref 1]),(1,.mp (pmA l))]):=rfl
  simp -implicitDefEqProofs [t_authres_parseResult_2,acall,h173,z,acallS,reach_succ,eP,G.m15,G.s196,zp,PR.av]
end Wax


namespace Wax
open Go (IntKind)

theorem wordsGo_bnd:∀ (s cur:L8),(wordsGo cur s).length≤s.length+cur.length∧∀ w∈wordsGo cur s,w ≠ []∧w.length≤s.length+cur.length∧∀ x∈w,x∈cur∨x∈s
  | [],cur=>by
    simp only [wordsGo]
    split
    · simp
    · rename_i h
      have:=List.length_pos_iff.2 h
      refine ⟨by simp; omega,fun w hw=>?_⟩
      simp at hw; subst hw
      exact ⟨h,by simp,fun x hx=>.inl hx⟩
  | x::r,cur=>by
    simp only [wordsGo]
    split
    · split
      · obtain ⟨h1,h2⟩:=wordsGo_bnd r []
        refine ⟨by simp at h1 ⊢; omega,fun w hw=>?_⟩
        obtain ⟨a,b,c⟩:=h2 w hw
        refine ⟨a,by simp at b ⊢; omega,fun y hy=>?_⟩
        rcases c y hy with h | h
        · simp at h
        · exact .inr (by simp [h])
      · rename_i h
        have hp:=List.length_pos_iff.2 h
        obtain ⟨h1,h2⟩:=wordsGo_bnd r []
        refine ⟨by simp at h1 ⊢; omega,fun w hw=>?_⟩
        rcases List.mem_cons.1 hw with rfl | hw
        · exact ⟨h,by simp,fun x hx=>.inl hx⟩
        · obtain ⟨a,b,c⟩:=h2 w hw
          refine ⟨a,by simp at b ⊢; omega,fun y hy=>?_⟩
          rcases c y hy with h | h
          · simp at h
          · exact .inr (by simp [h])
    · obtain ⟨h1,h2⟩:=wordsGo_bnd r (cur++[x])
      refine ⟨by simp at h1 ⊢; omega,fun w hw=>?_⟩
      obtain ⟨a,b,c⟩:=h2 w hw
      refine ⟨a,by simp at b ⊢; omega,fun y hy=>?_⟩
      rcases c y hy with h | h
      · rcases List.mem_append.1 h with h | h
        · exact .inl h
        · exact .inr (by rw [List.mem_singleton.1 h]; simp)
      · exact .inr (by simp [h])
theorem wordsOf_bnd (s:L8):(wordsOf s).length≤s.length∧∀ w∈wordsOf s,w ≠ []∧w.length≤s.length∧∀ x∈w,x∈s:=by
  obtain ⟨h1,h2⟩:=wordsGo_bnd s []
  refine ⟨by simpa [wordsOf] using h1,fun w hw=>?_⟩
  obtain ⟨a,b,c⟩:=h2 w hw
  exact ⟨a,by simpa using b,fun x hx=>(c x hx).resolve_left (by simp)⟩

theorem psetL_bnd:∀ (l:List KVp) (k v:L8),(psetL l k v).length≤l.length+1∧∀ q∈psetL l k v,q=(k,v)∨q∈l
  | [],k,v=>by simp [psetL]
  | (i,u)::r,k,v=>by
    obtain ⟨h1,h2⟩:=psetL_bnd r k v
    simp only [psetL]
    split
    · refine ⟨by simp,fun q hq=>?_⟩
      rcases List.mem_cons.1 hq with h | h
      · exact .inl h
      · exact .inr (by simp [h])
    · refine ⟨by simp; omega,fun q hq=>?_⟩
      rcases List.mem_cons.1 hq with h | h
      · exact .inr (by simp [h])
      · rcases h2 q h with h | h
        · exact .inl h
        · exact .inr (by simp [h])

theorem kvOf_bnd {w:L8} {p:KVp} (h:kvOf w=some p):p.1.length < w.length∧p.2.length < w.length:=by
  simp only [kvOf,Option.map_eq_some_iff] at h
  obtain ⟨q,hq,rfl⟩:=h
  have l:=cutAt_lens hq
  have t1:=trimS_length q.1
  have t2:=trimS_length q.2
  simp; omega

end Wax


namespace Wax
open Go (IntKind)

def slP:Option (List KVp)→AV
  | none=>.nilS
  | some l=>.sl 2 (pr2 l)
@[simp] theorem slP_atom (x:Option (List KVp)):atom (slP x)=true:=by cases x <;> rfl
@[simp] theorem slP_ref (x:Option (List KVp)):hasRef (slP x)=false:=by cases x <;> rfl
@[simp] theorem slP_refs (x:Option (List KVp)):refs (slP x)=[]:=by cases x <;> rfl
@[simp] theorem slP_map (x:Option (List KVp)) (g:Nat→Nat):mapId g (slP x)=slP x:=by cases x <;> rfl
@[simp] theorem slP_kill (x:Option (List KVp)) (d:Nat):kill d (slP x)=slP x:=by cases x <;> rfl
@[simp] theorem slP_snapW (x:Option (List KVp)) (g:AV→AV):snapW g (slP x)=slP x:=by cases x <;> rfl
@[simp] theorem slP_snap (x:Option (List KVp)) (n:Nat) (hp:List (Nat × AObj)):snap (n+1) hp (slP x)=slP x:=by cases x <;> rfl
@[simp] theorem slP_cells (x:Option (List KVp)):cells (slP x)=[slP x]:=by cases x <;> rfl
@[simp] theorem slP_pure (x:Option (List KVp)):pureV (slP x)=true:=by cases x <;> rfl
theorem slP_alen (x:Option (List KVp)) (hp:List (Nat × AObj)):alen hp 1 (slP x)=some (x.getD []).length:=by cases x <;> simp [slP,alen]
def asP:AV→Option (Option (List KVp))
  | .nilS=>some none
  | .sl es xs=>if es=2 then (asPairs xs).map some else none
  | _=>none
theorem asP_slP (x:Option (List KVp)):asP (slP x)=some x:=by cases x <;> simp [slP,asP,asPairs_pr2]
theorem asP_spec {v:AV} {x:Option (List KVp)} (h:asP v=some x):v=slP x:=by
  cases v <;> simp [asP] at h
  · subst h; rfl
  · obtain ⟨rfl,l,h1,rfl⟩:=h
    rw [asPairs_spec h1]; rfl
def nilO {α:Type} (l:List α):Option (List α):=match l with | []=>none | _=>some l
theorem pairV_slP (l:List KVp):pairV l=slP (nilO l):=by cases l <;> rfl
theorem nilO_getD {α:Type} (l:List α):(nilO l).getD []=l:=by cases l <;> rfl

structure AR where
  kind:Int
  method:L8
  value:L8
  reason:L8
  domain:L8
  ident:L8
  fr:L8
  sender:L8
  ip:L8
  helo:L8
  auth:L8
  hkey:L8
  hval:L8
  remote:L8
  oldest:Int
  ps:Option (List KVp)
  deriving DecidableEq

def AR.cells (r:AR):List AV:=[.int .i64 r.kind,.str r.method,.str r.value,.str r.reason,.str r.domain,.str r.ident,.str r.fr,.str r.sender,.str r.ip,.str r.helo,.str r.auth,.str r.hkey,.str r.hval,.str r.remote,.int .i64 r.oldest,slP r.ps]
def ar0:AR:=⟨0,[],[],[],[],[],[],[],[],[],[],[],[],[],0,none⟩
def asAR:List AV→Option AR
  | [.int .i64 k,.str m,.str v,.str r,.str d,.str i,.str f,.str s,.str ip,.str h,.str a,.str hk,.str hv,.str re,.int .i64 o,p]=>(asP p).map fun q=>⟨k,m,v,r,d,i,f,s,ip,h,a,hk,hv,re,o,q⟩
  | _=>none
theorem asAR_cells (r:AR):asAR r.cells=some r:=by simp [AR.cells,asAR,asP_slP]
theorem asAR_spec {cs:List AV} {r:AR} (h:asAR cs=some r):cs=r.cells:=by
  unfold asAR at h
  split at h
  · simp only [Option.map_eq_some_iff] at h
    obtain ⟨q,hq,rfl⟩:=h
    rw [asP_spec hq]; rfl
  · simp at h

def arA (l:List AR):List AV:=l.map fun r=>.agg r.cells
def arC (l:List AR):List AV:=l.flatMap AR.cells
@[simp] theorem arA_nil:arA []=[]:=rfl
@[simp] theorem arA_cons {x:AR} {l}:arA (x::l)=.agg x.cells::arA l:=rfl
@[simp] theorem arA_app {l m}:arA (l++m)=arA l++arA m:=by simp [arA]
@[simp] theorem arA_length {l}:(arA l).length=l.length:=by simp [arA]
@[simp] theorem ar_cells_length {r:AR}:r.cells.length=16:=rfl
@[simp] theorem arC_nil:arC []=[]:=rfl
@[simp] theorem arC_cons {x:AR} {l}:arC (x::l)=x.cells++arC l:=rfl
@[simp] theorem arC_app {l m}:arC (l++m)=arC l++arC m:=by simp [arC]
@[simp] theorem arC_length {l:List AR}:(arC l).length=l.length * 16:=by induction l <;> simp_all; omega
@[simp] theorem atoms_arcells {r:AR}:atoms r.cells=true:=by simp [AR.cells]
@[simp] theorem atoms_appB {a b:List AV}:atoms (a++b)=(atoms a && atoms b):=by induction a <;> simp_all [Bool.and_assoc]
@[simp] theorem atoms_arC {l:List AR}:atoms (arC l)=true:=by induction l <;> simp_all
@[simp] theorem killL_appB {d:Nat} {a b:List AV}:killL d (a++b)=killL d a++killL d b:=by induction a <;> simp_all
@[simp] theorem killL_arcells {d:Nat} {r:AR}:killL d r.cells=r.cells:=by simp [AR.cells]
@[simp] theorem killL_arC {d:Nat} {l:List AR}:killL d (arC l)=arC l:=by induction l <;> simp_all
@[simp] theorem snap_arcells {n:Nat} {hp:List (Nat × AObj)} {r:AR}:r.cells.map (snap (n+1) hp)=r.cells:=by simp [AR.cells]
@[simp] theorem map_snap_arC {n:Nat} {hp:List (Nat × AObj)} {l:List AR}:(arC l).map (snap (n+1) hp)=arC l:=by induction l <;> simp_all
@[simp] theorem hasRefL_arcells {r:AR}:hasRefL r.cells=false:=by simp [AR.cells]
@[simp] theorem hasRefL_arA {l:List AR}:hasRefL (arA l)=false:=by induction l <;> simp_all
@[simp] theorem refsL_arcells {r:AR}:refsL r.cells=[]:=by simp [AR.cells]
@[simp] theorem refsL_arC {l:List AR}:refsL (arC l)=[]:=by induction l <;> simp_all
@[simp] theorem snapWL_arcells {g:AV→AV} {r:AR}:snapWL g r.cells=r.cells:=by simp [AR.cells]
@[simp] theorem snapWL_arC {g:AV→AV} {l:List AR}:snapWL g (arC l)=arC l:=by induction l <;> simp_all
@[simp] theorem group_arC:∀ {l:List AR},group 16 l.length (arC l)=arA l
  | []=>rfl
  | x::l=>by
    have h1:(x.cells++arC l).take 16=x.cells:=List.take_left' rfl
    have h2:(x.cells++arC l).drop 16=arC l:=List.drop_left' rfl
    simp only [List.length_cons,group,arC_cons,h1,h2,arA_cons,group_arC (l:=l)]

def PR.ar:PR→AR
  | .arc v ip o=>{ ar0 with kind:=8,value:=v,remote:=ip,oldest:=o }
  | .auth v r a=>{ ar0 with kind:=1,value:=v,reason:=r,auth:=a }
  | .dkim v r d i=>{ ar0 with kind:=2,value:=v,reason:=r,domain:=d,ident:=i }
  | .domk v r d f s=>{ ar0 with kind:=3,value:=v,reason:=r,domain:=d,fr:=f,sender:=s }
  | .iprev v r i=>{ ar0 with kind:=4,value:=v,reason:=r,ip:=i }
  | .sender v r k x=>{ ar0 with kind:=5,value:=v,reason:=r,hkey:=k,hval:=x }
  | .spf v r f h=>{ ar0 with kind:=6,value:=v,reason:=r,fr:=f,helo:=h }
  | .dmarc v r f=>{ ar0 with kind:=7,value:=v,reason:=r,fr:=f }
  | .gen m v ps=>{ ar0 with kind:=0,method:=m,value:=v,ps:=nilO (sortP ps) }

def asPR:AV→Option PR
  | .ifc 7 (.ptr [.str v,.str ip,.int .i64 o])=>some (.arc v ip o)
  | .ifc 8 (.ptr [.str v,.str r,.str a])=>some (.auth v r a)
  | .ifc 9 (.ptr [.str v,.str r,.str d,.str i])=>some (.dkim v r d i)
  | .ifc 10 (.ptr [.str v,.str r,.str d,.str f,.str s])=>some (.domk v r d f s)
  | .ifc 11 (.ptr [.str v,.str r,.str i])=>some (.iprev v r i)
  | .ifc 12 (.ptr [.str v,.str r,.str k,.str x])=>some (.sender v r k x)
  | .ifc 13 (.ptr [.str v,.str r,.str f,.str h])=>some (.spf v r f h)
  | .ifc 14 (.ptr [.str v,.str r,.str f])=>some (.dmarc v r f)
  | .ifc 15 (.ptr [.str m,.str v,.mp es])=>(asPm es).map fun l=>.gen m v l
  | _=>none
theorem asPR_av (x:PR):asPR x.av=some x:=by cases x <;> simp [PR.av,asPR,asPm_pmA]
theorem asPR_spec {v:AV} {x:PR} (h:asPR v=some x):v=x.av:=by
  unfold asPR at h
  split at h <;> try (simp at h; subst h; rfl)
  · simp at h
    obtain ⟨l,h1,rfl⟩:=h
    rw [asPm_spec h1]; rfl
  · simp at h
def PR.ok:PR→Prop
  | .gen _ _ l=>PsOk l
  | _=>True

def con_paramsOf:List AV→Option AV
  | [.mp es]=>match asPm es with
    | some l=>if l.length < half∧∀ q∈l,q.1.length < half then some (pairV (sortP l)) else none
    | none=>none
  | _=>none

set_option maxHeartbeats 1000000 in
theorem ok_paramsOf (Γ:Gam) (h48:Γ.fn 48=con_Keys) (h49:Γ.fn 49=con_Sorted):∀ args r,con_paramsOf args=some r→runs Γ c_impl_paramsOf args (fun v=>v=r):=by
  intro args r h
  simp only [con_paramsOf] at h
  split at h <;> (try simp at h; done)
  rename_i es
  split at h <;> (try simp at h; done)
  rename_i l hl
  obtain ⟨⟨hb1,hb2⟩,rfl⟩:=ite_some h
  clear h
  rw [asPm_spec hl]
  have k49:con_Sorted [.fn 55 [.bx [.mp (pmA l)]]]=some (strV (sortB (l.map (·.1)))):=by
    have e1:(pmA l).map (·.1)=l.map (·.1):=by simp [pmA,Function.comp_def]
    simp only [con_Sorted,e1]
    refine if_pos ⟨by simpa [pmA] using hb1,fun q hq=>?_⟩
    simp only [pmA,List.mem_map] at hq
    obtain ⟨z,hz,rfl⟩:=hq
    exact hb2 z hz
  have hsl:(sortB (l.map (·.1))).length < half:=by simpa [sortB] using hb1
  have hp1:=slf_ref (slStrs_strV (l:=sortB (l.map (·.1))))
  have hp2:=slf_alen (slStrs_strV (l:=sortB (l.map (·.1))))
  have hsv:=slStrs_strV (l:=sortB (l.map (·.1)))
  have hsl':=hsl
  simp only [half] at hsl'
  simp -implicitDefEqProofs [-alen,c_impl_paramsOf,acall,h48,con_Keys,h49,k49,hp1,hp2]
  rw [sortP]
  generalize sortB (l.map (·.1))=ks at *
  refine awp_loop2 (σ:=List L8 × List L8) (fun p=>⟨[(0,.mp (pmA l)),(3,grV 21 2 p.1.length),(8,strV ks),(9,.int .i64 ks.length),(10,.int .i64 p.1.length)],grH 21 p.1.length (pc2 (p.1.map fun k=>(k,lookP l k)))⟩)
    (fun p=>ks=p.1++p.2) (fun p=>p.2.length) ([],ks) (by simp) (by simp) ?_
  rintro ⟨pre,post⟩ hs1 LQ hLQ
  simp only at hs1
  subst hs1
  cases post with
  | nil =>
    cases pre with
    | nil=>simp [pairV]
    | cons x pre =>
      have hg:=group_pc2 (l:=(x::pre).map fun k=>(k,lookP l k))
      simp at hg
      simp [pairV,hg]
      omega
  | cons x post =>
    have hu:=slf_ne hsv (by simp)
    rw [hu] at hLQ ⊢
    simp at hsl'
    have hlt:(pre.length:Int) < (pre.length:Int)+((post.length:Int)+1):=by omega
    have g2:∀ (q:List AV) (z:AV),(strsA pre++z::q)[pre.length]? = some z:=fun q z=>get_mid (by simp)
    have fin:∀ st,norm [0,3,8,9,10] st=⟨[(0,.mp (pmA l)),(3,.msl 21 2 0 (pre.length+1)),(8,.sl 1 (strsA (pre++x::post))),(9,.int .i64 ((pre.length:Int)+((post.length:Int)+1))),(10,.int .i64 ((pre.length:Int)+1))],[(21,.cells (pc2 (pre.map fun k=>(k,lookP l k))++[.str x,.str (lookP l x)]))]⟩→LQ st:=by
      intro st hst
      exact hLQ (pre++[x],post) (by simp) (by simp) st (by simpa using hst)
    cases pre with
    | nil =>
      have ew0:IntKind.i64.wrap 1=1:=rfl
      simp [ew0,g2,lookA_pmA]
      exact fin _ (by simp)
    | cons y pre =>
      simp at hsl'
      have ew1:IntKind.i64.wrap ((pre.length:Int)+1+1)=(pre.length:Int)+1+1:=wrap64 (by omega) (by omega)
      have tk:List.take ((pre.length+1) * 2) (AV.str y::AV.str (lookP l y)::pc2 (pre.map fun k=>(k,lookP l k)))=AV.str y::AV.str (lookP l y)::pc2 (pre.map fun k=>(k,lookP l k)):=List.take_of_length_le (by simp; omega)
      simp [ew1,g2,tk,lookA_pmA]
      refine ⟨fun _=>⟨by omega,⟨by omega,by omega⟩,fin _ (by simp; omega)⟩,fun h=>by omega⟩

def con_resultOf:List AV→Option AV
  | [v]=>match asPR v with
    | some (.gen m v l)=>if l.length < half∧∀ q∈l,q.1.length < half then some (.agg (PR.gen m v l).ar.cells) else none
    | some x=>some (.agg x.ar.cells)
    | none=>none
  | _=>none

set_option maxHeartbeats 1000000 in
theorem ok_resultOf (Γ:Gam) (h167:Γ.fn 167=con_paramsOf):∀ args r,con_resultOf args=some r→runs Γ c_impl_resultOf args (fun v=>v=r):=by
  intro args r h
  simp only [con_resultOf] at h
  split at h <;> (try simp at h; done)
  rename_i u
  split at h <;> (try simp at h; done)
  · rename_i m v l hu
    obtain ⟨hb,rfl⟩:=ite_some h
    rw [asPR_spec hu]
    have k:con_paramsOf [.mp (pmA l)]=some (pairV (sortP l)):=by
      simp only [con_paramsOf,asPm_pmA]; exact if_pos hb
    rw [pairV_slP] at k
    have cu:=slP_cells (nilO (sortP l))
    simp only [cells] at cu
    simp -implicitDefEqProofs [c_impl_resultOf,PR.av,acall,h167,k,PR.ar,ar0,AR.cells,cu]
  · rename_i x _ hu
    injection h with h; subst h
    rw [asPR_spec hu]
    cases x with
    | gen m v l=>rename_i hx; exact absurd rfl (hx m v l)
    | arc=>simp -implicitDefEqProofs [c_impl_resultOf,PR.av,PR.ar,ar0,AR.cells,slP]
    | auth=>simp -implicitDefEqProofs [c_impl_resultOf,PR.av,PR.ar,ar0,AR.cells,slP]
    | dkim=>simp -implicitDefEqProofs [c_impl_resultOf,PR.av,PR.ar,ar0,AR.cells,slP]
    | domk=>simp -implicitDefEqProofs [c_impl_resultOf,PR.av,PR.ar,ar0,AR.cells,slP]
    | iprev=>simp -implicitDefEqProofs [c_impl_resultOf,PR.av,PR.ar,ar0,AR.cells,slP]
    | sender=>simp -implicitDefEqProofs [c_impl_resultOf,PR.av,PR.ar,ar0,AR.cells,slP]
    | spf=>simp -implicitDefEqProofs [c_impl_resultOf,PR.av,PR.ar,ar0,AR.cells,slP]
    | dmarc=>simp -implicitDefEqProofs [c_impl_resultOf,PR.av,PR.ar,ar0,AR.cells,slP]
end Wax


namespace Wax
open Go (IntKind)

section
variable {Γ:Gam} (h149:Γ.fn 149=con_dmParams) (h150:Γ.fn 150=con_dmPolicy) (h151:Γ.fn 151=con_dmAlign) (h152:Γ.fn 152=con_dmFo) (h153:Γ.fn 153=con_Atoi) (s154:Γ.st 154=con_zzSplit) (h155:Γ.fn 155=con_dmURIs) (h50:Γ.fn 50=con_errorsNew)
include h150 h153 s154 h155 h50

theorem pd_9 (acc:List KVp) (ha:valsOk acc) (r:DR) (ex:List (Nat × AV)) (h4:lk ex 4=.mp (pmA acc)) (h6:lk ex 6=.ref 46 0):awp Γ f_dmarc_Parse_9 (mdQ (mdRf acc r)) ⟨ex,[(46,.cells r.cells)]⟩:=by
  have hk:=lookA_two acc [114,102]
  obtain ⟨a,b,hab⟩:∃ a b,valV (findP acc kRf)=.tup [a,b]:=by cases findP acc kRf <;> exact ⟨_,_,rfl⟩
  have hab':=hab
  rw [kRf] at hab'
  rw [hab'] at hk
  obtain ⟨_,_,ha2,hb2⟩:=valV_tup hab
  simp -implicitDefEqProofs [f_dmarc_Parse_9,lk_rmFi,h4,h6,hk,ha2,hb2]
  exact pd_2 h150 h153 s154 h155 h50 acc ha r a b hab

theorem pd_9b (acc:List KVp) (ha:valsOk acc) (r:DR) (n:Int) (ex:List (Nat × AV)) (h4:lk ex 4=.mp (pmA acc)) (h6:lk ex 6=.ref 46 0) :
    awp Γ f_dmarc_Parse_9 (mdQ (mdRf acc { r with pct:=some n })) ⟨ex,[(17,.cells [.int .i64 n]),(46,.cells [.str r.dk,.str r.sp,.int .i64 r.fo,.str r.p,.ref 17 0,slO r.rf,.int .i64 r.ri,slO r.rua,slO r.ruf,.str r.sub])]⟩:=by
  have hk:=lookA_two acc [114,102]
  obtain ⟨a,b,hab⟩:∃ a b,valV (findP acc kRf)=.tup [a,b]:=by cases findP acc kRf <;> exact ⟨_,_,rfl⟩
  have hab':=hab
  rw [kRf] at hab'
  rw [hab'] at hk
  obtain ⟨ha1,hb1,ha2,hb2⟩:=valV_tup hab
  have e:=pd_2 h150 h153 s154 h155 h50 acc ha { r with pct:=some n } a b hab
  simp only [DR.cells] at e
  simp -implicitDefEqProofs [f_dmarc_Parse_9,lk_rmFi,h4,h6,hk,ha1,hb1,ha2,hb2]
  exact e

theorem pd_10 (acc:List KVp) (ha:valsOk acc) (r:DR) (ex:List (Nat × AV)) (h4:lk ex 4=.mp (pmA acc)) (h6:lk ex 6=.ref 46 0):awp Γ f_dmarc_Parse_10 (mdQ (mdPct acc r)) ⟨ex,[(46,.cells r.cells)]⟩:=by
  have hk:=lookA_two acc [112,99,116]
  simp only [mdPct,kPct]
  cases hf:findP acc [112,99,116] with
  | none =>
    rw [hf] at hk
    simp only
    have e:=fun ex h h'=>pd_9 (Γ:=Γ) h150 h153 s154 h155 h50 acc ha r ex h h'
    simp -implicitDefEqProofs [f_dmarc_Parse_10,lk_rmFi,h4,h6,hk,valV]
    refine e _ ?_ ?_ <;> simp [lk_rmFi,h4,h6]
  | some v =>
    rw [hf] at hk
    have hv:=ha _ (findP_in hf)
    have k:con_Atoi [.str v]=some (atoiV v):=if_pos hv.1
    simp only [atoiV] at k
    simp only
    cases hq:Go.Lib.atoiAll v with
    | ok n =>
      rw [hq] at k
      simp only at k ⊢
      by_cases h1:n < 0
      · rw [if_pos (.inl h1)]
        simp -implicitDefEqProofs [f_dmarc_Parse_10,lk_rmFi,h4,h6,hk,valV,acall,h153,k,h1,h50,con_errorsNew,mdV,eN,mPct2,mPct,DR.cells]
      · by_cases h2:100 < n
        · rw [if_pos (.inr h2)]
          simp -implicitDefEqProofs [f_dmarc_Parse_10,lk_rmFi,h4,h6,hk,valV,acall,h153,k,h1,h2,h50,con_errorsNew,mdV,eN,mPct2,mPct,DR.cells]
        · rw [if_neg (by omega)]
          have e:=fun ex h h'=>pd_9b (Γ:=Γ) h150 h153 s154 h155 h50 acc ha r n ex h h'
          simp -implicitDefEqProofs [f_dmarc_Parse_10,lk_rmFi,h4,h6,hk,valV,acall,h153,k,h1,h2,DR.cells]
          refine e _ ?_ ?_ <;> simp [lk_rmFi,h4,h6]
    | range =>
      rw [hq] at k
      simp only at k ⊢
      simp -implicitDefEqProofs [f_dmarc_Parse_10,lk_rmFi,h4,h6,hk,valV,acall,h153,k,h50,con_errorsNew,mdV,eN,mPct,DR.cells]
    | _ =>
      rw [hq] at k
      simp only at k ⊢
      simp -implicitDefEqProofs [f_dmarc_Parse_10,lk_rmFi,h4,h6,hk,valV,acall,h153,k,h50,con_errorsNew,mdV,eN,mPct,DR.cells]

include h152
theorem pd_11 (acc:List KVp) (ha:valsOk acc) (r:DR) (ex:List (Nat × AV)) (h4:lk ex 4=.mp (pmA acc)) (h6:lk ex 6=.ref 46 0):awp Γ f_dmarc_Parse_11 (mdQ (mdFo acc r)) ⟨ex,[(46,.cells r.cells)]⟩:=by
  have hk:=lookA_two acc [102,111]
  simp only [mdFo,kFo]
  cases hf:findP acc [102,111] with
  | none =>
    rw [hf] at hk
    simp only
    have e:=fun ex h h'=>pd_10 (Γ:=Γ) h150 h153 s154 h155 h50 acc ha r ex h h'
    simp -implicitDefEqProofs [f_dmarc_Parse_11,lk_rmFi,h4,h6,hk,valV]
    refine e _ ?_ ?_ <;> simp [lk_rmFi,h4,h6]
  | some v =>
    rw [hf] at hk
    have hv:=ha _ (findP_in hf)
    have k:con_dmFo [.str v]=some (foV v):=if_pos hv
    simp only [foV] at k
    simp only
    cases hq:fo2 0 (splitB 58 v) with
    | some n =>
      rw [hq] at k
      simp only at k ⊢
      have e:=fun ex h h'=>pd_10 (Γ:=Γ) h150 h153 s154 h155 h50 acc ha { r with fo:=n } ex h h'
      simp only [DR.cells] at e
      simp -implicitDefEqProofs [f_dmarc_Parse_11,lk_rmFi,h4,h6,hk,valV,acall,h152,k,DR.cells]
      refine e _ ?_ ?_ <;> simp [lk_rmFi,h4,h6]
    | none =>
      rw [hq] at k
      simp only at k ⊢
      simp -implicitDefEqProofs [f_dmarc_Parse_11,lk_rmFi,h4,h6,hk,valV,acall,h152,k,mdV,eN,DR.cells]

include h151
theorem pd_12 (acc:List KVp) (ha:valsOk acc) (r:DR) (ex:List (Nat × AV)) (h4:lk ex 4=.mp (pmA acc)) (h6:lk ex 6=.ref 46 0):awp Γ f_dmarc_Parse_12 (mdQ (mdAspf acc r)) ⟨ex,[(46,.cells r.cells)]⟩:=by
  have hk:=lookA_two acc [97,115,112,102]
  simp only [mdAspf,kAspf]
  cases hf:findP acc [97,115,112,102] with
  | none =>
    rw [hf] at hk
    simp only
    have e:=fun ex h h'=>pd_11 (Γ:=Γ) h150 h152 h153 s154 h155 h50 acc ha { r with sp:=sR } ex h h'
    simp only [DR.cells,sR] at e
    simp -implicitDefEqProofs [f_dmarc_Parse_12,lk_rmFi,h4,h6,hk,valV,DR.cells]
    refine e _ ?_ ?_ <;> simp [lk_rmFi,h4,h6]
  | some v =>
    rw [hf] at hk
    have k:=align_con (v:=v) (p:=[97,115,112,102]) (by decide)
    simp only
    cases hp:alignB v with
    | false =>
      rw [hp] at k
      simp -implicitDefEqProofs [f_dmarc_Parse_12,lk_rmFi,h4,h6,hk,valV,acall,h151,k,eN,DR.cells,mdV]
    | true =>
      rw [hp] at k
      simp only [if_true]
      have e:=fun ex h h'=>pd_11 (Γ:=Γ) h150 h152 h153 s154 h155 h50 acc ha { r with sp:=v } ex h h'
      simp only [DR.cells] at e
      simp -implicitDefEqProofs [f_dmarc_Parse_12,lk_rmFi,h4,h6,hk,valV,acall,h151,k,DR.cells]
      refine e _ ?_ ?_ <;> simp [lk_rmFi,h4,h6]

theorem pd_13 (acc:List KVp) (ha:valsOk acc) (r:DR) (ex:List (Nat × AV)) (h4:lk ex 4=.mp (pmA acc)) (h6:lk ex 6=.ref 46 0):awp Γ f_dmarc_Parse_13 (mdQ (mdAdkim acc r)) ⟨ex,[(46,.cells r.cells)]⟩:=by
  have hk:=lookA_two acc [97,100,107,105,109]
  simp only [mdAdkim,kAdkim]
  cases hf:findP acc [97,100,107,105,109] with
  | none =>
    rw [hf] at hk
    simp only
    have e:=fun ex h h'=>pd_12 (Γ:=Γ) h150 h151 h152 h153 s154 h155 h50 acc ha { r with dk:=sR } ex h h'
    simp only [DR.cells,sR] at e
    simp -implicitDefEqProofs [f_dmarc_Parse_13,lk_rmFi,h4,h6,hk,valV,DR.cells]
    refine e _ ?_ ?_ <;> simp [lk_rmFi,h4,h6]
  | some v =>
    rw [hf] at hk
    have k:=align_con (v:=v) (p:=[97,100,107,105,109]) (by decide)
    simp only
    cases hp:alignB v with
    | false =>
      rw [hp] at k
      simp -implicitDefEqProofs [f_dmarc_Parse_13,lk_rmFi,h4,h6,hk,valV,acall,h151,k,eN,DR.cells,mdV]
    | true =>
      rw [hp] at k
      simp only [if_true]
      have e:=fun ex h h'=>pd_12 (Γ:=Γ) h150 h151 h152 h153 s154 h155 h50 acc ha { r with dk:=v } ex h h'
      simp only [DR.cells] at e
      simp -implicitDefEqProofs [f_dmarc_Parse_13,lk_rmFi,h4,h6,hk,valV,acall,h151,k,DR.cells]
      refine e _ ?_ ?_ <;> simp [lk_rmFi,h4,h6]
end

def mdText (s:L8):AV ⊕ DR:=if (prd2 (splitB 59 s) []).2=true then mdAll (prd2 (splitB 59 s) []).1 else .inl (eN mBad)

theorem psetL_vals {l:List KVp} {k v:L8} (h:valsOk l) (hv:v.length < mid∧plain v=true):valsOk (psetL l k v):=by
  induction l with
  | nil=>intro q hq; simp [psetL] at hq; subst hq; exact hv
  | cons p r ih =>
    obtain ⟨i,u⟩:=p
    have hr:valsOk r:=fun q hq=>h q (by simp [hq])
    intro q hq
    simp only [psetL] at hq
    split at hq
    · rcases List.mem_cons.1 hq with rfl | hq
      · exact hv
      · exact h q (by simp [hq])
    · rcases List.mem_cons.1 hq with rfl | hq
      · exact h _ (by simp)
      · exact ih hr q hq

theorem trimS_plain {s:L8} (h:plain s=true):plain (trimS s)=true:=plain_sub (fun x hx=>trimS_sub x hx) h

theorem prd2_vals (n:Nat) (hn:n < mid):∀ (L:List L8) (acc:List KVp),(∀ p∈L,p.length≤n∧plain p=true)→valsOk acc→valsOk (prd2 L acc).1
  | [],acc,_,h=>h
  | p::r,acc,hL,h=>by
    have hr:∀ p∈r,p.length≤n∧plain p=true:=fun q hq=>hL q (by simp [hq])
    obtain ⟨hpl,hpp⟩:=hL p (by simp)
    simp only [prd2]
    cases hc:cutAt 61 p with
    | none =>
      simp only
      by_cases ht:trimS p=[]
      · rw [if_pos ht]; exact prd2_vals n hn r acc hr h
      · rw [if_neg ht]; exact h
    | some q =>
      obtain ⟨hql,y,hy⟩:=cutAt_le hc
      rw [hy,plain_app] at hpp
      simp only [Bool.and_eq_true] at hpp
      have hp2:plain q.2=true:=by
        have:=hpp.2
        simp only [plain,List.all_cons,Bool.and_eq_true] at this
        exact this.2
      have:=trimS_length q.2
      exact prd2_vals n hn r _ hr (psetL_vals h ⟨by omega,trimS_plain hp2⟩)

def con_dmParse:List AV→Option AV
  | [.str s]=>if s.length < mid∧plain s=true then some (mdV (mdText s)) else none
  | _=>none

set_option maxHeartbeats 1000000 in
theorem ok_dmParse (Γ:Gam) (h149:Γ.fn 149=con_dmParams) (h150:Γ.fn 150=con_dmPolicy) (h151:Γ.fn 151=con_dmAlign) (h152:Γ.fn 152=con_dmFo) (h153:Γ.fn 153=con_Atoi) (s154:Γ.st 154=con_zzSplit) (h155:Γ.fn 155=con_dmURIs) (h50:Γ.fn 50=con_errorsNew) :
    ∀ args r,con_dmParse args=some r→runs Γ c_dmarc_Parse args (fun v=>v=r):=by
  intro args r h
  simp only [con_dmParse] at h
  split at h <;> (try simp at h; done)
  rename_i s
  obtain ⟨hs,rfl⟩:=ite_some h
  clear h
  have k149:con_dmParams [.str s]=some (prdV (prd2 (splitB 59 s) [])):=if_pos hs
  have ha:=prd2_vals s.length hs.1 (splitB 59 s) [] (fun p hp=>⟨splitB_mem_length 59 s p hp,splitB_plain 59 s p hs.2 hp⟩) (fun q hq=>by simp at hq)
  simp only [mdText]
  generalize prd2 (splitB 59 s) []=x at *
  obtain ⟨acc,ok⟩:=x
  cases ok with
  | false=>simp -implicitDefEqProofs [c_dmarc_Parse,acall,h149,k149,prdV,eN,mdV]
  | true =>
    simp only [prdV] at k149
    simp only at ha
    have hk1:=lookA_one acc [118]
    have hk2:=lookA_two acc [112]
    by_cases hv:(findP acc kV).getD []=sDM
    · have hv':(findP acc [118]).getD []=[68,77,65,82,67,49]:=hv
      rw [hv'] at hk1
      have hm:mdAll acc=(match findP acc [112] with
        | none=>.inl (eN mNoP)
        | some v=>if polB v=true then mdAdkim acc { dr0 with p:=v } else .inl (eN (mPol++kP))):=if_pos hv
      rw [if_pos rfl,hm]
      cases hf:findP acc [112] with
      | none =>
        rw [hf] at hk2
        simp -implicitDefEqProofs [c_dmarc_Parse,acall,h149,k149,hk1,hk2,valV,h50,con_errorsNew,eN,mNoP,mdV]
      | some v =>
        rw [hf] at hk2
        have k:=pol_con (v:=v) (p:=[112]) (by decide)
        simp only
        cases hp:polB v with
        | false =>
          rw [hp] at k
          simp -implicitDefEqProofs [c_dmarc_Parse,acall,h149,k149,hk1,hk2,valV,h150,k,eN,mdV,mPol,kP]
        | true =>
          rw [hp] at k
          have e:=fun ex h h'=>pd_13 (Γ:=Γ) h150 h151 h152 h153 s154 h155 h50 acc ha { dr0 with p:=v } ex h h'
          simp only [DR.cells,dr0] at e
          simp -implicitDefEqProofs [c_dmarc_Parse,acall,h149,k149,hk1,hk2,valV,h150,k]
          refine e _ ?_ ?_ <;> simp
    · have hv':¬ (findP acc [118]).getD []=[68,77,65,82,67,49]:=hv
      have hm:mdAll acc=.inl (.ifc 3 .junk):=if_neg hv
      rw [if_pos rfl,hm]
      simp -implicitDefEqProofs [c_dmarc_Parse,acall,h149,k149,hk1,hv',eN,mdV]
end Wax


namespace Wax
open Go (IntKind)

def prsA (l:List PR):List AV:=l.map PR.av
@[simp] theorem prsA_nil:prsA []=[]:=rfl
@[simp] theorem prsA_cons {x:PR} {l}:prsA (x::l)=x.av::prsA l:=rfl
@[simp] theorem prsA_app {l m}:prsA (l++m)=prsA l++prsA m:=by simp [prsA]
@[simp] theorem prsA_length {l}:(prsA l).length=l.length:=by simp [prsA]
@[simp] theorem pav_atom {x:PR}:atom x.av=true:=by cases x <;> rfl
@[simp] theorem pav_kill {d:Nat} {x:PR}:kill d x.av=x.av:=by cases x <;> rfl
@[simp] theorem pav_ref {x:PR}:hasRef x.av=false:=by cases x <;> rfl
@[simp] theorem pav_refs {x:PR}:refs x.av=[]:=by cases x <;> rfl
@[simp] theorem pav_snap {n:Nat} {hp:List (Nat × AObj)} {x:PR}:snap (n+1) hp x.av=x.av:=by cases x <;> rfl
@[simp] theorem pav_snapW {g:AV→AV} {x:PR}:snapW g x.av=x.av:=by cases x <;> rfl
@[simp] theorem pav_map {g:Nat→Nat} {x:PR}:mapId g x.av=x.av:=by cases x <;> rfl
@[simp] theorem pav_nil {x:PR}:isNilA 0 x.av=some false:=by cases x <;> rfl
theorem pav_cells {x:PR}:cells x.av=[x.av]:=by cases x <;> rfl
@[simp] theorem atoms_prsA {l:List PR}:atoms (prsA l)=true:=by induction l <;> simp_all
@[simp] theorem killL_prsA {d:Nat} {l:List PR}:killL d (prsA l)=prsA l:=by induction l <;> simp_all
@[simp] theorem map_snap_prsA {n:Nat} {hp:List (Nat × AObj)} {l:List PR}:(prsA l).map (snap (n+1) hp)=prsA l:=by induction l <;> simp_all
@[simp] theorem hasRefL_prsA {l:List PR}:hasRefL (prsA l)=false:=by induction l <;> simp_all
@[simp] theorem refsL_prsA {l:List PR}:refsL (prsA l)=[]:=by induction l <;> simp_all
@[simp] theorem snapWL_prsA {g:AV→AV} {l:List PR}:snapWL g (prsA l)=prsA l:=by induction l <;> simp_all
@[simp] theorem prsA_get {l:List PR} {i:Nat}:(prsA l)[i]? = l[i]?.map PR.av:=by simp [prsA]
theorem prsA_take {l:List PR} {i:Nat}:(prsA l).take i=prsA (l.take i):=by simp [prsA,List.map_take]

def arVer:L8:=[109,115,103,97,117,116,104,58,32,117,110,115,117,112,112,111,114,116,101,100,32,118,101,114,115,105,111,110]
def adId (p:L8):Option L8:=match wsAt (trimS p) 0 with
  | none=>some (trimS p)
  | some n=>if n=0 then some (trimS p) else if trimS ((trimS p).drop n)=[49] then some ((trimS p).take n) else none
def adGo:List L8→List PR→List PR × Option L8
  | [],acc=>(acc,none)
  | p::r,acc=>if trimS p=[] then adGo r acc else match resAOf (trimS p) with
    | .inl e=>(acc,some e)
    | .inr none=>adGo r acc
    | .inr (some x)=>adGo r (acc++[x])
def prsV (l:List PR):AV:=match l with | []=>.nilS | _=>.sl 1 (prsA l)
def errA:Option L8→AV
  | none=>.nilI
  | some e=>.ifc 3 (.ptr [.str e])
theorem wsAt_lt:∀ {s:L8} {k n:Nat},wsAt s k=some n→k≤n∧n < k+s.length
  | [],k,n,h=>by simp [wsAt] at h
  | x::r,k,n,h=>by
    simp only [wsAt] at h
    split at h
    · simp at h; subst h; simp
    · have:=wsAt_lt h; simp; omega

end Wax


namespace Wax
open Go (IntKind)

def qtr:Nat:=68719476736
def adText (s:L8):Option (L8 × List PR):=match splitB 59 s with
  | []=>none
  | p::r=>match adId p with
    | none=>none
    | some i=>match adGo r [] with
      | (l,none)=>some (i,l)
      | (_,some _)=>none
def arV (l:List AR):AV:=match l with | []=>.nilS | _=>.sl 16 (arA l)
def adV:Option (L8 × List PR)→AV
  | some p=>.tup [.str p.1,arV (p.2.map PR.ar),.bool true]
  | none=>.tup [.str [],.nilS,.bool false]
def con_AParse:List AV→Option AV
  | [.str s]=>if s.length < qtr∧plain s=true then some (adV (adText s)) else none
  | _=>none

def PR.kOk:PR→Prop
  | .gen _ _ l=>l.length < half∧∀ q∈l,q.1.length < half
  | _=>True
theorem con_resultOf_ok {x:PR} (h:x.kOk):con_resultOf [x.av]=some (.agg x.ar.cells):=by
  simp only [con_resultOf,asPR_av]
  cases x <;> first | rfl | exact if_pos h

theorem splice_ar (r:AR):spliceL [.int .i64 0,.str [],.str [],.str [],.str [],.str [],.str [],.str [],.str [],.str [],.str [],.str [],.str [],.str [],.int .i64 0,.nilS] 0 r.cells=r.cells:=rfl
theorem take_ar (r:AR):List.take 16 r.cells=r.cells:=rfl
end Wax


namespace Wax
open Go (IntKind)

def fits14 (a b:L8):Bool:=decide (a.length≤2147483647) && decide (b.length≤2147483647)
def fits13 (l:List KVp):Bool:=decide (l.length≤2147483647) && l.all fun t=>fits14 t.1 t.2
section
variable {Γ:Gam} (h99:Γ.fn 99=con_MailKeyword) (h100:Γ.fn 100=con_MailAny) (s111:Γ.st 111=con_MPut) (h112:Γ.fn 112=con_MailLower) (h113:Γ.fn 113=con_MKnown)

theorem low_con {n:L8} (hn:n.length < mid):con_MailLower [.str n]=some (.str (lowS n)):=if_pos (by simp only [mid] at hn; simp only [big]; omega)

include h112
include h100
include h113
end
end Wax


namespace Wax
open Go (IntKind)

@[simp] theorem mrc_refs (r:MR):refsL r.cells=[]:=by simp [MR.cells]
@[simp] theorem mrc_map (r:MR) (g:Nat→Nat):mapIdL g r.cells=r.cells:=by simp [MR.cells]
@[simp] theorem mrc_kill (r:MR) (d:Nat):killL d r.cells=r.cells:=by simp [MR.cells]
@[simp] theorem mrc_snapW (r:MR) (g:AV→AV):snapWL g r.cells=r.cells:=by simp [MR.cells]
@[simp] theorem mrc_len (r:MR):r.cells.length=11:=rfl

end Wax


namespace Wax
open Go (IntKind)

def spAt (fm:L8) (k:Nat):L8:=if fm=[] then [] else mSpace (fm.getD (k % fm.length) 0).toNat
theorem mSpace_len (n:Nat):(mSpace n).length≤2:=by
  have h:n % 6 < 6:=Nat.mod_lt _ (by omega)
  simp only [mSpace]
  generalize n % 6=q at *
  match q,h with
  | 0,_=>simp
  | 1,_=>simp
  | 2,_=>simp
  | 3,_=>simp
  | 4,_=>simp
  | 5,_=>simp
theorem spAt_len (fm:L8) (k:Nat):(spAt fm k).length≤2:=by
  unfold spAt
  split
  · simp
  · exact mSpace_len _

def oneT (fm:L8) (k:Nat) (t:KVp):L8:=spAt fm (k+1)++59::(spAt fm (k+2)++t.1++spAt fm (k+3)++61::(spAt fm (k+4)++t.2))
def tagsT (fm:L8):Nat→List KVp→L8
  | _,[]=>[]
  | k,t::r=>oneT fm k t++tagsT fm (k+4) r
def headT (fm:L8):L8:=118::(spAt fm 1++61::(spAt fm 2++sDM))
def mText (fm:L8) (l:List KVp) (e:Bool):L8:=headT fm++tagsT fm 2 l++(if e then spAt fm (2+4 * l.length+1)++[59] else [])

theorem oneT_len {fm:L8} {k:Nat} {t:KVp} (h1:t.1.length≤20) (h2:t.2.length≤200):(oneT fm k t).length≤230:=by
  have a:=spAt_len fm (k+1)
  have b:=spAt_len fm (k+2)
  have c:=spAt_len fm (k+3)
  have d:=spAt_len fm (k+4)
  simp [oneT]; omega
theorem tagsT_len {fm:L8}:∀ {l:List KVp} {k:Nat},(∀ t∈l,t.1.length≤20∧t.2.length≤200)→(tagsT fm k l).length≤230 * l.length
  | [],_,_=>by simp [tagsT]
  | t::l,k,h=>by
    have h1:=h t (by simp)
    have:=tagsT_len (fm:=fm) (l:=l) (k:=k+4) (fun t ht=>h t (by simp [ht]))
    have o:=oneT_len (fm:=fm) (k:=k) h1.1 h1.2
    simp only [tagsT,List.length_append,List.length_cons]; omega
theorem headT_len (fm:L8):(headT fm).length≤12:=by
  have a:=spAt_len fm 1
  have b:=spAt_len fm 2
  simp [headT,sDM]; omega

end Wax


namespace Wax
open Go (IntKind)

def asDR:List AV→Option DR
  | [.str dk,.str sp,.int .i64 fo,.str p,pct,rf,.int .i64 ri,rua,ruf,.str sub]=>match (match pct with | .nilP=>some none | .ptr [.int .i64 n]=>some (some n) | _=>none:Option (Option Int)),asO rf,asO rua,asO ruf with
    | some pct,some rf,some rua,some ruf=>some ⟨dk,sp,fo,p,pct,rf,ri,rua,ruf,sub⟩
    | _,_,_,_=>none
  | _=>none
theorem asDR_cells (r:DR):asDR r.cells=some r:=by
  obtain ⟨dk,sp,fo,p,pct,rf,ri,rua,ruf,sub⟩:=r
  cases pct <;> simp [DR.cells,asDR,asO_slO]
theorem asDR_spec {cs:List AV} {r:DR} (h:asDR cs=some r):cs=r.cells:=by
  unfold asDR at h
  split at h
  · split at h
    · rename_i h0 h1 h2 h3
      simp at h; subst h
      rw [asO_spec h1,asO_spec h2,asO_spec h3]
      split at h0
      · simp at h0; subst h0; rfl
      · simp at h0; subst h0; rfl
      · simp at h0
    · simp at h
  · simp at h

def con_recordOf:List AV→Option AV
  | [.ptr c]=>match asDR c with
    | some r=>if (r.rf.getD []).length≤mid then some (.agg (recM r).cells) else none
    | none=>none
  | _=>none
theorem rec_con {r:DR} (h:(r.rf.getD []).length≤mid):con_recordOf [.ptr r.cells]=some (.agg (recM r).cells):=by
  simp only [con_recordOf,asDR_cells]
  exact if_pos h

theorem slO_alen (hp:List (Nat × AObj)) (x:Option (List L8)):alen hp 1 (slO x)=some (x.getD []).length:=by cases x <;> simp [slO]
def slN (l:List L8):AV:=if l=[] then .nilS else .sl 1 (strsA l)
@[simp] theorem slN_atom (x:List L8):atom (slN x)=true:=by unfold slN; split <;> rfl
@[simp] theorem slN_ref (x:List L8):hasRef (slN x)=false:=by unfold slN; split <;> rfl
@[simp] theorem slN_refs (x:List L8):refs (slN x)=[]:=by unfold slN; split <;> rfl
@[simp] theorem slN_kill (x:List L8) (d:Nat):kill d (slN x)=slN x:=by unfold slN; split <;> rfl
@[simp] theorem slN_snapW (x:List L8) (g:AV→AV):snapW g (slN x)=slN x:=by unfold slN; split <;> rfl
@[simp] theorem slN_cells (x:List L8):cells (slN x)=[slN x]:=by unfold slN; split <;> rfl

def slM (l:List L8):AV:=if l=[] then .nilS else .msl 66 1 0 l.length
def hpM (l:List L8) (h:List (Nat × AObj)):List (Nat × AObj):=if l=[] then h else (66,.cells (strsA l))::h
theorem ro_loop {Γ:Gam} (dk sp:L8) (fo:Int) (p:L8) (P:Int) (hs:Bool) (rf:Option (List L8)) (ri:Int) (rua ruf:Option (List L8)) (sub:L8) (L:List L8) (hL:rf.getD []=L) (hl:L.length≤1099511627776) :
    awp Γ (SCode.loop [2,3,56,57,58] b_impl_recordOf_1) (blockQ 0 (thenQ (awp Γ t_impl_recordOf_2 (finQ [RV.c (some 11) 2] fun v=>v=.agg (MR.cells ⟨dk,sp,fo,p,P,hs,if L=[] then none else rf,ri,rua,ruf,sub⟩)))
      (finQ [RV.c (some 11) 2] fun v=>v=.agg (MR.cells ⟨dk,sp,fo,p,P,hs,if L=[] then none else rf,ri,rua,ruf,sub⟩))))
    ⟨[(2,AV.ref 2 0),(3,AV.ref 3 0),(56,slO rf),(57,AV.int IntKind.i64 L.length),(58,AV.int IntKind.i64 0)],
      [(3,AObj.cells [AV.str dk,AV.str sp,AV.int IntKind.i64 fo,AV.str p,AV.int IntKind.i64 P,AV.bool hs,AV.nilS,AV.int IntKind.i64 ri,slO rua,slO ruf,AV.str sub]),
       (2,AObj.cells [AV.str [],AV.str [],AV.int IntKind.i64 0,AV.str [],AV.int IntKind.i64 0,AV.bool false,AV.nilS,AV.int IntKind.i64 0,AV.nilS,AV.nilS,AV.str []])]⟩:=by
  have cu:=slO_cells rua
  have cf:=slO_cells ruf
  have cn:=slO_cells (if L=[] then none else rf)
  simp only [cells] at cu cf cn
  refine awp_loop2 (σ:=List L8 × List L8) (fun q=>⟨[(2,AV.ref 2 0),(3,AV.ref 3 0),(56,slO rf),(57,AV.int IntKind.i64 L.length),(58,AV.int IntKind.i64 q.1.length)],
      hpM q.1 [(3,AObj.cells [AV.str dk,AV.str sp,AV.int IntKind.i64 fo,AV.str p,AV.int IntKind.i64 P,AV.bool hs,slM q.1,AV.int IntKind.i64 ri,slO rua,slO ruf,AV.str sub]),
       (2,AObj.cells [AV.str [],AV.str [],AV.int IntKind.i64 0,AV.str [],AV.int IntKind.i64 0,AV.bool false,AV.nilS,AV.int IntKind.i64 0,AV.nilS,AV.nilS,AV.str []])]⟩)
    (fun q=>L=q.1++q.2) (fun q=>q.2.length) ([],L) ?_ (by simp) ?_
  · simp [slM,hpM]
  rintro ⟨pre,post⟩ e1 LQ hLQ
  simp only at e1
  have hlen:L.length=pre.length+post.length:=by rw [e1]; simp
  cases post with
  | nil =>
    simp only [List.append_nil] at e1
    subst e1
    by_cases hp:L=[]
    · subst hp
      have hs':slM []=.nilS:=rfl
      have hh:∀ h,hpM [] h=h:=fun h=>rfl
      simp -implicitDefEqProofs [b_impl_recordOf_1,t_impl_recordOf_2,hs',hh,cu,cf,MR.cells]
    · have hs':slM L=.msl 66 1 0 L.length:=by simp [slM,hp]
      have hh:∀ h,hpM L h=(66,.cells (strsA L))::h:=fun h=>by simp [hpM,hp]
      obtain rfl:rf=some L:=by
        cases rf with
        | none=>simp at hL; exact absurd hL hp
        | some l=>simp at hL; rw [hL]
      simp -implicitDefEqProofs [b_impl_recordOf_1,t_impl_recordOf_2,hs',hh,cu,cf,hp,MR.cells]
  | cons x post =>
    obtain rfl:rf=some L:=by
      cases rf with
      | none=>simp at hL; rw [hL] at e1; simp at e1
      | some l=>simp at hL; rw [hL]
    have hlen':L.length=pre.length+(post.length+1):=by rw [e1]; simp
    have hlt:(pre.length:Int) < (L.length:Int):=by omega
    have g:L[pre.length]? = some x:=by rw [e1]; exact get_mid rfl
    have ew:IntKind.i64.wrap ((pre.length:Int)+1)=(pre.length:Int)+1:=wrap64 (by omega) (by omega)
    have fin:=fun st=>hLQ (pre++[x],post) (by rw [e1]; simp) (by simp) st
    have hs2:slM (pre++[x])=.msl 66 1 0 (pre.length+1):=by simp [slM]
    have hh2:∀ h,hpM (pre++[x]) h=(66,.cells (strsA pre++[.str x]))::h:=fun h=>by simp [hpM]
    simp only [hs2,hh2] at fin
    by_cases hp:pre=[]
    · subst hp
      simp at g
      have h0:0 < L.length:=by simp at hlen; omega
      have ew1:IntKind.i64.wrap 1=1:=rfl
      have g0:L[0]=x:=by rw [List.getElem?_eq_getElem h0] at g; injection g
      have hs':slM []=.nilS:=rfl
      have hh:∀ h,hpM [] h=h:=fun h=>rfl
      simp -implicitDefEqProofs [b_impl_recordOf_1,h0,g0,hs',hh,ew1]
      refine fin _ ?_
      simp
    · have hs':slM pre=.msl 66 1 0 pre.length:=by simp [slM,hp]
      have hh:∀ h,hpM pre h=(66,.cells (strsA pre))::h:=fun h=>by simp [hpM,hp]
      simp -implicitDefEqProofs [b_impl_recordOf_1,hlt,g,hs',hh,ew]
      refine ⟨by omega,?_⟩
      refine fin _ ?_
      simp

set_option maxHeartbeats 1000000 in
theorem ok_recordOf (Γ:Gam):∀ args r,con_recordOf args=some r→runs Γ c_impl_recordOf args (fun v=>v=r):=by
  intro args q h
  simp only [con_recordOf] at h
  split at h <;> (try simp at h; done)
  rename_i c
  split at h <;> (try simp at h; done)
  rename_i r hr
  obtain ⟨hl,rfl⟩:=ite_some h
  clear h
  rw [asDR_spec hr]
  clear hr
  obtain ⟨dk,sp,fo,p,pct,rf,ri,rua,ruf,sub⟩:=r
  simp only at hl
  have hl':=hl
  simp only [mid] at hl'
  generalize hL:rf.getD []=L at *
  have hal:∀ hp,alen hp 1 (slO rf)=some L.length:=fun hp=>by rw [slO_alen,hL]
  have hrec:recM ⟨dk,sp,fo,p,pct,rf,ri,rua,ruf,sub⟩=⟨dk,sp,fo,p,pct.getD 0,pct.isSome,if L=[] then none else rf,IntKind.i64.wrap (ri * 1000000000),rua,ruf,sub⟩:=by simp [recM,hL]
  have cu:=slO_cells rua
  have cf:=slO_cells ruf
  have cn:=fun l=>slN_cells l
  simp only [cells] at cu cf cn
  cases pct with
  | none =>
    simp -implicitDefEqProofs [-alen,c_impl_recordOf,DR.cells,hal,cu,cf]
    rw [hrec]
    exact ro_loop dk sp fo p 0 false rf _ rua ruf sub L hL hl'
  | some n =>
    simp -implicitDefEqProofs [-alen,c_impl_recordOf,DR.cells,hal,cu,cf]
    rw [hrec]
    exact ro_loop dk sp fo p n true rf _ rua ruf sub L hL hl'
def mdOk:AV ⊕ DR→Prop
  | .inl e=>e=.ifc 3 .junk∨∃ m,e=eN m
  | .inr r=>(r.rf.getD []).length≤mid

section
variable (acc:List KVp) (ha:valsOk acc)
theorem sp_ok {r:DR} (h:(r.rf.getD []).length≤mid):mdOk (mdSp acc r):=by
  unfold mdSp
  split
  · exact h
  · split
    · exact h
    · exact .inr ⟨_,rfl⟩
theorem ruf_ok {r:DR} (h:(r.rf.getD []).length≤mid):mdOk (mdRuf acc r):=by
  unfold mdRuf
  apply sp_ok
  split <;> exact h
theorem rua_ok {r:DR} (h:(r.rf.getD []).length≤mid):mdOk (mdRua acc r):=by
  unfold mdRua
  apply ruf_ok
  split <;> exact h
theorem ri_ok {r:DR} (h:(r.rf.getD []).length≤mid):mdOk (mdRi acc r):=by
  unfold mdRi
  split
  · exact rua_ok acc h
  · split
    · split
      · exact .inr ⟨_,rfl⟩
      · exact rua_ok acc h
    · exact .inr ⟨_,rfl⟩
include ha
theorem rf_ok {r:DR} (h:(r.rf.getD []).length≤mid):mdOk (mdRf acc r):=by
  unfold mdRf
  split
  · exact ri_ok acc h
  · rename_i v hf
    have hv:=ha _ (findP_in hf)
    have hl:=splitB_length 58 v
    have hv1:=hv.1
    simp only at hv1
    split
    · rename_i hall
      refine ri_ok acc ?_
      simp only [Option.getD_some]
      omega
    · exact .inr ⟨_,rfl⟩
theorem pct_ok {r:DR} (h:(r.rf.getD []).length≤mid):mdOk (mdPct acc r):=by
  unfold mdPct
  split
  · exact rf_ok acc ha h
  · split
    · split
      · exact .inr ⟨_,rfl⟩
      · exact rf_ok acc ha h
    · exact .inr ⟨_,rfl⟩
theorem fo_ok {r:DR} (h:(r.rf.getD []).length≤mid):mdOk (mdFo acc r):=by
  unfold mdFo
  split
  · exact pct_ok acc ha h
  · split
    · exact pct_ok acc ha h
    · exact .inr ⟨_,rfl⟩
theorem aspf_ok {r:DR} (h:(r.rf.getD []).length≤mid):mdOk (mdAspf acc r):=by
  unfold mdAspf
  split
  · exact fo_ok acc ha h
  · split
    · exact fo_ok acc ha h
    · exact .inr ⟨_,rfl⟩
theorem adkim_ok {r:DR} (h:(r.rf.getD []).length≤mid):mdOk (mdAdkim acc r):=by
  unfold mdAdkim
  split
  · exact aspf_ok acc ha h
  · split
    · exact aspf_ok acc ha h
    · exact .inr ⟨_,rfl⟩
theorem all_ok:mdOk (mdAll acc):=by
  unfold mdAll
  split
  · split
    · exact .inr ⟨_,rfl⟩
    · split
      · exact adkim_ok acc ha (by simp [dr0])
      · exact .inr ⟨_,rfl⟩
  · exact .inl rfl
end
theorem text_ok {s:L8} (hs:s.length < mid) (hp:plain s=true):mdOk (mdText s):=by
  have ha:=prd2_vals s.length hs (splitB 59 s) [] (fun p hp'=>⟨splitB_mem_length 59 s p hp',splitB_plain 59 s p hp hp'⟩) (fun q hq=>by simp at hq)
  unfold mdText
  split
  · exact all_ok _ ha
  · exact .inr ⟨_,rfl⟩

def mpV:AV ⊕ DR→AV
  | .inl _=>.tup [.agg mr0.cells,.bool false]
  | .inr r=>.tup [.agg (recM r).cells,.bool true]
def con_MParse:List AV→Option AV
  | [.str s]=>if s.length < mid∧plain s=true then some (mpV (mdText s)) else none
  | _=>none

theorem ok_MParse (Γ:Gam) (h142:Γ.fn 142=con_dmParse) (h143:Γ.fn 143=con_recordOf):∀ args r,con_MParse args=some r→runs Γ c_impl_MParse args (fun v=>v=r):=by
  intro args q h
  simp only [con_MParse] at h
  split at h <;> (try simp at h; done)
  rename_i s
  obtain ⟨hs,rfl⟩:=ite_some h
  clear h
  have k:con_dmParse [.str s]=some (mdV (mdText s)):=if_pos hs
  have ho:=text_ok hs.1 hs.2
  generalize mdText s=x at *
  cases x with
  | inl e =>
    rcases ho with rfl | ⟨m,rfl⟩ <;> simp -implicitDefEqProofs [c_impl_MParse,acall,h142,k,mdV,mpV,eN,MR.cells,mr0]
  | inr r =>
    have k2:=rec_con ho
    simp only [mpV]
    generalize recM r=R at *
    simp only [MR.cells] at k2
    have cu:=slO_cells R.rua
    have cf:=slO_cells R.ruf
    have cn:=slO_cells R.rf
    simp only [cells] at cu cf cn
    simp -implicitDefEqProofs [c_impl_MParse,acall,h142,h143,k,k2,mdV,cu,cf,cn,MR.cells]
end Wax


namespace Wax
open Go (IntKind)

def gB (c:UInt8):Prop:=32 < c.toNat∧c.toNat < 127∧c ≠ 59
def allBl (s:L8):Prop:=∀ x∈s,blB x=true
theorem blB_ws {x:UInt8} (h:blB x=true):isWs x.toNat=true:=by
  simp only [blB,decide_eq_true_eq] at h
  simp only [isWs,decide_eq_true_eq]
  omega
theorem gB_ws {x:UInt8} (h:gB x):isWs x.toNat=false:=by
  obtain ⟨h1,h2,_⟩:=h
  simp only [isWs,decide_eq_false_iff_not]
  omega
theorem allBl_ws {s:L8} (h:allBl s):allWs s:=fun x hx=>blB_ws (h x hx)
theorem allBl_no {s:L8} (h:allBl s) {n:Int} (hn:32 < n):noB n s:=by
  intro x hx
  have:=h x hx
  simp only [blB,decide_eq_true_eq] at this
  omega
theorem allBl_nil:allBl []:=by intro x hx; simp at hx
theorem mSpace_bl (n:Nat):allBl (mSpace n):=by
  have h:n % 6 < 6:=Nat.mod_lt _ (by omega)
  simp only [mSpace]
  generalize n % 6=q at *
  match q,h with
  | 0,_=>simp [allBl,blB]
  | 1,_=>simp [allBl,blB]
  | 2,_=>simp [allBl,blB]
  | 3,_=>simp [allBl,blB]
  | 4,_=>simp [allBl,blB]
  | 5,_=>simp [allBl,blB]
theorem spAt_bl (fm:L8) (k:Nat):allBl (spAt fm k):=by
  unfold spAt
  split
  · exact allBl_nil
  · exact mSpace_bl _
theorem trimS_mid {a n b:L8} (ha:allBl a) (hn:∀ x∈n,gB x) (hne:n ≠ []) (hb:allBl b):trimS (a++n++b)=n:=by
  have e:trimS (a++n++b)=trimS (n++b):=by
    rw [List.append_assoc]
    simp only [trimS]
    rw [trimL_app (allBl_ws ha)]
  rw [e]
  exact trimS_word (fun x hx=>gB_ws (hn x hx)) hne (allBl_ws hb)
theorem trimS_bl {a:L8} (ha:allBl a):trimS a=[]:=by
  have e:=trimL_app (a:=a) (b:=[]) (allBl_ws ha)
  simp only [List.append_nil] at e
  simp only [trimS,e]
  rfl

structure Gt (t:KVp):Prop where
  n1:t.1 ≠ []
  n2:∀ x∈t.1,gB x∧x ≠ 61
  v1:t.2 ≠ []
  v2:∀ x∈t.2,gB x

def Pc (p:L8) (t:KVp):Prop:=∃ a b c d,allBl a∧allBl b∧allBl c∧allBl d∧p=a++t.1++b++61::(c++t.2++d)

theorem prd2_pc {p:L8} {t:KVp} (h:Pc p t) (g:Gt t) {acc:List KVp} (hk:hasK t.1 acc=false) (r:List L8):prd2 (p::r) acc=prd2 r (acc++[t]):=by
  obtain ⟨a,b,c,d,ha,hb,hc,hd,rfl⟩:=h
  have hno:noB (61:UInt8).toNat (a++t.1++b):=by
    intro x hx
    simp only [List.mem_append] at hx
    rcases hx with (hx | hx) | hx
    · exact allBl_no ha (by decide) x hx
    · have:=(g.n2 x hx).2
      intro e
      exact this (UInt8.toNat_inj.1 (by exact_mod_cast e))
    · exact allBl_no hb (by decide) x hx
  have e:cutAt 61 (a++t.1++b++61::(c++t.2++d))=some (a++t.1++b,c++t.2++d):=cutAt_noB hno
  simp only [prd2,e]
  rw [trimS_mid ha (fun x hx=>(g.n2 x hx).1) g.n1 hb,trimS_mid hc g.v2 g.v1 hd,psetL_new hk]
theorem prd2_bl {p:L8} (h:allBl p) (r:List L8) (acc:List KVp):prd2 (p::r) acc=prd2 r acc:=by
  have e:cutAt 61 p=none:=by
    have:=cutAt_app 61 p [] (allBl_no h (by decide))
    simpa [cutAt] using this
  simp only [prd2,e,trimS_bl h,if_true]

def tailT (fm:L8) (k:Nat) (e:Bool):L8:=if e then spAt fm (k+1)++[59] else []
def pcsL (fm:L8):Nat→L8→List KVp→Bool→List L8
  | k,cur,[],e=>if e then [cur++spAt fm (k+1),[]] else [cur]
  | k,cur,t::r,e=>(cur++spAt fm (k+1))::pcsL fm (k+4) (spAt fm (k+2)++t.1++spAt fm (k+3)++61::(spAt fm (k+4)++t.2)) r e
theorem noB_app {c:Int} {a b:L8} (ha:noB c a) (hb:noB c b):noB c (a++b):=by
  intro x hx
  rcases List.mem_append.1 hx with hx | hx
  · exact ha x hx
  · exact hb x hx
theorem gB_no {s:L8} (h:∀ x∈s,gB x):noB 59 s:=fun x hx e=>(h x hx).2.2 (UInt8.toNat_inj.1 (by exact_mod_cast e))
theorem cur_no {fm:L8} {k:Nat} {t:KVp} (g:Gt t):noB 59 (spAt fm (k+2)++t.1++spAt fm (k+3)++61::(spAt fm (k+4)++t.2)):=by
  have h1:noB 59 (61::(spAt fm (k+4)++t.2)):=by
    intro x hx
    rcases List.mem_cons.1 hx with rfl | hx
    · decide
    · exact noB_app (allBl_no (spAt_bl fm _) (by decide)) (gB_no g.v2) x hx
  exact noB_app (noB_app (noB_app (allBl_no (spAt_bl fm _) (by decide)) (gB_no fun x hx=>(g.n2 x hx).1)) (allBl_no (spAt_bl fm _) (by decide))) h1
theorem split_tags (fm:L8) (e:Bool):∀ (l:List KVp) (k:Nat) (cur:L8),noB 59 cur→(∀ t∈l,Gt t)→splitB 59 (cur++(tagsT fm k l++tailT fm (k+4 * l.length) e))=pcsL fm k cur l e
  | [],k,cur,hc,_=>by
    cases e with
    | false =>
      simp only [tagsT,tailT,pcsL]
      simpa using splitB_only (b:=59) hc
    | true =>
      have h:=splitB_app (b:=59) (post:=[]) (noB_app hc (allBl_no (spAt_bl fm (k+1)) (by decide)))
      simp only [tagsT,tailT,pcsL,List.nil_append,List.length_nil,Nat.mul_zero,Nat.add_zero,if_true]
      rw [← List.append_assoc]
      simpa [splitB] using h
  | t::r,k,cur,hc,hg=>by
    have ih:=split_tags fm e r (k+4) _ (cur_no (fm:=fm) (k:=k) (hg t (by simp))) (fun t' ht=>hg t' (by simp [ht]))
    have h:=splitB_app (b:=59) (post:=(spAt fm (k+2)++t.1++spAt fm (k+3)++61::(spAt fm (k+4)++t.2))++(tagsT fm (k+4) r++tailT fm (k+4+4 * r.length) e)) (noB_app hc (allBl_no (spAt_bl fm (k+1)) (by decide)))
    simp only [pcsL]
    rw [← ih,← h]
    have e4:k+4 * (t::r).length=k+4+4 * r.length:=by simp; omega
    rw [e4]
    congr 1
    simp [tagsT,oneT]
theorem prd2_pcsL (fm:L8) (e:Bool):∀ (l:List KVp) (k:Nat) (cur:L8) (t:KVp) (acc:List KVp),(∃ a b c,allBl a∧allBl b∧allBl c∧cur=a++t.1++b++61::(c++t.2))→Gt t→(∀ t∈l,Gt t)→((acc++t::l).map (·.1)).Nodup→prd2 (pcsL fm k cur l e) acc=(acc++t::l,true)
  | [],k,cur,t,acc,⟨a,b,c,ha,hb,hc,hcur⟩,g,_,nd=>by
    have hk:hasK t.1 acc=false:=by
      simp only [hasK,List.any_eq_false,decide_eq_true_eq]
      intro u hu e
      rw [List.map_append,List.nodup_append] at nd
      exact nd.2.2 u.1 (List.mem_map.2 ⟨u,hu,rfl⟩) t.1 (by simp) e.symm
    cases e with
    | false =>
      simp only [pcsL]
      rw [if_neg (by simp),prd2_pc ⟨a,b,c,[],ha,hb,hc,allBl_nil,by simpa using hcur⟩ g hk]
      rfl
    | true =>
      simp only [pcsL,if_true]
      rw [prd2_pc ⟨a,b,c,spAt fm (k+1),ha,hb,hc,spAt_bl _ _,by rw [hcur]; simp⟩ g hk,prd2_bl allBl_nil]
      rfl
  | t2::r,k,cur,t,acc,⟨a,b,c,ha,hb,hc,hcur⟩,g,hg,nd=>by
    have hk:hasK t.1 acc=false:=by
      simp only [hasK,List.any_eq_false,decide_eq_true_eq]
      intro u hu e
      rw [List.map_append,List.nodup_append] at nd
      exact nd.2.2 u.1 (List.mem_map.2 ⟨u,hu,rfl⟩) t.1 (by simp) e.symm
    simp only [pcsL]
    rw [prd2_pc ⟨a,b,c,spAt fm (k+1),ha,hb,hc,spAt_bl _ _,by rw [hcur]; simp⟩ g hk]
    rw [prd2_pcsL fm e r (k+4) _ t2 (acc++[t]) ⟨spAt fm (k+2),spAt fm (k+3),spAt fm (k+4),spAt_bl _ _,spAt_bl _ _,spAt_bl _ _,rfl⟩ (hg t2 (by simp)) (fun t' ht=>hg t' (by simp [ht])) (by simpa using nd)]
    simp
theorem gt_v:Gt (kV,sDM):=⟨by simp [kV],by simp only [kV,gB]; decide,by simp [sDM],by simp only [sDM,gB]; decide⟩
theorem mText_eq (fm:L8) (l:List KVp) (e:Bool):mText fm l e=(spAt [] 0++kV++spAt fm 1++61::(spAt fm 2++sDM))++(tagsT fm 2 l++tailT fm (2+4 * l.length) e):=by
  simp [mText,headT,tailT,kV,spAt]
theorem prd2_text (fm:L8) (l:List KVp) (e:Bool) (hg:∀ t∈l,Gt t) (nd:(((kV,sDM)::l).map (·.1)).Nodup):prd2 (splitB 59 (mText fm l e)) []=((kV,sDM)::l,true):=by
  have hno:noB 59 (spAt [] 0++kV++spAt fm 1++61::(spAt fm 2++sDM)):=by
    have h1:noB 59 (61::(spAt fm 2++sDM)):=by
      intro x hx
      rcases List.mem_cons.1 hx with rfl | hx
      · decide
      · exact noB_app (allBl_no (spAt_bl fm _) (by decide)) (gB_no gt_v.v2) x hx
    exact noB_app (noB_app (noB_app (allBl_no (spAt_bl [] _) (by decide)) (gB_no fun x hx=>(gt_v.n2 x hx).1)) (allBl_no (spAt_bl fm _) (by decide))) h1
  rw [mText_eq,split_tags fm e l 2 _ hno hg]
  exact prd2_pcsL fm e l 2 _ (kV,sDM) [] ⟨spAt [] 0,spAt fm 1,spAt fm 2,spAt_bl _ _,spAt_bl _ _,spAt_bl _ _,rfl⟩ gt_v hg (by simpa using nd)
end Wax


namespace Wax
open Go (IntKind)

theorem pu_num:∀ (l:L8) (acc:Nat),l.all digB=true→(acc+1) * 10 ^ l.length≤100000000000→∃ m:Nat,Go.Lib.parseUint10 acc l=.ok m∧numW (acc:Int) l=(m:Int)∧m+1≤100000000000
  | [],acc,_,h=>⟨acc,rfl,rfl,by simpa using h⟩
  | c::r,acc,hd,h=>by
    simp only [List.all_cons,Bool.and_eq_true] at hd
    have hc:=hd.1
    simp only [digB,decide_eq_true_eq] at hc
    have hp:1≤10 ^ r.length:=Nat.pos_of_ne_zero (by simp)
    have h2:(acc+1) * 10 * 10 ^ r.length≤100000000000:=by
      have:(acc+1) * 10 ^ (c::r).length=(acc+1) * 10 * 10 ^ r.length:=by rw [List.length_cons,Nat.pow_succ]; simp [Nat.mul_assoc,Nat.mul_comm]
      omega
    have h3:(acc+1) * 10≤100000000000:=Nat.le_trans (Nat.le_mul_of_pos_right _ hp) h2
    have h4:(acc * 10+(c.toNat - 48)+1) * 10 ^ r.length≤100000000000:=Nat.le_trans (Nat.mul_le_mul_right _ (by omega)) h2
    obtain ⟨m,e1,e2,e3⟩:=pu_num r (acc * 10+(c.toNat - 48)) hd.2 h4
    refine ⟨m,?_,?_,e3⟩
    · simp only [Go.Lib.parseUint10]
      rw [if_pos hc,if_neg (by omega),if_neg (by omega),e1]
    · rw [← e2]
      have w1:IntKind.i64.wrap (10 * (acc:Int))=10 * (acc:Int):=wrap64 (by omega) (by omega)
      have w2:IntKind.i64.wrap (10 * (acc:Int)+((c.toNat:Int) - 48))=((acc * 10+(c.toNat - 48):Nat):Int):=by
        rw [wrap64 (by omega) (by omega)]; omega
      simp only [numW,List.foldl_cons,w1,w2]
theorem num_atoi {v:L8} {n:Int} (h:(mNum v n).2=true) (hn:n≤10):∃ m:Nat,Go.Lib.atoiAll v=.ok (m:Int)∧(mNum v n).1=(m:Int)∧m+1≤100000000000:=by
  unfold mNum at h ⊢
  split at h
  · rename_i hd
    rw [if_pos hd]
    simp only [Bool.and_eq_true,decide_eq_true_eq] at h
    obtain ⟨h1,h2⟩:=h
    have hp:10 ^ v.length≤10 ^ 10:=Nat.pow_le_pow_right (by omega) (by omega)
    obtain ⟨m,e1,e2,e3⟩:=pu_num v 0 hd (by omega)
    refine ⟨m,?_,by simpa using e2,e3⟩
    cases v with
    | nil=>exact absurd rfl h1
    | cons c r =>
      simp only [List.all_cons,Bool.and_eq_true] at hd
      have hc:=hd.1
      simp only [digB,decide_eq_true_eq] at hc
      have e0:Go.Lib.parseMag (c::r)=.ok m:=by simp only [Go.Lib.parseMag]; rw [if_neg (by simp),e1]
      simp only [Go.Lib.atoiAll]
      rw [if_neg (by omega),e0]
      simp only
      rw [if_neg (by omega),if_neg (by omega),if_neg (by omega)]
  · simp at h

theorem tokB_g {c:UInt8} (h:tokB c=true):gB c:=by
  simp only [tokB,Bool.and_eq_true,decide_eq_true_eq,Bool.not_eq_true'] at h
  refine ⟨h.1.1,h.1.2,?_⟩
  rintro rfl
  simp [tokStop] at h
theorem kwB_g {c:UInt8} (h:kwB c=true):gB c∧c ≠ 61:=by
  simp only [kwB,decide_eq_true_eq] at h
  refine ⟨⟨by omega,by omega,?_⟩,?_⟩ <;> rintro rfl <;> simp at h
theorem digB_g {c:UInt8} (h:digB c=true):gB c:=by
  simp only [digB,decide_eq_true_eq] at h
  refine ⟨by omega,by omega,?_⟩; rintro rfl; simp at h
theorem split_g {b:UInt8} (hb:gB b):∀ {v:L8},(∀ p∈splitB b v,∀ x∈p,gB x)→∀ x∈v,gB x
  | [],_,x,hx=>by simp at hx
  | c::r,h,x,hx=>by
    simp only [splitB] at h
    split at h
    · rename_i e
      rcases List.mem_cons.1 hx with rfl | hx
      · rw [e]; exact hb
      · exact split_g hb (v:=r) (fun p hp=>h p (by simp [hp])) x hx
    · cases hs:splitB b r with
      | nil=>exact absurd hs (splitB_ne b r)
      | cons p t =>
        rw [hs] at h
        simp only at h
        rcases List.mem_cons.1 hx with rfl | hx
        · exact h (x::p) (by simp) x (by simp)
        · refine split_g hb (v:=r) ?_ x hx
          intro q hq y hy
          rw [hs] at hq
          rcases List.mem_cons.1 hq with rfl | hq
          · exact h (c::q) (by simp) y (by simp [hy])
          · exact h q (by simp [hq]) y hy
theorem mlist_g {b:UInt8} (hb:gB b) {right:L8→Bool} (hr:∀ p,right p=true→∀ x∈p,gB x) {v:L8} (h:(mlist b right v).isSome=true):(∀ x∈v,gB x)∧mlist b right v=some (splitB b v)∧(splitB b v).all right=true:=by
  unfold mlist at h ⊢
  split at h
  · rename_i ha
    rw [if_pos ha]
    refine ⟨split_g hb (fun p hp=>hr p (List.all_eq_true.1 ha p hp)),rfl,ha⟩
  · simp at h
theorem dom_g {s:L8} (h:mDom s=true):∀ x∈s,gB x:=by
  simp only [mDom,Bool.and_eq_true] at h
  refine split_g (b:=46) (by simp only [gB]; decide) (fun p hp x hx=>?_)
  have:=List.all_eq_true.1 h.1 p hp
  simp only [Bool.and_eq_true,mKw] at this
  exact (kwB_g (List.all_eq_true.1 this.1.1.1.1 x hx)).1
theorem cut_mem {c:UInt8} {s:L8} {p:L8 × L8} (h:cutAt c.toNat s=some p):s=p.1++c::p.2:=by
  obtain ⟨x,hx,e,_⟩:=cutAt_eq (a:=p.1) (b:=p.2) h
  have:x=c:=UInt8.toNat_inj.1 (by exact_mod_cast hx)
  rw [e,this]
theorem addr_g {s:L8} (h:addrB s=true):∀ x∈s,gB x:=by
  unfold addrB at h
  split at h
  · rename_i p hp
    simp only [Bool.and_eq_true,mTok] at h
    rw [cut_mem (c:=64) hp]
    intro x hx
    simp only [List.mem_append,List.mem_cons] at hx
    rcases hx with hx | rfl | hx
    · exact tokB_g (List.all_eq_true.1 h.1.1 x hx)
    · simp only [gB]; decide
    · exact dom_g h.2 x hx
  · simp at h
theorem mNum_g {v:L8} {n:Int} (h:(mNum v n).2=true):∀ x∈v,gB x:=by
  unfold mNum at h
  split at h
  · rename_i hd
    exact fun x hx=>digB_g (List.all_eq_true.1 hd x hx)
  · simp at h
theorem size_g {s:L8} (h:∀ x∈sizeOff s,gB x):∀ x∈s,gB x:=by
  unfold sizeOff at h
  split at h
  · rename_i c hc
    split at h
    · rename_i hk
      have e:s=s.dropLast++[c]:=by
        rw [List.getLast?_eq_some_iff] at hc
        obtain ⟨ys,rfl⟩:=hc
        simp
      rw [e]
      intro x hx
      simp only [List.mem_append,List.mem_singleton] at hx
      rcases hx with hx | rfl
      · exact h x hx
      · simp only [sKmgt,List.contains_eq_mem,decide_eq_true_eq,List.mem_cons,List.not_mem_nil,or_false] at hk
        rcases hk with rfl | rfl | rfl | rfl <;> (simp only [gB]; decide)
    · exact h
  · exact h
theorem muri_g {s:L8} (h:muri s=true):∀ x∈s,gB x:=by
  simp only [muri,Bool.and_eq_true,decide_eq_true_eq] at h
  obtain ⟨⟨h1,h2⟩,h3⟩:=h
  have hd:∀ x∈s.drop 7,gB x:=by
    split at h3
    · rename_i p hp
      simp only [Bool.and_eq_true] at h3
      rw [cut_mem (c:=33) hp]
      intro x hx
      simp only [List.mem_append,List.mem_cons] at hx
      rcases hx with hx | rfl | hx
      · exact addr_g h3.2 x hx
      · simp only [gB]; decide
      · exact size_g (mNum_g h3.1) x hx
    · exact addr_g h3
  rw [← List.take_append_drop 7 s,h2]
  intro x hx
  rcases List.mem_append.1 hx with hx | hx
  · clear h3 hd h1 h2
    have hm:∀ y∈sMailto,gB y:=by simp only [sMailto,gB]; decide
    exact hm x hx
  · exact hd x hx
theorem foOk_c {s:L8} (h:foOk s=true):∃ c,s=[c]∧(c=48∨c=49∨c=100∨c=115):=by
  unfold foOk at h
  split at h
  · rename_i c
    simp only [s01ds,List.contains_eq_mem,decide_eq_true_eq,List.mem_cons,List.not_mem_nil,or_false] at h
    exact ⟨c,rfl,h⟩
  · simp at h
theorem foOk_g {s:L8} (h:foOk s=true):∀ x∈s,gB x:=by
  obtain ⟨c,rfl,rfl | rfl | rfl | rfl⟩:=foOk_c h <;> (simp only [gB]; decide)
structure Rd (l:List KVp):Prop where
  ok:∀ t∈l,mOk t=true∧Gt t
  nd:(((kV,sDM)::l).map (·.1)).Nodup
  p:∃ v,findP l kP=some v

def recOf (f:L8→Option L8):DR :=
  { dk:=(f kAdkim).getD sR,sp:=(f kAspf).getD sR,fo:=(match f kFo with | none=>0 | some v=>foOf (splitB 58 v)),p:=(f kP).getD [],pct:=(f kPct).map fun v=>(mNum v 3).1,
    rf:=(f kRf).map (splitB 58),ri:=(match f kRi with | none=>0 | some v=>(mNum v 10).1),rua:=(f kRua).map (splitB 44),ruf:=(f kRuf).map (splitB 44),sub:=(f kSp).getD [] }

theorem fo2_of:∀ (L:List L8) (n:Int),L.all foOk=true→fo2 n L=some (L.foldl (fun n x=>orI n (foBit x)) n)
  | [],n,_=>rfl
  | x::r,n,h=>by
    simp only [List.all_cons,Bool.and_eq_true] at h
    have ih:=fun m=>fo2_of r m h.2
    obtain ⟨c,rfl,hc⟩:=foOk_c h.1
    have ht:trimS [c]=[c]:=by rcases hc with rfl | rfl | rfl | rfl <;> decide
    have hb:fobit2 [c]=some (foBit [c]):=by
      simp only [fobit2,ht]
      rcases hc with rfl | rfl | rfl | rfl <;> decide
    simp only [fo2,hb,ih,List.foldl_cons]
theorem uris_of {v:L8} (h:(splitB 44 v).all muri=true):uris v=splitB 44 v:=by
  simp only [uris]
  have:∀ (L:List L8),L.all muri=true→L.map trimS=L:=by
    intro L
    induction L with
    | nil=>intro _; rfl
    | cons x r ih =>
      intro h
      simp only [List.all_cons,Bool.and_eq_true] at h
      have hne:x ≠ []:=by rintro rfl; simp [muri] at h
      have:=trimS_word (n:=x) (b:=[]) (fun y hy=>gB_ws (muri_g h.1 y hy)) hne (fun y hy=>by simp at hy)
      simp only [List.append_nil] at this
      simp [this,ih h.2]
  exact this _ h

section
variable {acc:List KVp} (ha:∀ k v,findP acc k=some v→k ≠ kV→mOk (k,v)=true)
include ha
theorem mdSp_of (r:DR) (hr:r.sub=[]):mdSp acc r=.inr { r with sub:=(findP acc kSp).getD [] }:=by
  unfold mdSp
  split
  · rename_i h; rw [h]; simp [← hr]
  · rename_i v h
    have:=ha _ _ h (by decide)
    rw [h]
    have hp:polB v=true:=by simpa [mOk,kSp,kAdkim,kAspf,kP] using this
    rw [if_pos hp]; rfl
theorem mdRuf_of (r:DR) (hr:r.sub=[]∧r.ruf=none):mdRuf acc r=.inr { r with sub:=(findP acc kSp).getD [],ruf:=(findP acc kRuf).map (splitB 44) }:=by
  unfold mdRuf
  cases h:findP acc kRuf with
  | none=>simp only; rw [mdSp_of ha _ hr.1]; simp [← hr.2]
  | some v =>
    have:=ha _ _ h (by decide)
    have hp:(mlist 44 muri v).isSome=true:=by simpa [mOk,kSp,kAdkim,kAspf,kP,kFo,kPct,kRf,kRi,kRua,kRuf] using this
    have hu:=(mlist_g (by simp only [gB]; decide) (fun p=>muri_g) hp).2.2
    simp only
    rw [uris_of hu,mdSp_of ha]; rfl
    exact hr.1
theorem mdRua_of (r:DR) (hr:r.sub=[]∧r.ruf=none∧r.rua=none):mdRua acc r=.inr { r with sub:=(findP acc kSp).getD [],ruf:=(findP acc kRuf).map (splitB 44),rua:=(findP acc kRua).map (splitB 44) }:=by
  unfold mdRua
  cases h:findP acc kRua with
  | none=>simp only; rw [mdRuf_of ha _ ⟨hr.1,hr.2.1⟩]; simp [← hr.2.2]
  | some v =>
    have:=ha _ _ h (by decide)
    have hp:(mlist 44 muri v).isSome=true:=by simpa [mOk,kSp,kAdkim,kAspf,kP,kFo,kPct,kRf,kRi,kRua,kRuf] using this
    have hu:=(mlist_g (by simp only [gB]; decide) (fun p=>muri_g) hp).2.2
    simp only
    rw [uris_of hu,mdRuf_of ha]; rfl
    exact ⟨hr.1,hr.2.1⟩
theorem mdRi_of (r:DR) (hr:r.sub=[]∧r.ruf=none∧r.rua=none∧r.ri=0):mdRi acc r=.inr { r with sub:=(findP acc kSp).getD [],ruf:=(findP acc kRuf).map (splitB 44),rua:=(findP acc kRua).map (splitB 44),ri:=(match findP acc kRi with | none=>0 | some v=>(mNum v 10).1) }:=by
  unfold mdRi
  cases h:findP acc kRi with
  | none=>simp only; rw [mdRua_of ha _ ⟨hr.1,hr.2.1,hr.2.2.1⟩]; simp [← hr.2.2.2]
  | some v =>
    have:=ha _ _ h (by decide)
    have hp:((mNum v 10).2=true∧0 < (mNum v 10).1)∧(mNum v 10).1 < 4294967296:=by simpa [mOk,kSp,kAdkim,kAspf,kP,kFo,kPct,kRf,kRi,kRua,kRuf] using this
    obtain ⟨m,e1,e2,e3⟩:=num_atoi hp.1.1 (by omega)
    simp only [e1,e2]
    rw [if_neg (by omega),mdRua_of ha]
    exact ⟨hr.1,hr.2.1,hr.2.2.1⟩
theorem mdRf_of (r:DR) (hr:r.sub=[]∧r.ruf=none∧r.rua=none∧r.ri=0∧r.rf=none):mdRf acc r=.inr { r with sub:=(findP acc kSp).getD [],ruf:=(findP acc kRuf).map (splitB 44),rua:=(findP acc kRua).map (splitB 44),ri:=(match findP acc kRi with | none=>0 | some v=>(mNum v 10).1),rf:=(findP acc kRf).map (splitB 58) }:=by
  unfold mdRf
  cases h:findP acc kRf with
  | none=>simp only; rw [mdRi_of ha _ ⟨hr.1,hr.2.1,hr.2.2.1,hr.2.2.2.1⟩]; simp [← hr.2.2.2.2]
  | some v =>
    have:=ha _ _ h (by decide)
    have hp:(mlist 58 (fun s=>decide (s=sAfrf)) v).isSome=true:=by simpa [mOk,kSp,kAdkim,kAspf,kP,kFo,kPct,kRf,kRi,kRua,kRuf] using this
    have hu:(splitB 58 v).all (fun s=>decide (s=sAfrf))=true:=by
      unfold mlist at hp; split at hp
      · assumption
      · simp at hp
    simp only
    rw [if_pos hu,mdRi_of ha]; rfl
    exact ⟨hr.1,hr.2.1,hr.2.2.1,hr.2.2.2.1⟩
theorem mdPct_of (r:DR) (hr:r.sub=[]∧r.ruf=none∧r.rua=none∧r.ri=0∧r.rf=none∧r.pct=none):mdPct acc r=.inr { r with sub:=(findP acc kSp).getD [],ruf:=(findP acc kRuf).map (splitB 44),rua:=(findP acc kRua).map (splitB 44),ri:=(match findP acc kRi with | none=>0 | some v=>(mNum v 10).1),rf:=(findP acc kRf).map (splitB 58),pct:=(findP acc kPct).map fun v=>(mNum v 3).1 }:=by
  unfold mdPct
  cases h:findP acc kPct with
  | none=>simp only; rw [mdRf_of ha _ ⟨hr.1,hr.2.1,hr.2.2.1,hr.2.2.2.1,hr.2.2.2.2.1⟩]; simp [← hr.2.2.2.2.2]
  | some v =>
    have:=ha _ _ h (by decide)
    have hp:(mNum v 3).2=true∧(mNum v 3).1≤100:=by simpa [mOk,kSp,kAdkim,kAspf,kP,kFo,kPct,kRf,kRi,kRua,kRuf] using this
    obtain ⟨m,e1,e2,e3⟩:=num_atoi hp.1 (by omega)
    simp only [e1,Option.map_some,e2]
    rw [if_neg (by omega),mdRf_of ha]
    exact ⟨hr.1,hr.2.1,hr.2.2.1,hr.2.2.2.1,hr.2.2.2.2.1⟩
theorem mdFo_of (r:DR) (hr:r.sub=[]∧r.ruf=none∧r.rua=none∧r.ri=0∧r.rf=none∧r.pct=none∧r.fo=0):mdFo acc r=.inr { r with sub:=(findP acc kSp).getD [],ruf:=(findP acc kRuf).map (splitB 44),rua:=(findP acc kRua).map (splitB 44),ri:=(match findP acc kRi with | none=>0 | some v=>(mNum v 10).1),rf:=(findP acc kRf).map (splitB 58),pct:=(findP acc kPct).map (fun v=>(mNum v 3).1),fo:=(match findP acc kFo with | none=>0 | some v=>foOf (splitB 58 v)) }:=by
  have hr6:r.sub=[]∧r.ruf=none∧r.rua=none∧r.ri=0∧r.rf=none∧r.pct=none:=⟨hr.1,hr.2.1,hr.2.2.1,hr.2.2.2.1,hr.2.2.2.2.1,hr.2.2.2.2.2.1⟩
  unfold mdFo
  cases h:findP acc kFo with
  | none=>simp only; rw [mdPct_of ha _ hr6]; simp [← hr.2.2.2.2.2.2]
  | some v =>
    have:=ha _ _ h (by decide)
    have hp:(mlist 58 foOk v).isSome=true:=by simpa [mOk,kSp,kAdkim,kAspf,kP,kFo,kPct,kRf,kRi,kRua,kRuf] using this
    have hu:=(mlist_g (by simp only [gB]; decide) (fun p=>foOk_g) hp).2.2
    simp only [fo2_of _ 0 hu]
    rw [mdPct_of ha]; rfl
    exact hr6
theorem mdAspf_of (r:DR) (hr:r.sub=[]∧r.ruf=none∧r.rua=none∧r.ri=0∧r.rf=none∧r.pct=none∧r.fo=0):mdAspf acc r=.inr { r with sub:=(findP acc kSp).getD [],ruf:=(findP acc kRuf).map (splitB 44),rua:=(findP acc kRua).map (splitB 44),ri:=(match findP acc kRi with | none=>0 | some v=>(mNum v 10).1),rf:=(findP acc kRf).map (splitB 58),pct:=(findP acc kPct).map (fun v=>(mNum v 3).1),fo:=(match findP acc kFo with | none=>0 | some v=>foOf (splitB 58 v)),sp:=(findP acc kAspf).getD sR }:=by
  unfold mdAspf
  cases h:findP acc kAspf with
  | none=>simp only; rw [mdFo_of ha]; rfl; exact hr
  | some v =>
    have:=ha _ _ h (by decide)
    have hp:alignB v=true:=by simpa [mOk,kSp,kAdkim,kAspf] using this
    simp only
    rw [if_pos hp,mdFo_of ha]; rfl; exact hr
theorem mdAdkim_of (r:DR) (hr:r.sub=[]∧r.ruf=none∧r.rua=none∧r.ri=0∧r.rf=none∧r.pct=none∧r.fo=0):mdAdkim acc r=.inr { r with sub:=(findP acc kSp).getD [],ruf:=(findP acc kRuf).map (splitB 44),rua:=(findP acc kRua).map (splitB 44),ri:=(match findP acc kRi with | none=>0 | some v=>(mNum v 10).1),rf:=(findP acc kRf).map (splitB 58),pct:=(findP acc kPct).map (fun v=>(mNum v 3).1),fo:=(match findP acc kFo with | none=>0 | some v=>foOf (splitB 58 v)),sp:=(findP acc kAspf).getD sR,dk:=(findP acc kAdkim).getD sR }:=by
  unfold mdAdkim
  cases h:findP acc kAdkim with
  | none=>simp only; rw [mdAspf_of ha]; rfl; exact hr
  | some v =>
    have:=ha _ _ h (by decide)
    have hp:alignB v=true:=by simpa [mOk,kSp,kAdkim] using this
    simp only
    rw [if_pos hp,mdAspf_of ha]; rfl; exact hr
end
theorem mdAll_of {acc:List KVp} (ha:∀ k v,findP acc k=some v→k ≠ kV→mOk (k,v)=true) (hv:findP acc kV=some sDM) {v:L8} (hp:findP acc kP=some v):mdAll acc=.inr (recOf (findP acc)):=by
  unfold mdAll
  have e:(some sDM:Option L8).getD []=sDM:=rfl
  rw [hv,if_pos e,hp]
  have:=ha _ _ hp (by decide)
  have hpv:polB v=true:=by simpa [mOk,kAdkim,kAspf,kP] using this
  simp only
  rw [if_pos hpv,mdAdkim_of ha]
  · simp only [recOf,hp,dr0,Option.getD_some]
    congr 1
  · simp [dr0]
end Wax


namespace Wax
open Go (IntKind)

def MR.short (r:MR):Prop:=(r.rf.getD []).length < mid∧(r.rua.getD []).length < mid∧(r.ruf.getD []).length < mid
instance (r:MR):Decidable r.short:=by unfold MR.short; infer_instance

end Wax


namespace Wax
open Go (IntKind)

theorem findP_cons_ne {k i v:L8} {l:List KVp} (h:k ≠ i):findP ((i,v)::l) k=findP l k:=by
  simp only [findP]; rw [if_neg (fun e=>h e.symm)]
theorem findP_of_mem:∀ {l:List KVp} {k v:L8},(l.map (·.1)).Nodup→(k,v)∈l→findP l k=some v
  | [],_,_,_,h=>by simp at h
  | (i,u)::r,k,v,nd,h=>by
    simp only [List.map_cons,List.nodup_cons] at nd
    rcases List.mem_cons.1 h with h2 | h2
    · injection h2 with h3 h4; subst h3; subst h4; simp [findP]
    · have hne:k ≠ i:=fun e=>nd.1 (List.mem_map.2 ⟨(k,v),h2,e⟩)
      rw [findP_cons_ne hne]
      exact findP_of_mem nd.2 h2
theorem recOf_congr {f g:L8→Option L8} (h:∀ k∈mKnown,f k=g k):recOf f=recOf g:=by
  have:=fun k hk=>h k hk
  simp only [recOf,h kAdkim (by decide),h kAspf (by decide),h kFo (by decide),h kP (by decide),h kPct (by decide),h kRf (by decide),h kRi (by decide),h kRua (by decide),h kRuf (by decide),h kSp (by decide)]
theorem known_ne {k:L8} (h:k∈mKnown):k ≠ kV:=by
  simp only [mKnown,List.mem_cons,List.not_mem_nil,or_false] at h
  rcases h with rfl | rfl | rfl | rfl | rfl | rfl | rfl | rfl | rfl | rfl <;> decide
theorem Rd.text {l:List KVp} (h:Rd l) (fm:L8) (e:Bool):mdText (mText fm l e)=.inr (recOf (findP l)):=by
  have hp:=prd2_text fm l e (fun t ht=>(h.ok t ht).2) h.nd
  simp only [mdText,hp,if_true]
  obtain ⟨v,hv⟩:=h.p
  rw [mdAll_of (acc:=(kV,sDM)::l) (v:=v) _ (by simp [findP]) (by rw [findP_cons_ne (by decide)]; exact hv)]
  · rw [recOf_congr (g:=findP l)]
    intro k hk
    exact findP_cons_ne (known_ne hk)
  · intro k v hf hk
    rw [findP_cons_ne hk] at hf
    exact (h.ok _ (findP_in hf)).1

theorem gB_plain {x:UInt8} (h:gB x):plainB x=true:=plainB_true (by have:=h.1; have:=h.2.1; omega)
theorem allBl_plain {s:L8} (h:allBl s):plain s=true:=by
  simp only [plain,List.all_eq_true]
  intro x hx
  have:=h x hx
  simp only [blB,decide_eq_true_eq] at this
  exact plainB_true (by omega)
theorem gt_plain {t:KVp} (g:Gt t):plain t.1=true∧plain t.2=true:=by
  simp only [plain,List.all_eq_true]
  exact ⟨fun x hx=>gB_plain (g.n2 x hx).1,fun x hx=>gB_plain (g.v2 x hx)⟩
theorem plain_cons {x:UInt8} {s:L8}:plain (x::s)=(plainB x && plain s):=rfl
theorem tagsT_plain (fm:L8):∀ (l:List KVp) (k:Nat),(∀ t∈l,Gt t)→plain (tagsT fm k l)=true
  | [],_,_=>rfl
  | t::r,k,h=>by
    have g:=gt_plain (h t (by simp))
    have s:=fun j=>allBl_plain (spAt_bl fm j)
    have b1:plainB 59=true:=by decide
    have b2:plainB 61=true:=by decide
    simp only [tagsT,oneT,plain_app,plain_cons,g.1,g.2,s,b1,b2,tagsT_plain fm r (k+4) (fun t ht=>h t (by simp [ht])),Bool.and_self]
theorem mText_plain {fm:L8} {l:List KVp} {e:Bool} (h:∀ t∈l,Gt t):plain (mText fm l e)=true:=by
  have s:=fun j=>allBl_plain (spAt_bl fm j)
  have b1:plainB 59=true:=by decide
  have b2:plainB 61=true:=by decide
  have b3:plainB 118=true:=by decide
  have b4:plain sDM=true:=by decide
  have b5:plain []=true:=rfl
  cases e <;> simp only [mText,headT,plain_app,plain_cons,b1,b2,b3,b4,b5,s,tagsT_plain fm l 2 h,Bool.and_self,if_true,if_false,Bool.false_eq_true]
theorem mText_len {fm:L8} {l:List KVp} {e:Bool} (h:l.length≤20) (h2:∀ t∈l,t.1.length≤20∧t.2.length≤200):(mText fm l e).length < mid:=by
  have a:=headT_len fm
  have b:=tagsT_len (fm:=fm) (k:=2) h2
  have c:=spAt_len fm (2+4 * l.length+1)
  simp only [mText,List.length_append,mid]
  cases e <;> simp <;> omega

structure Sz (l:List KVp):Prop where
  n:l.length≤20
  t:∀ t∈l,t.1.length≤20∧t.2.length≤200
theorem Rd.parse {l:List KVp} (h:Rd l) (z:Sz l) (fm:L8) (e:Bool):con_MParse [.str (mText fm l e)]=some (.tup [.agg (recM (recOf (findP l))).cells,.bool true]):=by
  have b:(mText fm l e).length < mid∧plain (mText fm l e)=true:=⟨mText_len z.n z.t,mText_plain fun t ht=>(h.ok t ht).2⟩
  simp only [con_MParse]
  rw [if_pos b,h.text]; rfl

theorem has_one {f:L8→Option L8} {k v:L8} (hf:f k=some v) (ho:mOk (k,v)=true):mSameAt k (recM (recOf f)) (mPut mr0 (k,v))=true:=by
  unfold mOk at ho
  simp only at ho
  unfold mSameAt mPut
  simp only
  by_cases h1:k=kAdkim
  · rw [if_pos h1,if_pos h1]; subst h1; simp [recM,recOf,hf]
  rw [if_neg h1,if_neg h1]; rw [if_neg h1] at ho
  by_cases h2:k=kAspf
  · rw [if_pos h2,if_pos h2]; subst h2; simp [recM,recOf,hf]
  rw [if_neg h2,if_neg h2]; rw [if_neg h2] at ho
  by_cases h3:k=kP
  · rw [if_pos h3,if_pos h3]; subst h3; simp [recM,recOf,hf]
  rw [if_neg h3,if_neg h3]; rw [if_neg h3] at ho
  by_cases h4:k=kSp
  · rw [if_pos h4,if_pos h4]; subst h4; simp [recM,recOf,hf]
  rw [if_neg h4,if_neg h4]; rw [if_neg h4] at ho
  by_cases h5:k=kFo
  · rw [if_pos h5,if_pos h5]; rw [if_pos h5] at ho; subst h5
    have:=(mlist_g (by simp only [gB]; decide) (fun p=>foOk_g) ho).2.1
    have e:(mlist 58 foOk v)=some (splitB 58 v):=this
    simp [recM,recOf,hf,e]
  rw [if_neg h5,if_neg h5]; rw [if_neg h5] at ho
  by_cases h6:k=kPct
  · rw [if_pos h6,if_pos h6]; subst h6; simp [recM,recOf,hf]
  rw [if_neg h6,if_neg h6]; rw [if_neg h6] at ho
  by_cases h7:k=kRf
  · rw [if_pos h7,if_pos h7]; rw [if_pos h7] at ho; subst h7
    have e:mlist 58 (fun s=>decide (s=sAfrf)) v=some (splitB 58 v):=by
      unfold mlist at ho ⊢; split at ho
      · rename_i hh; rw [if_pos hh]
      · simp at ho
    simp [recM,recOf,hf,e,splitB_ne]
  rw [if_neg h7,if_neg h7]; rw [if_neg h7] at ho
  by_cases h8:k=kRi
  · rw [if_pos h8,if_pos h8]; subst h8; simp [recM,recOf,hf]
  rw [if_neg h8,if_neg h8]; rw [if_neg h8] at ho
  by_cases h9:k=kRua
  · rw [if_pos h9,if_pos h9]; rw [if_pos h9] at ho; subst h9
    have e:mlist 44 muri v=some (splitB 44 v):=(mlist_g (by simp only [gB]; decide) (fun p=>muri_g) ho).2.1
    simp [recM,recOf,hf,e]
  rw [if_neg h9,if_neg h9]; rw [if_neg h9] at ho
  by_cases h10:k=kRuf
  · rw [if_pos h10,if_pos h10]; rw [if_pos h10] at ho; subst h10
    have e:mlist 44 muri v=some (splitB 44 v):=(mlist_g (by simp only [gB]; decide) (fun p=>muri_g) ho).2.1
    simp [recM,recOf,hf,e]
  rw [if_neg h10]
theorem Rd.nd' {l:List KVp} (h:Rd l):(l.map (·.1)).Nodup:=by
  have:=h.nd
  simp only [List.map_cons,List.nodup_cons] at this
  exact this.2
theorem Rd.has {l:List KVp} (h:Rd l):mHas (recM (recOf (findP l))) l=true:=by
  simp only [mHas,List.all_eq_true]
  rintro ⟨k,v⟩ ht
  exact has_one (findP_of_mem h.nd' ht) (h.ok _ ht).1

end Wax


namespace Wax
open Go (IntKind)

theorem takeW {p:UInt8→Bool}:∀ {l:L8} {x:UInt8},x∈l.takeWhile p→p x=true
  | y::r,x,h=>by
    by_cases hy:p y=true
    · rw [List.takeWhile_cons_of_pos hy] at h
      rcases List.mem_cons.1 h with rfl | h
      · exact hy
      · exact takeW h
    · rw [List.takeWhile_cons_of_neg hy] at h; simp at h
theorem wordsGo_tail {R:L8} (hR:allWs R):∀ (m cur:L8),wordsGo cur (m++R)=wordsGo cur m
  | [],cur=>by
    by_cases hc:cur=[]
    · subst hc
      have:=wordsGo_ws (b:=R) [] hR
      simpa [wordsGo] using this
    · by_cases hb:R=[]
      · subst hb; rfl
      · have h1:=wordsGo_end (s:=[]) hc hb hR
        have h2:=wordsGo_ws (b:=R) [] hR
        simp only [List.append_nil] at h1 h2
        simp only [List.nil_append]
        rw [h1,h2]
        simp [wordsGo,hc]
  | x::r,cur=>by
    simp only [List.cons_append,wordsGo]
    split
    · split
      · exact wordsGo_tail hR r []
      · rw [wordsGo_tail hR r []]
    · exact wordsGo_tail hR r _
theorem trimL_split (t:L8):∃ a,allWs a∧t=a++trimL t:=by
  refine ⟨t.takeWhile fun b=>isWs b.toNat,fun x hx=>?_,(List.takeWhile_append_dropWhile).symm⟩
  exact takeW hx
theorem trimR_split (t:L8):∃ b,allWs b∧t=trimR t++b:=by
  obtain ⟨a,ha,e⟩:=trimL_split t.reverse
  refine ⟨a.reverse,fun x hx=>ha x (List.mem_reverse.1 hx),?_⟩
  have:=congrArg List.reverse e
  simp only [List.reverse_reverse,List.reverse_append,trimL] at this
  exact this
theorem wordsOf_trim (t:L8):wordsOf (trimS t)=wordsOf t:=by
  obtain ⟨a,ha,e1⟩:=trimL_split t
  obtain ⟨b,hb,e2⟩:=trimR_split (trimL t)
  have e3:wordsOf t=wordsOf (trimL t):=by
    conv=>lhs; rw [e1]
    exact wordsGo_ws _ ha
  have e4:wordsOf (trimL t)=wordsOf (trimR (trimL t)):=by
    conv=>lhs; rw [e2]
    exact wordsGo_tail hb _ _
  rw [e3,e4]; rfl

def flatW (l:List (L8 × L8)):L8:=l.flatMap fun p=>p.1++p.2
def SepOk (l:List (L8 × L8)):Prop:=∀ p∈l,(p.1 ≠ []∧allWs p.1)∧p.2 ≠ []∧nonWs p.2
theorem wordsGo_flat {b:L8} (hb:allWs b):∀ (l:List (L8 × L8)) (cur:L8),cur ≠ []→SepOk l→wordsGo cur (flatW l++b)=cur::l.map (·.2)
  | [],cur,hc,_=>by
    have:=wordsGo_tail hb [] cur
    simp only [flatW,List.flatMap_nil,List.nil_append] at this ⊢
    rw [this]; simp [wordsGo,hc]
  | (sp,w)::r,cur,hc,h=>by
    obtain ⟨⟨h1,h2⟩,h3,h4⟩:=h (sp,w) (by simp)
    have ih:=wordsGo_flat hb r w h3 (fun p hp=>h p (by simp [hp]))
    have e:flatW ((sp,w)::r)++b=sp++(w++(flatW r++b)):=by simp [flatW]
    rw [e,wordsGo_end hc h1 h2,wordsGo_ws _ h2,wordsGo_word _ _ h4]
    simp only [List.nil_append,List.map_cons]
    rw [ih]
theorem wordsOf_flat {a b w:L8} {l:List (L8 × L8)} (ha:allWs a) (hb:allWs b) (hw:w ≠ []) (hn:nonWs w) (hl:SepOk l):wordsOf (a++(w++(flatW l++b)))=w::l.map (·.2):=by
  rw [wordsOf,wordsGo_ws _ ha,wordsGo_word _ _ hn,List.nil_append]
  exact wordsGo_flat hb l w hw hl

def gW (s:L8):Prop:=∀ x∈s,32 < x.toNat∧x.toNat < 127∧x ≠ 59
theorem gW_non {s:L8} (h:gW s):nonWs s:=by
  intro x hx
  obtain ⟨h1,h2,_⟩:=h x hx
  simp only [isWs,decide_eq_false_iff_not]
  omega
theorem gW_no {s:L8} (h:gW s):noB 59 s:=fun x hx e=>(h x hx).2.2 (UInt8.toNat_inj.1 (by exact_mod_cast e))
theorem gW_plain {s:L8} (h:gW s):plain s=true:=by
  simp only [plain,List.all_eq_true]
  intro x hx
  have:=h x hx
  exact plainB_true (by omega)
theorem gW_trim {s:L8} (h:gW s):trimS s=s:=by
  by_cases hs:s=[]
  · subst hs; rfl
  · have:=trimS_word (gW_non h) hs (b:=[]) (by intro x hx; simp at hx)
    simpa using this
theorem allWs_no {s:L8} (h:allWs s):noB 59 s:=by
  intro x hx e
  have:=h x hx
  simp only [isWs,decide_eq_true_eq] at this
  omega
theorem allWs_plain {s:L8} (h:allWs s):plain s=true:=by
  simp only [plain,List.all_eq_true]
  intro x hx
  have:=h x hx
  simp only [isWs,decide_eq_true_eq] at this
  exact plainB_true (by omega)

structure KvOk (p:KVp):Prop where
  k:gW p.1
  e:∀ x∈p.1,x ≠ 61
  v:gW p.2
def kvW (p:KVp):L8:=p.1++61::p.2
theorem kvW_g {p:KVp} (h:KvOk p):gW (kvW p):=by
  intro x hx
  simp only [kvW,List.mem_append,List.mem_cons] at hx
  rcases hx with hx | rfl | hx
  · exact h.k x hx
  · decide
  · exact h.v x hx
theorem kvW_ne {p:KVp}:kvW p ≠ []:=by simp [kvW]
theorem kvW_of {p:KVp} (h:KvOk p):kvOf (kvW p)=some (lowS p.1,p.2):=by
  have hno:noB (61:UInt8).toNat p.1:=fun x hx e=>h.e x hx (UInt8.toNat_inj.1 (by exact_mod_cast e))
  have:=cutAt_noB (c:=61) (r:=p.2) hno
  simp only [kvOf,kvW]
  have e61:((61:UInt8).toNat:Int)=61:=rfl
  rw [e61] at this
  rw [this]
  simp only [Option.map_some,gW_trim h.k,gW_trim h.v]

theorem hasK_none {k:L8} {l:List KVp} (h:k ∉ l.map (·.1)):hasK k l=false:=by
  simp only [hasK,List.any_eq_false,decide_eq_true_eq]
  rintro p hp rfl
  exact h (List.mem_map.2 ⟨p,hp,rfl⟩)
theorem prmsOf_kv:∀ (l:List KVp) (acc:List KVp),(∀ p∈l,KvOk p)→((acc++l.map fun p=>(lowS p.1,p.2)).map (·.1)).Nodup→prmsOf (l.map kvW) acc=acc++l.map fun p=>(lowS p.1,p.2)
  | [],acc,_,_=>by simp [prmsOf]
  | p::r,acc,h,nd=>by
    have hp:=h p (by simp)
    have hk:hasK (lowS p.1) acc=false:=by
      refine hasK_none fun hm=>?_
      rw [List.map_append,List.nodup_append] at nd
      exact nd.2.2 _ hm _ (by simp) rfl
    simp only [List.map_cons,prmsOf,kvW_of hp]
    rw [psetL_new hk,prmsOf_kv r _ (fun q hq=>h q (by simp [hq])) (by simpa using nd)]
    simp

structure ResT where
  pre:L8
  head:KVp
  ps:List (L8 × KVp)
def ResT.txt (t:ResT):L8:=t.pre++(kvW t.head++flatW (t.ps.map fun p=>(p.1,kvW p.2)))
structure ResT.Ok (t:ResT):Prop where
  pre:allWs t.pre
  head:KvOk t.head
  ps:∀ p∈t.ps,(p.1 ≠ []∧allWs p.1)∧KvOk p.2
  nd:(t.ps.map fun p=>lowS p.2.1).Nodup
def ResT.prm (t:ResT):List KVp:=t.ps.map fun p=>(lowS p.2.1,p.2.2)
theorem kvW_not_none {p:KVp}:kvW p ≠ sNone0:=by
  intro h
  have:(61:UInt8)∈sNone0:=by rw [← h]; simp [kvW]
  simp [sNone0] at this
theorem ResT.Ok.words {t:ResT} (h:t.Ok) {b:L8} (hb:allWs b):wordsOf (t.txt++b)=kvW t.head::(t.ps.map (·.2)).map kvW:=by
  have e:t.txt++b=t.pre++(kvW t.head++(flatW (t.ps.map fun p=>(p.1,kvW p.2))++b)):=by simp [ResT.txt]
  rw [e,wordsOf_flat h.pre hb kvW_ne (gW_non (kvW_g h.head))]
  · simp
  · intro p hp
    obtain ⟨q,hq,rfl⟩:=List.mem_map.1 hp
    have:=h.ps q hq
    exact ⟨this.1,kvW_ne,gW_non (kvW_g this.2)⟩
theorem ResT.Ok.res {t:ResT} (h:t.Ok) {b:L8} (hb:allWs b) {x:PR} (hx:prOf (lowS t.head.1) (lowS t.head.2) t.prm=.inr x):trimS (t.txt++b) ≠ []∧resAOf (trimS (t.txt++b))=.inr (some x):=by
  have hw:=h.words hb
  have hw2:=wordsOf_trim (t.txt++b)
  rw [hw] at hw2
  refine ⟨fun e=>?_,?_⟩
  · rw [e] at hw2; simp [wordsOf,wordsGo] at hw2
  · have hp:prmsOf ((t.ps.map (·.2)).map kvW) []=t.prm:=by
      rw [prmsOf_kv _ [] (fun p hp=>by obtain ⟨q,hq,rfl⟩:=List.mem_map.1 hp; exact (h.ps q hq).2)]
      · simp [ResT.prm]
      · simpa [Function.comp_def] using h.nd
    simp only [resAOf,hw2]
    rw [if_neg kvW_not_none,kvW_of h.head]
    simp only [hp,hx]
theorem ResT.Ok.no {t:ResT} (h:t.Ok):noB 59 t.txt:=by
  refine noB_app (allWs_no h.pre) (noB_app (gW_no (kvW_g h.head)) ?_)
  intro x hx
  simp only [flatW,List.mem_flatMap,List.mem_map] at hx
  obtain ⟨_,⟨q,hq,rfl⟩,hx⟩:=hx
  have:=h.ps q hq
  rcases List.mem_append.1 hx with hx | hx
  · exact allWs_no this.1.2 x hx
  · exact gW_no (kvW_g this.2) x hx
theorem plain_appB {a b:L8} (ha:plain a=true) (hb:plain b=true):plain (a++b)=true:=by rw [plain_app,ha,hb]; rfl
theorem ResT.Ok.pl {t:ResT} (h:t.Ok):plain t.txt=true:=by
  refine plain_appB (allWs_plain h.pre) (plain_appB (gW_plain (kvW_g h.head)) ?_)
  simp only [plain,List.all_eq_true]
  intro x hx
  simp only [flatW,List.mem_flatMap,List.mem_map] at hx
  obtain ⟨_,⟨q,hq,rfl⟩,hx⟩:=hx
  have:=h.ps q hq
  have hp:plain (q.1++kvW q.2)=true:=plain_appB (allWs_plain this.1.2) (gW_plain (kvW_g this.2))
  exact List.all_eq_true.1 hp x hx

def flatP (l:List (L8 × ResT)):L8:=l.flatMap fun p=>p.1++59::p.2.txt
def pcsP:L8→List (L8 × ResT)→List L8
  | cur,[]=>[cur]
  | cur,p::r=>(cur++p.1)::pcsP p.2.txt r
theorem split_flatP:∀ (l:List (L8 × ResT)) (cur:L8),noB 59 cur→(∀ p∈l,allWs p.1∧p.2.Ok)→splitB 59 (cur++flatP l)=pcsP cur l
  | [],cur,hc,_=>by
    simp only [flatP,List.flatMap_nil,List.append_nil,pcsP]
    exact splitB_only (b:=59) hc
  | p::r,cur,hc,h=>by
    obtain ⟨h1,h2⟩:=h p (by simp)
    have ih:=split_flatP r p.2.txt h2.no (fun q hq=>h q (by simp [hq]))
    have e:cur++flatP (p::r)=(cur++p.1)++59::(p.2.txt++flatP r):=by simp [flatP]
    rw [e,splitB_app (b:=59) (noB_app hc (allWs_no h1)),ih]; rfl
theorem adGo_pcs:∀ (l:List (L8 × ResT)) (t:ResT) (xs:List PR) (x:PR) (acc:List PR),t.Ok→prOf (lowS t.head.1) (lowS t.head.2) t.prm=.inr x→(∀ p∈l,allWs p.1∧p.2.Ok) →
    l.map (fun p=>prOf (lowS p.2.head.1) (lowS p.2.head.2) p.2.prm)=xs.map .inr→adGo (pcsP t.txt l) acc=(acc++x::xs,none)
  | [],t,xs,x,acc,ht,hx,_,e=>by
    have hxs:xs=[]:=by
      cases xs with
      | nil=>rfl
      | cons _ _=>simp at e
    subst hxs
    obtain ⟨h1,h2⟩:=ht.res (b:=[]) (by intro y hy; simp at hy) hx
    simp only [List.append_nil] at h1 h2
    simp only [pcsP,adGo,if_neg h1,h2]
  | p::r,t,xs,x,acc,ht,hx,h,e=>by
    obtain ⟨h1,h2⟩:=h p (by simp)
    cases xs with
    | nil=>simp at e
    | cons y ys =>
      simp only [List.map_cons,List.cons.injEq] at e
      obtain ⟨n1,n2⟩:=ht.res h1 hx
      simp only [pcsP,adGo,if_neg n1,n2]
      rw [adGo_pcs r p.2 ys y (acc++[x]) h2 e.1 (fun q hq=>h q (by simp [hq])) e.2]
      simp

theorem adId_word {i b:L8} (hi:gW i) (hne:i ≠ []) (hb:allWs b):adId (i++b)=some i:=by
  have ht:trimS (i++b)=i:=trimS_word (gW_non hi) hne hb
  have hw:∀ (s:L8) (n:Nat),nonWs s→wsAt s n=none:=by
    intro s
    induction s with
    | nil=>intro n _; rfl
    | cons x r ih =>
      intro n h
      have h1:=h x (by simp)
      simp only [wsAt,h1]
      exact ih _ fun y hy=>h y (by simp [hy])
  simp only [adId,ht,hw i 0 (gW_non hi)]
theorem ad_text {i c:L8} (hc:noB 59 c) (hid:∀ b,allWs b→adId (c++b)=some i) {l:List (L8 × ResT)} {xs:List PR} (h:∀ p∈l,allWs p.1∧p.2.Ok) (e:l.map (fun p=>prOf (lowS p.2.head.1) (lowS p.2.head.2) p.2.prm)=xs.map .inr):adText (c++flatP l)=some (i,xs):=by
  simp only [adText]
  rw [split_flatP l c hc h]
  cases l with
  | nil =>
    have hxs:xs=[]:=by
      cases xs with
      | nil=>rfl
      | cons _ _=>simp at e
    subst hxs
    have:=hid [] (by intro y hy; simp at hy)
    simp only [List.append_nil] at this
    simp only [pcsP,this,adGo]
  | cons p r =>
    obtain ⟨h1,h2⟩:=h p (by simp)
    cases xs with
    | nil=>simp at e
    | cons y ys =>
      simp only [List.map_cons,List.cons.injEq] at e
      have hg:=adGo_pcs r p.2 ys y [] h2 e.1 (fun q hq=>h q (by simp [hq])) e.2
      simp only [pcsP,hid _ h1,hg,List.nil_append]
end Wax


