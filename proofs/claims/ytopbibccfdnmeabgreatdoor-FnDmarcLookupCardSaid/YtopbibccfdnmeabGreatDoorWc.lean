/- The machine by which the functions are read, and what is proved of them (part 3): no premise. -/
import Derived.Orders
import Derived.IntWalk
import Derived.Test.YtopbibccfdnmeabGreatDoorWb
set_option linter.all false
namespace Wax
open Go Go.RowKit

def MthOk (P:Program) (t:TypeId) (name:String) (f:FuncId):Prop :=
  ∀ v w,(method (P.types.size+Made.depth) t v name).run P w=.ok (f,v) w

structure GamOk (P:Program) (T:Tab) (Γ:Gam):Prop where
  fn:∀ f g args r,lkN T.fns f=some g→Γ.fn g args=some r→hasBody P f=true∧OkCall P T f args r
  mth:∀ t g name q,lkN T.tys t=some g→Γ.mth g name=some q→∃ f,lkN T.fns f=some q∧MthOk P t name f
  st:∀ f g args hp q,lkN T.fns f=some g→Γ.st g args hp=some q→hasBody P f=true∧OkS P T f args hp q.1 q.2

def stepF (Γ:Gam) (o:SO) (st:St):Option St :=
  match o.op with
  | .nextS x=>match ev st.fr x with
    | .ref id 0=>match hlk st.hp id with
      | some (.sit s pos) =>
        if pos < s.length then some ⟨putS st.fr o.dst (.tup [.bool true,.int .i64 (pos:Int),.int .i32 ((decR (s.drop pos)).1:Int)]),hset st.hp id (.sit s (pos+(decR (s.drop pos)).2))⟩
        else some ⟨putS st.fr o.dst (.tup [.bool false]),st.hp⟩
      | _=>none
    | _=>none
  | op=>(aop Γ st.fr st.hp (o.dst.getD 0) op).map (fin st.fr o.dst)

def opF (Γ:Gam) (o:SO) (st:St):Option St :=
  match o.guard with
  | none=>stepF Γ o st
  | some (g,want)=>match lk st.fr g with
    | .bool b=>if b=want then stepF Γ o ⟨(g,.bool want)::st.fr,st.hp⟩ else some ⟨putS ((g,.bool (!want))::st.fr) o.dst (.tup []),st.hp⟩
    | .tup []=>some ⟨putS st.fr o.dst (.tup []),st.hp⟩
    | _=>none

def opsF (Γ:Gam):List SO→St→Option St
  | [],st=>some st
  | o::r,st=>(opF Γ o st).bind (opsF Γ r)

theorem calm_stepF {Γ:Gam} {o:SO} (hc:calm o.op=true) {st:St}:stepF Γ o st=(aop Γ st.fr st.hp (o.dst.getD 0) o.op).map (fin st.fr o.dst):=by
  cases hop:o.op <;> rw [hop] at hc <;> first | (simp [calm] at hc; done) | simp only [stepF,hop]

theorem nw_aop {Γ:Gam} {q d:Nat} {s:SOp} {fr:List (Nat × AV)} {hp:List (Nat × AObj)} {out:Out} (h:aop Γ fr hp d (.nw q s)=some out):nwIn q fr hp s=true∧aop Γ fr hp d s=some out∧nwOut q d out=true:=by
  simp only [aop] at h
  split at h
  · rename_i h1
    cases ho:aop Γ fr hp d s with
    | none=>rw [ho] at h; simp at h
    | some o =>
      rw [ho] at h
      simp only at h
      split at h
      · rename_i h2
        simp only [Option.some.injEq] at h; subst h
        exact ⟨h1,rfl,h2⟩
      · simp at h
  · simp at h
theorem okNw_stepF {Γ:Gam} {s:SOp} (h:okNw s=true) {dst:Option Nat} {g:Option (Nat × Bool)} {st:St}:stepF Γ ⟨dst,s,g⟩ st=(aop Γ st.fr st.hp (dst.getD 0) s).map (fin st.fr dst):=by
  cases s <;> first | (simp [okNw] at h; done) | rfl
theorem stepF_fw {Γ:Gam} {L:Lay} {dst:Option Nat} {s:SOp} {g:Option (Nat × Bool)} {st st':St} (h:stepF Γ ⟨dst,fw L dst s,g⟩ st=some st'):stepF Γ ⟨dst,s,g⟩ st=some st':=by
  simp only [fw] at h
  split at h
  · rename_i hh
    simp only [Bool.and_eq_true] at hh
    have hc:=hh.2
    rw [calm_stepF (o:=⟨dst,.fl s,g⟩) (by simpa [calm] using hc)] at h
    rw [calm_stepF (o:=⟨dst,s,g⟩) hc]
    simp only at h ⊢
    cases ho:aop Γ st.fr st.hp (dst.getD 0) (.fl s) with
    | none=>simp [ho] at h
    | some out=>rw [fl_aop hc ho]; rw [ho] at h; exact h
  · split at h
    · rename_i q hq
      have h':(aop Γ st.fr st.hp (dst.getD 0) (.nw q s)).map (fin st.fr dst)=some st':=h
      cases ho:aop Γ st.fr st.hp (dst.getD 0) (.nw q s) with
      | none=>rw [ho] at h'; simp at h'
      | some out =>
        obtain ⟨h1,h2,_⟩:=nw_aop ho
        have hk:okNw s=true:=by simp only [nwIn,Bool.and_eq_true] at h1; exact h1.1
        rw [okNw_stepF hk,h2]
        rw [ho] at h'; exact h'
    · exact h

theorem stepK_F {Γ:Gam} {o:SO} {st:St} {K:St→Prop} (h:stepK Γ o st K):∃ st',stepF Γ o st=some st'∧K st':=by
  obtain ⟨dst,op,g⟩:=o
  cases op
  case nextS x =>
    simp only [stepK] at h
    cases hx:ev st.fr x <;> simp only [hx] at h <;> try (exact h.elim)
    rename_i id off
    cases off with
    | succ _=>exact h.elim
    | zero =>
      simp only at h
      cases ho:hlk st.hp id with
      | none=>simp [ho] at h
      | some ob =>
        cases ob <;> simp only [ho] at h <;> try (exact h.elim)
        rename_i s pos
        by_cases hp:pos < s.length
        · exact ⟨_,by simp only [stepF,hx,ho,hp,if_true],h.1 hp⟩
        · exact ⟨_,by simp only [stepF,hx,ho,hp,if_false],h.2 hp⟩
  all_goals
    simp only [stepK] at h
    split at h
    · rename_i out ho
      exact ⟨_,by simp only [stepF,ho,Option.map_some],h⟩
    · exact h.elim

def opsG (Γ:Gam):List SO→List (List Nat)→St→Option St
  | [],_,st=>some st
  | o::r,dd,st=>(opF Γ o st).bind fun s=>opsG Γ r (dTl dd) (rmS (dHd dd) s)

@[simp] theorem rmF_nil (fr:List (Nat × AV)):rmF [] fr=fr:=by
  induction fr with
  | nil=>rfl
  | cons p r ih=>simp [rmF,ih]

theorem rmS_nil (st:St):rmS [] st=st:=by simp [rmS]

theorem opsG_F {Γ:Gam}:∀ (l:List SO) (st:St),opsG Γ l [] st=opsF Γ l st
  | [],st=>rfl
  | o::r,st=>by
    simp only [opsG,opsF,dTl,dHd,rmS_nil]
    congr 1
    funext s; exact opsG_F r s

theorem opsK_G {Γ:Gam}:∀ {l:List SO} {dd:List (List Nat)} {st:St} {K:St→Prop},opsK Γ l dd st K→∃ st',opsG Γ l dd st=some st'∧K st'
  | [],dd,st,K,h=>⟨st,rfl,h⟩
  | o::r,dd,st,K,h=>by
    simp only [opsK] at h
    simp only [opsG,opF]
    split at h
    · rename_i hg
      obtain ⟨s1,h1,h2⟩:=stepK_F h
      obtain ⟨s2,h3,h4⟩:=opsK_G h2
      exact ⟨s2,by simp [hg,h1,h3],h4⟩
    · rename_i g want hg
      split at h
      · rename_i b hb
        by_cases hw:b=want
        · obtain ⟨s1,h1,h2⟩:=stepK_F (h.1 hw)
          obtain ⟨s2,h3,h4⟩:=opsK_G h2
          exact ⟨s2,by simp [hg,hb,hw,h1,h3],h4⟩
        · have hw':b=(!want):=by cases b <;> cases want <;> simp_all
          obtain ⟨s2,h3,h4⟩:=opsK_G (h.2 hw')
          exact ⟨s2,by simp [hg,hb,hw,h3],h4⟩
      · rename_i hb
        obtain ⟨s2,h3,h4⟩:=opsK_G h
        exact ⟨s2,by simp [hg,hb,h3],h4⟩
      · exact h.elim

section
variable {P:Program} {T:Tab} {w0 w:World} {F0:Base} {n:Nat} {fr:List (Nat × AV)} {hp:List (Nat × AObj)} {a:Act} {F:Frz} {ρ:Rho} {o:Oper} {Γ:Gam}

theorem Inv.congr (I:Inv T w0 F0 n ⟨fr,hp⟩ a w F ρ) {fr':List (Nat × AV)} (h:∀ i,lk fr' i=lk fr i):Inv T w0 F0 n ⟨fr',hp⟩ a w F ρ :=
  ⟨I.cap,I.old,I.below,I.src,I.kf,I.lt,I.rng,I.dom,I.obj,I.inj,fun i=>by have:=I.slot i; simp only at this ⊢; rw [h]; exact this,I.defs,I.gl⟩

theorem lk_rmF (ds:List Nat):∀ (fr:List (Nat × AV)) (i:Nat),lk (rmF ds fr) i=lk fr i∨lk (rmF ds fr) i=.junk
  | [],i=>.inr rfl
  | (j,v)::r,i=>by
    simp only [rmF]
    split
    · rename_i hj
      by_cases e:j=i
      · subst e
        right
        have hj':j∈ds:=by simpa using hj
        have:∀ l:List (Nat × AV),lk (rmF ds l) j=.junk:=by
          intro l
          induction l with
          | nil=>rfl
          | cons p q ih =>
            simp only [rmF]
            split
            · exact ih
            · rename_i hp
              have:p.1 ≠ j:=fun e=>hp (by rw [e]; simpa using hj')
              simp only [lk,this,if_false]; exact ih
        exact this r
      · rcases lk_rmF ds r i with h | h
        · left; rw [h]; simp only [lk,e,if_false]
        · exact .inr h
    · simp only [lk]
      split
      · exact .inl rfl
      · exact lk_rmF ds r i

theorem Inv.rm {st:St} (I:Inv T w0 F0 n st a w F ρ) (ds:List Nat):Inv T w0 F0 n (rmS ds st) a w F ρ :=
  ⟨I.cap,I.old,I.below,I.src,I.kf,I.lt,I.rng,I.dom,I.obj,I.inj,fun i=>by
    rcases lk_rmF ds st.fr i with h | h
    · simp only [rmS,h]; exact I.slot i
    · simp only [rmS,h]; simp [Rep],I.defs,I.gl⟩

theorem hasBody_run {f:FuncId} (h:hasBody P f=true) (args:Array Value):(callFunc f args).run P w=.ok (.enter f args) w:=by
  simp only [hasBody] at h
  cases hf:P.funcs[f]? with
  | none=>simp [hf] at h
  | some fn =>
    simp only [hf,Bool.and_eq_true,Bool.not_eq_true'] at h
    have hb:fn.body.isNone=false:=by cases hb:fn.body <;> simp [hb] at h ⊢
    simp only [callFunc,Sem.run_bind,run_program,Result.andThen_ok,hf,h.2,hb,Bool.false_eq_true,if_false,Sem.run_pure]

theorem cConv_ne {t u:TypeId} {x y:Opd}:cConv P t u x ≠ some (.nextS y):=by
  simp only [cConv]; repeat' split
  all_goals simp

theorem cEq_ne {t:TypeId} {b:Bool} {x y z:Opd}:cEq P T t b x z ≠ some (.nextS y):=by
  simp only [cEq]; repeat' split
  all_goals simp

theorem cCall_ne {c:Call} {y:Opd}:cCall P T c ≠ some (.nextS y):=by
  simp only [cCall]; repeat' split
  all_goals simp

theorem cConv_nm {t u:TypeId} {x a b c:Opd}:cConv P t u x=some (.mput a b c)→False:=by
  simp only [cConv]; repeat' split
  all_goals simp
theorem cEq_nm {t:TypeId} {b:Bool} {x z p q r:Opd}:cEq P T t b x z=some (.mput p q r)→False:=by
  simp only [cEq]; repeat' split
  all_goals simp
theorem cCall_nm {c:Call} {p q r:Opd}:cCall P T c=some (.mput p q r)→False:=by
  simp only [cCall]; repeat' split
  all_goals simp
theorem cop_nextS {op:Op} {x:Opd} (h:cop P T op=some (.nextS x)):∃ y,op=.next y true∧cOpd T y=some x:=by
  cases op
  case next y b =>
    cases b with
    | false=>simp [cop] at h
    | true =>
      cases hy:cOpd T y with
      | none=>simp [cop,hy] at h
      | some z=>simp [cop,hy] at h; subst h; exact ⟨y,rfl,hy⟩
  all_goals
    exfalso
    revert h
    unfold cop
    try simp only
    repeat' split
  all_goals first | (simp [cConv_ne,cEq_ne,cCall_ne]; done) | (intro h; simp_all)

theorem acall_fn {g:Nat} {xs:List AV} {r:AV} (h:acall Γ hp g xs=some r):∃ args r',Γ.fn g args=some r':=by
  simp only [acall] at h
  split at h
  · cases hg:Γ.fn g (xs.map (snap 4 hp)) with
    | none=>simp [hg] at h
    | some r'=>exact ⟨_,_,hg⟩
  · cases hg:Γ.fn g xs with
    | none=>simp [hg] at h
    | some r'=>exact ⟨_,_,hg⟩

variable {K:Act→World→Prop} {Q:Exit→Act→World→Prop}

theorem call_wp (G:GamOk P T Γ) (I:Inv T w0 F0 n ⟨fr,hp⟩ a w F ρ) (hd:dstOk n o.dst) {f g:Nat} (hf:lkN T.fns f=some g) {xs:List AV} {vs:List Value} (hx:RepL T w F ρ xs vs) {r:AV} (hr:acall Γ hp g xs=some r)
    (hex:∀ w,(execOp a.eval o).run P w=(callFunc f vs.toArray).run P w) (hK:∀ a' w' F' ρ',Inv T w0 F0 n ⟨putS fr o.dst r,hp⟩ a' w' F' ρ'→K a' w'):o.wp P a w K Q:=by
  obtain ⟨args,r',hg⟩:=acall_fn hr
  have hb:=(G.fn f g args r' hf hg).1
  unfold Oper.wp
  rw [hex,hasBody_run hb,Oper.upon_enter]
  refine (call_rep I (fun args r h=>(G.fn f g args r hf h).2) hx hr).mono ?_
  rintro e w' ⟨v,F',rfl,hI,hv⟩
  exact hK _ _ _ _ (hI.val hd hv)

theorem acallS_fn {d g:Nat} {xs:List AV} {out:Out} (h:acallS Γ hp d g xs=some out):∃ args os q,Γ.st g args os=some q:=by
  simp only [acallS] at h
  split at h
  · simp at h
  · split at h
    · split at h
      · simp at h
      · rename_i q hq; exact ⟨_,_,q,hq⟩
    · simp at h

theorem callS_wp (G:GamOk P T Γ) (I:Inv T w0 F0 n ⟨fr,hp⟩ a w F ρ) (hd:dstOk n o.dst) {f g:Nat} (hf:lkN T.fns f=some g) {xs:List AV} {vs:List Value} (hx:RepL T w F ρ xs vs) {d:Nat} {out:Out} (hr:acallS Γ hp d g xs=some out)
    (hex:∀ w,(execOp a.eval o).run P w=(callFunc f vs.toArray).run P w) (hK:∀ a' w' F' ρ',Inv T w0 F0 n (fin fr o.dst out) a' w' F' ρ'→K a' w'):o.wp P a w K Q:=by
  obtain ⟨args,os,q,hg⟩:=acallS_fn hr
  have hb:=(G.st f g args os q hf hg).1
  unfold Oper.wp
  rw [hex,hasBody_run hb,Oper.upon_enter]
  refine (callS_rep I (fun args hp q h=>(G.st f g args hp q hf h).2) hx hr hd).mono ?_
  rintro e w' ⟨v,F',ρ',rfl,hI⟩
  exact hK _ _ _ _ hI

theorem cConv_nc {t u:TypeId} {x:Opd} {s:SOp} (h:cConv P t u x=some s) (L:Lay) (d:Option Nat):sw L d s=s:=by
  revert h; simp only [cConv]; repeat' split
  all_goals (intro h; first | (simp at h; done) | (injection h with h; subst h; rfl))

theorem cEq_nc {t:TypeId} {b:Bool} {x y:Opd} {s:SOp} (h:cEq P T t b x y=some s) (L:Lay) (d:Option Nat):sw L d s=s:=by
  revert h; simp only [cEq]; repeat' split
  all_goals (intro h; first | (simp at h; done) | (injection h with h; subst h; rfl))

theorem cCall_nc {c:Call} {b:Builtin} (hb:c.callee=.builtin b) {s:SOp} (h:cCall P T c=some s) (L:Lay) (d:Option Nat):sw L d s=s∨∃ es b x y,s=.app es b x y∧sw L d s=.appF es b x y:=by
  by_cases ha:∃ es b x y,s=.app es b x y
  · obtain ⟨es,b,x,y,rfl⟩:=ha
    by_cases hf:L.fz.contains (d.getD 0)=true
    · exact .inr ⟨es,b,x,y,rfl,by simp only [sw,hf,if_true]⟩
    · exact .inl (by simp only [sw,hf]; rfl)
  · left
    revert h; simp only [cCall,hb]; repeat' split
    all_goals (intro h; first | (simp at h; done) | (injection h with h; subst h; first | rfl | exact absurd ⟨_,_,_,_,rfl⟩ ha) | simp_all)

theorem map_nc {α:Type} {q:Option α} {f:α→SOp} {s:SOp} (L:Lay) (d:Option Nat) (hf:∀ a,sw L d (f a)=f a) (h:q.map f=some s):sw L d s=s:=by
  cases q with
  | none=>simp at h
  | some a=>simp at h; subst h; exact hf a

theorem sw_nc {op:Op} {s:SOp} (h:cop P T op=some s) (hnc:∀ c,op=.call c→∃ b,c.callee=.builtin b) (L:Lay) (d:Option Nat) (hmd:∀ m k v,s=.mput m k v→mdC L m=false) :
    sw L d s=s∨(∃ t m parts es z ps,op=.buildSlice t m parts∧s=.mkSl es m z ps∧sw L d s=.mkSlF es m z ps)∨(∃ e x y,op=.box e x∧s=.box y∧sw L d s=.boxF y)∨(∃ es b x y,s=.app es b x y∧sw L d s=.appF es b x y)∨(∃ z,s=.alloc z∧sw L d s=.allocE z):=by
  cases op
  case call c =>
    obtain ⟨b,hb⟩:=hnc c rfl
    rcases cCall_nc hb (by simpa only [cop] using h) L d with e | e
    · exact .inl e
    · exact .inr (.inr (.inr (.inl e)))
  case convert t u x =>
    simp only [cop] at h
    cases hx:cOpd T x with
    | none=>simp [hx] at h
    | some y=>simp only [hx] at h; exact .inl (cConv_nc h L d)
  case binOp op xt x y z =>
    simp only [cop] at h
    cases hx:cOpd T x with
    | none=>simp [hx] at h
    | some p =>
      cases hy:cOpd T y with
      | none=>simp [hx,hy] at h
      | some q =>
        simp only [hx,hy] at h
        split at h
        · split at h
          · exact .inl (map_nc L d (fun _=>rfl) h)
          · split at h
            · simp at h
            · exact .inl (cEq_nc h L d)
        · injection h with h; subst h; exact .inl rfl
  case alloc e =>
    have hs:∃ z,s=.alloc z:=by
      revert h
      simp only [cop]
      split
      · intro h; simp only [Option.some.injEq] at h; exact ⟨_,h.symm⟩
      · intro h; simp at h
    obtain ⟨z,rfl⟩:=hs
    by_cases hf:L.ae.contains (d.getD 0)=true
    · exact .inr (.inr (.inr (.inr ⟨z,rfl,by simp only [sw,hf,if_true]⟩)))
    · exact .inl (by simp only [sw,hf]; rfl)
  case box e x =>
    simp only [cop] at h
    cases hx:cOpd T x with
    | none=>simp [hx] at h
    | some y =>
      simp [hx] at h; subst h
      by_cases hf:L.fz.contains (d.getD 0)=true
      · exact .inr (.inr (.inl ⟨e,x,y,rfl,rfl,by simp only [sw,hf,if_true]⟩))
      · exact .inl (by simp only [sw,hf]; rfl)
  case buildSlice t m parts =>
    have hs:∃ es z ps,s=.mkSl es m z ps:=by
      revert h
      simp only [cop]
      repeat' split
      all_goals (intro h; first | (simp at h; done) | skip)
      all_goals
        cases hq:cPartsS T parts.toList with
        | none=>simp [hq] at h
        | some ps=>simp [hq] at h; exact ⟨_,_,_,h.symm⟩
    obtain ⟨es,z,ps,rfl⟩:=hs
    by_cases hf:L.fz.contains (d.getD 0)=true
    · exact .inr (.inl ⟨t,m,parts,es,z,ps,rfl,rfl,by simp only [sw,hf,if_true]⟩)
    · exact .inl (by simp only [sw,hf]; rfl)
  case mapUpdate t x y z =>
    have hs:∃ a b c,s=.mput a b c:=by
      revert h
      simp only [cop]
      repeat' split
      all_goals (intro h; first | (simp at h; done) | (injection h with h; exact ⟨_,_,_,h.symm⟩))
    obtain ⟨a,b,c,rfl⟩:=hs
    left
    simp only [sw,hmd a b c rfl]
    rfl
  case insert t x y z =>
    have hs:∃ a b c,s=.mput a b c:=by
      revert h
      simp only [cop]
      repeat' split
      all_goals (intro h; first | (simp at h; done) | (injection h with h; exact ⟨_,_,_,h.symm⟩))
    obtain ⟨a,b,c,rfl⟩:=hs
    left
    simp only [sw,hmd a b c rfl]
    rfl
  all_goals
    left
    revert h
    unfold cop
    try simp only
    repeat' split
  all_goals (intro h; first | (simp at h; done) | (injection h with h; subst h; rfl) | (with_reducible exact map_nc L d (fun _=>rfl) h) | (exfalso; simp_all; done))

theorem cop_mput {op:Op} {p q r:Opd} (h:cop P T op=some (.mput p q r)):∃ t kt et x y z,(op=.mapUpdate t x y z∨op=.insert t x y z)∧P.underlying t=some (.map kt et)∧strKey P kt=true∧cOpd T x=some p∧cOpd T y=some q∧cOpd T z=some r:=by
  cases op
  case mapUpdate t x y z =>
    revert h
    simp only [cop]
    repeat' split
    all_goals (intro h; first | (simp at h; done) | (injection h with h; injection h with h1 h2 h3; subst h1; subst h2; subst h3; exact ⟨_,_,_,_,_,_,.inl rfl,by assumption,by assumption,by assumption,by assumption,by assumption⟩))
  case insert t x y z =>
    revert h
    simp only [cop]
    repeat' split
    all_goals (intro h; first | (simp at h; done) | (injection h with h; injection h with h1 h2 h3; subst h1; subst h2; subst h3; exact ⟨_,_,_,_,_,_,.inr rfl,by assumption,by assumption,by assumption,by assumption,by assumption⟩))
  case convert t u x =>
    exfalso
    simp only [cop] at h
    cases hx:cOpd T x with
    | none=>simp [hx] at h
    | some y=>simp only [hx] at h; exact cConv_nm h
  case binOp op xt x y z =>
    exfalso
    simp only [cop] at h
    cases hx:cOpd T x with
    | none=>simp [hx] at h
    | some p =>
      cases hy:cOpd T y with
      | none=>simp [hx,hy] at h
      | some q =>
        simp only [hx,hy] at h
        split at h
        · split at h
          · simp at h
          · split at h
            · simp at h
            · exact cEq_nm h
        · simp at h
  case call c=>exfalso; simp only [cop] at h; exact cCall_nm h
  all_goals
    exfalso
    revert h
    simp only [cop]
    repeat' split
  all_goals (intro h; simp_all; done)

theorem opres_wp {out:Out} (h:OpRes P T w0 F0 n fr o a w out) (hK:∀ a' w' F' ρ',Inv T w0 F0 n (fin fr o.dst out) a' w' F' ρ'→K a' w'):o.wp P a w K Q:=by
  obtain ⟨nx,w',F',ρ',u,hrun,hn,hI⟩:=h
  unfold Oper.wp
  rw [hrun]
  rcases hn with rfl | ⟨rfl,rfl⟩
  · exact hK _ _ _ _ hI
  · exact hK _ _ _ _ hI

theorem stepF_sound (hT:TInj T) (G:GamOk P T Γ) {st st':St} (I:Inv T w0 F0 n st a w F ρ) (hd:dstOk n o.dst) {L:Lay} {s:SOp} (hc:cop P T o.op=some s) {g:Option (Nat × Bool)} (h:stepF Γ ⟨o.dst,sw L o.dst s,g⟩ st=some st')
    (hK:∀ a' w' F' ρ',Inv T w0 F0 n st' a' w' F' ρ'→K a' w'):o.wp P a w K Q:=by
  obtain ⟨fr,hp⟩:=st
  have main:∀ out,aop Γ fr hp (o.dst.getD 0) s=some out→(∀ c,o.op=.call c→∃ b,c.callee=.builtin b)→fin fr o.dst out=st'→o.wp P a w K Q:=by
    intro out ho hnc hf
    exact opres_wp (aop_res hT I hd hc hnc (I.dk hd) ho) (by rw [hf]; exact hK)
  have E:∀ {x:Operand} {y:Opd},cOpd T x=some y→Rep T w F ρ (ev fr y) (a.eval x):=fun h=>ev_rep I h
  by_cases hcall:∀ c,o.op=.call c→∃ b,c.callee=.builtin b
  · by_cases hmd:∃ m k v,s=.mput m k v∧mdC L m=true
    · obtain ⟨m,k,v,rfl,hm⟩:=hmd
      obtain ⟨t,kt,et,x,y,z,hop,hu,hkk,hx,hy,hz⟩:=cop_mput hc
      simp only [sw,hm,if_true] at h
      simp only [stepF] at h
      cases ho:aop Γ fr hp (o.dst.getD 0) (.mputD m k v) with
      | none=>simp [ho] at h
      | some out =>
        simp [ho] at h
        have h0:=ho
        simp only [aop] at ho
        cases hs:asS (ev fr k) with
        | none=>cases hxx:ev fr m <;> simp [hxx,hs] at ho
        | some q =>
          have hq:ev fr k=.str q:=by cases hyy:ev fr k <;> simp [hyy,asS] at hs; subst hs; rfl
          cases hxx:ev fr m <;> simp only [hxx,hs] at ho <;> try (simp at ho; done)
          rename_i id
          cases hh:hlk hp id with
          | none=>simp [hh] at ho
          | some ob =>
            cases ob <;> simp only [hh] at ho <;> try (simp at ho; done)
            rename_i es
            split at ho
            · rename_i hcnd
              simp only [Option.some.injEq] at ho; subst ho
              have ex:=E hx
              have ey:=E hy
              rw [hxx] at ex; rw [hq] at ey
              exact opres_wp (s_mputD I hd hop hu (strKey_spec hkk) ex ey hh hcnd.2 (Rep.down _ _ hcnd.1.2 (E hz))) (by rw [h]; exact hK)
            · simp at ho
    replace hmd:∀ m k v,s=.mput m k v→mdC L m=false:=fun m k v e=>by
      cases hm:mdC L m with
      | false=>rfl
      | true=>exact absurd ⟨m,k,v,e,hm⟩ hmd
    rcases sw_nc hc hcall L o.dst hmd with hsw | ⟨t,m,parts,es,z,ps,hop,rfl,hsw⟩ | ⟨e,x,y,hop,rfl,hsw⟩ | ⟨es,b,x,y,rfl,hsw⟩ | ⟨z,rfl,hsw⟩
    rotate_left
    · rw [hsw] at h
      simp only [stepF,aop] at h
      rw [hop] at hc
      simp only [cop] at hc
      cases hu:P.underlying t with
      | none=>simp [hu] at hc
      | some dd =>
        cases dd <;> simp [hu] at hc
        case slice e =>
          cases hes:sizeT P e with
          | none=>simp [hes] at hc
          | some es' =>
            cases hz:zeroT P T e with
            | none=>simp [hes,hz] at hc
            | some zv =>
              simp [hes,hz] at hc
              obtain ⟨hq,ps',hps,rfl,rfl,rfl⟩:=hc
              cases hf:fillA ((List.replicate m (cells zv)).flatten) (ps'.map fun p=>(p.1 * es',es',ev fr p.2)) with
              | none=>simp [hf] at h
              | some cs =>
                simp only [hf] at h
                split at h
                · rename_i hcnd
                  simp only [just,Option.map_some,Option.some.injEq] at h
                  exact opres_wp (s_mkSlF I hd hop hu hes hz hq hps hf hcnd.1 hcnd.2.1) (by rw [h]; exact hK)
                · simp at h
    · rw [hsw] at h
      simp only [stepF,aop] at h
      rw [hop] at hc
      simp only [cop] at hc
      cases hx:cOpd T x with
      | none=>simp [hx] at hc
      | some y' =>
        simp [hx] at hc; subst hc
        split at h
        · rename_i hcnd
          simp only [just,Option.map_some,Option.some.injEq] at h
          exact opres_wp (s_boxF I hd hop (E hx) hcnd.1 hcnd.2) (by rw [h]; exact hK)
        · simp at h
    · rw [hsw] at h
      simp only [stepF,aop] at h
      cases hys:slCells hp (ev fr y) with
      | none=>simp [hys] at h
      | some ys =>
        cases hkc:ycount es (ev fr y) with
        | none=>simp [hys,hkc] at h
        | some k =>
          simp only [hys,hkc] at h
          by_cases hk0:k=0
          · simp [hk0] at h
          · simp only [if_neg hk0] at h
            cases hfo:frzOut es (aapp hp (o.dst.getD 0) es b (ev fr x) ys k) with
            | none=>simp [hfo] at h
            | some out =>
              simp [hfo] at h
              refine opres_wp (s_appF hk0 hfo fun out0 h0=>?_) (by rw [h]; exact hK)
              exact aop_res (Γ:=Γ) hT I hd hc hcall (I.dk hd) (by simp only [aop,hys,hkc]; exact h0)
    · rw [hsw] at h
      simp only [stepF,aop] at h
      split at h
      · simp only [Option.map_some,Option.some.injEq] at h
        have H:=aop_res (Γ:=Γ) hT I hd hc hcall (I.dk hd) (d:=o.dst.getD 0) (out:=⟨.ref (o.dst.getD 0) 0,(o.dst.getD 0,.cells z)::killH (o.dst.getD 0) hp,[o.dst.getD 0]⟩) (by simp only [aop,made])
        refine opres_wp (H.perm (hp':=killH (o.dst.getD 0) hp++[(o.dst.getD 0,.cells z)]) fun i=>?_) (by rw [h]; exact hK)
        by_cases hi:i=o.dst.getD 0
        · subst hi
          simp only [hlk,if_true]
          rw [hlk_mid (by rw [hlk_killH,if_pos rfl])]
          simp only [hlk,if_true]
        · simp only [hlk,if_neg (Ne.symm hi),hlk_end hi]
      · simp at h
    rw [hsw] at h
    by_cases hnx:∃ x,s=.nextS x
    · obtain ⟨x,rfl⟩:=hnx
      obtain ⟨y,hop,hy⟩:=cop_nextS hc
      simp only [stepF] at h
      have hy':=E hy
      cases hx:ev fr x <;> simp only [hx] at h <;> try (simp at h; done)
      rename_i id off
      cases off with
      | succ _=>simp at h
      | zero =>
        simp only at h
        cases ho:hlk hp id with
        | none=>simp [ho] at h
        | some ob =>
          cases ob <;> simp only [ho] at h <;> try (simp at h; done)
          rename_i q pos
          rw [hx] at hy'
          have hs:=s_nextS (P:=P) I hd hop hy' ho
          split at h
          · rename_i hlt
            injection h with h; subst h
            exact opres_wp (hs.1 hlt) hK
          · rename_i hlt
            injection h with h; subst h
            exact opres_wp (hs.2 hlt) hK
    · have h2:(aop Γ fr hp (o.dst.getD 0) s).map (fin fr o.dst)=some st':=by
        cases s <;> first | exact h | (exfalso; exact hnx ⟨_,rfl⟩)
      cases ho:aop Γ fr hp (o.dst.getD 0) s with
      | none=>simp [ho] at h2
      | some out =>
        simp [ho] at h2
        exact main out ho hcall h2
  · have hcl:∃ c,o.op=.call c∧∀ b,c.callee ≠ .builtin b:=by
      apply Classical.byContradiction
      intro hn
      apply hcall
      intro c hc'
      apply Classical.byContradiction
      intro hb
      exact hn ⟨c,hc',fun b e=>hb ⟨b,e⟩⟩
    obtain ⟨c,hop,hnb⟩:=hcl
    rw [hop] at hc
    simp only [cop,cCall] at hc
    cases hargs:cOpds T c.args.toList with
    | none=>simp [hargs] at hc
    | some args =>
      simp only [hargs] at hc
      have hA:=evs_rep I hargs
      have byval:∀ {fv:Operand} {y:Opd},c.callee=.value fv→cOpd T fv=some y→s=.callV y args→o.wp P a w K Q:=by
        intro fv y hce hy hs
        subst hs
        have hyr:=E hy
        by_cases hcv:L.cv=true
        · simp only [sw,hcv,if_true] at h
          simp only [stepF,aop] at h
          cases hx:ev fr y <;> (try simp only [hx] at h) <;> try (simp at h; done)
          rename_i q cap
          rw [hx] at hyr
          simp only [Rep] at hyr
          obtain ⟨f,vs,hv,hf,hcap⟩:=hyr
          cases hr:acallS Γ hp (o.dst.getD 0) q (args.map (ev fr)++cap) with
          | none=>simp [hr] at h
          | some out =>
            simp [hr] at h
            refine callS_wp G I hd hf (RepL.app hA hcap) hr ?_ (by rw [h]; exact hK)
            intro w
            simp only [execOp,hop,resolve,hce,hv,Deferred.ofValue,Sem.run_bind,Sem.run_pure,Result.andThen_ok,invoke]
            congr 2
            apply Array.toList_inj.1
            simp
        simp only [sw,hcv] at h
        simp only [Bool.false_eq_true,if_false] at h
        simp only [stepF,aop] at h
        cases hx:ev fr y <;> (try simp only [hx] at h) <;> try (simp at h; done)
        rename_i q cap
        rw [hx] at hyr
        simp only [Rep] at hyr
        obtain ⟨f,vs,hv,hf,hcap⟩:=hyr
        cases hr:acall Γ hp q (args.map (ev fr)++cap) with
        | none=>simp [hr] at h
        | some r =>
          simp [hr,just,fin,killFs] at h
          subst h
          refine call_wp G I hd hf (RepL.app hA hcap) hr ?_ hK
          intro w
          simp only [execOp,hop,resolve,hce,hv,Deferred.ofValue,Sem.run_bind,Sem.run_pure,Result.andThen_ok,invoke]
          congr 2
          apply Array.toList_inj.1
          simp
      cases hce:c.callee with
      | builtin b=>exact absurd hce (hnb b)
      | value fv =>
        cases fv with
        | func f =>
          simp only [hce] at hc
          split at hc
          · rename_i hb
            cases hg:lkN T.fns f with
            | none=>simp [hg] at hc
            | some q =>
              simp [hg] at hc; subst hc
              by_cases hsf:L.sf.contains q=true
              · simp only [sw,hsf,if_true] at h
                simp only [stepF,aop] at h
                cases hr:acallS Γ hp (o.dst.getD 0) q (args.map (ev fr)) with
                | none=>simp [hr] at h
                | some out =>
                  simp [hr] at h
                  refine callS_wp G I hd hg hA hr ?_ (by rw [h]; exact hK)
                  intro w
                  simp only [execOp,hop,resolve,hce,Act.eval,Deferred.ofValue,Sem.run_bind,Sem.run_pure,Result.andThen_ok,invoke]
                  congr 2
                  apply Array.toList_inj.1
                  simp
              simp only [sw,hsf] at h
              simp only [Bool.false_eq_true,if_false] at h
              simp only [stepF,aop] at h
              cases hr:acall Γ hp q (args.map (ev fr)) with
              | none=>simp [hr] at h
              | some r =>
                simp [hr,just,fin,killFs] at h
                subst h
                refine call_wp G I hd hg hA hr ?_ hK
                intro w
                simp only [execOp,hop,resolve,hce,Act.eval,Deferred.ofValue,Sem.run_bind,Sem.run_pure,Result.andThen_ok,invoke]
                congr 2
                apply Array.toList_inj.1
                simp
          · simp at hc
        | tmp t =>
          simp only [hce] at hc
          cases hy:cOpd T (.tmp t) <;> simp [hy] at hc
          exact byval hce hy hc.symm
        | const v =>
          simp only [hce] at hc
          cases hy:cOpd T (.const v) <;> simp [hy] at hc
          exact byval hce hy hc.symm
        | global q =>
          simp only [hce] at hc
          cases hy:cOpd T (.global q) <;> simp [hy] at hc
          exact byval hce hy hc.symm
      | invoke x name =>
        simp only [hce] at hc
        cases hy:cOpd T x with
        | none=>simp [hy] at hc
        | some y =>
          simp [hy] at hc; subst hc
          have hyr:=E hy
          by_cases hsm:L.sm.contains name=true
          · simp only [sw,hsm,if_true] at h
            simp only [stepF,aop] at h
            cases hx:ev fr y <;> (try simp only [hx] at h) <;> try (simp at h; done)
            rename_i tq v
            rw [hx] at hyr
            simp only [Rep] at hyr
            obtain ⟨t,u,hv,ht,hu⟩:=hyr
            cases hm:Γ.mth tq name with
            | none=>simp [hm] at h
            | some q =>
              simp only [hm] at h
              obtain ⟨f,hf,hmo⟩:=G.mth t tq name q ht hm
              cases hr:acallS Γ hp (o.dst.getD 0) q (v::args.map (ev fr)) with
              | none=>simp [hr] at h
              | some out =>
                simp [hr] at h
                refine callS_wp G I hd hf (xs:=v::args.map (ev fr)) (vs:=u::c.args.toList.map a.eval) ⟨hu,hA⟩ hr ?_ (by rw [h]; exact hK)
                intro w
                simp only [execOp,hop,resolve,hce,hv,Sem.run_bind,Sem.run_pure,Result.andThen_ok,invoke]
                have h0:(#[Value.iface t u]++c.args.map a.eval)[0]? = some (.iface t u):=by rw [Array.getElem?_append_left (Nat.zero_lt_one)]; rfl
                simp only [h0,callMethod,Sem.run_bind,run_program,Result.andThen_ok,hmo u w]
                congr 2
                apply Array.toList_inj.1
                simp
                rw [List.take_of_length_le (by simp)]
          simp only [sw,hsm] at h
          simp only [Bool.false_eq_true,if_false] at h
          simp only [stepF,aop] at h
          cases hx:ev fr y <;> (try simp only [hx] at h) <;> try (simp at h; done)
          rename_i tq v
          rw [hx] at hyr
          simp only [Rep] at hyr
          obtain ⟨t,u,hv,ht,hu⟩:=hyr
          cases hm:Γ.mth tq name with
          | none=>simp [hm] at h
          | some q =>
            simp only [hm] at h
            obtain ⟨f,hf,hmo⟩:=G.mth t tq name q ht hm
            cases hr:acall Γ hp q (v::args.map (ev fr)) with
            | none=>simp [hr] at h
            | some r =>
              simp [hr,just,fin,killFs] at h
              subst h
              refine call_wp G I hd hf (xs:=v::args.map (ev fr)) (vs:=u::c.args.toList.map a.eval) ⟨hu,hA⟩ hr ?_ hK
              intro w
              simp only [execOp,hop,resolve,hce,hv,Sem.run_bind,Sem.run_pure,Result.andThen_ok,invoke]
              have h0:(#[Value.iface t u]++c.args.map a.eval)[0]? = some (.iface t u):=by rw [Array.getElem?_append_left (Nat.zero_lt_one)]; rfl
              simp only [h0,callMethod,Sem.run_bind,run_program,Result.andThen_ok,hmo u w]
              congr 2
              apply Array.toList_inj.1
              simp
              rw [List.take_of_length_le (by simp)]
end
end Wax


namespace Wax
open Go Go.RowKit

section
variable {P:Program} {T:Tab} {L:Lay} {w0 w:World} {F0:Base} {n:Nat} {a:Act} {F:Frz} {ρ:Rho} {o:Oper} {Γ:Gam} {ops:Array Oper}
variable {K:Act→World→Prop} {Q:Exit→Act→World→Prop}

theorem dstLt_ok {n:Nat} {d:Option Nat} (h:dstLt n d=true):dstOk n d:=by
  intro e he; subst he; simpa [dstLt] using h

theorem opF_sound (hT:TInj T) (G:GamOk P T Γ) {st st':St} (I:Inv T w0 F0 n st a w F ρ) {i:Nat} (hi:ops[i]? = some o) (h:opF Γ (cOper P T L n ops o) st=some st')
    (hK:∀ a' w' F' ρ',Inv T w0 F0 n st' a' w' F' ρ'→K a' w'):wpOp P ops Q i K a w:=by
  unfold wpOp
  simp only [hi]
  have nobad:∀ {dst:Option Nat} {st:St},stepF Γ ⟨dst,.bad,none⟩ st=none:=by intro dst st; simp [stepF,aop]
  simp only [cOper] at h
  cases hg:cGuard ops o.guard with
  | none=>simp [hg,opF,nobad] at h
  | some g =>
    simp only [hg] at h
    cases hdl:dstLt n o.dst with
    | false=>simp [hdl,opF,nobad] at h
    | true =>
      have hd:=dstLt_ok hdl
      simp only [hdl,if_true] at h
      have step:∀ {st:St} {g:Option (Nat × Bool)},Inv T w0 F0 n st a w F ρ→stepF Γ ⟨o.dst,fw L o.dst (sw L o.dst ((cop P T o.op).getD .bad)),g⟩ st=some st'→o.wp P a w K Q:=by
        intro st g I h
        replace h:=stepF_fw h
        cases hc:cop P T o.op with
        | none=>simp [hc,stepF,aop,sw] at h
        | some s =>
          simp only [hc,Option.getD_some] at h
          exact stepF_sound hT G I hd hc h hK
      cases hog:o.guard with
      | none =>
        simp [hog,cGuard] at hg; subst hg
        simp only [opF] at h
        simp only [Region.wanted,hog,if_true]
        exact .inl (step I h)
      | some jw =>
        obtain ⟨j,want⟩:=jw
        simp only [hog,cGuard] at hg
        cases hj:(ops[j]?).bind (·.dst) with
        | none=>simp [hj] at hg
        | some s =>
          simp [hj] at hg; subst hg
          simp only [opF] at h
          have hs:=I.slot s
          cases hl:lk st.fr s <;> simp only [hl] at h <;> try (simp at h; done)
          · rename_i b
            rw [hl] at hs
            simp only [Rep] at hs
            have hy:yielded ops a.tmps j=some b:=by
              simp only [yielded,hj,Option.bind_some]
              simp only [Array.getD_eq_getD_getElem?] at hs
              cases ht:a.tmps[s]? with
              | none=>simp [ht,undef] at hs
              | some v=>simp [ht] at hs; subst hs; rfl
            have I':Inv T w0 F0 n ⟨(s,.bool b)::st.fr,st.hp⟩ a w F ρ:=I.congr (fun i=>by
              show (if s=i then AV.bool b else lk st.fr i)=_
              split
              · rename_i e; subst e; exact hl.symm
              · rfl)
            by_cases hb:b=want
            · subst hb
              simp only [if_true] at h
              have hw:Region.wanted o (yielded ops a.tmps)=true:=by simp [Region.wanted,hog,hy]
              simp only [hw,if_true]
              exact .inl (step I' h)
            · simp only [hb,if_false,Option.some.injEq] at h
              have hw:Region.wanted o (yielded ops a.tmps)=false:=by simp [Region.wanted,hog,hy,hb]
              simp only [hw,Bool.false_eq_true,if_false]
              subst h
              have hbn:(!want)=b:=by cases b <;> cases want <;> simp_all
              rw [hbn] at hK
              exact hK _ _ _ _ (I'.val hd (x:=.tup []) (v:=undef) ⟨#[],rfl,by simp [RepL]⟩)
          · rename_i vs
            cases vs with
            | cons _ _=>simp at h
            | nil =>
              rw [hl] at hs
              simp only [Rep] at hs
              obtain ⟨us,h1,h2⟩:=hs
              have hus:us = #[]:=by
                apply Array.toList_inj.1
                cases hu:us.toList with
                | nil=>rfl
                | cons _ _=>rw [hu] at h2; simp [RepL] at h2
              subst hus
              have hy:yielded ops a.tmps j=none:=by
                simp only [yielded,hj,Option.bind_some]
                simp only [Array.getD_eq_getD_getElem?] at h1
                cases ht:a.tmps[s]? with
                | none=>rfl
                | some v=>simp [ht] at h1; subst h1; rfl
              have hw:Region.wanted o (yielded ops a.tmps)=false:=by simp [Region.wanted,hog,hy]
              simp only [hw,Bool.false_eq_true,if_false]
              simp only [Option.some.injEq] at h; subst h
              exact hK _ _ _ _ (I.val hd (x:=.tup []) (v:=undef) ⟨#[],rfl,by simp [RepL]⟩)

theorem wpOps_sound (hT:TInj T) (G:GamOk P T Γ) {st':St} (hQ:∀ a' w' F' ρ',Inv T w0 F0 n st' a' w' F' ρ'→Q .normal a' w') :
    ∀ (m k:Nat) (dd:List (List Nat)) (st:St) (a:Act) (w:World) (F:Frz) (ρ:Rho),k+m=ops.size→Inv T w0 F0 n st a w F ρ→opsG Γ ((ops.toList.drop k).map (cOper P T L n ops)) dd st=some st' →
      wpOps P ops Q (List.range' k m) a w
  | 0,k,dd,st,a,w,F,ρ,hk,I,h=>by
    have:ops.toList.drop k=[]:=by apply List.drop_eq_nil_of_le; simp; omega
    simp [this,opsG] at h; subst h
    exact hQ _ _ _ _ I
  | m+1,k,dd,st,a,w,F,ρ,hk,I,h=>by
    have hlt:k < ops.size:=by omega
    have hd:ops.toList.drop k=ops[k]::ops.toList.drop (k+1):=by
      rw [List.drop_eq_getElem_cons (by simpa using hlt)]; simp
    rw [hd] at h
    simp only [List.map_cons,opsG] at h
    rw [List.range'_succ,wpOps_cons]
    cases h1:opF Γ (cOper P T L n ops ops[k]) st with
    | none=>simp [h1] at h
    | some s1 =>
      simp [h1] at h
      refine opF_sound hT G I (o:=ops[k]) (by simp [hlt]) h1 ?_
      intro a' w' F' ρ' I'
      exact wpOps_sound hT G hQ m (k+1) (dTl dd) _ a' w' F' ρ' (by omega) (I'.rm _) (by rw [List.map_drop]; exact h)

theorem region_sound (hT:TInj T) (G:GamOk P T Γ) {st st':St} (I:Inv T w0 F0 n st a w F ρ) {id:Nat} {dd:List (List Nat)} (h:opsG Γ (ops.toList.map (cOper P T L n ops)) dd st=some st')
    (hQ:∀ a' w' F' ρ',Inv T w0 F0 n st' a' w' F' ρ'→Q .normal a' w'):(Code.region id ops false).wp P Q a w:=by
  apply wp_region
  rw [List.range_eq_range']
  exact wpOps_sound hT G hQ ops.size 0 dd st a w F ρ (by omega) I (by simpa using h)
end
end Wax


namespace Wax
open Go Go.RowKit

section
variable {Γ:Gam} {fr fr':List (Nat × AV)} {hp:List (Nat × AObj)} {d:Nat}

theorem ev_congr {x:Opd} (h:∀ i∈opdS x,lk fr i=lk fr' i):ev fr x=ev fr' x:=by
  cases x with
  | t n=>exact h n (by simp [readsOf,opdS])
  | k v=>rfl

theorem evs_congr {l:List Opd} (h:∀ i∈l.flatMap opdS,lk fr i=lk fr' i):l.map (ev fr)=l.map (ev fr') :=
  List.map_congr_left fun x hx=>ev_congr fun i hi=>h i (List.mem_flatMap.2 ⟨x,hx,hi⟩)

theorem evo_congr {l:Option Opd} (h:∀ i∈l.toList.flatMap opdS,lk fr i=lk fr' i):l.map (ev fr)=l.map (ev fr'):=by
  cases l with
  | none=>rfl
  | some x=>simp only [Option.map_some,Option.some.injEq]; exact ev_congr fun i hi=>h i (by simpa using hi)

theorem aop_congr {s:SOp} (h:∀ i∈readsOf s,lk fr i=lk fr' i):aop Γ fr hp d s=aop Γ fr' hp d s:=by
  induction s generalizing hp
  case mv x =>
    have ex:ev fr x=ev fr' x:=ev_congr fun i hi=>h i (by simp only [readsOf,List.mem_append]; first | exact hi | exact .inl hi | exact .inr hi | exact .inl (.inl hi) | exact .inl (.inr hi))
    simp only [aop,ex]
  case pick c a b =>
    have ec:ev fr c=ev fr' c:=ev_congr fun i hi=>h i (by simp only [readsOf,List.mem_append]; first | exact hi | exact .inl hi | exact .inr hi | exact .inl (.inl hi) | exact .inl (.inr hi))
    have ea:ev fr a=ev fr' a:=ev_congr fun i hi=>h i (by simp only [readsOf,List.mem_append]; first | exact hi | exact .inl hi | exact .inr hi | exact .inl (.inl hi) | exact .inl (.inr hi))
    have eb:ev fr b=ev fr' b:=ev_congr fun i hi=>h i (by simp only [readsOf,List.mem_append]; first | exact hi | exact .inl hi | exact .inr hi | exact .inl (.inl hi) | exact .inl (.inr hi))
    simp only [aop,ec,ea,eb]
  case agg zero parts =>
    have e:(parts.map fun p=>(p.1,p.2.1,ev fr p.2.2))=parts.map fun p=>(p.1,p.2.1,ev fr' p.2.2) :=
      List.map_congr_left fun p hp'=>by rw [ev_congr fun i hi=>h i (by simp only [readsOf,List.mem_flatMap]; exact ⟨p,hp',hi⟩)]
    simp only [aop,e]
  case mkSlF es0 n0 zero parts =>
    have e:(parts.map fun p=>(p.1 * es0,es0,ev fr p.2))=parts.map fun p=>(p.1 * es0,es0,ev fr' p.2) :=
      List.map_congr_left fun p hp'=>by rw [ev_congr fun i hi=>h i (by simp only [readsOf,List.mem_flatMap]; exact ⟨p,hp',hi⟩)]
    simp only [aop,e]
  case boxF x =>
    have ex:ev fr x=ev fr' x:=ev_congr fun i hi=>h i (by simp only [readsOf]; exact hi)
    simp only [aop,ex]
  case load n0 x =>
    have ex:ev fr x=ev fr' x:=ev_congr fun i hi=>h i (by simp only [readsOf,List.mem_append]; first | exact hi | exact .inl hi | exact .inr hi | exact .inl (.inl hi) | exact .inl (.inr hi))
    simp only [aop,ex]
  case chk x =>
    have ex:ev fr x=ev fr' x:=ev_congr fun i hi=>h i (by simp only [readsOf,List.mem_append]; first | exact hi | exact .inl hi | exact .inr hi | exact .inl (.inl hi) | exact .inl (.inr hi))
    simp only [aop,ex]
  case bin b0 x y =>
    have ex:ev fr x=ev fr' x:=ev_congr fun i hi=>h i (by simp only [readsOf,List.mem_append]; first | exact hi | exact .inl hi | exact .inr hi | exact .inl (.inl hi) | exact .inl (.inr hi))
    have ey:ev fr y=ev fr' y:=ev_congr fun i hi=>h i (by simp only [readsOf,List.mem_append]; first | exact hi | exact .inl hi | exact .inr hi | exact .inl (.inl hi) | exact .inl (.inr hi))
    simp only [aop,ex,ey]
  case eqB n0 x y =>
    have ex:ev fr x=ev fr' x:=ev_congr fun i hi=>h i (by simp only [readsOf,List.mem_append]; first | exact hi | exact .inl hi | exact .inr hi | exact .inl (.inl hi) | exact .inl (.inr hi))
    have ey:ev fr y=ev fr' y:=ev_congr fun i hi=>h i (by simp only [readsOf,List.mem_append]; first | exact hi | exact .inl hi | exact .inr hi | exact .inl (.inl hi) | exact .inl (.inr hi))
    simp only [aop,ex,ey]
  case eqI p0 g0 n0 x y =>
    have ex:ev fr x=ev fr' x:=ev_congr fun i hi=>h i (by simp only [readsOf,List.mem_append]; first | exact hi | exact .inl hi | exact .inr hi | exact .inl (.inl hi) | exact .inl (.inr hi))
    have ey:ev fr y=ev fr' y:=ev_congr fun i hi=>h i (by simp only [readsOf,List.mem_append]; first | exact hi | exact .inl hi | exact .inr hi | exact .inl (.inl hi) | exact .inl (.inr hi))
    simp only [aop,ex,ey]
  case eqA n0 k0 x y =>
    have ex:ev fr x=ev fr' x:=ev_congr fun i hi=>h i (by simp only [readsOf,List.mem_append]; first | exact hi | exact .inl hi | exact .inr hi | exact .inl (.inl hi) | exact .inl (.inr hi))
    have ey:ev fr y=ev fr' y:=ev_congr fun i hi=>h i (by simp only [readsOf,List.mem_append]; first | exact hi | exact .inl hi | exact .inr hi | exact .inl (.inl hi) | exact .inl (.inr hi))
    simp only [aop,ex,ey]
  case mn x y =>
    have ex:ev fr x=ev fr' x:=ev_congr fun i hi=>h i (by simp only [readsOf,List.mem_append]; first | exact hi | exact .inl hi | exact .inr hi | exact .inl (.inl hi) | exact .inl (.inr hi))
    have ey:ev fr y=ev fr' y:=ev_congr fun i hi=>h i (by simp only [readsOf,List.mem_append]; first | exact hi | exact .inl hi | exact .inr hi | exact .inl (.inl hi) | exact .inl (.inr hi))
    simp only [aop,ex,ey]
  case isNil k0 n0 x =>
    have ex:ev fr x=ev fr' x:=ev_congr fun i hi=>h i (by simp only [readsOf,List.mem_append]; first | exact hi | exact .inl hi | exact .inr hi | exact .inl (.inl hi) | exact .inl (.inr hi))
    simp only [aop,ex]
  case un u0 x =>
    have ex:ev fr x=ev fr' x:=ev_congr fun i hi=>h i (by simp only [readsOf,List.mem_append]; first | exact hi | exact .inl hi | exact .inr hi | exact .inl (.inl hi) | exact .inl (.inr hi))
    simp only [aop,ex]
  case cInt k0 x =>
    have ex:ev fr x=ev fr' x:=ev_congr fun i hi=>h i (by simp only [readsOf,List.mem_append]; first | exact hi | exact .inl hi | exact .inr hi | exact .inl (.inl hi) | exact .inl (.inr hi))
    simp only [aop,ex]
  case cIntStr x =>
    have ex:ev fr x=ev fr' x:=ev_congr fun i hi=>h i (by simp only [readsOf,List.mem_append]; first | exact hi | exact .inl hi | exact .inr hi | exact .inl (.inl hi) | exact .inl (.inr hi))
    simp only [aop,ex]
  case cNop x =>
    have ex:ev fr x=ev fr' x:=ev_congr fun i hi=>h i (by simp only [readsOf,List.mem_append]; first | exact hi | exact .inl hi | exact .inr hi | exact .inl (.inl hi) | exact .inl (.inr hi))
    simp only [aop,ex]
  case cBytesStr x =>
    have ex:ev fr x=ev fr' x:=ev_congr fun i hi=>h i (by simp only [readsOf,List.mem_append]; first | exact hi | exact .inl hi | exact .inr hi | exact .inl (.inl hi) | exact .inl (.inr hi))
    simp only [aop,ex]
  case cRunesStr x =>
    have ex:ev fr x=ev fr' x:=ev_congr fun i hi=>h i (by simp only [readsOf,List.mem_append]; first | exact hi | exact .inl hi | exact .inr hi | exact .inl (.inl hi) | exact .inl (.inr hi))
    simp only [aop,ex]
  case cSl x =>
    have ex:ev fr x=ev fr' x:=ev_congr fun i hi=>h i (by simp only [readsOf,List.mem_append]; first | exact hi | exact .inl hi | exact .inr hi | exact .inl (.inl hi) | exact .inl (.inr hi))
    simp only [aop,ex]
  case mkIfc t0 x =>
    have ex:ev fr x=ev fr' x:=ev_congr fun i hi=>h i (by simp only [readsOf,List.mem_append]; first | exact hi | exact .inl hi | exact .inr hi | exact .inl (.inl hi) | exact .inl (.inr hi))
    simp only [aop,ex]
  case mkFn f0 l =>
    have el:l.map (ev fr)=l.map (ev fr'):=evs_congr fun i hi=>h i (by simp only [readsOf,List.mem_append]; first | exact hi | exact .inr hi)
    simp only [aop,el]
  case slStr x lo hi =>
    have ex:ev fr x=ev fr' x:=ev_congr fun i hi=>h i (by simp only [readsOf,List.mem_append]; first | exact hi | exact .inl hi | exact .inr hi | exact .inl (.inl hi) | exact .inl (.inr hi))
    have elo:lo.map (ev fr)=lo.map (ev fr'):=evo_congr fun i hi=>h i (by simp only [readsOf,List.mem_append]; first | exact .inr hi | exact .inl (.inr hi))
    have ehi:hi.map (ev fr)=hi.map (ev fr'):=evo_congr fun i hi=>h i (by simp only [readsOf,List.mem_append]; first | exact .inr hi | exact .inl (.inr hi))
    simp only [aop,ex,elo,ehi]
  case slSl e0 x lo hi =>
    have ex:ev fr x=ev fr' x:=ev_congr fun i hi=>h i (by simp only [readsOf,List.mem_append]; first | exact hi | exact .inl hi | exact .inr hi | exact .inl (.inl hi) | exact .inl (.inr hi))
    have elo:lo.map (ev fr)=lo.map (ev fr'):=evo_congr fun i hi=>h i (by simp only [readsOf,List.mem_append]; first | exact .inr hi | exact .inl (.inr hi))
    have ehi:hi.map (ev fr)=hi.map (ev fr'):=evo_congr fun i hi=>h i (by simp only [readsOf,List.mem_append]; first | exact .inr hi | exact .inl (.inr hi))
    simp only [aop,ex,elo,ehi]
  case fAddr o0 x =>
    have ex:ev fr x=ev fr' x:=ev_congr fun i hi=>h i (by simp only [readsOf,List.mem_append]; first | exact hi | exact .inl hi | exact .inr hi | exact .inl (.inl hi) | exact .inl (.inr hi))
    simp only [aop,ex]
  case field o0 n0 x =>
    have ex:ev fr x=ev fr' x:=ev_congr fun i hi=>h i (by simp only [readsOf,List.mem_append]; first | exact hi | exact .inl hi | exact .inr hi | exact .inl (.inl hi) | exact .inl (.inr hi))
    simp only [aop,ex]
  case iAddr e0 x i =>
    have ex:ev fr x=ev fr' x:=ev_congr fun i hi=>h i (by simp only [readsOf,List.mem_append]; first | exact hi | exact .inl hi | exact .inr hi | exact .inl (.inl hi) | exact .inl (.inr hi))
    have ei:ev fr i=ev fr' i:=ev_congr fun i hi=>h i (by simp only [readsOf,List.mem_append]; first | exact hi | exact .inl hi | exact .inr hi | exact .inl (.inl hi) | exact .inl (.inr hi))
    simp only [aop,ex,ei]
  case iAddrA l0 e0 x i =>
    have ex:ev fr x=ev fr' x:=ev_congr fun i hi=>h i (by simp only [readsOf,List.mem_append]; first | exact hi | exact .inl hi | exact .inr hi | exact .inl (.inl hi) | exact .inl (.inr hi))
    have ei:ev fr i=ev fr' i:=ev_congr fun i hi=>h i (by simp only [readsOf,List.mem_append]; first | exact hi | exact .inl hi | exact .inr hi | exact .inl (.inl hi) | exact .inl (.inr hi))
    simp only [aop,ex,ei]
  case iStr x i =>
    have ex:ev fr x=ev fr' x:=ev_congr fun i hi=>h i (by simp only [readsOf,List.mem_append]; first | exact hi | exact .inl hi | exact .inr hi | exact .inl (.inl hi) | exact .inl (.inr hi))
    have ei:ev fr i=ev fr' i:=ev_congr fun i hi=>h i (by simp only [readsOf,List.mem_append]; first | exact hi | exact .inl hi | exact .inr hi | exact .inl (.inl hi) | exact .inl (.inr hi))
    simp only [aop,ex,ei]
  case iArr l0 e0 n0 x i =>
    have ex:ev fr x=ev fr' x:=ev_congr fun i hi=>h i (by simp only [readsOf,List.mem_append]; first | exact hi | exact .inl hi | exact .inr hi | exact .inl (.inl hi) | exact .inl (.inr hi))
    have ei:ev fr i=ev fr' i:=ev_congr fun i hi=>h i (by simp only [readsOf,List.mem_append]; first | exact hi | exact .inl hi | exact .inr hi | exact .inl (.inl hi) | exact .inl (.inr hi))
    simp only [aop,ex,ei]
  case look z0 o0 m k =>
    have em:ev fr m=ev fr' m:=ev_congr fun i hi=>h i (by simp only [readsOf,List.mem_append]; first | exact hi | exact .inl hi | exact .inr hi | exact .inl (.inl hi) | exact .inl (.inr hi))
    have ek:ev fr k=ev fr' k:=ev_congr fun i hi=>h i (by simp only [readsOf,List.mem_append]; first | exact hi | exact .inl hi | exact .inr hi | exact .inl (.inl hi) | exact .inl (.inr hi))
    simp only [aop,em,ek]
  case extr x i0 =>
    have ex:ev fr x=ev fr' x:=ev_congr fun i hi=>h i (by simp only [readsOf,List.mem_append]; first | exact hi | exact .inl hi | exact .inr hi | exact .inl (.inl hi) | exact .inl (.inr hi))
    simp only [aop,ex]
  case assertI t0 x =>
    have ex:ev fr x=ev fr' x:=ev_congr fun i hi=>h i (by simp only [readsOf,List.mem_append]; first | exact hi | exact .inl hi | exact .inr hi | exact .inl (.inl hi) | exact .inl (.inr hi))
    simp only [aop,ex]
  case assert t0 z0 o0 x =>
    have ex:ev fr x=ev fr' x:=ev_congr fun i hi=>h i (by simp only [readsOf,List.mem_append]; first | exact hi | exact .inl hi | exact .inr hi | exact .inl (.inl hi) | exact .inl (.inr hi))
    simp only [aop,ex]
  case len k0 x =>
    have ex:ev fr x=ev fr' x:=ev_congr fun i hi=>h i (by simp only [readsOf,List.mem_append]; first | exact hi | exact .inl hi | exact .inr hi | exact .inl (.inl hi) | exact .inl (.inr hi))
    simp only [aop,ex]
  case call f0 l =>
    have el:l.map (ev fr)=l.map (ev fr'):=evs_congr fun i hi=>h i (by simp only [readsOf,List.mem_append]; first | exact hi | exact .inr hi)
    simp only [aop,el]
  case callV f l =>
    have ef:ev fr f=ev fr' f:=ev_congr fun i hi=>h i (by simp only [readsOf,List.mem_append]; first | exact hi | exact .inl hi | exact .inr hi | exact .inl (.inl hi) | exact .inl (.inr hi))
    have el:l.map (ev fr)=l.map (ev fr'):=evs_congr fun i hi=>h i (by simp only [readsOf,List.mem_append]; first | exact hi | exact .inr hi)
    simp only [aop,ef,el]
  case inv x n0 l =>
    have ex:ev fr x=ev fr' x:=ev_congr fun i hi=>h i (by simp only [readsOf,List.mem_append]; first | exact hi | exact .inl hi | exact .inr hi | exact .inl (.inl hi) | exact .inl (.inr hi))
    have el:l.map (ev fr)=l.map (ev fr'):=evs_congr fun i hi=>h i (by simp only [readsOf,List.mem_append]; first | exact hi | exact .inr hi)
    simp only [aop,ex,el]
  case mkSl es0 n0 zero parts =>
    have e:(parts.map fun p=>(p.1 * es0,es0,ev fr p.2))=parts.map fun p=>(p.1 * es0,es0,ev fr' p.2) :=
      List.map_congr_left fun p hp'=>by rw [ev_congr fun i hi=>h i (by simp only [readsOf,List.mem_flatMap]; exact ⟨p,hp',hi⟩)]
    simp only [aop,e]
  case box x =>
    have ex:ev fr x=ev fr' x:=ev_congr fun i hi=>h i (by simp only [readsOf,List.mem_append]; first | exact hi | exact .inl hi | exact .inr hi | exact .inl (.inl hi) | exact .inl (.inr hi))
    simp only [aop,ex]
  case store n0 a x =>
    have ea:ev fr a=ev fr' a:=ev_congr fun i hi=>h i (by simp only [readsOf,List.mem_append]; first | exact hi | exact .inl hi | exact .inr hi | exact .inl (.inl hi) | exact .inl (.inr hi))
    have ex:ev fr x=ev fr' x:=ev_congr fun i hi=>h i (by simp only [readsOf,List.mem_append]; first | exact hi | exact .inl hi | exact .inr hi | exact .inl (.inl hi) | exact .inl (.inr hi))
    simp only [aop,ea,ex]
  case mkSlice es0 b0 z0 a b =>
    have ea:ev fr a=ev fr' a:=ev_congr fun i hi=>h i (by simp only [readsOf,List.mem_append]; first | exact hi | exact .inl hi | exact .inr hi | exact .inl (.inl hi) | exact .inl (.inr hi))
    have eb:ev fr b=ev fr' b:=ev_congr fun i hi=>h i (by simp only [readsOf,List.mem_append]; first | exact hi | exact .inl hi | exact .inr hi | exact .inl (.inl hi) | exact .inl (.inr hi))
    simp only [aop,ea,eb]
  case cStrBytes x =>
    have ex:ev fr x=ev fr' x:=ev_congr fun i hi=>h i (by simp only [readsOf,List.mem_append]; first | exact hi | exact .inl hi | exact .inr hi | exact .inl (.inl hi) | exact .inl (.inr hi))
    simp only [aop,ex]
  case cStrRunes x =>
    have ex:ev fr x=ev fr' x:=ev_congr fun i hi=>h i (by simp only [readsOf,List.mem_append]; first | exact hi | exact .inl hi | exact .inr hi | exact .inl (.inl hi) | exact .inl (.inr hi))
    simp only [aop,ex]
  case mput m k v =>
    have em:ev fr m=ev fr' m:=ev_congr fun i hi=>h i (by simp only [readsOf,List.mem_append]; first | exact hi | exact .inl hi | exact .inr hi | exact .inl (.inl hi) | exact .inl (.inr hi))
    have ek:ev fr k=ev fr' k:=ev_congr fun i hi=>h i (by simp only [readsOf,List.mem_append]; first | exact hi | exact .inl hi | exact .inr hi | exact .inl (.inl hi) | exact .inl (.inr hi))
    have ev:ev fr v=ev fr' v:=ev_congr fun i hi=>h i (by simp only [readsOf,List.mem_append]; first | exact hi | exact .inl hi | exact .inr hi | exact .inl (.inl hi) | exact .inl (.inr hi))
    simp only [aop,em,ek,ev]
  case mputD m k v =>
    have em:ev fr m=ev fr' m:=ev_congr fun i hi=>h i (by simp only [readsOf,List.mem_append]; first | exact hi | exact .inl hi | exact .inr hi | exact .inl (.inl hi) | exact .inl (.inr hi))
    have ek:ev fr k=ev fr' k:=ev_congr fun i hi=>h i (by simp only [readsOf,List.mem_append]; first | exact hi | exact .inl hi | exact .inr hi | exact .inl (.inl hi) | exact .inl (.inr hi))
    have ev:ev fr v=ev fr' v:=ev_congr fun i hi=>h i (by simp only [readsOf,List.mem_append]; first | exact hi | exact .inl hi | exact .inr hi | exact .inl (.inl hi) | exact .inl (.inr hi))
    simp only [aop,em,ek,ev]
  case rangeS x =>
    have ex:ev fr x=ev fr' x:=ev_congr fun i hi=>h i (by simp only [readsOf,List.mem_append]; first | exact hi | exact .inl hi | exact .inr hi | exact .inl (.inl hi) | exact .inl (.inr hi))
    simp only [aop,ex]
  case entry x =>
    have ex:ev fr x=ev fr' x:=ev_congr fun i hi=>h i (by simp only [readsOf,List.mem_append]; first | exact hi | exact .inl hi | exact .inr hi | exact .inl (.inl hi) | exact .inl (.inr hi))
    simp only [aop,ex]
  case rangeM x =>
    have ex:ev fr x=ev fr' x:=ev_congr fun i hi=>h i (by simp only [readsOf,List.mem_append]; first | exact hi | exact .inl hi | exact .inr hi | exact .inl (.inl hi) | exact .inl (.inr hi))
    simp only [aop,ex]
  case appF es0 b0 x y =>
    have ex:ev fr x=ev fr' x:=ev_congr fun i hi=>h i (by simp only [readsOf,List.mem_append]; first | exact hi | exact .inl hi | exact .inr hi | exact .inl (.inl hi) | exact .inl (.inr hi))
    have ey:ev fr y=ev fr' y:=ev_congr fun i hi=>h i (by simp only [readsOf,List.mem_append]; first | exact hi | exact .inl hi | exact .inr hi | exact .inl (.inl hi) | exact .inl (.inr hi))
    simp only [aop,ex,ey]
  case app es0 b0 x y =>
    have ex:ev fr x=ev fr' x:=ev_congr fun i hi=>h i (by simp only [readsOf,List.mem_append]; first | exact hi | exact .inl hi | exact .inr hi | exact .inl (.inl hi) | exact .inl (.inr hi))
    have ey:ev fr y=ev fr' y:=ev_congr fun i hi=>h i (by simp only [readsOf,List.mem_append]; first | exact hi | exact .inl hi | exact .inr hi | exact .inl (.inl hi) | exact .inl (.inr hi))
    simp only [aop,ex,ey]
  case callS f l =>
    have el:l.map (ev fr)=l.map (ev fr'):=evs_congr fun i hi=>h i (by simp only [readsOf,List.mem_append]; first | exact hi | exact .inr hi)
    simp only [aop,el]
  case callVS f l =>
    have ef:ev fr f=ev fr' f:=ev_congr fun i hi=>h i (by simp only [readsOf,List.mem_append]; first | exact hi | exact .inl hi | exact .inr hi | exact .inl (.inl hi) | exact .inl (.inr hi))
    have el:l.map (ev fr)=l.map (ev fr'):=evs_congr fun i hi=>h i (by simp only [readsOf,List.mem_append]; first | exact hi | exact .inr hi)
    simp only [aop,ef,el]
  case invS x n0 l =>
    have ex:ev fr x=ev fr' x:=ev_congr fun i hi=>h i (by simp only [readsOf,List.mem_append]; first | exact hi | exact .inl hi | exact .inr hi | exact .inl (.inl hi) | exact .inl (.inr hi))
    have el:l.map (ev fr)=l.map (ev fr'):=evs_congr fun i hi=>h i (by simp only [readsOf,List.mem_append]; first | exact hi | exact .inr hi)
    simp only [aop,ex,el]
  case nw q s ih =>
    have h1:nwIn q fr hp s=nwIn q fr' hp s:=by
      have e1:((readsOf s).all fun i=>noD q hp (lk fr i))=(readsOf s).all fun i=>noD q hp (lk fr' i):=by
        rw [Bool.eq_iff_iff,List.all_eq_true,List.all_eq_true]
        exact ⟨fun z i hi=>by rw [← h i hi]; exact z i hi,fun z i hi=>by rw [h i hi]; exact z i hi⟩
      simp only [nwIn,e1]
    simp only [aop,h1,ih h]
  case fl s ih =>
    have h1:flatIn fr s=flatIn fr' s:=by
      have e1:((readsOf s).all fun i=>pureV (lk fr i))=(readsOf s).all fun i=>pureV (lk fr' i):=by
        rw [Bool.eq_iff_iff,List.all_eq_true,List.all_eq_true]
        exact ⟨fun q i hi=>by rw [← h i hi]; exact q i hi,fun q i hi=>by rw [h i hi]; exact q i hi⟩
      have e2:((argsOf s).all fun x=>pureV (ev fr x))=(argsOf s).all fun x=>pureV (ev fr' x):=by
        rw [Bool.eq_iff_iff,List.all_eq_true,List.all_eq_true]
        have e:∀ x∈argsOf s,ev fr x=ev fr' x:=fun x hx=>ev_congr fun i hi=>h i (argsOf_reads hx i hi)
        exact ⟨fun q i hi=>by rw [← e i hi]; exact q i hi,fun q i hi=>by rw [e i hi]; exact q i hi⟩
      simp only [flatIn,e1,e2]
    simp only [aop,h1,ih h]
  all_goals rfl

theorem aop_calm {s:SOp} (hc:calm s=true) {out:Out} (h:aop Γ fr hp d s=some out):out.hp=hp∧out.new=[]:=by
  have J:∀ {v:AV},just hp v=some out→out.hp=hp∧out.new=[]:=by intro v h; have:=just_eq h; subst this; exact ⟨rfl,rfl⟩
  cases s
  all_goals first | (simp [calm] at hc; done) | (simp only [aop] at h; (repeat' split at h) <;> first | exact J h | (simp at h; done))

def valF (Γ:Gam) (o:SO) (fr:List (Nat × AV)) (hp:List (Nat × AObj)):Option AV :=
  match o.guard with
  | none=>(aop Γ fr hp (o.dst.getD 0) o.op).map (·.v)
  | some (g,want)=>match lk fr g with
    | .bool b=>if b=want then (aop Γ fr hp (o.dst.getD 0) o.op).map (·.v) else some (.tup [])
    | .tup []=>some (.tup [])
    | _=>none

theorem valF_congr {o:SO} (hc:calm o.op=true) (h:∀ i∈looksS o,lk fr i=lk fr' i):valF Γ o fr hp=valF Γ o fr' hp:=by
  have h1:∀ i∈readsOf o.op,lk fr i=lk fr' i:=fun i hi=>h i (by simp only [looksS,List.mem_append]; exact .inl hi)
  simp only [valF]
  cases hg:o.guard with
  | none=>simp only [aop_congr h1]
  | some gw =>
    obtain ⟨g,want⟩:=gw
    have h2:lk fr g=lk fr' g:=h g (by simp [looksS,hg])
    simp only [h2,aop_congr h1]

theorem lk_putS (fr:List (Nat × AV)) (dst:Option Nat) (v:AV) (i:Nat):lk (putS fr dst v) i=if dst=some i then v else lk fr i:=by
  cases dst with
  | none=>simp [putS]
  | some d=>simp [putS,lk_put]

theorem opF_val {o:SO} (hc:calm o.op=true) {st st':St} (h:opF Γ o st=some st') :
    st'.hp=st.hp∧∃ v,valF Γ o st.fr st.hp=some v∧∀ i,lk st'.fr i=if o.dst=some i then v else lk st.fr i:=by
  simp only [opF] at h
  simp only [valF]
  cases hg:o.guard with
  | none =>
    simp only [hg,calm_stepF hc] at h
    cases ho:aop Γ st.fr st.hp (o.dst.getD 0) o.op with
    | none=>simp [ho] at h
    | some out =>
      simp [ho] at h; subst h
      obtain ⟨h1,h2⟩:=aop_calm hc ho
      refine ⟨by simp [fin,h1],out.v,by simp,fun i=>?_⟩
      simp [fin,h2,killFs,lk_putS]
  | some gw =>
    obtain ⟨g,want⟩:=gw
    simp only [hg] at h
    cases hl:lk st.fr g <;> simp only [hl] at h <;> try (simp at h; done)
    · rename_i b
      have same:∀ i,lk ((g,AV.bool b)::st.fr) i=lk st.fr i:=by
        intro i
        rw [lk_put]
        split
        · rename_i e; subst e; exact hl.symm
        · rfl
      by_cases hb:b=want
      · subst hb
        simp only [if_true,calm_stepF hc] at h
        rw [aop_congr (fun i _=>same i)] at h
        cases ho:aop Γ st.fr st.hp (o.dst.getD 0) o.op with
        | none=>simp [ho] at h
        | some out =>
          simp [ho] at h; subst h
          obtain ⟨h1,h2⟩:=aop_calm hc ho
          refine ⟨by simp [fin,h1],out.v,by simp [hl],fun i=>?_⟩
          simp only [fin,h2,killFs,lk_putS,same]
      · have hbn:(!want)=b:=by cases b <;> cases want <;> simp_all
        simp only [hb,if_false,Option.some.injEq,hbn] at h; subst h
        refine ⟨rfl,.tup [],by simp [hl,hb],fun i=>?_⟩
        simp only [lk_putS,same]
    · rename_i vs
      cases vs with
      | cons _ _=>simp at h
      | nil =>
        simp only [Option.some.injEq] at h; subst h
        exact ⟨rfl,.tup [],by simp [hl],fun i=>by simp only [lk_putS]⟩

theorem valF_op {o:SO} (hc:calm o.op=true) {st:St} {v:AV} (h:valF Γ o st.fr st.hp=some v):∃ st',opF Γ o st=some st':=by
  simp only [valF] at h
  simp only [opF]
  cases hg:o.guard with
  | none =>
    simp only [hg] at h
    simp only [calm_stepF hc]
    cases ho:aop Γ st.fr st.hp (o.dst.getD 0) o.op with
    | none=>simp [ho] at h
    | some out=>simp
  | some gw =>
    obtain ⟨g,want⟩:=gw
    simp only [hg] at h
    cases hl:lk st.fr g <;> simp only [hl] at h <;> try (simp at h; done)
    · rename_i b
      have same:∀ i,lk ((g,AV.bool b)::st.fr) i=lk st.fr i:=by
        intro i
        rw [lk_put]
        split
        · rename_i e; subst e; exact hl.symm
        · rfl
      by_cases hb:b=want
      · subst hb
        simp only [if_true,calm_stepF hc] at h ⊢
        rw [aop_congr (fun i _=>same i)]
        cases ho:aop Γ st.fr st.hp (o.dst.getD 0) o.op with
        | none=>simp [ho] at h
        | some out=>simp [hl]
      · simp [hl,hb]
    · rename_i vs
      cases vs with
      | cons _ _=>simp at h
      | nil=>simp [hl]

theorem stepF_eq {o:SO} (h:∀ x,o.op ≠ .nextS x) {st:St}:stepF Γ o st=(aop Γ st.fr st.hp (o.dst.getD 0) o.op).map (fin st.fr o.dst):=by
  obtain ⟨dst,op,g⟩:=o
  cases op <;> first | (exfalso; exact h _ rfl) | simp only [stepF]

def Eqv (s t:St):Prop:=s.hp=t.hp∧∀ i,lk s.fr i=lk t.fr i

theorem Eqv.rfl' {s:St}:Eqv s s:=⟨rfl,fun _=>rfl⟩
theorem Eqv.symm {s t:St} (h:Eqv s t):Eqv t s:=⟨h.1.symm,fun i=>(h.2 i).symm⟩
theorem Eqv.trans {s t u:St} (h:Eqv s t) (g:Eqv t u):Eqv s u:=⟨h.1.trans g.1,fun i=>(h.2 i).trans (g.2 i)⟩

theorem lk_killFs:∀ (l:List Nat) (fr:List (Nat × AV)) (i:Nat),lk (killFs l fr) i=killA l (lk fr i)
  | [],fr,i=>rfl
  | d::r,fr,i=>by simp only [killFs,killA]; rw [lk_killFs r,lk_killF]

theorem lk_fin {fr:List (Nat × AV)} {dst:Option Nat} {out:Out} (i:Nat):lk (fin fr dst out).fr i=if dst=some i then out.v else killA out.new (lk fr i):=by
  simp only [fin,lk_putS,lk_killFs]

theorem fin_congr {dst:Option Nat} {out:Out} (h:∀ i,lk fr i=lk fr' i):Eqv (fin fr dst out) (fin fr' dst out) :=
  ⟨rfl,fun i=>by rw [lk_fin,lk_fin,h]⟩

theorem stepF_congr {o:SO} {s t s':St} (E:Eqv s t) (h:stepF Γ o s=some s'):∃ t',stepF Γ o t=some t'∧Eqv s' t':=by
  obtain ⟨fr1,hp1⟩:=s
  obtain ⟨fr2,hp2⟩:=t
  obtain ⟨e1,e2⟩:=E
  simp only at e1 e2
  subst e1
  obtain ⟨dst,op,g⟩:=o
  cases op
  case nextS x =>
    simp only [stepF] at h ⊢
    rw [show ev fr2 x=ev fr1 x from ev_congr fun i _=>(e2 i).symm]
    cases hx:ev fr1 x <;> simp only [hx] at h ⊢ <;> try (simp at h; done)
    rename_i id off
    cases off with
    | succ _=>simp at h
    | zero =>
      simp only at h ⊢
      cases ho:hlk hp1 id with
      | none=>simp [ho] at h
      | some ob =>
        cases ob <;> simp only [ho] at h ⊢ <;> try (simp at h; done)
        rename_i q pos
        split at h
        · rename_i hp
          rw [if_pos hp]
          simp only [Option.some.injEq] at h; subst h
          exact ⟨_,rfl,rfl,fun i=>by simp only [lk_putS,e2]⟩
        · rename_i hp
          rw [if_neg hp]
          simp only [Option.some.injEq] at h; subst h
          exact ⟨_,rfl,rfl,fun i=>by simp only [lk_putS,e2]⟩
  all_goals
    rw [stepF_eq (by intro y; simp)] at h ⊢
    try simp only at h ⊢
    rw [aop_congr (fun i _=>e2 i)] at h
    obtain ⟨out,ho,rfl⟩:=Option.map_eq_some_iff.1 h
    exact ⟨fin fr2 dst out,by rw [ho]; rfl,fin_congr e2⟩

theorem opF_congr {o:SO} {s t s':St} (E:Eqv s t) (h:opF Γ o s=some s'):∃ t',opF Γ o t=some t'∧Eqv s' t':=by
  simp only [opF] at h ⊢
  cases hg:o.guard with
  | none=>simp only [hg] at h ⊢; exact stepF_congr E h
  | some gw =>
    obtain ⟨g,want⟩:=gw
    simp only [hg,← E.2 g] at h ⊢
    cases hl:lk s.fr g <;> simp only [hl] at h ⊢ <;> try (simp at h; done)
    · rename_i b
      split at h
      · rename_i hb
        rw [if_pos hb]
        exact stepF_congr (s:=⟨(g,.bool want)::s.fr,s.hp⟩) (t:=⟨(g,.bool want)::t.fr,t.hp⟩) ⟨E.1,fun i=>by simp only [lk_put,E.2 i]⟩ h
      · rename_i hb
        rw [if_neg hb]
        simp only [Option.some.injEq] at h; subst h
        exact ⟨_,rfl,E.1,fun i=>by simp only [lk_putS,lk_put,E.2 i]⟩
    · rename_i vs
      cases vs with
      | cons _ _=>simp at h
      | nil =>
        simp only [Option.some.injEq] at h; subst h
        exact ⟨_,rfl,E.1,fun i=>by simp only [lk_putS,E.2 i]⟩

theorem opsF_congr:∀ (l:List SO) {s t s':St},Eqv s t→opsF Γ l s=some s'→∃ t',opsF Γ l t=some t'∧Eqv s' t'
  | [],s,t,s',E,h=>by simp only [opsF,Option.some.injEq] at h ⊢; subst h; exact ⟨t,rfl,E⟩
  | o::r,s,t,s',E,h=>by
    simp only [opsF] at h ⊢
    cases h1:opF Γ o s with
    | none=>simp [h1] at h
    | some s1 =>
      simp only [h1,Option.bind_some] at h
      obtain ⟨t1,h2,E1⟩:=opF_congr E h1
      obtain ⟨t',h3,E2⟩:=opsF_congr r E1 h
      exact ⟨t',by rw [h2]; exact h3,E2⟩

def Comm (Γ:Gam) (o p:SO):Prop:=∀ st s1 s2,opF Γ o st=some s1→opF Γ p s1=some s2→∃ t1 t2,opF Γ p st=some t1∧opF Γ o t1=some t2∧Eqv s2 t2

structure Apart (o p:SO):Prop where
  dst:∀ d,o.dst=some d→p.dst ≠ some d
  oLook:∀ i∈looksS o,p.dst ≠ some i
  pLook:∀ i∈looksS p,o.dst ≠ some i

theorem comm_calm {o p:SO} (ho:calm o.op=true) (hp:calm p.op=true) (A:Apart o p):Comm Γ o p:=by
  intro st s1 s2 h1 h2
  obtain ⟨a1,v,a2,a3⟩:=opF_val ho h1
  obtain ⟨b1,u,b2,b3⟩:=opF_val hp h2
  rw [a1] at b2
  have e1:valF Γ p st.fr st.hp=some u:=by
    rw [← b2]
    refine valF_congr hp fun i hi=>?_
    rw [a3,if_neg (A.pLook i hi)]
  obtain ⟨t1,h3⟩:=valF_op hp e1
  obtain ⟨c1,u',c2,c3⟩:=opF_val hp h3
  rw [e1] at c2; injection c2 with c2; subst c2
  have e2:valF Γ o t1.fr t1.hp=some v:=by
    rw [← a2,c1]
    refine valF_congr ho fun i hi=>?_
    rw [c3,if_neg (A.oLook i hi)]
  obtain ⟨t2,h4⟩:=valF_op ho e2
  obtain ⟨d1,v',d2,d3⟩:=opF_val ho h4
  rw [e2] at d2; injection d2 with d2; subst d2
  refine ⟨t1,t2,h3,h4,by rw [b1,a1,d1,c1],fun i=>?_⟩
  rw [b3,a3,d3,c3]
  by_cases hi:o.dst=some i
  · rw [if_neg (A.dst i hi),if_pos hi,if_pos hi]
  · rw [if_neg hi,if_neg hi]

theorem valF_fl {o:SO} {s:SOp} (ho:o.op=.fl s) {hp':List (Nat × AObj)} {v:AV} (h:valF Γ o fr hp=some v) (hf:∀ i∈looksS o,pureV (lk fr i)=true→lk fr' i=lk fr i) :
    valF Γ o fr' hp'=some v∧pureV v=true:=by
  have main:(aop Γ fr hp (o.dst.getD 0) o.op).map (·.v)=some v→(aop Γ fr' hp' (o.dst.getD 0) o.op).map (·.v)=some v∧pureV v=true:=by
    intro h
    obtain ⟨out,h1,h2⟩:=Option.map_eq_some_iff.1 h
    rw [ho] at h1 ⊢
    obtain ⟨g1,g2,g3,g4,u,g5,g6⟩:=fl_spec h1
    have hl:∀ i∈readsOf s,lk fr i=lk fr' i:=by
      intro i hi
      have hpu:pureV (lk fr i)=true:=by
        simp only [flatIn,Bool.and_eq_true,List.all_eq_true] at g1
        exact g1.1 i hi
      exact (hf i (by simp only [looksS,ho,readsOf,List.mem_append]; exact .inl hi) hpu).symm
    have h3:flatIn fr' s=true:=by
      rw [← g1]
      have e1:((readsOf s).all fun i=>pureV (lk fr' i))=(readsOf s).all fun i=>pureV (lk fr i):=by
        rw [Bool.eq_iff_iff,List.all_eq_true,List.all_eq_true]
        exact ⟨fun q i hi=>by rw [hl i hi]; exact q i hi,fun q i hi=>by rw [← hl i hi]; exact q i hi⟩
      have e2:((argsOf s).all fun x=>pureV (ev fr' x))=(argsOf s).all fun x=>pureV (ev fr x):=by
        rw [Bool.eq_iff_iff,List.all_eq_true,List.all_eq_true]
        have e:∀ x∈argsOf s,ev fr x=ev fr' x:=fun x hx=>ev_congr fun i hi=>hl i (argsOf_reads hx i hi)
        exact ⟨fun q i hi=>by rw [e i hi]; exact q i hi,fun q i hi=>by rw [← e i hi]; exact q i hi⟩
      simp only [flatIn,e1,e2]
    rw [aop_congr hl] at g5
    subst h2
    refine ⟨?_,g2⟩
    simp only [aop,h3,if_true,g5,g6,g2,just,Option.map_some]
  simp only [valF] at h ⊢
  cases hg:o.guard with
  | none=>simp only [hg] at h ⊢; exact main h
  | some gw =>
    obtain ⟨g,want⟩:=gw
    have hgl:pureV (lk fr g)=true→lk fr' g=lk fr g:=hf g (by simp [looksS,hg])
    simp only [hg] at h ⊢
    cases hl:lk fr g <;> simp only [hl] at h hgl <;> try (simp at h; done)
    · rename_i b
      rw [hgl rfl]
      simp only
      split at h
      · rename_i hb
        rw [if_pos hb]
        exact main h
      · rename_i hb
        rw [if_neg hb]
        refine ⟨h,?_⟩
        simp only [Option.some.injEq] at h; subst h; rfl
    · rename_i vs
      cases vs with
      | cons _ _=>simp at h
      | nil =>
        rw [hgl rfl]
        refine ⟨h,?_⟩
        simp only [Option.some.injEq] at h; subst h; rfl

theorem chainy_opF {p:SO} (hp:chainy p=true) (st:St):opF Γ p st=(aop Γ st.fr st.hp (p.dst.getD 0) p.op).map (fin st.fr p.dst):=by
  simp only [chainy,Bool.and_eq_true,Option.isNone_iff_eq_none] at hp
  simp only [opF,hp.1]
  refine stepF_eq fun x hx=>?_
  rw [hx] at hp; simp at hp

theorem comm_fc {o p:SO} {s:SOp} (ho:calm o.op=true) (hs:o.op=.fl s) (hp:chainy p=true) (A:Apart o p):Comm Γ o p:=by
  intro st s1 s2 h1 h2
  obtain ⟨a1,v,a2,a3⟩:=opF_val ho h1
  rw [chainy_opF hp] at h2
  obtain ⟨out,b1,b2⟩:=Option.map_eq_some_iff.1 h2
  rw [a1,aop_congr (fr':=st.fr) (fun i hi=>by rw [a3,if_neg (A.pLook i (by simp only [looksS,List.mem_append]; exact .inl hi))])] at b1
  have h3:opF Γ p st=some (fin st.fr p.dst out):=by rw [chainy_opF hp,b1]; rfl
  obtain ⟨e2,hv⟩:=valF_fl (fr':=(fin st.fr p.dst out).fr) (hp':=(fin st.fr p.dst out).hp) hs a2 (fun i hi hpu=>by
    rw [lk_fin,if_neg (A.oLook i hi)]; exact pureV_killA (.inl hpu))
  obtain ⟨t2,h4⟩:=valF_op ho e2
  obtain ⟨d1,v',d2,d3⟩:=opF_val ho h4
  rw [e2] at d2; injection d2 with d2; subst d2
  refine ⟨_,t2,h3,h4,by rw [← b2,d1]; rfl,fun i=>?_⟩
  rw [← b2,lk_fin,a3,d3,lk_fin]
  by_cases hi:o.dst=some i
  · rw [if_neg (A.dst i hi),if_pos hi,if_pos hi]; exact pureV_killA (.inl hv)
  · rw [if_neg hi,if_neg hi]

theorem comm_cf {o p:SO} {s:SOp} (ho:calm o.op=true) (hs:o.op=.fl s) (hp:chainy p=true) (A:Apart o p):Comm Γ p o:=by
  intro st s1 s2 h1 h2
  rw [chainy_opF hp] at h1
  obtain ⟨out,b1,b2⟩:=Option.map_eq_some_iff.1 h1
  subst b2
  obtain ⟨a1,v,a2,a3⟩:=opF_val ho h2
  obtain ⟨e2,hv⟩:=valF_fl (fr':=st.fr) (hp':=st.hp) hs a2 (fun i hi hpu=>by
    rw [lk_fin,if_neg (A.oLook i hi)] at hpu ⊢; exact (pureV_killA (.inr hpu)).symm)
  obtain ⟨t1,h4⟩:=valF_op ho e2
  obtain ⟨d1,v',d2,d3⟩:=opF_val ho h4
  rw [e2] at d2; injection d2 with d2; subst d2
  rw [← d1,aop_congr (fr':=t1.fr) (fun i hi=>by rw [d3,if_neg (A.pLook i (by simp only [looksS,List.mem_append]; exact .inl hi))])] at b1
  have h3:opF Γ p t1=some (fin t1.fr p.dst out):=by rw [chainy_opF hp,b1]; rfl
  refine ⟨t1,_,h4,h3,by rw [a1]; rfl,fun i=>?_⟩
  rw [a3,lk_fin,lk_fin,d3]
  by_cases hi:o.dst=some i
  · rw [if_pos hi,if_neg (A.dst i hi),if_pos hi]; exact (pureV_killA (.inl hv)).symm
  · rw [if_neg hi,if_neg hi]

theorem hpFree_hp {s:SOp} (hs:hpFree s=true) {out:Out} (h:aop Γ fr hp d s=some out) {hp':List (Nat × AObj)}:aop Γ fr hp' d s=some ⟨out.v,hp',[]⟩:=by
  have J:∀ {v:AV} {q:Option Out},just hp v=some out→q=just hp' v→q=some ⟨out.v,hp',[]⟩:=by
    intro v q h e; simp only [just,Option.some.injEq] at h; subst h; exact e
  cases s
  all_goals first
    | (simp [hpFree] at hs; done)
    | (simp only [aop] at h ⊢; exact J h rfl)
    | (simp only [aop] at h ⊢; (repeat' split at h) <;> first | (simp at h; done) | (simp_all only [reduceCtorEq]; done) | (simp_all only [reduceCtorEq]; exact J h rfl) | (simp_all; done) | (simp_all; exact J h rfl))

theorem valF_hp {o:SO} (ho:hpFree o.op=true) {v:AV} (h:valF Γ o fr hp=some v) {hp':List (Nat × AObj)}:valF Γ o fr hp'=some v:=by
  have main:(aop Γ fr hp (o.dst.getD 0) o.op).map (·.v)=some v→(aop Γ fr hp' (o.dst.getD 0) o.op).map (·.v)=some v:=by
    intro h
    obtain ⟨out,h1,h2⟩:=Option.map_eq_some_iff.1 h
    rw [hpFree_hp ho h1]
    simp only [Option.map_some,h2]
  simp only [valF] at h ⊢
  cases hg:o.guard with
  | none=>simp only [hg] at h ⊢; exact main h
  | some gw =>
    obtain ⟨g,want⟩:=gw
    simp only [hg] at h ⊢
    cases hl:lk fr g <;> simp only [hl] at h ⊢ <;> try (simp at h; done)
    · split at h
      · rename_i hb; rw [if_pos hb]; exact main h
      · rename_i hb; rw [if_neg hb]; exact h
    · rename_i vs
      cases vs with
      | cons _ _=>simp at h
      | nil=>exact h

theorem noNew_new {s:SOp} (hs:noNew s=true) {out:Out} (h:aop Γ fr hp d s=some out):out.new=[]:=by
  cases s <;> simp [noNew] at hs
  all_goals
    simp only [aop] at h
    (repeat' split at h) <;> first | (simp at h; done) | (simp only [Option.some.injEq] at h; subst h; rfl)

theorem mfind_insS {k s:List UInt8} {v:AV}:∀ {es:List (List UInt8 × AV)},mfind es s=none→mfind (insS es s v) k=if k=s then some v else mfind es k
  | [],_=>by simp only [insS,mfind]
  | (i,u)::r,h=>by
    simp only [mfind] at h
    split at h
    · simp at h
    · rename_i e
      simp only [insS]
      split
      · simp only [mfind]
      · simp only [mfind,mfind_insS h]
        by_cases h1:k=i
        · rw [if_pos h1,if_pos h1,if_neg (fun h2=>e (h2.symm.trans h1))]
        · rw [if_neg h1,if_neg h1]
theorem insS_comm {k1 k2:List UInt8} {v1 v2:AV} (hne:k1 ≠ k2):∀ es:List (List UInt8 × AV),insS (insS es k1 v1) k2 v2=insS (insS es k2 v2) k1 v1
  | []=>by
    simp only [insS]
    by_cases h:k1 < k2
    · rw [if_neg (List.lt_asymm h),if_pos h]
    · have h2:k2 < k1:=by
        rcases Decidable.em (k2 < k1) with h2 | h2
        · exact h2
        · exact absurd (List.le_antisymm (List.not_lt.1 h2) (List.not_lt.1 h)) hne
      rw [if_pos h2,if_neg h]
  | (i,u)::r=>by
    have lt_le:∀ {a b c:List UInt8},a < b→¬ c < b→a < c:=by
      intro a b c h h2
      rcases Decidable.em (a < c) with h3 | h3
      · exact h3
      · exact absurd (Std.lt_of_le_of_lt (List.not_lt.1 h3) h) h2
    have tri:¬ k1 < k2→k2 < k1:=fun h=>by
      rcases Decidable.em (k2 < k1) with h2 | h2
      · exact h2
      · exact absurd (List.le_antisymm (List.not_lt.1 h2) (List.not_lt.1 h)) hne
    by_cases a1:k1 < i
    · by_cases a2:k2 < i
      · simp only [insS,if_pos a1,if_pos a2]
        by_cases h:k1 < k2
        · rw [if_neg (List.lt_asymm h),if_pos h]
        · rw [if_pos (tri h),if_neg h]
      · have h12:k1 < k2:=lt_le a1 a2
        simp only [insS,if_pos a1,if_neg a2,if_neg (List.lt_asymm h12)]
    · by_cases a2:k2 < i
      · have h21:k2 < k1:=lt_le a2 a1
        simp only [insS,if_neg a1,if_pos a2,if_neg (List.lt_asymm h21)]
      · simp only [insS,if_neg a1,if_neg a2,insS_comm hne r]
theorem hset_comm {i j:Nat} {x y:AObj} (hne:i ≠ j):∀ hp:List (Nat × AObj),hset (hset hp i x) j y=hset (hset hp j y) i x
  | []=>rfl
  | (k,v)::r=>by
    by_cases h1:k=i
    · have h2:¬ k=j:=fun h=>hne (h1.symm.trans h)
      simp only [hset,if_pos h1,if_neg h2]
    · by_cases h2:k=j
      · simp only [hset,if_neg h1,if_pos h2]
      · simp only [hset,if_neg h1,if_neg h2,hset_comm hne r]
theorem md_spec {o:SO} (ho:isMd o.op=true):∃ m k v,o.op=.mputD m k v:=by
  cases h:o.op <;> rw [h] at ho <;> simp [isMd] at ho
  exact ⟨_,_,_,rfl⟩
theorem md_aop {m k v:Opd} {out:Out} (h:aop Γ fr hp d (.mputD m k v)=some out):∃ id s es,ev fr m=.mref id∧asS (ev fr k)=some s∧hlk hp id=some (.mp es)∧(atom (ev fr v)=true∧hasRef (ev fr v)=false)∧mfind es s=none∧out=⟨.junk,hset hp id (.mp (insS es s (ev fr v))),[]⟩:=by
  simp only [aop] at h
  cases hs:asS (ev fr k) with
  | none=>cases hxx:ev fr m <;> simp [hxx,hs] at h
  | some q =>
    cases hxx:ev fr m <;> simp only [hxx,hs] at h <;> try (simp at h; done)
    rename_i id
    cases hh:hlk hp id with
    | none=>simp [hh] at h
    | some ob =>
      cases ob <;> simp only [hh] at h <;> try (simp at h; done)
      rename_i es
      split at h
      · rename_i hc
        simp only [Option.some.injEq] at h
        exact ⟨id,q,es,rfl,rfl,hh,hc.1,hc.2,h.symm⟩
      · simp at h
theorem md_mk {m k v:Opd} {id:Nat} {s:List UInt8} {es:List (List UInt8 × AV)} (h1:ev fr m=.mref id) (h2:asS (ev fr k)=some s) (h3:hlk hp id=some (.mp es)) (h4:atom (ev fr v)=true∧hasRef (ev fr v)=false) (h5:mfind es s=none) :
    aop Γ fr hp d (.mputD m k v)=some ⟨.junk,hset hp id (.mp (insS es s (ev fr v))),[]⟩:=by
  simp only [aop,h1,h2,h3]
  exact if_pos ⟨h4,h5⟩
theorem comm_dd {o p:SO} (ho:isMd o.op=true) (hp:isMd p.op=true) (co:chainy o=true) (cp:chainy p=true) (A:Apart o p):Comm Γ o p:=by
  intro st s1 s2 h1 h2
  rw [chainy_opF co] at h1
  obtain ⟨out1,b1,b2⟩:=Option.map_eq_some_iff.1 h1
  subst b2
  rw [chainy_opF cp] at h2
  obtain ⟨out2,c1,c2⟩:=Option.map_eq_some_iff.1 h2
  have hnew:=noNew_new (by obtain ⟨_,_,_,e⟩:=md_spec ho; rw [e]; rfl) b1
  rw [aop_congr (fr':=st.fr) (fun i hi=>by rw [lk_fin,if_neg (A.pLook i (by simp only [looksS,List.mem_append]; exact .inl hi)),hnew]; rfl)] at c1
  obtain ⟨m,k,v,e1⟩:=md_spec ho
  obtain ⟨m',k',v',e2⟩:=md_spec hp
  rw [e1] at b1
  rw [e2] at c1
  obtain ⟨id,s,es,f1,f2,f3,f4,f5,rfl⟩:=md_aop b1
  obtain ⟨id',s',es',g1,g2,g3,g4,g5,rfl⟩:=md_aop c1
  have key:∃ es2,hlk st.hp id'=some (.mp es2)∧mfind es2 s'=none∧∃ es3,hlk (hset st.hp id' (.mp (insS es2 s' (ev st.fr v')))) id=some (.mp es3)∧mfind es3 s=none ∧
      hset (hset st.hp id' (.mp (insS es2 s' (ev st.fr v')))) id (.mp (insS es3 s (ev st.fr v)))=hset (hset st.hp id (.mp (insS es s (ev st.fr v)))) id' (.mp (insS es' s' (ev st.fr v'))):=by
    have g3':hlk (hset st.hp id (.mp (insS es s (ev st.fr v)))) id'=some (.mp es'):=g3
    by_cases hid:id'=id
    · subst hid
      rw [hlk_hset_same f3] at g3'
      simp only [Option.some.injEq,AObj.mp.injEq] at g3'
      subst g3'
      rw [mfind_insS f5] at g5
      split at g5
      · simp at g5
      · rename_i hne
        refine ⟨es,f3,g5,_,hlk_hset_same f3,?_,?_⟩
        · rw [mfind_insS g5,if_neg (fun h=>hne h.symm)]; exact f5
        · rw [hset_hset,hset_hset,insS_comm hne]
    · rw [hlk_hset,if_neg hid] at g3'
      refine ⟨es',g3',g5,es,?_,f5,hset_comm hid _⟩
      rw [hlk_hset,if_neg (fun h=>hid h.symm)]; exact f3
  obtain ⟨es2,k1,k2,es3,k3,k4,k5⟩:=key
  have hp1:opF Γ p st=some (fin st.fr p.dst ⟨.junk,hset st.hp id' (.mp (insS es2 s' (ev st.fr v'))),[]⟩):=by
    rw [chainy_opF cp,e2,md_mk g1 g2 k1 g4 k2]; rfl
  have hp2:opF Γ o (fin st.fr p.dst ⟨.junk,hset st.hp id' (.mp (insS es2 s' (ev st.fr v'))),[]⟩)=some (fin (fin st.fr p.dst ⟨.junk,hset st.hp id' (.mp (insS es2 s' (ev st.fr v'))),[]⟩).fr o.dst ⟨.junk,hset (hset st.hp id' (.mp (insS es2 s' (ev st.fr v')))) id (.mp (insS es3 s (ev st.fr v))),[]⟩):=by
    rw [chainy_opF co]
    rw [aop_congr (fr':=st.fr) (fun i hi=>by rw [lk_fin,if_neg (A.oLook i (by simp only [looksS,List.mem_append]; exact .inl hi))]; rfl)]
    rw [e1]
    have:(fin st.fr p.dst ⟨.junk,hset st.hp id' (.mp (insS es2 s' (ev st.fr v'))),[]⟩).hp=hset st.hp id' (.mp (insS es2 s' (ev st.fr v'))):=rfl
    rw [this,md_mk f1 f2 k3 f4 k4]; rfl
  refine ⟨_,_,hp1,hp2,?_,fun i=>?_⟩
  · rw [← c2]; exact k5.symm
  · rw [← c2,lk_fin,lk_fin,lk_fin,lk_fin]
    simp only [killA]
    by_cases hi:o.dst=some i
    · rw [if_neg (A.dst i hi),if_pos hi,if_pos hi]
    · rw [if_neg hi,if_neg hi]

theorem comm_hs {o p:SO} (ho:calm o.op=true) (hs:hpFree o.op=true) (hp:chainy p=true) (hn:noNew p.op=true) (A:Apart o p):Comm Γ o p:=by
  intro st s1 s2 h1 h2
  obtain ⟨a1,v,a2,a3⟩:=opF_val ho h1
  rw [chainy_opF hp] at h2
  obtain ⟨out,b1,b2⟩:=Option.map_eq_some_iff.1 h2
  rw [a1,aop_congr (fr':=st.fr) (fun i hi=>by rw [a3,if_neg (A.pLook i (by simp only [looksS,List.mem_append]; exact .inl hi))])] at b1
  have hnew:=noNew_new hn b1
  have h3:opF Γ p st=some (fin st.fr p.dst out):=by rw [chainy_opF hp,b1]; rfl
  have e2:valF Γ o (fin st.fr p.dst out).fr (fin st.fr p.dst out).hp=some v:=by
    refine valF_hp hs (hp:=st.hp) ?_
    rw [← a2]
    refine valF_congr ho fun i hi=>?_
    rw [lk_fin,if_neg (A.oLook i hi),hnew]; rfl
  obtain ⟨t2,h4⟩:=valF_op ho e2
  obtain ⟨d1,v',d2,d3⟩:=opF_val ho h4
  rw [e2] at d2; injection d2 with d2; subst d2
  refine ⟨_,t2,h3,h4,by rw [← b2,d1]; rfl,fun i=>?_⟩
  rw [← b2,lk_fin,a3,d3,lk_fin,hnew]
  simp only [killA]
  by_cases hi:o.dst=some i
  · rw [if_neg (A.dst i hi),if_pos hi,if_pos hi]
  · rw [if_neg hi,if_neg hi]

theorem comm_sh {o p:SO} (ho:calm o.op=true) (hs:hpFree o.op=true) (hp:chainy p=true) (hn:noNew p.op=true) (A:Apart o p):Comm Γ p o:=by
  intro st s1 s2 h1 h2
  rw [chainy_opF hp] at h1
  obtain ⟨out,b1,b2⟩:=Option.map_eq_some_iff.1 h1
  subst b2
  have hnew:=noNew_new hn b1
  obtain ⟨a1,v,a2,a3⟩:=opF_val ho h2
  have e2:valF Γ o st.fr st.hp=some v:=by
    refine valF_hp hs (hp:=(fin st.fr p.dst out).hp) ?_
    rw [← a2]
    refine valF_congr ho fun i hi=>?_
    rw [lk_fin,if_neg (A.oLook i hi),hnew]; rfl
  obtain ⟨t1,h4⟩:=valF_op ho e2
  obtain ⟨d1,v',d2,d3⟩:=opF_val ho h4
  rw [e2] at d2; injection d2 with d2; subst d2
  rw [← d1,aop_congr (fr':=t1.fr) (fun i hi=>by rw [d3,if_neg (A.pLook i (by simp only [looksS,List.mem_append]; exact .inl hi))])] at b1
  have h3:opF Γ p t1=some (fin t1.fr p.dst out):=by rw [chainy_opF hp,b1]; rfl
  refine ⟨t1,_,h4,h3,by rw [a1]; rfl,fun i=>?_⟩
  rw [a3,lk_fin,lk_fin,d3,hnew]
  simp only [killA]
  by_cases hi:o.dst=some i
  · rw [if_pos hi,if_neg (A.dst i hi),if_pos hi]
  · rw [if_neg hi,if_neg hi]

theorem mv_opF {o:SO} (ho:isMv o=true):∃ i,i∈looksS o∧∀ st,opF Γ o st=some ⟨putS st.fr o.dst (lk st.fr i),st.hp⟩:=by
  obtain ⟨dst,op,g⟩:=o
  cases op <;> simp only [isMv,Bool.and_eq_true,Option.isNone_iff_eq_none,and_false,Bool.false_eq_true] at ho
  rename_i x
  cases x with
  | k c=>simp at ho
  | t i =>
    obtain ⟨hg,_⟩:=ho
    subst hg
    refine ⟨i,?_,fun st=>?_⟩
    · simp [looksS,readsOf,opdS]
    · simp [opF,stepF,aop,ev,just,fin,killFs]

theorem comm_ms {o p:SO} (ho:isMv o=true) (hp:chainy p=true) (A:Apart o p):Comm Γ o p:=by
  intro st s1 s2 h1 h2
  obtain ⟨i,hi,e⟩:=mv_opF (Γ:=Γ) ho
  rw [e] at h1
  injection h1 with h1
  subst h1
  rw [chainy_opF hp] at h2
  obtain ⟨out,b1,b2⟩:=Option.map_eq_some_iff.1 h2
  simp only at b1
  rw [aop_congr (fr':=st.fr) (fun j hj=>by rw [lk_putS,if_neg (A.pLook j (by simp only [looksS,List.mem_append]; exact .inl hj))])] at b1
  have h3:opF Γ p st=some (fin st.fr p.dst out):=by rw [chainy_opF hp,b1]; rfl
  refine ⟨_,_,h3,e _,by rw [← b2]; rfl,fun j=>?_⟩
  rw [← b2,lk_fin,lk_putS]
  simp only
  rw [lk_putS,lk_fin,lk_fin,if_neg (A.oLook i hi)]
  by_cases hj:o.dst=some j
  · rw [if_neg (A.dst j hj),if_pos hj,if_pos hj]
  · rw [if_neg hj,if_neg hj]

theorem comm_sm {o p:SO} (ho:isMv o=true) (hp:chainy p=true) (A:Apart o p):Comm Γ p o:=by
  intro st s1 s2 h1 h2
  obtain ⟨i,hi,e⟩:=mv_opF (Γ:=Γ) ho
  rw [chainy_opF hp] at h1
  obtain ⟨out,b1,b2⟩:=Option.map_eq_some_iff.1 h1
  subst b2
  rw [e] at h2
  injection h2 with h2
  subst h2
  have h3:opF Γ p ⟨putS st.fr o.dst (lk st.fr i),st.hp⟩=some (fin (putS st.fr o.dst (lk st.fr i)) p.dst out):=by
    rw [chainy_opF hp]
    simp only
    rw [aop_congr (fr':=st.fr) (fun j hj=>by rw [lk_putS,if_neg (A.pLook j (by simp only [looksS,List.mem_append]; exact .inl hj))]),b1]
    rfl
  refine ⟨_,_,e st,h3,rfl,fun j=>?_⟩
  rw [lk_putS,lk_fin,lk_fin,lk_fin,if_neg (A.oLook i hi),lk_putS]
  by_cases hj:o.dst=some j
  · rw [if_pos hj,if_neg (A.dst j hj),if_pos hj]
  · rw [if_neg hj,if_neg hj]

theorem nw_ext {q:Nat} {s:SOp} {Z:AObj} (hz:refsO Z=[]) {out:Out} (h:aop Γ fr hp d (.nw q s)=some out) (hf:∀ i∈readsOf s,lk fr' i=kill q (lk fr i)) :
    aop Γ fr' (hpE q Z hp) d (.nw q s)=some (outE q Z out)∧q ∉ out.new∧q ∉ refs out.v∧q ≠ d:=by
  obtain ⟨h1,h2,h3⟩:=nw_aop h
  simp only [nwIn,Bool.and_eq_true,List.all_eq_true] at h1
  obtain ⟨hk,hn⟩:=h1
  have hfe:∀ i∈readsOf s,lk fr i=lk fr' i:=fun i hi=>by rw [hf i hi,kill_no (noD_spec (hn i hi)).1]
  have hin:nwIn q fr' (hpE q Z hp) s=true:=by
    simp only [nwIn,Bool.and_eq_true,List.all_eq_true]
    exact ⟨hk,fun i hi=>by rw [← hfe i hi]; exact noD_E (hn i hi)⟩
  simp only [nwOut,Bool.and_eq_true,decide_eq_true_eq,Bool.not_eq_true'] at h3
  obtain ⟨⟨hqd,hv⟩,hhp⟩:=h3
  have hv':q ∉ refs out.v:=by simpa using hv
  have hho:∀ o,hlk out.hp d=some o→q ∉ refsO o:=fun o ho=>by rw [ho] at hhp; simpa using hhp
  have zq:d ∉ refsO Z:=by rw [hz]; simp
  have key:aop Γ fr (hpE q Z hp) d s=some (outE q Z out)∧q ∉ out.new:=by
    cases s <;> try (simp [okNw] at hk; done)
    case mkSl es n zero parts =>
      simp only [aop] at h2 ⊢
      split at h2
      · rename_i cs e
        simp only [made,Option.some.injEq] at h2 ⊢; subst h2
        have hc:q ∉ refsO (.cells (killL d cs)):=hho _ (by simp only [hlk,if_true])
        refine ⟨?_,by simpa using hqd⟩
        simp only [outE,hpE,killH,if_neg (Ne.symm hqd),killO_no hc,killH_end hqd zq,killH_comm d q]
        rfl
      · simp at h2
    case app es b x y =>
      cases x <;> cases y <;> try (simp [okNw] at hk; done)
      rename_i i j
      simp only [aop,ev] at h2 ⊢
      rw [slCells_E (hn j (by simp [readsOf,opdS]))]
      cases hys:slCells hp (lk fr j) with
      | none=>rw [hys] at h2; simp at h2
      | some ys =>
        cases hkc:ycount es (lk fr j) with
        | none=>rw [hys,hkc] at h2; simp at h2
        | some k =>
          rw [hys,hkc] at h2
          simp only at h2 ⊢
          exact aapp_E hqd hz (hn i (by simp [readsOf,opdS])) h2 fun o r e _=>hho o (by rw [e]; simp only [hlk,if_true])
    case appF es b x y =>
      cases x <;> cases y <;> try (simp [okNw] at hk; done)
      rename_i i j
      simp only [aop,ev] at h2 ⊢
      rw [slCells_E (hn j (by simp [readsOf,opdS]))]
      cases hys:slCells hp (lk fr j) with
      | none=>rw [hys] at h2; simp at h2
      | some ys =>
        cases hkc:ycount es (lk fr j) with
        | none=>rw [hys,hkc] at h2; simp at h2
        | some k =>
          rw [hys,hkc] at h2
          simp only at h2 ⊢
          by_cases hk0:k=0
          · simp [hk0] at h2
          rw [if_neg hk0] at h2 ⊢
          cases ha:aapp hp d es b (lk fr i) ys k with
          | none=>rw [ha] at h2; simp [frzOut] at h2
          | some out0 =>
            obtain ⟨m,cs,hp1,new,rfl⟩:=aapp_shape ha hk0
            rw [ha] at h2
            simp only [frzOut] at h2
            split at h2
            · rename_i hc
              simp only [Option.some.injEq] at h2; subst h2
              have hr:q ∉ refsO (.cells cs):=by simp only [refsO]; rw [refsL_none hc.2.1]; simp
              obtain ⟨e1,e2⟩:=aapp_E hqd hz (hn i (by simp [readsOf,opdS])) ha fun o r e _=>by
                simp only [List.cons.injEq,Prod.mk.injEq,true_and] at e
                rw [← e.1]; exact hr
              rw [e1]
              simp only [outE,hpE,killH,if_neg (Ne.symm hqd),killO_no hr,List.cons_append,frzOut,if_pos hc,true_and]
              exact e2
            · simp at h2
  obtain ⟨k1,k2⟩:=key
  refine ⟨?_,k2,hv',hqd⟩
  have k3:aop Γ fr' (hpE q Z hp) d s=some (outE q Z out):=by rw [← aop_congr hfe]; exact k1
  have ho:nwOut q d (outE q Z out)=true:=by
    simp only [nwOut,Bool.and_eq_true,decide_eq_true_eq,Bool.not_eq_true',outE]
    refine ⟨⟨hqd,hv⟩,?_⟩
    cases hl:hlk out.hp d with
    | none=>rw [hlk_E_none (Ne.symm hqd) hl]
    | some o=>rw [hlk_E (Ne.symm hqd) hl (hho o hl)]; simpa using hho o hl
  simp only [aop,hin,if_true,k3,ho]

theorem killA_comm (q:Nat):∀ (l:List Nat) (v:AV),killA l (kill q v)=kill q (killA l v)
  | [],_=>rfl
  | d::l,v=>by simp only [killA]; rw [kill_comm d q,killA_comm q l]
theorem killA_ref {q:Nat}:∀ {l:List Nat},q ∉ l→killA l (.ref q 0)=.ref q 0
  | [],_=>rfl
  | d::l,h=>by
    simp only [List.mem_cons,not_or] at h
    simp only [killA,kill,if_neg h.1]
    exact killA_ref h.2
theorem isNA_spec {t s:SO} (h:isNA t s=true):∃ q d x z,t=⟨some d,.nw q x,none⟩∧s=⟨some q,.allocE z,none⟩∧d ≠ q:=by
  obtain ⟨td,to,tg⟩:=t
  obtain ⟨sd,so,sg⟩:=s
  simp only [isNA,Bool.and_eq_true,Option.isNone_iff_eq_none] at h
  obtain ⟨⟨rfl,rfl⟩,h⟩:=h
  split at h
  · rename_i q x z d e
    simp only [Bool.and_eq_true,beq_iff_eq,bne_iff_ne,ne_eq] at h
    obtain ⟨rfl,h⟩:=h
    exact ⟨_,d,x,z,rfl,rfl,h⟩
  · simp at h
theorem comm_na {t s:SO} (h:isNA t s=true) (A:Apart t s):Comm Γ t s:=by
  obtain ⟨q,d,x,z,rfl,rfl,hdq⟩:=isNA_spec h
  intro st s1 s2 h1 h2
  have e1:∀ st,opF Γ ⟨some d,.nw q x,none⟩ st=(aop Γ st.fr st.hp d (.nw q x)).map (fin st.fr (some d)):=fun _=>rfl
  have e2:∀ st,opF Γ ⟨some q,.allocE z,none⟩ st=(aop Γ st.fr st.hp q (.allocE z)).map (fin st.fr (some q)):=fun _=>rfl
  rw [e1] at h1
  obtain ⟨out,b1,b2⟩:=Option.map_eq_some_iff.1 h1
  subst b2
  rw [e2] at h2
  obtain ⟨out2,c1,c2⟩:=Option.map_eq_some_iff.1 h2
  simp only [aop] at c1
  split at c1
  · rename_i hr
    simp only [Option.some.injEq] at c1; subst c1
    have hz:refsO (.cells z)=[]:=by simp only [refsO]; exact refsL_none hr
    have al:opF Γ ⟨some q,.allocE z,none⟩ st=some (fin st.fr (some q) ⟨.ref q 0,hpE q (.cells z) st.hp,[q]⟩):=by
      rw [e2]; simp only [aop,if_pos hr]; rfl
    have hx:∀ i∈readsOf x,i ≠ q:=fun i hi e=>by
      subst e
      exact A.oLook i (by simp only [looksS,List.mem_append,readsOf]; exact .inl hi) rfl
    obtain ⟨k1,k2,k3,k4⟩:=nw_ext (fr':=(fin st.fr (some q) ⟨.ref q 0,hpE q (.cells z) st.hp,[q]⟩).fr) hz b1 fun i hi=>by
      rw [lk_fin,if_neg (by simpa using (hx i hi).symm)]
      rfl
    refine ⟨_,fin (fin st.fr (some q) ⟨.ref q 0,hpE q (.cells z) st.hp,[q]⟩).fr (some d) (outE q (.cells z) out),al,?_,?_⟩
    · rw [e1]
      have:(fin st.fr (some q) ⟨.ref q 0,hpE q (.cells z) st.hp,[q]⟩).hp=hpE q (.cells z) st.hp:=rfl
      rw [this,k1]; rfl
    · rw [← c2]
      refine ⟨rfl,fun i=>?_⟩
      rw [lk_fin,lk_fin,lk_fin,lk_fin]
      by_cases hq:some q=some i
      · rw [if_pos hq]
        have hd:¬ (some d=some i):=by
          simp only [Option.some.injEq] at hq ⊢; subst hq; exact hdq
        rw [if_neg hd,if_pos hq]
        simp only [outE]
        exact (killA_ref k2).symm
      · rw [if_neg hq]
        by_cases hd:some d=some i
        · rw [if_pos hd,if_pos hd]
          simp only [killA,outE]
          exact kill_no k3
        · rw [if_neg hd,if_neg hd,if_neg hq]
          simp only [killA,outE]
          exact (killA_comm q _ _).symm
  · simp at c1

theorem move_front {x:SO} {r2:List SO}:∀ (r1:List SO) {st s':St},opsF Γ (r1++x::r2) st=some s'→(∀ y∈r1,Comm Γ y x) →
    ∃ st1 s'',opF Γ x st=some st1∧opsF Γ (r1++r2) st1=some s''∧Eqv s' s''
  | [],st,s',h,_=>by
    simp only [List.nil_append,opsF] at h
    cases h1:opF Γ x st with
    | none=>simp [h1] at h
    | some st1=>simp only [h1,Option.bind_some] at h; exact ⟨st1,s',rfl,h,Eqv.rfl'⟩
  | y::r1,st,s',h,hc=>by
    simp only [List.cons_append,opsF] at h
    cases h1:opF Γ y st with
    | none=>simp [h1] at h
    | some sy =>
      simp only [h1,Option.bind_some] at h
      obtain ⟨sx,s'',h2,h3,E⟩:=move_front r1 h (fun z hz=>hc z (by simp [hz]))
      obtain ⟨t1,t2,h4,h5,E2⟩:=hc y (by simp) st sy sx h1 h2
      obtain ⟨t',h6,E3⟩:=opsF_congr _ E2 h3
      exact ⟨t1,t',h4,by simp only [List.cons_append,opsF,h5,Option.bind_some,h6],E.trans E3⟩
end
end Wax


namespace Wax
open Go Go.RowKit

section
variable {P:Program} {T:Tab} {L:Lay} {w0:World} {F0:Base} {n:Nat} {Γ:Gam} {ops:Array Oper} {Q:Exit→Act→World→Prop}

theorem binds_any {md:Region.Mode} {e:Edge} (h:Region.binds .any e=true):Region.binds md e=true:=by
  unfold Region.binds at *
  split at h <;> simp_all

theorem ready_spec {md:Region.Mode} {listed:Array Bool} {i:Nat} (h:i∈Region.ready md ops listed):∃ o,ops[i]? = some o∧listed.getD i true=false∧∀ j∈edgesTo o,listed.getD j false=true:=by
  obtain ⟨h1,h2,h3⟩:i < ops.size∧(!listed.getD i true)=true∧((ops[i]?).map (·.after.all fun e => !Region.binds md e || listed.getD e.on false)).getD false=true:=by
    simpa [Region.ready,List.mem_filter,and_assoc] using h
  refine ⟨ops[i],by simp [h1],by simpa using h2,?_⟩
  intro j hj
  simp only [edgesTo,List.mem_map,List.mem_filter] at hj
  obtain ⟨e,⟨he1,he2⟩,rfl⟩:=hj
  simp only [Array.getElem?_eq_getElem h1,Option.map_some,Option.getD_some,Array.all_eq_true'] at h3
  have:=h3 e (by simpa using he1)
  simpa [binds_any he2] using this

theorem drawC_order {l:List SO} (h:drawC ops l=true):∀ md,okOrder ops md=true:=by
  simp only [drawC,Bool.and_eq_true] at h
  intro md
  cases md
  · exact h.1.1.2
  · exact h.1.2
  · exact h.1.1.1

def Down (ops:Array Oper) (listed:Array Bool):Prop:=∀ i,listed.getD i false=true→∀ j∈preds ops i,listed.getD j false=true

theorem clos_listed {listed:Array Bool} (hd:Down ops listed):∀ (n:Nat) (todo acc:List Nat),(∀ i∈todo,listed.getD i false=true)→(∀ i∈acc,listed.getD i false=true)→∀ i∈clos ops n todo acc,listed.getD i false=true
  | 0,todo,acc,_,ha=>by simpa [clos] using ha
  | n+1,[],acc,_,ha=>by simpa [clos] using ha
  | n+1,i::r,acc,ht,ha=>by
    simp only [clos]
    split
    · exact clos_listed hd n r acc (fun j hj=>ht j (by simp [hj])) ha
    · refine clos_listed hd n _ _ ?_ ?_
      · intro j hj
        rcases List.mem_append.1 hj with hj | hj
        · exact hd i (ht i (by simp)) j hj
        · exact ht j (by simp [hj])
      · intro j hj
        rcases List.mem_cons.1 hj with e | hj
        · rw [e]; exact ht i (by simp)
        · exact ha j hj

theorem waits_listed {listed:Array Bool} (hd:Down ops listed) {i j:Nat} (hp:∀ k∈preds ops i,listed.getD k false=true) (hw:waitsAt (waitsL ops) i j=true):listed.getD j false=true:=by
  simp only [waitsAt,waitsL,List.contains_eq_mem,decide_eq_true_eq] at hw
  by_cases hi:i < ops.size
  · rw [List.getD_eq_getElem?_getD,List.getElem?_map,List.getElem?_range hi] at hw
    simp only [Option.map_some,Option.getD_some] at hw
    exact clos_listed hd _ _ _ hp (by simp) j hw
  · rw [List.getD_eq_getElem?_getD,List.getElem?_map,List.getElem?_eq_none (by simp; omega)] at hw
    simp at hw

theorem isCut_spec {W:List (List Nat)} {n c:Nat} (h:isCut W n c=true) {i j:Nat} (hi:i < c) (hc:c≤j) (hj:j < n):waitsAt W j i=true:=by
  simp only [isCut,List.all_eq_true,List.mem_range,Bool.or_eq_true,decide_eq_true_eq] at h
  rcases h j hj with h | h
  · omega
  · exact h i hi

theorem le_nextCut {W:List (List Nat)} {n:Nat}:∀ (f c:Nat),c≤nextCut W n f c
  | 0,c=>by simp [nextCut]
  | f+1,c=>by
    simp only [nextCut]
    split
    · omega
    · have:=le_nextCut (W:=W) (n:=n) f (c+1); omega

structure Blk (W:List (List Nat)) (l:List SO) (lo hi:Nat):Prop where
  lt:lo < hi
  le:hi≤l.length
  cut:isCut W l.length hi=true
  one:hi=lo+1∨∀ (i:Nat) (s:SO),lo≤i→i < hi→l[i]? = some s→drawAt W l lo hi i s=true

theorem drawB_spec {W:List (List Nat)} {l:List SO} {f lo:Nat} (h:drawB W l (f+1) lo=true):l.length≤lo∨∃ hi,Blk W l lo hi∧drawB W l f hi=true:=by
  simp only [drawB,Bool.or_eq_true,Bool.and_eq_true,decide_eq_true_eq] at h
  rcases h with h | ⟨⟨⟨h1,h2⟩,h3⟩,h4⟩
  · exact .inl h
  · refine .inr ⟨_,⟨?_,h2,h1,?_⟩,h4⟩
    · exact le_nextCut l.length (lo+1)
    · rcases h3 with h3 | h3
      · exact .inl h3
      · right
        intro i s hlo hhi hs
        simp only [List.all_eq_true,List.mem_range] at h3
        have hil:i < l.length:=by
          rcases Nat.lt_or_ge i l.length with h | h
          · exact h
          · simp [List.getElem?_eq_none h] at hs
        have:=h3 i hil
        simp only [hs,Bool.or_eq_true,decide_eq_true_eq] at this
        rcases this with (h | h) | h
        · omega
        · omega
        · exact h

theorem drawAt_spec {W:List (List Nat)} {l:List SO} {lo hi i:Nat} {s:SO} (h:drawAt W l lo hi i s=true):(calm s.op=true∨chainy s=true)∧∀ (j:Nat) (t:SO),lo≤j→j < hi→l[j]? = some t →
    ((j=i∨i < j∨waitsAt W i j=true)∨(calm s.op=true∧(((calm t.op=true∨isFl s.op=true)∨(hpFree s.op=true∧noNew t.op=true))∨isMv s=true))∨(calm s.op=false∧calm t.op=true∧((isFl t.op=true∨(hpFree t.op=true∧noNew s.op=true))∨isMv t=true))∨(isMd s.op=true∧isMd t.op=true)∨isNA t s=true) ∧
    ∀ d,t.dst=some d→(s.dst=some d→j=i)∧(d∈looksS s→(j < i∧waitsAt W i j=true)∨(i < j∧waitsAt W j i=true)):=by
  simp only [drawAt,Bool.and_eq_true,Bool.or_eq_true,List.all_eq_true,List.mem_range] at h
  obtain ⟨h1,h3⟩:=h
  refine ⟨h1,?_⟩
  intro j t hlo hhi hj
  have hjl:j < l.length:=by
    rcases Nat.lt_or_ge j l.length with h | h
    · exact h
    · simp [List.getElem?_eq_none h] at hj
  have h4:=h3 j hjl
  simp only [hj,Bool.or_eq_true,Bool.and_eq_true,Bool.not_eq_true',decide_eq_true_eq,beq_iff_eq] at h4
  rcases h4 with (h4 | h4) | h4
  · omega
  · omega
  obtain ⟨h5,h6⟩:=h4
  refine ⟨?_,?_⟩
  · rcases h5 with (((((h5 | h5) | h5) | h5) | h5) | h5) | h5
    · exact .inl (.inl h5)
    · exact .inl (.inr (.inl h5))
    · exact .inl (.inr (.inr h5))
    · exact .inr (.inl h5)
    · exact .inr (.inr (.inl ⟨h5.1.1,h5.1.2,h5.2⟩))
    · exact .inr (.inr (.inr (.inl h5)))
    · exact .inr (.inr (.inr (.inr h5)))
  intro d ht
  simp only [ht,Bool.or_eq_true,Bool.and_eq_true,Bool.not_eq_true',decide_eq_true_eq,beq_iff_eq] at h6
  obtain ⟨h5,h6⟩:=h6
  refine ⟨fun hsd=>?_,fun hl=>?_⟩
  · rcases h5 with h5 | h5
    · exact h5
    · exact absurd hsd h5
  · rcases h6 with (h6 | h6) | h6
    · simp [hl] at h6
    · exact .inl h6
    · exact .inr h6

theorem Apart.symm {o p:SO} (A:Apart o p):Apart p o:=⟨fun d h g=>A.dst d g h,A.pLook,A.oLook⟩

theorem comm_of {Γ:Gam} {W:List (List Nat)} {l:List SO} {lo hi i j:Nat} {s t:SO} (hs:drawAt W l lo hi i s=true) (ht:drawAt W l lo hi j t=true) (hi1:lo≤i) (hi2:i < hi) (hj1:lo≤j) (hji:j < i) (hli:l[i]? = some s) (hlj:l[j]? = some t) (hw:waitsAt W i j ≠ true):Comm Γ t s:=by
  obtain ⟨c1,p1⟩:=drawAt_spec hs
  obtain ⟨c2,p2⟩:=drawAt_spec ht
  obtain ⟨q1,q2⟩:=p1 j t hj1 (by omega) hlj
  obtain ⟨_,q4⟩:=p2 i s hi1 hi2 hli
  have A:Apart t s:=by
    refine ⟨fun d hd hd'=>?_,fun k hk hd=>?_,fun k hk hd=>?_⟩
    · have:=(q4 d hd').1 hd; omega
    · rcases (q4 k hd).2 hk with ⟨h,_⟩ | ⟨_,h⟩
      · omega
      · exact hw h
    · rcases (q2 k hd).2 hk with ⟨_,h⟩ | ⟨h,_⟩
      · exact hw h
      · omega
  have fl:∀ {q:SOp},isFl q=true→∃ z,q=.fl z:=by intro q h; cases q <;> simp [isFl] at h; exact ⟨_,rfl⟩
  rcases q1 with (h | h | h) | ⟨h1,((h2 | h2) | ⟨h2,h2'⟩) | h2⟩ | ⟨h1,h2,(h3 | ⟨h3,h3'⟩) | h3⟩ | ⟨h1,h2⟩ | hna
  · omega
  · omega
  · exact absurd h hw
  · exact comm_calm h2 h1 A
  · obtain ⟨z,hz⟩:=fl h2
    rcases c2 with h3 | h3
    · exact comm_calm h3 h1 A
    · exact comm_cf h1 hz h3 A.symm
  · rcases c2 with h3 | h3
    · exact comm_calm h3 h1 A
    · exact comm_sh h1 h2 h3 h2' A.symm
  · rcases c2 with h3 | h3
    · exact comm_calm h3 h1 A
    · exact comm_sm h2 h3 A.symm
  · obtain ⟨z,hz⟩:=fl h3
    rcases c1 with h4 | h4
    · rw [h1] at h4; simp at h4
    · exact comm_fc h2 hz h4 A
  · rcases c1 with h4 | h4
    · rw [h1] at h4; simp at h4
    · exact comm_hs h2 h3 h4 h3' A
  · rcases c1 with h4 | h4
    · rw [h1] at h4; simp at h4
    · exact comm_ms h3 h4 A
  · have nc:∀ {q:SO},isMd q.op=true→calm q.op ≠ true:=by
      intro q h
      obtain ⟨_,_,_,e⟩:=md_spec h
      rw [e]; simp [calm]
    exact comm_dd h2 h1 (c2.resolve_left (nc h2)) (c1.resolve_left (nc h1)) A
  · exact comm_na hna A

theorem opsF_append {Γ:Gam}:∀ (l m:List SO) (st:St),opsF Γ (l++m) st=(opsF Γ l st).bind (opsF Γ m)
  | [],m,st=>rfl
  | o::r,m,st=>by
    simp only [List.cons_append,opsF]
    cases opF Γ o st with
    | none=>rfl
    | some s=>simpa using opsF_append r m s

def unl (l:List SO) (listed:Array Bool) (lo k:Nat):List SO:=((List.range' lo k).filter fun i => !listed.getD i false).filterMap fun i=>l[i]?

theorem unl_none {l:List SO} {listed:Array Bool}:∀ (k lo:Nat),(∀ i,lo≤i→i < lo+k→listed.getD i false=true)→unl l listed lo k=[]
  | 0,lo,_=>rfl
  | k+1,lo,h=>by
    have ih:=unl_none (l:=l) k (lo+1) (fun i h1 h2=>h i (by omega) (by omega))
    simp only [unl] at ih ⊢
    rw [List.range'_succ,List.filter_cons_of_neg (by simp [h lo (by omega) (by omega)])]
    exact ih

theorem unl_all {l:List SO} {listed:Array Bool}:∀ (k lo:Nat),lo+k≤l.length→(∀ i,lo≤i→i < lo+k→listed.getD i false=false)→unl l listed lo k=(l.drop lo).take k
  | 0,lo,_,_=>by simp [unl]
  | k+1,lo,hk,h=>by
    have ih:=unl_all (l:=l) k (lo+1) (by omega) (fun i h1 h2=>h i (by omega) (by omega))
    simp only [unl] at ih ⊢
    have hlt:lo < l.length:=by omega
    rw [List.range'_succ,List.filter_cons_of_pos (by simp [h lo (by omega) (by omega)]),List.filterMap_cons_some (List.getElem?_eq_getElem hlt),List.drop_eq_getElem_cons hlt,List.take_succ_cons,ih]

theorem unl_congr {l:List SO} {listed listed':Array Bool} {lo k:Nat} (h:∀ i,lo≤i→i < lo+k→listed.getD i false=listed'.getD i false):unl l listed lo k=unl l listed' lo k:=by
  simp only [unl]
  congr 1
  apply List.filter_congr
  intro i hi
  rw [List.mem_range'_1] at hi
  rw [h i hi.1 hi.2]

theorem unl_split {l:List SO} {listed:Array Bool} {lo hi i:Nat} {s:SO} (h1:lo≤i) (h2:i < hi) (h3:listed.getD i false=false) (h4:l[i]? = some s) :
    unl l listed lo (hi - lo)=unl l listed lo (i - lo)++s::unl l listed (i+1) (hi - (i+1)):=by
  have e:List.range' lo (hi - lo)=List.range' lo (i - lo)++i::List.range' (i+1) (hi - (i+1)):=by
    have e1:i::List.range' (i+1) (hi - (i+1))=List.range' (lo+1 * (i - lo)) (hi - i):=by
      rw [show hi - i=(hi - (i+1))+1 by omega,List.range'_succ]
      congr 2 <;> omega
    rw [e1,List.range'_append,show i - lo+(hi - i)=hi - lo by omega]
  simp only [unl]
  rw [e,List.filter_append,List.filter_cons_of_pos (by simp [h3]),List.filterMap_append,List.filterMap_cons_some h4]

theorem unl_drop {l:List SO} {listed:Array Bool} {lo hi i:Nat} (h1:lo≤i) (h2:i < hi) (h3:listed.getD i false=true) :
    unl l listed lo (hi - lo)=unl l listed lo (i - lo)++unl l listed (i+1) (hi - (i+1)):=by
  have e:List.range' lo (hi - lo)=List.range' lo (i - lo)++i::List.range' (i+1) (hi - (i+1)):=by
    have e1:i::List.range' (i+1) (hi - (i+1))=List.range' (lo+1 * (i - lo)) (hi - i):=by
      rw [show hi - i=(hi - (i+1))+1 by omega,List.range'_succ]
      congr 2 <;> omega
    rw [e1,List.range'_append,show i - lo+(hi - i)=hi - lo by omega]
  simp only [unl]
  rw [e,List.filter_append,List.filter_cons_of_neg (by simp [h3]),List.filterMap_append]

theorem mem_unl {l:List SO} {listed:Array Bool} {lo k:Nat} {t:SO} (h:t∈unl l listed lo k):∃ j,lo≤j∧j < lo+k∧listed.getD j false=false∧l[j]? = some t:=by
  simp only [unl,List.mem_filterMap,List.mem_filter,List.mem_range'_1] at h
  obtain ⟨j,⟨⟨h1,h2⟩,h3⟩,h4⟩:=h
  exact ⟨j,h1,h2,by simpa using h3,h4⟩

def At (Γ:Gam) (l:List SO) (fin:St) (listed:Array Bool) (lo hi:Nat) (sh:St) (fr:List (Nat × AV)) (hp:List (Nat × AObj)):Prop :=
  (∃ s',opsF Γ (unl l listed lo (hi - lo)) ⟨fr,hp⟩=some s'∧Eqv s' sh)∧opsF Γ (l.drop hi) sh=some fin ∧
  (∀ i,i < lo→listed.getD i false=true)∧(∀ i,hi≤i→listed.getD i false=false)∧(∃ i,lo≤i∧i < hi∧listed.getD i false=false)

theorem all_listed {md:Region.Mode} (h:okOrder ops md=true) {listed:Array Bool} (hsz:listed.size=ops.size) (hr:Region.ready md ops listed=[]):∀ i,i < ops.size→listed.getD i false=true:=by
  have key:∀ r i,(Region.linearise md ops 0).idxOf i=r→i < ops.size→listed.getD i false=true:=by
    intro r
    induction r using Nat.strongRecOn with
    | _ r ih =>
      intro i hir hi
      apply Classical.byContradiction
      intro hn
      have hmem:i∈Region.ready md ops listed:=by
        have ho:ops[i]? = some ops[i]:=by simp [hi]
        have hfl:listed.getD i true=false:=by
          simp only [Array.getD_eq_getD_getElem?] at hn ⊢
          have hil:i < listed.size:=by omega
          simp [hil] at hn ⊢; exact hn
        simp only [Region.ready,List.mem_filter,List.mem_range]
        refine ⟨hi,?_⟩
        simp only [hfl,Bool.not_false,Bool.true_and,ho,Option.map_some,Option.getD_some,Array.all_eq_true']
        intro e he
        cases hb:Region.binds md e with
        | false=>rfl
        | true =>
          simp only [okOrder,List.all_eq_true,List.mem_range] at h
          have h1:=h i hi
          simp only [ho,List.all_eq_true] at h1
          have h2:=h1 e (by simpa using he)
          simp only [hb,Bool.not_true,Bool.false_or,Bool.and_eq_true,decide_eq_true_eq] at h2
          simp [ih _ (hir ▸ h2.2) e.on rfl h2.1]
      rw [hr] at hmem; simp at hmem
  exact fun i hi=>key _ i rfl hi

theorem draw_go (hT:TInj T) (G:GamOk P T Γ) {fin:St} {l:List SO} (hl:l=ops.toList.map (cOper P T L n ops)) (hord:∀ md,okOrder ops md=true)
    (hQ:∀ a w F ρ,Inv T w0 F0 n fin a w F ρ→Q .normal a w) (md:Region.Mode) :
    ∀ (fuel:Nat) (listed:Array Bool) (fr:List (Nat × AV)) (hp:List (Nat × AObj)) (a:Act) (w:World) (F:Frz) (ρ:Rho),listed.size=ops.size→listed.toList.count false≤fuel→Down ops listed→Inv T w0 F0 n ⟨fr,hp⟩ a w F ρ →
      (((∀ i,i < ops.size→listed.getD i false=true)∧(⟨fr,hp⟩:St)=fin)∨∃ f lo hi sh,Blk (waitsL ops) l lo hi∧drawB (waitsL ops) l f hi=true∧l.length < f+hi+1∧At Γ l fin listed lo hi sh fr hp) →
      wpAny P md ops Q fuel listed a w:=by
  have hlen:l.length=ops.size:=by simp [hl]
  have at_:∀ (i:Nat) (o:Oper),ops[i]? = some o→l[i]? = some (cOper P T L n ops o):=by
    intro i o h; simp [hl,h]
  -- all listed: done
  have done:∀ (listed:Array Bool) (a:Act) (w:World) (F:Frz) (ρ:Rho) fr hp,(⟨fr,hp⟩:St)=fin→Inv T w0 F0 n ⟨fr,hp⟩ a w F ρ→Q .normal a w:=by
    intro listed a w F ρ fr hp e I
    exact hQ a w F ρ (e ▸ I)
  have noready:∀ (listed:Array Bool),(∀ i,i < ops.size→listed.getD i false=true)→listed.size=ops.size→Region.ready md ops listed=[]:=by
    intro listed hall hsz
    rw [List.eq_nil_iff_forall_not_mem]
    intro i hi
    obtain ⟨o,ho,hl1,_⟩:=ready_spec hi
    have hi':i < ops.size:=by
      rcases Nat.lt_or_ge i ops.size with h' | h'
      · exact h'
      · simp [Array.getElem?_eq_none h'] at ho
    have:=hall i hi'
    simp only [Array.getD_eq_getD_getElem?] at this hl1
    have hil:i < listed.size:=by omega
    simp [hil] at this hl1
    rw [this] at hl1; simp at hl1
  intro fuel
  induction fuel with
  | zero =>
    intro listed fr hp a w F ρ hsz hcnt hdn I hs
    have hall:∀ i,i < ops.size→listed.getD i false=true:=by
      intro i hi
      have h0:listed.toList.count false=0:=by omega
      rw [List.count_eq_zero] at h0
      have hil:i < listed.size:=by omega
      simp only [Array.getD_eq_getD_getElem?,Array.getElem?_eq_getElem hil,Option.getD_some]
      cases hv:listed[i] with
      | true=>rfl
      | false=>exact absurd (by rw [← hv]; simp) h0
    rcases hs with ⟨_,e⟩ | ⟨f,lo,hi,sh,B,_,_,_,_,_,_,⟨i,h1,h2,h3⟩⟩
    · exact ⟨noready listed hall hsz,done listed a w F ρ fr hp e I⟩
    · have:=hall i (by have:=B.le; omega)
      rw [h3] at this; simp at this
  | succ fuel ih =>
    intro listed fr hp a w F ρ hsz hcnt hdn I hs
    rcases hs with ⟨hall,e⟩ | ⟨f,lo,hi,sh,B,hB,hf,hA⟩
    · refine ⟨fun _=>done listed a w F ρ fr hp e I,?_⟩
      intro i hi
      rw [noready listed hall hsz] at hi; simp at hi
    obtain ⟨⟨s',h1,hE⟩,h2,h4,h5,⟨i0,h6,h7,h8⟩⟩:=hA
    refine ⟨fun hr=>?_,?_⟩
    · have:=all_listed (hord md) hsz hr i0 (by have:=B.le; omega)
      rw [h8] at this; simp at this
    intro i hi'
    obtain ⟨o,ho,hli,hed⟩:=ready_spec hi'
    have hiops:i < ops.size:=by
      rcases Nat.lt_or_ge i ops.size with h' | h'
      · exact h'
      · simp [Array.getElem?_eq_none h'] at ho
    have hil:i < listed.size:=by omega
    have hli0:listed.getD i false=false:=by
      simp only [Array.getD_eq_getD_getElem?,Array.getElem?_eq_getElem hil,Option.getD_some] at hli ⊢; exact hli
    have hpr:preds ops i=edgesTo o:=by simp [preds,ho]
    have hw:∀ j,waitsAt (waitsL ops) i j=true→listed.getD j false=true:=fun j hj=>waits_listed hdn (i:=i) (by rw [hpr]; exact hed) hj
    have hlo:lo≤i:=by
      rcases Nat.lt_or_ge i lo with h | h
      · rw [h4 i h] at hli0; simp at hli0
      · exact h
    have hhi:i < hi:=by
      rcases Nat.lt_or_ge i hi with h | h
      · exact h
      · have:=hw i0 (isCut_spec B.cut h7 h (by omega))
        rw [h8] at this; simp at this
    have hset:∀ j,(listed.setIfInBounds i true).getD j false=true ↔ (j=i∨listed.getD j false=true):=by
      intro j
      simp only [Array.getD_eq_getD_getElem?,Array.getElem?_setIfInBounds]
      by_cases e:i=j
      · subst e; simp [hil]
      · rw [if_neg e]
        constructor
        · exact fun h=>.inr h
        · rintro (rfl | h)
          · exact absurd rfl e
          · exact h
    have hcnt':(listed.setIfInBounds i true).toList.count false≤fuel:=by
      have hfl:listed.toList[i]'(by simpa using hil)=false:=by
        simp only [Array.getD_eq_getD_getElem?,Array.getElem?_eq_getElem hil,Option.getD_some] at hli
        simpa using hli
      have hpos:0 < listed.toList.count false:=List.count_pos_iff.2 (by rw [← hfl]; simp)
      have:=List.count_set (a:=true) (b:=false) (l:=listed.toList) (i:=i) (h:=by simpa using hil)
      have e1:(if (listed.toList[i]'(by simpa using hil) == false)=true then 1 else 0)=1:=by rw [hfl]; rfl
      have e2:(if (true == false)=true then 1 else 0)=0:=rfl
      rw [Array.toList_setIfInBounds,this,e1,e2]
      omega
    have hdn':Down ops (listed.setIfInBounds i true):=by
      intro j hj k hk
      rw [hset]
      right
      rcases (hset j).1 hj with e | h
      · rw [e,hpr] at hk; exact hed k hk
      · exact hdn j h k hk
    -- the next block,where this one is done
    have next:∀ (fr':List (Nat × AV)) (a':Act) (w':World) (F':Frz) (ρ':Rho),(∀ j,lo≤j→j < hi→(listed.setIfInBounds i true).getD j false=true)→Inv T w0 F0 n ⟨fr',sh.hp⟩ a' w' F' ρ'→(∀ s,lk fr' s=lk sh.fr s) →
        wpAny P md ops Q fuel (listed.setIfInBounds i true) a' w':=by
      intro fr' a' w' F' ρ' hdone I' heq
      have hall:∀ j,j < hi→(listed.setIfInBounds i true).getD j false=true:=by
        intro j hj
        rcases Nat.lt_or_ge j lo with h | h
        · exact (hset j).2 (.inr (h4 j h))
        · exact hdone j h hj
      have hnot:∀ j,hi≤j→(listed.setIfInBounds i true).getD j false=false:=by
        intro j hj
        cases hv:(listed.setIfInBounds i true).getD j false with
        | false=>rfl
        | true =>
          rcases (hset j).1 hv with e | h
          · omega
          · rw [h5 j hj] at h; simp at h
      have I2:Inv T w0 F0 n ⟨sh.fr,sh.hp⟩ a' w' F' ρ':=I'.congr fun s=>(heq s).symm
      cases f with
      | zero =>
        have hge:l.length≤hi:=by simpa [drawB] using hB
        have hd:l.drop hi=[]:=List.drop_eq_nil_of_le hge
        rw [hd] at h2
        simp only [opsF,Option.some.injEq] at h2
        exact ih _ sh.fr sh.hp a' w' F' ρ' (by simp [hsz]) hcnt' hdn' I2 (.inl ⟨fun j hj=>hall j (by omega),h2⟩)
      | succ f =>
        rcases drawB_spec hB with hge | ⟨hi2,B2,hB2⟩
        · have hd:l.drop hi=[]:=List.drop_eq_nil_of_le hge
          rw [hd] at h2
          simp only [opsF,Option.some.injEq] at h2
          exact ih _ sh.fr sh.hp a' w' F' ρ' (by simp [hsz]) hcnt' hdn' I2 (.inl ⟨fun j hj=>hall j (by omega),h2⟩)
        · have hsplit:l.drop hi=(l.drop hi).take (hi2 - hi)++l.drop hi2:=by
            conv=>lhs; rw [← List.take_append_drop (hi2 - hi) (l.drop hi)]
            rw [List.drop_drop,show hi+(hi2 - hi)=hi2 by have:=B2.lt; omega]
          rw [hsplit,opsF_append] at h2
          cases h2':opsF Γ ((l.drop hi).take (hi2 - hi)) sh with
          | none=>simp [h2'] at h2
          | some sh2 =>
            simp only [h2',Option.bind_some] at h2
            refine ih _ sh.fr sh.hp a' w' F' ρ' (by simp [hsz]) hcnt' hdn' I2 (.inr ⟨f,hi,hi2,sh2,B2,hB2,by have:=B2.lt; omega,⟨sh2,?_,Eqv.rfl'⟩,h2,hall,fun j hj=>hnot j (by have:=B2.lt; omega),⟨hi,Nat.le_refl _,B2.lt,hnot hi (Nat.le_refl _)⟩⟩)
            rw [unl_all _ _ (by have:=B2.le; have:=B2.lt; omega) (fun j h1 _=>hnot j h1)]
            exact h2'
    have hli':l[i]? = some (cOper P T L n ops o):=at_ i o ho
    rw [unl_split hlo hhi hli0 hli'] at h1
    obtain ⟨st1,s'',k1,k2,k3⟩:=move_front _ h1 (by
      intro t ht
      obtain ⟨j,j1,j2,j3,j4⟩:=mem_unl ht
      rcases B.one with h1b | hall
      · omega
      · exact comm_of (hall i _ hlo hhi hli') (hall j t j1 (by omega) j4) hlo hhi j1 (by omega) hli' j4 (fun hw'=>by rw [hw j hw'] at j3; simp at j3))
    refine opF_sound hT G I ho k1 ?_
    intro a' w' F' ρ' I'
    obtain ⟨fr1,hp1⟩:=st1
    have hun:unl l (listed.setIfInBounds i true) lo (hi - lo)=unl l listed lo (i - lo)++unl l listed (i+1) (hi - (i+1)):=by
      rw [unl_drop hlo hhi ((hset i).2 (.inl rfl))]
      have same:∀ j,j ≠ i→(listed.setIfInBounds i true).getD j false=listed.getD j false:=by
        intro j hj
        rw [Bool.eq_iff_iff,hset]
        exact ⟨fun h=>h.resolve_left hj,.inr⟩
      congr 1
      · exact unl_congr fun j _ _=>same j (by omega)
      · exact unl_congr fun j _ _=>same j (by omega)
    rw [← hun] at k2
    have hE2:Eqv s'' sh:=k3.symm.trans hE
    by_cases hall:∃ j,lo≤j∧j < hi∧(listed.setIfInBounds i true).getD j false=false
    · refine ih _ fr1 hp1 a' w' F' ρ' (by simp [hsz]) hcnt' hdn' I' (.inr ⟨f,lo,hi,sh,B,hB,hf,⟨s'',k2,hE2⟩,h2,?_,?_,hall⟩)
      · intro j hj; exact (hset j).2 (.inr (h4 j hj))
      · intro j hj
        cases hv':(listed.setIfInBounds i true).getD j false with
        | false=>rfl
        | true =>
          rcases (hset j).1 hv' with e | h
          · omega
          · rw [h5 j hj] at h; simp at h
    · have hall':∀ j,lo≤j→j < hi→(listed.setIfInBounds i true).getD j false=true:=by
        intro j hj1 hj2
        cases hv':(listed.setIfInBounds i true).getD j false with
        | true=>rfl
        | false=>exact absurd ⟨j,hj1,hj2,hv'⟩ hall
      rw [unl_none _ _ (fun j h1 h2=>hall' j h1 (by omega))] at k2
      simp only [opsF,Option.some.injEq] at k2
      subst k2
      obtain ⟨e1,e2⟩:=hE2
      simp only at e1 e2
      subst e1
      exact next fr1 a' w' F' ρ' hall' I' e2

theorem draw_any (hT:TInj T) (G:GamOk P T Γ) {st fin:St} (hdr:drawC ops (ops.toList.map (cOper P T L n ops))=true) (hrun:opsF Γ (ops.toList.map (cOper P T L n ops)) st=some fin)
    (hQ:∀ a w F ρ,Inv T w0 F0 n fin a w F ρ→Q .normal a w) (md:Region.Mode) {a:Act} {w:World} {F:Frz} {ρ:Rho} (I:Inv T w0 F0 n st a w F ρ) :
    wpAny P md ops Q ops.size (Array.replicate ops.size false) a w:=by
  obtain ⟨l,hl⟩:∃ l,l=ops.toList.map (cOper P T L n ops):=⟨_,rfl⟩
  have hlen:l.length=ops.size:=by simp [hl]
  rw [← hl] at hrun hdr
  have hno:∀ i,(Array.replicate ops.size false).getD i false=false:=by
    intro i
    simp only [Array.getD_eq_getD_getElem?,Array.getElem?_replicate]
    split <;> rfl
  have hB:drawB (waitsL ops) l (l.length+1) 0=true:=by simp only [drawC,Bool.and_eq_true] at hdr; exact hdr.2
  refine draw_go (L:=L) (l:=l) hT G hl (drawC_order hdr) hQ md ops.size _ st.fr st.hp a w F ρ (by simp) (by rw [Array.toList_replicate,List.count_replicate]; simp) (fun i hi=>by rw [hno] at hi; simp at hi) I ?_
  rcases drawB_spec hB with hge | ⟨hi,B,hB2⟩
  · left
    have h0:l=[]:=List.length_eq_zero_iff.1 (by omega)
    rw [h0] at hrun
    simp only [opsF,Option.some.injEq] at hrun
    exact ⟨fun i hi=>by omega,hrun⟩
  · right
    have hsplit:l=(l.drop 0).take (hi - 0)++l.drop hi:=by simp
    rw [hsplit,opsF_append] at hrun
    cases h1:opsF Γ ((l.drop 0).take (hi - 0)) st with
    | none=>rw [h1] at hrun; simp at hrun
    | some sh =>
      rw [h1] at hrun
      simp only [Option.bind_some] at hrun
      refine ⟨l.length,0,hi,sh,B,hB2,by have:=B.lt; omega,⟨sh,?_,Eqv.rfl'⟩,hrun,fun i hi=>by omega,fun i _=>hno i,⟨0,Nat.le_refl _,B.lt,hno 0⟩⟩
      rw [unl_all _ _ (by have:=B.le; omega) (fun j _ _=>hno j)]
      exact h1
end
end Wax


namespace Wax
open Go Go.RowKit

section
variable {P:Program} {T:Tab} {L:Lay} {w0 w:World} {F0:Base} {n:Nat} {a:Act} {F:Frz} {ρ:Rho} {Γ:Gam}

theorem wp_loop_rel {σ:Type} {Q:Exit→Act→World→Prop} {c:Code} (I:σ→Act→World→Prop) (μ:σ→Nat)
    (round:∀ s a w,I s a w→c.wp P (Exit.then (fun a' w'=>∃ s',I s' a' w'∧μ s' < μ s) Q) a w) {s:σ} {a:Act} {w:World} (h₀:I s a w):(Code.loop c).wp P Q a w:=by
  intro b k cs
  have key:∀ n s a w,μ s=n→I s a w →
      ∃ e a' w',Q e a' w'∧Arrives P (lone (b.at a (.code c::.inLoop c::k)) cs w) b k cs e a' w':=by
    intro n
    induction n using Nat.strongRecOn with
    | _ n ih =>
      intro s a w hn hI
      obtain ⟨e,a₁,w₁,hq,harr⟩:=round s a w hI b (.inLoop c::k) cs
      cases e with
      | normal =>
        obtain ⟨s₁,hI₁,hlt⟩:=hq
        obtain ⟨e₂,a₂,w₂,hq₂,harr₂⟩:=ih (μ s₁) (hn ▸ hlt) s₁ a₁ w₁ rfl hI₁
        exact ⟨e₂,a₂,w₂,hq₂,.of_steps (Steps.trans harr (.one step_inLoop)) harr₂⟩
      | exit id=>exact ⟨_,a₁,w₁,hq,.pass (x:=.inLoop c) rfl (fun _ _=>.inl (by simp)) harr⟩
      | goto l=>exact ⟨_,a₁,w₁,hq,.pass (x:=.inLoop c) rfl (fun _ _=>.inl (by simp)) harr⟩
      | ret=>exact ⟨_,a₁,w₁,hq,.pass (x:=.inLoop c) rfl (fun _ _=>.inl (by simp)) harr⟩
      | panic ch=>exact ⟨_,a₁,w₁,hq,.pass (x:=.inLoop c) rfl (fun _ _=>.inl (by simp)) harr⟩
      | outgrown=>exact ⟨_,a₁,w₁,hq,.pass (x:=.inLoop c) rfl (fun _ _=>.inl (by simp)) harr⟩
  obtain ⟨e,a',w',hq,harr⟩:=key _ s a w rfl h₀
  exact ⟨e,a',w',hq,.of_steps (.one step_loop) harr⟩

def up (T:Tab) (w0:World) (F0:Base) (n:Nat) (Q:APost) (e:AExit) (a:Act) (w:World):Prop :=
  ∃ st F ρ,Q e st∧Inv T w0 F0 n st a w F ρ

def upX (T:Tab) (w0:World) (F0:Base) (n:Nat) (Q:APost):Exit→Act→World→Prop
  | .normal,a,w=>up T w0 F0 n Q .normal a w
  | .exit i,a,w=>up T w0 F0 n Q (.exit i) a w
  | .ret,a,w=>up T w0 F0 n Q .ret a w
  | _,_,_=>False

theorem lk_keep (fr:List (Nat × AV)):∀ (l:List Nat) (i:Nat),lk (keep fr l) i=lk fr i∨lk (keep fr l) i=.junk
  | [],i=>.inr rfl
  | j::r,i=>by
    simp only [keep,lk_put]
    split
    · rename_i e; subst e; exact .inl rfl
    · exact lk_keep fr r i

theorem Inv.keep {st:St} (I:Inv T w0 F0 n st a w F ρ) (l:List Nat):Inv T w0 F0 n ⟨Wax.keep st.fr l,st.hp⟩ a w F ρ :=
  ⟨I.cap,I.old,I.below,I.src,I.kf,I.lt,I.rng,I.dom,I.obj,I.inj,fun i=>by
    rcases lk_keep st.fr l i with h | h
    · simp only [h]; exact I.slot i
    · simp only [h]; simp [Rep],I.defs,I.gl⟩

theorem Inv.dropS {st:St}:∀ (l:List Nat) {st:St} {ρ:Rho},Inv T w0 F0 n st a w F ρ→∃ ρ',Inv T w0 F0 n (Wax.dropS l st) a w F ρ'
  | [],_,ρ,I=>⟨ρ,I⟩
  | d::r,_,_,I=>Inv.dropS (st:=st) r (I.drop d)

theorem Inv.drawn {st:St} (I:Inv T w0 F0 n st a w F ρ):∃ F',Inv T w0 F0 n st a { w with drawn:=w.drawn+1 } F' ρ :=
  ⟨_,I.grow (w':={ w with drawn:=w.drawn+1 }) ⟨rfl,rfl,rfl,Nat.le_refl _,fun _ _=>rfl⟩⟩

theorem awp_thenG {g:List GOp} {c:SCode} {Q:APost} {st:St} (h:awp Γ (thenG g c) Q st):awp Γ c (thenQ (fun s=>Q .normal (gsteps g s)) Q) st:=by
  cases g with
  | nil =>
    simp only [thenG] at h
    have e:thenQ (fun s=>Q .normal (gsteps [] s)) Q=Q:=by funext e st; cases e <;> rfl
    rw [e]; exact h
  | cons x r=>exact h

theorem regionM_sound {L:Lay} {a:Act} {w:World} {F:Frz} {ρ:Rho} {ops:Array Oper} {R:Exit→Act→World→Prop} (hT:TInj T) (G:GamOk P T Γ) {st:St} (I:Inv T w0 F0 n st a w F ρ) {id:Nat} {q:Option Nat × Opd} (hq:headM T n ops=some q) {live drop:List Nat} {dd:List (List Nat)} {Q:APost}
    (h:awp Γ (.regM q.1 q.2 ((ops.toList.drop 1).map (cOper P T L n ops)) live drop dd) Q st)
    (hQ:∀ s1:St,Q .normal (dropS drop ⟨keep s1.fr live,s1.hp⟩)→∀ a w F ρ,Inv T w0 F0 n s1 a w F ρ→R .normal a w):(Code.region id ops false).wp P R a w:=by
  simp only [headM] at hq
  cases h0:ops[0]? with
  | none=>simp [h0] at hq
  | some o =>
    simp only [h0] at hq
    cases hop:o.op <;> simp only [hop] at hq <;> try (simp at hq; done)
    rename_i x isS
    have his:isS=false:=by cases isS with | true=>simp at hq | false=>rfl
    subst his
    cases hg:o.guard with
    | some g=>simp [hg] at hq
    | none =>
      simp only [hg] at hq
      split at hq
      · rename_i hdl
        have hd:=dstLt_ok hdl
        cases hy:cOpd T x with
        | none=>simp [hy] at hq
        | some y =>
          simp only [hy,Option.map_some,Option.some.injEq] at hq
          subst hq
          simp only [awp] at h
          obtain ⟨m,hm⟩:∃ m,ops.size=m+1:=⟨ops.size - 1,by
            have:0 < ops.size:=by
              rcases Nat.eq_zero_or_pos ops.size with h1 | h1
              · rw [Array.getElem?_eq_none (by omega)] at h0; simp at h0
              · exact h1
            omega⟩
          apply wp_region
          rw [List.range_eq_range',hm,List.range'_succ,wpOps_cons]
          unfold wpOp
          simp only [h0,Region.wanted,hg,if_true]
          refine .inl ?_
          have hr:=ev_rep I hy
          cases hv:ev st.fr y <;> simp only [hv] at h <;> try (exact h.elim)
          rename_i i off
          cases off with
          | succ _=>exact h.elim
          | zero =>
            simp only at h
            cases ho:hlk st.hp i with
            | none=>simp [ho] at h
            | some ob =>
              cases ob <;> simp only [ho] at h <;> try (exact h.elim)
              rename_i rem
              rw [hv] at hr
              rcases s_nextM (P:=P) I hd hop hr ho with ⟨e,hs⟩ | ⟨pre,k,v,post,e,hs⟩
              · refine opres_wp hs ?_
                intro a' w' F' ρ' I'
                obtain ⟨s1,h1,h2⟩:=opsK_G (h.1 e)
                exact wpOps_sound (L:=L) hT G (hQ s1 h2) m 1 _ _ a' w' F' ρ' (by omega) (I'.rm (dHd dd)) h1
              · refine opres_wp hs ?_
                intro a' w' F' ρ' I'
                obtain ⟨s1,h1,h2⟩:=opsK_G (h.2 pre k v post e)
                exact wpOps_sound (L:=L) hT G (hQ s1 h2) m 1 _ _ a' w' F' ρ' (by omega) (I'.rm (dHd dd)) h1
      · simp at hq

theorem awp_preG {Γ:Gam} {g:List GOp} {c:SCode} {Q:APost} {st:St} (h:awp Γ (preG g c) Q st):awp Γ c Q (gsteps g st):=by
  cases g with
  | nil=>exact h
  | cons x r=>exact h

theorem comp_sound (hT:TInj T) (G:GamOk P T Γ) (L:Lay):∀ (c:Code) (Q:APost) (st:St),awp Γ (comp P T L n c) Q st →
    ∀ (a:Act) (w:World) (F:Frz) (ρ:Rho),Inv T w0 F0 n st a w F ρ→c.wp P (upX T w0 F0 n Q) a w
  | .skip,Q,st,h,a,w,F,ρ,I=>wp_skip ⟨st,F,ρ,h,I⟩
  | .region id ops draw,Q,st,h,a,w,F,ρ,I=>by
    simp only [comp] at h
    split at h
    · rename_i q hq
      have hdr:draw=false:=by cases draw; rfl; simp at hq
      subst hdr
      simp only [Bool.false_eq_true,if_false] at hq
      replace h:=awp_thenG h
      exact regionM_sound hT G I hq h (fun s1 h2 a w F ρ I=>by
        obtain ⟨ρ',I'⟩:=Inv.dropS (st:=s1) (lkL L.rg id).2 (I.keep (lkL L.rg id).1)
        obtain ⟨F2,ρ2,I2⟩:=gsteps_inv (lkG L.gh id) I'
        exact ⟨_,F2,ρ2,h2,I2⟩)
    split at h
    · exact h.elim
    · rename_i hd
      replace h:=awp_thenG (awp_preG h)
      obtain ⟨F,ρ,I⟩:=gsteps_inv (lkG L.ga id) I
      simp only [awp] at h
      obtain ⟨s1,h1,h2⟩:=opsK_G h
      have fin:∀ a w F ρ,Inv T w0 F0 n s1 a w F ρ→upX T w0 F0 n Q .normal a w:=fun a w F ρ I=>by
        obtain ⟨ρ',I'⟩:=Inv.dropS (st:=s1) (lkL L.rg id).2 (I.keep (lkL L.rg id).1)
        obtain ⟨F2,ρ2,I2⟩:=gsteps_inv (lkG L.gh id) I'
        exact ⟨_,F2,ρ2,h2,I2⟩
      cases draw with
      | false=>exact region_sound hT G I h1 fin
      | true =>
        simp only [if_true,opsG_F] at h1
        simp only [Bool.true_and,Bool.not_eq_true',Bool.not_eq_false] at hd
        apply wp_region_draw
        intro t
        obtain ⟨F',I'⟩:=I.drawn
        have any:∀ md t,wpOps P ops (upX T w0 F0 n Q) (Region.linearise md ops t) a { w with drawn:=w.drawn+1 }:=by
          intro md t
          refine wpAny_sound (md:=md) ops.size t _ a _ ?_
          exact draw_any (L:=L) hT G hd h1 fin md I'
        unfold Region.schedule
        split
        · exact any _ _
        · exact any _ _
  | .seq x y,Q,st,h,a,w,F,ρ,I=>by
    apply wp_seq
    refine wp_mono (comp_sound hT G L x _ st h a w F ρ I) ?_
    intro e a' w' hu
    cases e <;> simp only [upX] at hu ⊢ <;> try (exact hu.elim)
    · obtain ⟨s1,F1,ρ1,q,I1⟩:=hu
      exact comp_sound hT G L y Q s1 q a' w' F1 ρ1 I1
    · exact hu
    · exact hu
  | .cond c x y,Q,st,h,a,w,F,ρ,I=>by
    simp only [comp] at h
    cases hc:cOpd T c with
    | none=>simp [hc,awp] at h
    | some d =>
      simp only [hc,awp] at h
      have hr:=ev_rep I hc
      cases hv:ev st.fr d <;> simp only [hv] at h <;> try (exact h.elim)
      rename_i b
      rw [hv] at hr
      exact wp_cond_split hr (fun hb=>comp_sound hT G L x Q st (h.1 hb) a w F ρ I) (fun hb=>comp_sound hT G L y Q st (h.2 hb) a w F ρ I)
  | .block id c,Q,st,h,a,w,F,ρ,I=>by
    apply wp_block
    refine wp_mono (comp_sound hT G L c _ st h a w F ρ I) ?_
    intro e a' w' hu
    cases e <;> simp only [upX] at hu ⊢ <;> try (exact hu.elim)
    · exact hu
    · rename_i i
      obtain ⟨s1,F1,ρ1,q,I1⟩:=hu
      simp only [blockQ] at q
      simp only [Exit.inBlock]
      split
      · rename_i e; rw [if_pos e] at q; exact ⟨s1,F1,ρ1,q,I1⟩
      · rename_i e; rw [if_neg e] at q; exact ⟨s1,F1,ρ1,q,I1⟩
    · exact hu
  | .loop c,Q,st,h,a,w,F,ρ,I=>by
    simp only [comp,awp] at h
    obtain ⟨σ,J,m,s0,hj,hround⟩:=h
    refine wp_loop_rel (fun s a w=>∃ st,J s st∧∃ F ρ,Inv T w0 F0 n st a w F ρ) m ?_ (s:=s0) ⟨_,hj,F,ρ,I.keep _⟩
    rintro s a w ⟨st,hs,F,ρ,I⟩
    refine wp_mono (comp_sound hT G L c _ st (hround s st hs) a w F ρ I) ?_
    intro e a' w' hu
    cases e <;> simp only [upX] at hu ⊢ <;> try (exact hu.elim)
    · obtain ⟨s1,F1,ρ1,⟨s',q,hlt⟩,I1⟩:=hu
      exact ⟨s',⟨_,q,F1,ρ1,I1.keep _⟩,hlt⟩
    · exact hu
    · exact hu
  | .exit id,Q,st,h,a,w,F,ρ,I=>wp_exit ⟨st,F,ρ,h,I⟩
  | .ret,Q,st,h,a,w,F,ρ,I=>wp_ret ⟨st,F,ρ,h,I⟩
  | .goto _,Q,st,h,a,w,F,ρ,I=>h.elim
  | .label _,Q,st,h,a,w,F,ρ,I=>h.elim
  | .scope _,Q,st,h,a,w,F,ρ,I=>h.elim
  | .refuse _,Q,st,h,a,w,F,ρ,I=>h.elim
  | .rangeFunc ..,Q,st,h,a,w,F,ρ,I=>h.elim

def getRes (tmps:Array Value):ResultVar→Sem Value
  | .tmp t=>pure (tmps.getD t undef)
  | .cell a t=>do loadVar t (← asAddr (tmps.getD a undef))

def resV (vs:List Value):Value:=match vs with
  | [v]=>v
  | l=>.tuple l.toArray

theorem results_eq (fn:Func) (tmps:Array Value):results fn tmps=(do
    let vs ← fn.results.mapM (getRes tmps)
    pure (if h:vs.size=1 then vs[0] else .tuple vs)):=rfl

theorem compRes_run {st:St} {m:Nat} {a':Act} {w':World} {F':Frz} {ρ':Rho} (I:Inv T w0 F0 m st a' w' F' ρ'):∀ {l:List ResultVar} {r:List RV},compRes P l=some r→resOk st r=true →
    ∃ vs:List Value,(l.mapM (getRes a'.tmps)).run P w'=.ok vs w'∧RepL T w' F' ρ' (r.map (rvV st)) vs
  | [],r,h,_=>by simp [compRes] at h; subst h; exact ⟨[],by simp,by simp [RepL]⟩
  | .tmp t::l,r,h,hj=>by
    simp only [compRes] at h
    cases hl:compRes P l with
    | none=>simp [hl] at h
    | some q =>
      simp [hl] at h; subst h
      obtain ⟨vs,h1,h2⟩:=compRes_run I hl (by simpa only [resOk] using hj)
      refine ⟨a'.tmps.getD t undef::vs,?_,?_⟩
      · simp only [List.mapM_cons,Sem.run_bind,getRes,Sem.run_pure,Result.andThen_ok,h1]
      · simp only [List.map_cons,RepL,rvV]; exact ⟨I.slot t,h2⟩
  | .cell c t::l,r,h,hj=>by
    simp only [compRes] at h
    cases hm:loadN P t with
    | none=>simp [hm] at h
    | some mm =>
      cases hl:compRes P l with
      | none=>simp [hm,hl] at h
      | some q =>
        simp [hm,hl] at h; subst h
        simp only [resOk,Bool.and_eq_true] at hj
        obtain ⟨vs,h1,h2⟩:=compRes_run I hl hj.2
        cases hv:aload st.hp mm (lk st.fr c) with
        | none=>simp [hv] at hj
        | some x =>
          obtain ⟨fr,hp⟩:=st
          simp only at hv
          obtain ⟨ad,u,he,g1,g2⟩:=load_cell (P:=P) I (I.slot c) hm hv
          refine ⟨u::vs,?_,?_⟩
          · simp only [List.mapM_cons,Sem.run_bind,getRes,Sem.run_pure,Result.andThen_ok,h1,he,asAddr,g1]
          · simp only [List.map_cons,RepL,rvV,hv,Option.getD_some]; exact ⟨g2,h2⟩

theorem results_spec {fn:Func} {r:List RV} (h:compRes P fn.results.toList=some r) {st:St} {m:Nat} {a':Act} {w':World} {F':Frz} {ρ':Rho} (I:Inv T w0 F0 m st a' w' F' ρ') (hj:resOk st r=true) :
    ∃ v,(results fn a'.tmps).run P w'=.ok v w'∧Rep T w' F' ρ' (retV st r) v:=by
  obtain ⟨vs,h1,h2⟩:=compRes_run I h hj
  refine ⟨resV vs,?_,?_⟩
  · rw [results_eq]
    have e:fn.results=fn.results.toList.toArray:=by simp
    rw [e,List.mapM_toArray]
    simp only [Sem.run_bind,Sem.run_map,h1,Result.andThen_ok,Sem.run_pure]
    match vs with
    | []=>simp [resV]
    | [v]=>simp [resV]
    | v::u::l=>simp [resV]
  · match r,vs,h2 with
    | [],[],_=>simp only [retV,resV,Rep]; exact ⟨#[],rfl,by simp [RepL]⟩
    | [i],[v],h2=>simp only [List.map_cons,List.map_nil,RepL,and_true] at h2; exact h2
    | i::j::l,v::u::k,h2=>simp only [retV,resV,Rep]; exact ⟨_,rfl,by simpa using h2⟩

theorem lk_init_lt:∀ (xs:List AV) (k i:Nat),lk (initF k xs) (k+i)=xs.getD i .junk
  | [],k,i=>by simp [initF,lk]
  | x::r,k,i=>by
    simp only [initF,lk_put]
    cases i with
    | zero=>simp
    | succ i =>
      rw [if_neg (by omega)]
      have:=lk_init_lt r (k+1) i
      rw [show k+(i+1)=k+1+i by omega,this]; simp

theorem init_inv (hF:∀ b,F b→b < w.heap.size) (hG:GlobOk T w F) {hp:List (Nat × AObj)} {ρ0:Rho} (hold:∀ id p,ρ0 id=some p→1000000≤id) (H:HR T w F ρ0 hp) {xs:List AV} {vs:List Value} (hx:RepL T w F ρ0 xs vs) {m:Nat} (hm:vs.length≤m) (hm6:m≤1000000) :
    Inv T w ⟨F,ρ0⟩ m ⟨initF 0 xs,hp⟩ { tmps:=vs.toArray++Array.replicate (m - vs.toArray.size) undef,defers:=[] } w F ρ0 where
  cap:=hm6
  old:=fun id _=>.inr rfl
  below:=BelX.refl _ _ _
  src:=fun b h=>.inl h
  kf:=fun b h=>h
  lt:=hF
  rng:=by simp; omega
  dom:=H.dom
  obj:=fun id x h=>by
    obtain ⟨b,o,h1,h2,h3,h4⟩:=H.obj id x h
    exact ⟨b,o,h1,.inr ⟨id,o,h1⟩,h2,h3,h4⟩
  inj:=H.inj
  slot:=fun i=>by
    have h1:=lk_init_lt xs 0 i
    simp only [Nat.zero_add] at h1
    simp only [h1]
    have key:∀ (xs:List AV) (vs:List Value),RepL T w F ρ0 xs vs→∀ i,xs.getD i .junk=.junk∨∃ v,vs[i]? = some v∧Rep T w F ρ0 (xs.getD i .junk) v:=by
      intro xs
      induction xs with
      | nil=>intro vs _ i; left; simp
      | cons x r ih =>
        intro vs h i
        cases vs with
        | nil=>simp [RepL] at h
        | cons v s =>
          simp only [RepL] at h
          cases i with
          | zero=>right; exact ⟨v,by simp,by simpa using h.1⟩
          | succ i =>
            rcases ih s h.2 i with h' | ⟨u,hu,hr⟩
            · left; simpa using h'
            · right; exact ⟨u,by simpa using hu,by simpa using hr⟩
    rcases key xs vs hx i with h | ⟨v,hv,hr⟩
    · rw [h]; simp [Rep]
    · have hlt:i < vs.length:=by
        rcases Nat.lt_or_ge i vs.length with h | h
        · exact h
        · simp [List.getElem?_eq_none h] at hv
      have:(vs.toArray++Array.replicate (m - vs.toArray.size) undef).getD i undef=v:=by
        simp only [Array.getD_eq_getD_getElem?]
        rw [Array.getElem?_append_left (by simpa using hlt)]
        simp [hv]
      rw [this]; exact hr
  defs:=rfl
  gl:=hG

theorem repL_length:∀ {xs:List AV} {vs:List Value},RepL T w F ρ xs vs→xs.length=vs.length
  | [],[],_=>rfl
  | x::r,v::s,h=>by simp only [RepL] at h; simp [repL_length h.2]
  | [],_::_,h=>by simp [RepL] at h
  | _::_,[],h=>by simp [RepL] at h

theorem HR.empty:HR T w F noRho []:=⟨fun id p h=>by simp [noRho] at h,fun id x h=>by simp [hlk] at h,fun id id' b o o' h=>by simp [noRho] at h⟩

theorem fn_sound (hT:TInj T) (G:GamOk P T Γ) {L:Lay} {f:FuncId} {fn:Func} {sfn:SFn} (hf:P.funcs[f]? = some fn) (hc:compFn P T L fn=some sfn) {args:List AV} {r:AV}
    (hr:runs Γ sfn args (fun v=>v=r)):OkCall P T f args r:=by
  intro w F vs hF hgl hx
  simp only [compFn] at hc
  cases hb:fn.body with
  | none=>simp [hb] at hc
  | some c =>
    cases hres:compRes P fn.results.toList with
    | none=>simp [hb,hres] at hc
    | some res =>
      simp only [hb,hres] at hc
      split at hc
      · rename_i hle
        injection hc with hc; subst hc
        obtain ⟨hlen,hrun⟩:=hr
        simp only at hlen hrun
        have hvl:vs.length≤fn.ntmps:=by rw [← repL_length hx,hlen]; exact hle.1
        refine calls_of_wp hf hb ?_
        refine wp_mono (comp_sound hT G L c _ _ hrun _ _ F noRho (init_inv hF hgl (by simp [noRho]) HR.empty hx hvl hle.2)) ?_
        intro e a' w' hu
        have fin:∀ st F' ρ',resOk st res=true∧export_ st.hp (retV st res)=r→Inv T w ⟨F,noRho⟩ fn.ntmps st a' w' F' ρ' →
            a'.defers=[]∧∃ v,(results fn a'.tmps).run P w'=.ok v w'∧(∃ v',Ending.returned v=.returned v'∧Below w.heap.size w w'∧Rep T w' (fun b=>F b∨(w.heap.size≤b∧b < w'.heap.size)) noRho r v'):=by
          rintro st F' ρ' ⟨hok,hR⟩ I
          obtain ⟨rv,hrun',hret⟩:=results_spec hres I hok
          have nobor:∀ b,¬ Base.bor ⟨F,noRho⟩ b:=fun b h=>by obtain ⟨id,o,h⟩:=h; simp [noRho] at h
          refine ⟨I.defs,_,hrun',_,rfl,I.below.to nobor,?_⟩
          have HF:∀ b,F' b→(F b∨(w.heap.size≤b∧b < w'.heap.size)):=fun b hb=>by
            rcases I.src b hb with h | h | h
            · exact .inl h
            · exact .inr ⟨h,I.lt b hb⟩
            · exact absurd h (nobor b)
          have HO:∀ id b o,ρ' id=some (b,o)→(F b∨(w.heap.size≤b∧b < w'.heap.size)):=by
            intro id b o h
            obtain ⟨x,hx'⟩:=I.dom id _ h
            obtain ⟨b',o',g1,g2,g3,_⟩:=I.obj id x hx'
            rw [h] at g1; injection g1 with g1; injection g1 with g1 _; subst g1
            exact .inr ⟨g2.resolve_right (nobor b),g3⟩
          rw [← hR]
          unfold export_
          split
          · obtain ⟨fr,hp⟩:=st
            exact snap_rep I HF HO 4 _ _ hret
          · rename_i hnr
            have h1:=Rep.down (ρ':=noRho) _ _ (by simpa using hnr) hret
            exact Rep.mono (fun b hb=>⟨HF b hb,rfl⟩) noRho noRho ⟨fun _ _ _ h=>h,fun _ _ _ c e f _ h=>by simp [noRho] at h⟩ _ _ h1
        cases e <;> simp only [upX] at hu <;> try (exact hu.elim)
        · obtain ⟨st,F',ρ',q,I⟩:=hu
          exact fin st F' ρ' q I
        · obtain ⟨st,F',ρ',q,I⟩:=hu
          exact q.elim
        · obtain ⟨st,F',ρ',q,I⟩:=hu
          exact fin st F' ρ' q I
      · simp at hc

theorem oldK_mem {hp:List (Nat × AObj)}:∀ {n i j:Nat},j∈oldK hp i n→1000000+i≤j∧j < 1000000+i+n∧∃ x,hlk hp j=some x
  | 0,i,j,h=>by simp [oldK] at h
  | n+1,i,j,h=>by
    simp only [oldK] at h
    split at h
    · rename_i x hx
      rcases List.mem_cons.1 h with e | h
      · subst e; exact ⟨by omega,by omega,x,hx⟩
      · have:=oldK_mem h; exact ⟨by omega,by omega,this.2.2⟩
    · have:=oldK_mem h; exact ⟨by omega,by omega,this.2.2⟩

theorem mem_oldK {hp:List (Nat × AObj)}:∀ {n i k:Nat} {x:AObj},k < n→hlk hp (i+k+1000000)=some x→i+k+1000000∈oldK hp i n
  | n+1,i,0,x,_,h=>by
    simp only [oldK]
    simp only [Nat.add_zero] at h
    rw [h]; simp
  | n+1,i,k+1,x,hk,h=>by
    have ih:=mem_oldK (hp:=hp) (n:=n) (i:=i+1) (k:=k) (x:=x) (by omega) (by rwa [show i+1+k=i+(k+1) by omega])
    rw [show i+1+k=i+(k+1) by omega] at ih
    simp only [oldK]
    split
    · exact List.mem_cons_of_mem _ ih
    · exact ih

theorem fnS_sound (hT:TInj T) (G:GamOk P T Γ) {L:Lay} {f:FuncId} {fn:Func} {sfn:SFn} (hf:P.funcs[f]? = some fn) (hc:compFn P T L fn=some sfn) {args:List AV} {hp:List (Nat × AObj)} {q:AV × List (Nat × AObj)}
    (hr:runsS Γ sfn args hp (fun v=>v=some q)):OkS P T f args hp q.1 q.2:=by
  intro w F ρ vs hF hgl hkey H hx
  simp only [compFn] at hc
  cases hb:fn.body with
  | none=>simp [hb] at hc
  | some c =>
    cases hres:compRes P fn.results.toList with
    | none=>simp [hb,hres] at hc
    | some res =>
      simp only [hb,hres] at hc
      split at hc
      · rename_i hle
        injection hc with hc; subst hc
        obtain ⟨hlen,hrun⟩:=hr
        simp only at hlen hrun
        have hvl:vs.length≤fn.ntmps:=by rw [← repL_length hx,hlen]; exact hle.1
        obtain ⟨ρ0,hρ0⟩:∃ ρ0:Rho,ρ0=fun id=>if 1000000≤id then ρ (id - 1000000) else none:=⟨_,rfl⟩
        have up:∀ id,ρ0 (up6 id)=ρ id:=fun id=>by
          subst hρ0
          have e:up6 id - 1000000=id:=by simp only [up6]; omega
          have e2:1000000≤up6 id:=by simp only [up6]; omega
          show (if 1000000≤up6 id then ρ (up6 id - 1000000) else none)=ρ id
          rw [if_pos e2,e]
        have hk6:∀ id p,ρ0 id=some p→1000000≤id:=by
          intro id p h; rw [hρ0] at h; simp only at h; split at h
          · assumption
          · simp at h
        have dn:∀ id p,ρ0 id=some p→ρ (id - 1000000)=some p:=by
          intro id p h; have:=hk6 id p h; rw [hρ0] at h; simp only [this,if_true] at h; exact h
        have ini:HR T w F ρ0 (mapH up6 hp):=by
          refine ⟨?_,?_,?_⟩
          · intro id p h
            have h6:=hk6 id p h
            obtain ⟨x,hx⟩:=H.dom _ p (dn id p h)
            have:=hlk_mapH (g:=up6) (l:=hp) (i:=id - 1000000) (y:=x) (fun j _ e=>by simp only [up6] at e; omega) hx
            rw [show up6 (id - 1000000)=id by simp only [up6]; omega] at this
            exact ⟨_,this⟩
          · intro id x h
            obtain ⟨i,y,h1,h2,h3⟩:=hlk_mapH_some h
            obtain ⟨b,o,g1,g2,g3,g4⟩:=H.obj i y h1
            exact ⟨b,o,by rw [← h2,up]; exact g1,g2,g3,by rw [h3]; exact RepO.ren y (fun id _=>up id) g4⟩
          · intro id id' b o o' h h'
            have:=H.inj _ _ b o o' (dn id _ h) (dn id' _ h')
            have h6:=hk6 id _ h
            have h6':=hk6 id' _ h'
            omega
        refine calls_of_wp hf hb ?_
        refine wp_mono (comp_sound hT G L c _ _ hrun _ _ F ρ0 (init_inv hF hgl hk6 ini (RepL.ren args vs (fun id _=>up id) hx) hvl hle.2)) ?_
        intro e a' w' hu
        have fin:∀ st F' ρ',resOk st res=true∧exportS hp.length st.hp (retV st res)=some q→Inv T w ⟨F,ρ0⟩ fn.ntmps st a' w' F' ρ' →
            a'.defers=[]∧∃ v,(results fn a'.tmps).run P w'=.ok v w'∧(∃ v' F' ρ',Ending.returned v=.returned v'∧BelX (fun b=>∃ id o,ρ id=some (b,o)) w.heap.size w w'∧(∀ b,F b→F' b)∧(∀ b,F' b→F b∨w.heap.size≤b∨∃ id o,ρ id=some (b,o))∧(∀ b,F' b→b < w'.heap.size) ∧
              HR T w' F' ρ' q.2∧(∀ id p,ρ id=some p→ρ' id=none∨ρ' id=some p)∧(∀ id b o,ρ' id=some (b,o)→ρ id=none→w.heap.size≤b∨∃ id' o',ρ id'=some (b,o'))∧Rep T w' F' ρ' q.1 v'):=by
          rintro st F' ρ' ⟨hok,hR⟩ I
          obtain ⟨rv,hrun',hret⟩:=results_spec hres I hok
          have bor_of:∀ b,Base.bor ⟨F,ρ0⟩ b→∃ id o,ρ id=some (b,o):=fun b h=>by
            obtain ⟨id,o,h⟩:=h; exact ⟨_,o,dn id _ h⟩
          have of_bor:∀ b,(∃ id o,ρ id=some (b,o))→Base.bor ⟨F,ρ0⟩ b:=fun b h=>by
            obtain ⟨id,o,h⟩:=h; exact ⟨up6 id,o,(up id).trans h⟩
          simp only [exportS] at hR
          obtain ⟨own,hown⟩:∃ own,own=lowN (reach st.hp 200 (oldK st.hp 0 hp.length++refs (retV st res)) []):=⟨_,rfl⟩
          rw [← hown] at hR
          have ownnd:own.Nodup:=by rw [hown]; exact (reach_nodup 200 _ _ (by simp)).filter _
          have ownlt:∀ i∈own,i < 1000000:=by intro i hi; rw [hown] at hi; simp only [lowN,List.mem_filter,decide_eq_true_eq] at hi; exact hi.2
          clear hown
          obtain ⟨ids,hids⟩:∃ ids,ids=oldK st.hp 0 hp.length++own:=⟨_,rfl⟩
          rw [← hids] at hR
          have inids:∀ i,i∈ids→(1000000≤i∧i < 1000000+hp.length)∨i∈own:=by
            intro i hi
            rw [hids,List.mem_append] at hi
            rcases hi with hi | hi
            · have:=oldK_mem hi; exact .inl ⟨by omega,by omega⟩
            · exact .inr hi
          cases hos:pickH st.hp ids with
          | none=>simp [hos] at hR
          | some os =>
            simp only [hos] at hR
            split at hR
            · rename_i hcl
              injection hR with hR
              subst hR
              simp only [Bool.and_eq_true] at hcl
              obtain ⟨hca,hco⟩:=hcl
              have hca:=inIds_spec hca
              have hkeys:=pickH_keys hos
              have hpk:=pickH_hlk hos
              have g_old:∀ i,1000000≤i→ownN hp.length own i=i - 1000000:=fun i hi=>by simp [ownN,hi]
              have g_own:∀ i∈own,ownN hp.length own i=hp.length+idxN own i:=fun i hi=>by
                have:=ownlt i hi; simp only [ownN]; rw [if_neg (by omega)]
              have ginj:∀ i∈ids,∀ j∈ids,ownN hp.length own j=ownN hp.length own i→j=i:=by
                intro i hi j hj e
                rcases inids i hi with h1 | h1 <;> rcases inids j hj with h2 | h2
                · rw [g_old i h1.1,g_old j h2.1] at e; omega
                · rw [g_old i h1.1,g_own j h2] at e; omega
                · rw [g_own i h1,g_old j h2.1] at e; omega
                · rw [g_own i h1,g_own j h2] at e
                  have e':idxN own j=idxN own i:=by omega
                  rw [← idxN_get h2,e',idxN_get h1]
              obtain ⟨ρx,hρx⟩:∃ ρx:Rho,ρx=fun j=>if j < hp.length then ρ' (j+1000000) else if j - hp.length < own.length then ρ' (own.getD (j - hp.length) 0) else none:=⟨_,rfl⟩
              have gx:∀ i∈ids,ρx (ownN hp.length own i)=ρ' i:=by
                intro i hi
                rw [hρx]
                rcases inids i hi with h | h
                · rw [g_old i h.1]; simp only; rw [if_pos (by omega),show i - 1000000+1000000=i by omega]
                · rw [g_own i h]; simp only
                  have:=idxN_lt h
                  rw [if_neg (by omega),if_pos (by omega),show hp.length+idxN own i - hp.length=idxN own i by omega,idxN_get h]
              have back:∀ k p,ρx k=some p→∃ i∈ids,ownN hp.length own i=k∧ρ' i=some p:=by
                intro k p h
                rw [hρx] at h
                simp only at h
                split at h
                · rename_i hk
                  obtain ⟨x,hx⟩:=I.dom _ p h
                  have hm:k+1000000∈ids:=by
                    rw [hids,List.mem_append]; left
                    have:=mem_oldK (hp:=st.hp) (n:=hp.length) (i:=0) (k:=k) (x:=x) hk (by simpa using hx)
                    simpa using this
                  exact ⟨_,hm,by rw [g_old _ (by omega)]; omega,h⟩
                · rename_i hk
                  split at h
                  · rename_i hk2
                    have hm:=getD_mem hk2
                    refine ⟨_,by rw [hids,List.mem_append]; exact .inr hm,?_,h⟩
                    rw [g_own _ hm,get_idxN ownnd hk2]; omega
                  · simp at h
              refine ⟨I.defs,_,hrun',_,F',ρx,rfl,?_,?_,?_,I.lt,⟨?_,?_,?_⟩,?_,?_,?_⟩
              · exact ⟨I.below.os,I.below.tape,I.below.output,I.below.size,fun k hk hB=>I.below.block k hk (fun h=>hB (bor_of k h)),I.below.shp⟩
              · exact I.kf
              · intro b hb
                rcases I.src b hb with h | h | h
                · exact .inl h
                · exact .inr (.inl h)
                · exact .inr (.inr (bor_of b h))
              · intro k p h
                obtain ⟨i,hi,h1,h2⟩:=back k p h
                obtain ⟨g1,x,g2⟩:=hpk i hi
                have:=hlk_mapH (g:=ownN hp.length own) (l:=os) (i:=i) (y:=x) (fun j hj e=>ginj i hi j (hkeys ▸ hj) e) (by rw [g1,g2])
                rw [h1] at this
                exact ⟨_,this⟩
              · intro k x h
                obtain ⟨i,y,h1,h2,h3⟩:=hlk_mapH_some h
                have hi:i∈ids:=hkeys ▸ hlk_keys h1
                have h1':hlk st.hp i=some y:=by rw [← (hpk i hi).1]; exact h1
                obtain ⟨b,o,g1,g2,g3,g4,g5⟩:=I.obj i y h1'
                refine ⟨b,o,by rw [← h2,gx i hi]; exact g1,g3,g4,?_⟩
                rw [h3]
                exact RepO.ren y (fun id hid=>gx id (closedH_spec hco h1 id hid)) g5
              · intro k k' b o o' h h'
                obtain ⟨i,hi,h1,h2⟩:=back k _ h
                obtain ⟨i',hi',h1',h2'⟩:=back k' _ h'
                rw [← h1,← h1',I.inj i i' b o o' h2 h2']
              · intro id p h
                obtain ⟨x,hx⟩:=H.dom id p h
                have hlt:=hkey id x hx
                rw [hρx]
                simp only [hlt,if_true]
                rcases I.old (id+1000000) (by omega) with h' | h'
                · exact .inl h'
                · right; rw [h']; exact (up id).trans h
              · intro k b o h _
                obtain ⟨i,hi,h1,h2⟩:=back k _ h
                obtain ⟨x,hx'⟩:=I.dom i _ h2
                obtain ⟨b',o',g1,g2,_⟩:=I.obj i x hx'
                rw [h2] at g1; injection g1 with g1; injection g1 with g1 _; subst g1
                exact g2.imp id (bor_of b)
              · exact Rep.ren _ _ (fun id hid=>gx id (hca id hid)) hret
            · simp at hR
        cases e <;> simp only [upX] at hu <;> try (exact hu.elim)
        · obtain ⟨st,F',ρ',q,I⟩:=hu
          exact fin st F' ρ' q I
        · obtain ⟨st,F',ρ',q,I⟩:=hu
          exact q.elim
        · obtain ⟨st,F',ρ',q,I⟩:=hu
          exact fin st F' ρ' q I
      · simp at hc
end
end Wax


namespace Wax
open Go (IntKind)

section
variable {Γ:Gam} {Q:APost} {st:St}
def regQ (live drop:List Nat) (Q:APost) (st:St):Prop:=Q .normal (dropS drop ⟨keep st.fr live,st.hp⟩)
@[simp] theorem regQ_eq {live drop:List Nat}:regQ live drop Q st=Q .normal (dropS drop ⟨keep st.fr live,st.hp⟩):=rfl
def condK (v:AV) (Γ:Gam) (a b:SCode) (Q:APost) (st:St):Prop:=match v with
  | .bool t=>(t=true→awp Γ a Q st)∧(t=false→awp Γ b Q st)
  | _=>False
@[simp] theorem condK_bool {t:Bool} {a b:SCode}:condK (.bool t) Γ a b Q st=((t=true→awp Γ a Q st)∧(t=false→awp Γ b Q st)):=rfl

@[simp] theorem awp_skip:awp Γ .skip Q st=Q .normal st:=rfl
@[simp] theorem awp_ghost {g:List GOp}:awp Γ (.ghost g) Q st=Q .normal (gsteps g st):=rfl
@[simp] theorem awp_region {ops:List SO} {live drop:List Nat} {dd:List (List Nat)}:awp Γ (.region ops live drop dd) Q st=opsK Γ ops dd st (regQ live drop Q):=rfl
def mitK (o:Option AObj) (id:Nat) (Γ:Gam) (ops:List SO) (dd:List (List Nat)) (dst:Option Nat) (st:St) (K:St→Prop):Prop:=match o with
  | some (.mit rem _) =>
    (rem=[]→opsK Γ ops (dTl dd) ⟨rmF (dHd dd) (putS st.fr dst (.tup [.bool false])),st.hp⟩ K) ∧
    (∀ pre k v post,rem=pre++(k,v)::post→opsK Γ ops (dTl dd) ⟨rmF (dHd dd) (putS st.fr dst (.tup [.bool true,.str k,v])),hset st.hp id (.mit (pre++post) (some (k,v)))⟩ K)
  | _=>False
def mitKV (v:AV) (Γ:Gam) (ops:List SO) (dd:List (List Nat)) (dst:Option Nat) (st:St) (K:St→Prop):Prop:=match v with
  | .ref id 0=>mitK (hlk st.hp id) id Γ ops dd dst st K
  | _=>False
@[simp] theorem mitKV_ref {id:Nat} {ops:List SO} {dd:List (List Nat)} {dst:Option Nat} {K:St→Prop}:mitKV (.ref id 0) Γ ops dd dst st K=mitK (hlk st.hp id) id Γ ops dd dst st K:=rfl
@[simp] theorem mitK_mit {rem:List (List UInt8 × AV)} {cur:Option (List UInt8 × AV)} {id:Nat} {ops:List SO} {dd:List (List Nat)} {dst:Option Nat} {K:St→Prop}:mitK (some (.mit rem cur)) id Γ ops dd dst st K =
    ((rem=[]→opsK Γ ops (dTl dd) ⟨rmF (dHd dd) (putS st.fr dst (.tup [.bool false])),st.hp⟩ K) ∧
    (∀ pre k v post,rem=pre++(k,v)::post→opsK Γ ops (dTl dd) ⟨rmF (dHd dd) (putS st.fr dst (.tup [.bool true,.str k,v])),hset st.hp id (.mit (pre++post) (some (k,v)))⟩ K)):=rfl
@[simp] theorem awp_regM {dst:Option Nat} {x:Opd} {ops:List SO} {live drop:List Nat} {dd:List (List Nat)}:awp Γ (.regM dst x ops live drop dd) Q st=mitKV (ev st.fr x) Γ ops dd dst st (regQ live drop Q):=by
  simp only [awp,mitKV]
  split <;> simp_all
  split <;> simp_all [mitK,rmS] <;> rfl
@[simp] theorem awp_seq {a b:SCode}:awp Γ (.seq a b) Q st=awp Γ a (thenQ (awp Γ b Q) Q) st:=rfl
@[simp] theorem awp_block {id:Nat} {c:SCode}:awp Γ (.block id c) Q st=awp Γ c (blockQ id Q) st:=rfl
@[simp] theorem awp_exit {id:Nat}:awp Γ (.exit id) Q st=Q (.exit id) st:=rfl
@[simp] theorem awp_ret:awp Γ .ret Q st=Q .ret st:=rfl
@[simp] theorem awp_bad:awp Γ .bad Q st=False:=rfl
@[simp] theorem awp_cond {c:Opd} {a b:SCode}:awp Γ (.cond c a b) Q st=condK (ev st.fr c) Γ a b Q st:=rfl

def loopQ {σ:Type} (live:List Nat) (f:σ→St) (ok:σ→Prop) (m:σ→Nat) (s:σ) (st:St):Prop:=∃ s',norm live st=f s'∧ok s'∧m s' < m s

theorem awp_loop {σ:Type} {live:List Nat} {c:SCode} (f:σ→St) (ok:σ→Prop) (m:σ→Nat) (s0:σ) (h0:norm live st=f s0) (hok:ok s0)
    (hr:∀ s,ok s→awp Γ c (thenQ (loopQ live f ok m s) Q) (f s)):awp Γ (.loop live c) Q st:=by
  refine ⟨σ,fun s st=>st=f s∧ok s,m,s0,⟨h0,hok⟩,?_⟩
  rintro s _ ⟨rfl,hs⟩
  have:=hr s hs
  have e:loopQ live f ok m s=(fun st'=>∃ s',(norm live st'=f s'∧ok s')∧m s' < m s):=by
    funext st'; apply propext; constructor
    · rintro ⟨s',a,b,c⟩; exact ⟨s',⟨a,b⟩,c⟩
    · rintro ⟨s',⟨a,b⟩,c⟩; exact ⟨s',a,b,c⟩
  rw [e] at this
  exact this

def toS (live drop:List Nat) (S st:St):Prop:=dropS drop ⟨keep st.fr live,st.hp⟩=S
@[simp] theorem toS_mk {live drop:List Nat} {S:St} {fr:List (Nat × AV)} {hp:List (Nat × AObj)}:toS live drop S ⟨fr,hp⟩=(dropS drop ⟨keep fr live,hp⟩=S):=rfl
theorem awp_region_to {ops:List SO} {live drop:List Nat} {dd:List (List Nat)} (S:St) (h:opsK Γ ops dd st (toS live drop S)) (hQ:Q .normal S):awp Γ (.region ops live drop dd) Q st:=by
  obtain ⟨s,h1,h2⟩:=opsK_G h
  show opsK Γ ops dd st (regQ live drop Q)
  have back:∀ (l:List SO) (dd:List (List Nat)) (st:St) (s:St) (K:St→Prop),opsG Γ l dd st=some s→K s→opsK Γ l dd st K:=by
    intro l
    induction l with
    | nil=>intro dd st s K h hk; simp [opsG] at h; subst h; exact hk
    | cons o r ih =>
      intro dd st s K h hk
      simp only [opsG] at h
      cases h1:opF Γ o st with
      | none=>simp [h1] at h
      | some s1 =>
        simp [h1] at h
        have step:∀ st,stepF Γ o st=some s1→stepK Γ o st (fun st'=>opsK Γ r (dTl dd) (rmS (dHd dd) st') K):=by
          intro st hs
          obtain ⟨dst,op,g⟩:=o
          have ih':=ih _ _ s K h hk
          cases op
          case nextS x =>
            simp only [stepF] at hs
            simp only [stepK]
            cases hx:ev st.fr x <;> simp only [hx] at hs ⊢ <;> try (simp at hs; done)
            rename_i id off
            cases off with
            | succ _=>simp at hs
            | zero =>
              simp only at hs ⊢
              cases ho:hlk st.hp id with
              | none=>simp [ho] at hs
              | some ob =>
                cases ob <;> simp only [ho] at hs ⊢ <;> try (simp at hs; done)
                split at hs
                · rename_i hp
                  simp only [Option.some.injEq] at hs; subst hs
                  exact ⟨fun _=>ih',fun hn=>absurd hp hn⟩
                · rename_i hp
                  simp only [Option.some.injEq] at hs; subst hs
                  exact ⟨fun hn=>absurd hn hp,fun _=>ih'⟩
          all_goals
            simp only [stepF] at hs
            simp only [stepK]
            split
            · rename_i out ho
              simp only [ho,Option.map_some,Option.some.injEq] at hs; subst hs
              exact ih'
            · rename_i ho
              simp [ho] at hs
        simp only [opF] at h1
        simp only [opsK]
        cases hg:o.guard with
        | none=>simp only [hg] at h1 ⊢; exact step st h1
        | some gw =>
          obtain ⟨g,want⟩:=gw
          simp only [hg] at h1 ⊢
          cases hl:lk st.fr g <;> simp only [hl] at h1 ⊢ <;> try (simp at h1; done)
          · rename_i b
            split at h1
            · rename_i hb
              exact ⟨fun _=>step _ h1,fun hn=>by subst hb; cases b <;> simp at hn⟩
            · rename_i hb
              simp only [Option.some.injEq] at h1; subst h1
              exact ⟨fun hn=>absurd hn hb,fun _=>ih _ _ s K h hk⟩
          · rename_i vs
            cases vs with
            | cons _ _=>simp at h1
            | nil=>simp only [Option.some.injEq] at h1; subst h1; exact ih _ _ s K h hk
  exact back ops dd st s _ h1 (by rw [regQ_eq,show dropS drop ⟨keep s.fr live,s.hp⟩=S from h2]; exact hQ)

@[simp] theorem thenQ_normal {K:St→Prop}:thenQ K Q .normal st=K st:=rfl
@[simp] theorem thenQ_exit {K:St→Prop} {i:Nat}:thenQ K Q (.exit i) st=Q (.exit i) st:=rfl
@[simp] theorem thenQ_ret {K:St→Prop}:thenQ K Q .ret st=Q .ret st:=rfl
@[simp] theorem blockQ_normal {i:Nat}:blockQ i Q .normal st=Q .normal st:=rfl
@[simp] theorem blockQ_exit {i j:Nat}:blockQ i Q (.exit j) st=if j=i then Q .normal st else Q (.exit j) st:=rfl
@[simp] theorem blockQ_ret {i:Nat}:blockQ i Q .ret st=Q .ret st:=rfl
@[simp] theorem finQ_normal {res:List RV} {R:AV→Prop}:finQ res R .normal st=(resOk st res=true∧R (export_ st.hp (retV st res))):=rfl
@[simp] theorem finQ_ret {res:List RV} {R:AV→Prop}:finQ res R .ret st=(resOk st res=true∧R (export_ st.hp (retV st res))):=rfl
@[simp] theorem finS_normal {n:Nat} {res:List RV} {R}:finS n res R .normal st=(resOk st res=true∧R (exportS n st.hp (retV st res))):=rfl
@[simp] theorem finS_ret {n:Nat} {res:List RV} {R}:finS n res R .ret st=(resOk st res=true∧R (exportS n st.hp (retV st res))):=rfl
@[simp] theorem finS_exit {n:Nat} {res:List RV} {R} {i:Nat}:finS n res R (.exit i) st=False:=rfl
@[simp] theorem finQ_exit {res:List RV} {R:AV→Prop} {i:Nat}:finQ res R (.exit i) st=False:=rfl

theorem wrap64 {x:Int} (h1 : -9223372036854775808≤x) (h2:x < 9223372036854775808):IntKind.i64.wrap x=x :=
  Go.IntWalk.i64_in x ⟨h1,by omega⟩

@[simp] theorem lk_cons {d i:Nat} {x:AV} {fr:List (Nat × AV)}:lk ((d,x)::fr) i=if d=i then x else lk fr i:=rfl
@[simp] theorem lk_nil {i:Nat}:lk [] i=.junk:=rfl
end

section
def gO {α:Type} (o:Option α) (k:α→Prop):Prop:=∃ a,o=some a∧k a
section
variable {α:Type} {k:α→Prop}
@[simp] theorem gO_some {a:α}:gO (some a) k=k a:=by simp [gO]
@[simp] theorem gO_none:gO none k=False:=by simp [gO]
@[simp] theorem gO_if1 {c:Prop} [Decidable c] {o:Option α}:gO (if c then o else none) k=(c∧gO o k):=by by_cases h:c <;> simp [h]
@[simp] theorem gO_if2 {c:Prop} [Decidable c] {o:Option α}:gO (if c then none else o) k=(¬ c∧gO o k):=by by_cases h:c <;> simp [h]
end

def oS:AV→Option (List UInt8) | .str s=>some s | _=>none
def oI:AV→Option Int | .int _ n=>some n | _=>none
def oN:AV→Option Nat | .int _ n=>if 0≤n then some n.toNat else none | _=>none
def oB:AV→Option Bool | .bool b=>some b | _=>none
def oRef:AV→Option (Nat × Nat) | .ref id off=>some (id,off) | _=>none
def oMsl:AV→Option (Nat × Nat) | .msl id es _ _=>some (id,es) | _=>none
@[simp] theorem oMsl_msl {a b c d}:oMsl (.msl a b c d)=some (a,b):=rfl
def oMref:AV→Option Nat | .mref id=>some id | _=>none
def oAgg:AV→Option (List AV) | .agg cs=>some cs | _=>none
def oTup:AV→Option (List AV) | .tup cs=>some cs | _=>none
def oIfc:AV→Option (Nat × AV) | .ifc t x=>some (t,x) | _=>none
def oFn:AV→Option (Nat × List AV) | .fn f c=>some (f,c) | _=>none
def oCells:Option AObj→Option (List AV) | some (.cells cs)=>some cs | _=>none
def oMp:Option AObj→Option (List (List UInt8 × AV)) | some (.mp es)=>some es | _=>none
def oRef0:AV→Option Nat | .ref id 0=>some id | _=>none
@[simp] theorem oRef0_ref {id}:oRef0 (.ref id 0)=some id:=rfl
def oMitC:Option AObj→Option (List UInt8 × AV) | some (.mit _ c)=>c | _=>none
@[simp] theorem oMitC_mit {r c}:oMitC (some (.mit r c))=c:=rfl
def oMpV:AV→Option (List (List UInt8 × AV)) | .mp es=>some es | _=>none
@[simp] theorem oMpV_mp {es}:oMpV (.mp es)=some es:=rfl
@[simp] theorem oS_str {s}:oS (.str s)=some s:=rfl
@[simp] theorem oI_int {t n}:oI (.int t n)=some n:=rfl
@[simp] theorem oN_int {t n}:oN (.int t n)=if 0≤n then some n.toNat else none:=rfl
@[simp] theorem oB_bool {b}:oB (.bool b)=some b:=rfl
@[simp] theorem oRef_ref {a b}:oRef (.ref a b)=some (a,b):=rfl
@[simp] theorem oMref_mref {a}:oMref (.mref a)=some a:=rfl
@[simp] theorem oAgg_agg {a}:oAgg (.agg a)=some a:=rfl
@[simp] theorem oTup_tup {a}:oTup (.tup a)=some a:=rfl
@[simp] theorem oIfc_ifc {a b}:oIfc (.ifc a b)=some (a,b):=rfl
@[simp] theorem oFn_fn {a b}:oFn (.fn a b)=some (a,b):=rfl
@[simp] theorem oCells_cells {a}:oCells (some (.cells a))=some a:=rfl
@[simp] theorem oMp_mp {a}:oMp (some (.mp a))=some a:=rfl
def ptrOk:AV→Bool
  | .ptr _=>true
  | .ref _ _=>true
  | _=>false

def bytesA (hp:List (Nat × AObj)) (v:AV):Option (List UInt8) :=
  match v with
  | .str _=>none
  | v=>if one1 v then (slCells hp v).bind toBytes else none

def runesA (hp:List (Nat × AObj)) (v:AV):Option (List UInt8) :=
  match v with
  | .str _=>none
  | v=>if one1 v then (slCells hp v).bind toRunes else none

def slA (es:Nat) (lo hi:Option AV):AV→Option AV
  | .sl es' xs=>(bounds xs.length lo hi).bind fun lh=>if es=es' then some (.sl es' (cut xs lo hi lh.1 lh.2)) else none
  | .nilS=>(bounds 0 lo hi).bind fun _=>some .nilS
  | .msl id es' off n=>(bounds n lo hi).bind fun lh=>if es=es' then some (.msl id es' (off+lh.1 * es') (lh.2 - lh.1)) else none
  | _=>none

def addrA (off:Nat):AV→Option AV
  | .ptr cs=>some (.ptr (cs.drop off))
  | .ref id o=>some (.ref id (o+off))
  | _=>none

def elemA (es j:Nat):AV→Option AV
  | .sl es' xs=>xs[j]?.bind fun v=>if es=es' then some (.ptr (cells v)) else none
  | .msl id es' off n=>if j < n∧es=es' then some (.ref id (off+j * es')) else none
  | _=>none

def lookA (es:List (List UInt8 × AV)) (s:List UInt8) (zero:AV) (ok:Bool):AV :=
  match mfind es s with
  | some v=>if ok then .tup [v,.bool true] else v
  | none=>if ok then .tup [zero,.bool false] else zero

def assertA (t:Nat) (zero:AV) (ok:Bool):AV→Option AV
  | .ifc u v=>if u=t then some (if ok then .tup [v,.bool true] else v) else if ok then some (.tup [zero,.bool false]) else none
  | .nilI=>if ok then some (.tup [zero,.bool false]) else none
  | _=>none

def o1 (hp:List (Nat × AObj)) (v:AV):Out:=⟨v,hp,[]⟩
def o2 (hp:List (Nat × AObj)) (d:Nat) (v:AV) (o:AObj):Out:=⟨v,(d,o)::killH d hp,[d]⟩
def o3 (hp:List (Nat × AObj)) (id:Nat) (o:AObj):Out:=⟨.junk,hset hp id o,[]⟩

section
variable {Γ:Gam} {fr:List (Nat × AV)} {hp:List (Nat × AObj)} {d:Nat}
@[simp] theorem a_mv {x}:aop Γ fr hp d (.mv x)=some (o1 hp (ev fr x)):=rfl
@[simp] theorem a_pick {c a b}:aop Γ fr hp d (.pick c a b)=(oB (ev fr c)).map fun t=>o1 hp (if t then ev fr a else ev fr b):=by
  simp only [aop]; cases ev fr c <;> simp [asB,oB,just,o1]
  rename_i t; cases t <;> simp
@[simp] theorem a_allocE {z}:aop Γ fr hp d (.allocE z)=if hasRefL z=false then some ⟨.ref d 0,killH d hp++[(d,.cells z)],[d]⟩ else none:=by
  simp only [aop]
@[simp] theorem a_nw {q s}:aop Γ fr hp d (.nw q s)=if nwIn q fr hp s=true then (aop Γ fr hp d s).bind (fun out=>if nwOut q d out=true then some out else none) else none:=by
  simp only [aop]; split
  · cases aop Γ fr hp d s <;> rfl
  · rfl
@[simp] theorem a_alloc {z}:aop Γ fr hp d (.alloc z)=some (o2 hp d (.ref d 0) (.cells z)):=rfl
@[simp] theorem a_agg {z p}:aop Γ fr hp d (.agg z p)=(fillA z (p.map fun p=>(p.1,p.2.1,ev fr p.2.2))).map fun cs=>o1 hp (.agg cs):=by
  simp only [aop]; cases fillA z (p.map fun p=>(p.1,p.2.1,ev fr p.2.2)) <;> simp [just,o1]
@[simp] theorem a_mkSl {es n z p}:aop Γ fr hp d (.mkSl es n z p)=(fillA ((List.replicate n z).flatten) (p.map fun p=>(p.1 * es,es,ev fr p.2))).map fun cs=>o2 hp d (.msl d es 0 n) (.cells (killL d cs)):=by
  simp only [aop]; cases fillA ((List.replicate n z).flatten) (p.map fun p=>(p.1 * es,es,ev fr p.2)) <;> simp [made,o2]
@[simp] theorem a_mkSlF {es n z p}:aop Γ fr hp d (.mkSlF es n z p)=(fillA ((List.replicate n z).flatten) (p.map fun p=>(p.1 * es,es,ev fr p.2))).bind fun cs =>
    if atoms cs=true∧hasRefL cs=false∧0 < es∧n * es≤cs.length then some (o1 hp (.sl es (elems es n cs))) else none:=by
  simp only [aop]; cases fillA ((List.replicate n z).flatten) (p.map fun p=>(p.1 * es,es,ev fr p.2)) <;> simp [just,o1]
@[simp] theorem a_box {x}:aop Γ fr hp d (.box x)=if atoms (cells (ev fr x))=true then some (o2 hp d (.ref d 0) (.cells (killL d (cells (ev fr x))))) else none:=rfl
@[simp] theorem a_boxF {x}:aop Γ fr hp d (.boxF x)=if atoms (cells (ev fr x))=true∧hasRefL (cells (ev fr x))=false then some (o1 hp (.bx (cells (ev fr x)))) else none:=rfl
@[simp] theorem a_load {n x}:aop Γ fr hp d (.load n x)=(aload hp n (ev fr x)).map (o1 hp):=by
  simp only [aop]; cases aload hp n (ev fr x) <;> simp [just,o1]
@[simp] theorem a_store {n a x}:aop Γ fr hp d (.store n a x)=(oRef (ev fr a)).bind fun r=>(oCells (hlk hp r.1)).bind fun cs =>
    if (cells (ev fr x)).length=n∧r.2+n≤cs.length∧atoms (cells (ev fr x))=true then some (o3 hp r.1 (.cells (spliceL cs r.2 (cells (ev fr x))))) else none:=by
  simp only [aop]; cases ev fr a <;> simp [oRef]
  rename_i id off
  cases hlk hp id with
  | none=>simp [oCells]
  | some o=>cases o <;> simp [oCells,o3]
@[simp] theorem a_chk {x}:aop Γ fr hp d (.chk x)=if ptrOk (ev fr x)=true then some (o1 hp (ev fr x)) else none:=by
  simp only [aop]; cases ev fr x <;> simp [ptrOk,just,o1]
@[simp] theorem a_bin {b x y}:aop Γ fr hp d (.bin b x y)=(abin b (ev fr x) (ev fr y)).map (o1 hp):=by
  simp only [aop]; cases abin b (ev fr x) (ev fr y) <;> simp [just,o1]
@[simp] theorem a_eqB {n x y}:aop Γ fr hp d (.eqB n x y)=(leafEq 0 (ev fr x) (ev fr y)).map fun b=>o1 hp (.bool (b != n)):=by
  simp only [aop]; cases leafEq 0 (ev fr x) (ev fr y) <;> simp [just,o1]
@[simp] theorem a_eqI {ps gs n x y}:aop Γ fr hp d (.eqI ps gs n x y)=(ifcEq ps gs (ev fr x) (ev fr y)).map fun b=>o1 hp (.bool (b != n)):=by
  simp only [aop]; cases ifcEq ps gs (ev fr x) (ev fr y) <;> simp [just,o1]
@[simp] theorem a_eqA {n ks x y}:aop Γ fr hp d (.eqA n ks x y)=(oAgg (ev fr x)).bind fun xs=>(oAgg (ev fr y)).bind fun ys=>(leafEqL ks xs ys).map fun b=>o1 hp (.bool (b != n)):=by
  simp only [aop]; cases ev fr x <;> simp [oAgg]
  cases ev fr y <;> simp
  rename_i xs ys; cases leafEqL ks xs ys <;> simp [just,o1]
@[simp] theorem a_isNil {c n x}:aop Γ fr hp d (.isNil c n x)=(isNilA c (ev fr x)).map fun b=>o1 hp (.bool (b != n)):=by
  simp only [aop]; cases isNilA c (ev fr x) <;> simp [just,o1]
@[simp] theorem a_mn {x y}:aop Γ fr hp d (.mn x y)=(amin (ev fr x) (ev fr y)).map (o1 hp):=by
  simp only [aop]; cases amin (ev fr x) (ev fr y) <;> simp [just,o1]
@[simp] theorem a_un {u x}:aop Γ fr hp d (.un u x)=(aun u (ev fr x)).map (o1 hp):=by
  simp only [aop]; cases aun u (ev fr x) <;> simp [just,o1]
@[simp] theorem a_cInt {t x}:aop Γ fr hp d (.cInt t x)=(oI (ev fr x)).map fun n=>o1 hp (.int t (t.wrap n)):=by
  simp only [aop]; cases ev fr x <;> simp [oI,just,o1]
@[simp] theorem a_cIntStr {x}:aop Γ fr hp d (.cIntStr x)=(oI (ev fr x)).map fun n=>o1 hp (.str (encR n)):=by
  simp only [aop]; cases ev fr x <;> simp [oI,just,o1]
@[simp] theorem a_cNop {x}:aop Γ fr hp d (.cNop x)=(oS (ev fr x)).map fun s=>o1 hp (.str s):=by
  simp only [aop]; cases ev fr x <;> simp [oS,just,o1]
@[simp] theorem a_cStrBytes {x}:aop Γ fr hp d (.cStrBytes x)=(oS (ev fr x)).bind fun s=>if s.length < 4611686018427387904 then some (o2 hp d (.msl d 1 0 s.length) (.cells (bcA s))) else none:=by
  simp only [aop]; cases ev fr x <;> simp [oS,made,o2]
@[simp] theorem a_cStrRunes {x}:aop Γ fr hp d (.cStrRunes x)=(oS (ev fr x)).bind fun s=>if s.length < 4611686018427387904 then some (o2 hp d (.msl d 1 0 (runesF s.length s).length) (.cells (rcA (runesF s.length s)))) else none:=by
  simp only [aop]; cases ev fr x <;> simp [oS,made,o2]
@[simp] theorem a_cBytesStr {x}:aop Γ fr hp d (.cBytesStr x)=(bytesA hp (ev fr x)).map fun s=>o1 hp (.str s):=by
  simp only [aop]
  generalize ev fr x=v
  have main:(if one1 v=true then (match slCells hp v with | some cs=>(match toBytes cs with | some s=>just hp (.str s) | none=>none) | none=>none) else none)=(if one1 v=true then (slCells hp v).bind toBytes else none).map fun s=>o1 hp (.str s):=by
    split
    · cases slCells hp v with
      | none=>simp
      | some cs=>simp only [Option.bind_some]; cases toBytes cs <;> simp [just,o1]
    · rfl
  cases v <;> first | exact main | simp [bytesA]
@[simp] theorem a_cRunesStr {x}:aop Γ fr hp d (.cRunesStr x)=(runesA hp (ev fr x)).map fun s=>o1 hp (.str s):=by
  simp only [aop]
  generalize ev fr x=v
  have main:(if one1 v=true then (match slCells hp v with | some cs=>(match toRunes cs with | some s=>just hp (.str s) | none=>none) | none=>none) else none)=(if one1 v=true then (slCells hp v).bind toRunes else none).map fun s=>o1 hp (.str s):=by
    split
    · cases slCells hp v with
      | none=>simp
      | some cs=>simp only [Option.bind_some]; cases toRunes cs <;> simp [just,o1]
    · rfl
  cases v <;> first | exact main | simp [runesA]
@[simp] theorem a_cSl {x}:aop Γ fr hp d (.cSl x)=(oMsl (ev fr x)).bind fun q=>(oCells (hlk hp q.1)).bind fun _=>some (o1 hp (ev fr x)):=by
  simp only [aop]
  cases h:ev fr x <;> simp [oMsl]
  rename_i id es off n
  cases hlk hp id with
  | none=>simp [oCells]
  | some o=>cases o <;> simp [oCells,just,o1]
@[simp] theorem a_mkIfc {t x}:aop Γ fr hp d (.mkIfc t x)=some (o1 hp (.ifc t (ev fr x))):=rfl
@[simp] theorem a_mkFn {f l}:aop Γ fr hp d (.mkFn f l)=some (o1 hp (.fn f (l.map (ev fr)))):=rfl
@[simp] theorem a_mkMap:aop Γ fr hp d .mkMap=some (o2 hp d (.mref d) (.mp [])):=rfl
@[simp] theorem a_mkSlice {es b z l c}:aop Γ fr hp d (.mkSlice es b z l c)=(oN (ev fr l)).bind fun n=>(oN (ev fr c)).bind fun m =>
    if n≤m∧(m+1) * (b+1) < 35184372088832∧m < 35184372088832 then some (o2 hp d (.msl d es 0 n) (.cells ((List.replicate n z).flatten))) else none:=by
  simp only [aop]
  have e:∀ v,idx v=oN v:=by intro v; cases v <;> rfl
  rw [e,e]
  cases oN (ev fr l) <;> simp
  cases oN (ev fr c) <;> simp [made,o2]
@[simp] theorem a_slStr {x lo hi}:aop Γ fr hp d (.slStr x lo hi)=(oS (ev fr x)).bind fun s=>(bounds s.length (lo.map (ev fr)) (hi.map (ev fr))).map fun lh=>o1 hp (.str (cut s (lo.map (ev fr)) (hi.map (ev fr)) lh.1 lh.2)):=by
  simp only [aop]; cases ev fr x <;> simp [oS]
  rename_i s; cases bounds s.length (lo.map (ev fr)) (hi.map (ev fr)) <;> simp [just,o1]
@[simp] theorem a_slSl {es x lo hi}:aop Γ fr hp d (.slSl es x lo hi)=(slA es (lo.map (ev fr)) (hi.map (ev fr)) (ev fr x)).map (o1 hp):=by
  simp only [aop]; cases ev fr x <;> simp [slA]
  · cases bounds 0 (lo.map (ev fr)) (hi.map (ev fr)) <;> simp [just,o1]
  · rename_i es' xs; cases bounds xs.length (lo.map (ev fr)) (hi.map (ev fr)) <;> simp [just]
    split <;> simp [o1]
  · rename_i id es' off n; cases bounds n (lo.map (ev fr)) (hi.map (ev fr)) <;> simp [just]
    split
    · rename_i h; subst h; simp [o1]
    · simp
@[simp] theorem a_fAddr {off x}:aop Γ fr hp d (.fAddr off x)=(addrA off (ev fr x)).map (o1 hp):=by
  simp only [aop]; cases ev fr x <;> simp [addrA,just,o1]
@[simp] theorem a_field {off n x}:aop Γ fr hp d (.field off n x)=(oAgg (ev fr x)).bind fun cs=>(loadC n (cs.drop off)).map (o1 hp):=by
  simp only [aop,partA]; cases ev fr x <;> simp [oAgg]
  rename_i cs; cases loadC n (cs.drop off) <;> simp [just,o1]
@[simp] theorem a_iAddr {es x i}:aop Γ fr hp d (.iAddr es x i)=(oN (ev fr i)).bind fun j=>(elemA es j (ev fr x)).map (o1 hp):=by
  simp only [aop]
  have e:∀ v,idx v=oN v:=by intro v; cases v <;> rfl
  rw [e]
  cases oN (ev fr i) <;> simp
  rename_i j
  cases ev fr x <;> simp [elemA,just]
  · rename_i es' xs; cases xs[j]? <;> simp
    split <;> simp [o1]
  · rename_i id es' off n
    split
    · rename_i h; obtain ⟨_,h⟩:=h; subst h; simp [o1]
    · simp
@[simp] theorem a_iAddrA {len es x i}:aop Γ fr hp d (.iAddrA len es x i)=(oN (ev fr i)).bind fun j=>if j < len then (addrA (j * es) (ev fr x)).map (o1 hp) else none:=by
  simp only [aop]
  have e:∀ v,idx v=oN v:=by intro v; cases v <;> rfl
  rw [e]
  cases oN (ev fr i) <;> simp
  cases ev fr x <;> simp [addrA,just,o1]
@[simp] theorem a_iStr {x i}:aop Γ fr hp d (.iStr x i)=(oN (ev fr i)).bind fun j=>(oS (ev fr x)).bind fun s=>s[j]?.bind fun b=>some (o1 hp (.int .u8 (b.toNat:Int))):=by
  simp only [aop]
  have e:∀ v,idx v=oN v:=by intro v; cases v <;> rfl
  rw [e]
  cases oN (ev fr i) <;> simp
  rename_i j
  cases ev fr x <;> simp [oS]
  rename_i s; cases s[j]? <;> simp [just,o1]
@[simp] theorem a_iArr {len es m x i}:aop Γ fr hp d (.iArr len es m x i)=(oN (ev fr i)).bind fun j=>if j < len then (oAgg (ev fr x)).bind fun cs=>(loadC m (cs.drop (j * es))).map (o1 hp) else none:=by
  simp only [aop,partA]
  have e:∀ v,idx v=oN v:=by intro v; cases v <;> rfl
  rw [e]
  cases oN (ev fr i) <;> simp
  rename_i j
  cases ev fr x <;> simp [oAgg]
  rename_i cs; cases loadC m (cs.drop (j * es)) <;> simp [just,o1]
@[simp] theorem a_look {z ok m q}:aop Γ fr hp d (.look z ok m q)=(ments hp (ev fr m)).bind fun es=>(oS (ev fr q)).map fun s=>o1 hp (lookA es s z ok):=by
  simp only [aop]; cases ments hp (ev fr m) <;> simp
  cases ev fr q <;> simp [asS,oS]
  rename_i es s; simp only [lookA]; cases mfind es s <;> simp [just,o1]
@[simp] theorem a_mput {m q v}:aop Γ fr hp d (.mput m q v)=(oMref (ev fr m)).bind fun id=>(oS (ev fr q)).bind fun s=>(oMp (hlk hp id)).bind fun es =>
    if atom (ev fr v)=true∧hasRef (ev fr v)=false then some (o3 hp id (.mp (mset es s (ev fr v)))) else none:=by
  simp only [aop]; cases ev fr m <;> simp [oMref]
  rename_i id; cases ev fr q <;> simp [asS,oS]
  cases hlk hp id with
  | none=>simp [oMp]
  | some o=>cases o <;> simp [oMp,o3]
@[simp] theorem a_mputD {m q v}:aop Γ fr hp d (.mputD m q v)=(oMref (ev fr m)).bind fun id=>(oS (ev fr q)).bind fun s=>(oMp (hlk hp id)).bind fun es =>
    if (atom (ev fr v)=true∧hasRef (ev fr v)=false)∧mfind es s=none then some (o3 hp id (.mp (insS es s (ev fr v)))) else none:=by
  simp only [aop]; cases ev fr m <;> simp [oMref]
  rename_i id; cases ev fr q <;> simp [asS,oS]
  cases hlk hp id with
  | none=>simp [oMp]
  | some o=>cases o <;> simp [oMp,o3]
@[simp] theorem a_entry {x}:aop Γ fr hp d (.entry x)=(oRef0 (ev fr x)).bind fun id=>(oMitC (hlk hp id)).map fun q=>o1 hp (.tup [.str q.1,q.2]):=by
  simp only [aop]
  split
  · rename_i id h
    simp only [h,oRef0,Option.bind_some]
    cases ho:hlk hp id with
    | none=>rfl
    | some o =>
      cases o
      case mit r c =>
        cases c <;> rfl
      all_goals rfl
  · rename_i h
    cases hx:ev fr x <;> simp [oRef0]
    rename_i id off
    cases off
    · exact absurd hx (h id)
    · rfl
@[simp] theorem a_rangeM {x}:aop Γ fr hp d (.rangeM x)=(oMpV (ev fr x)).map fun es=>o2 hp d (.ref d 0) (.mit es none):=by
  simp only [aop]; cases ev fr x <;> simp [oMpV,made,o2]
@[simp] theorem a_rangeS {x}:aop Γ fr hp d (.rangeS x)=(oS (ev fr x)).map fun s=>o2 hp d (.ref d 0) (.sit s 0):=by
  simp only [aop]; cases ev fr x <;> simp [oS,made,o2]
@[simp] theorem a_extr {x i}:aop Γ fr hp d (.extr x i)=(oTup (ev fr x)).bind fun vs=>vs[i]?.map (o1 hp):=by
  simp only [aop]; cases ev fr x <;> simp [oTup]
  rename_i vs; cases vs[i]? <;> simp [just,o1]
def assertIA (tb:List (Nat × Bool)):AV→Option AV
  | .nilI=>some (.tup [.nilI,.bool false])
  | .ifc g v=>(lkB tb g).map fun b=>if b then .tup [.ifc g v,.bool true] else .tup [.nilI,.bool false]
  | _=>none
@[simp] theorem a_assertI {tb x}:aop Γ fr hp d (.assertI tb x)=(assertIA tb (ev fr x)).map (o1 hp):=by
  simp only [aop]
  cases ev fr x <;> simp [assertIA,just,o1]
  rename_i g v
  cases lkB tb g <;> simp [o1]
@[simp] theorem a_assert {t z ok x}:aop Γ fr hp d (.assert t z ok x)=(assertA t z ok (ev fr x)).map (o1 hp):=by
  simp only [aop]; cases ev fr x <;> simp [assertA,just,o1]
  · split
    · simp [o1]
    · split <;> simp [o1]
@[simp] theorem a_len {c x}:aop Γ fr hp d (.len c x)=(alen hp c (ev fr x)).map fun n=>o1 hp (.int .i64 (n:Int)):=by
  simp only [aop]; cases alen hp c (ev fr x) <;> simp [just,o1]
@[simp] theorem a_appF {es b x y}:aop Γ fr hp d (.appF es b x y)=(slCells hp (ev fr y)).bind fun ys=>(ycount es (ev fr y)).bind fun n=>if n=0 then none else frzOut es (aapp hp d es b (ev fr x) ys n):=by
  simp only [aop]; cases slCells hp (ev fr y) <;> cases ycount es (ev fr y) <;> rfl
@[simp] theorem a_app {es b x y}:aop Γ fr hp d (.app es b x y)=(slCells hp (ev fr y)).bind fun ys=>(ycount es (ev fr y)).bind fun n=>aapp hp d es b (ev fr x) ys n:=by
  simp only [aop]; cases slCells hp (ev fr y) <;> simp
  cases ycount es (ev fr y) <;> simp
@[simp] theorem a_call {f l}:aop Γ fr hp d (.call f l)=(acall Γ hp f (l.map (ev fr))).map (o1 hp):=by
  simp only [aop]; cases acall Γ hp f (l.map (ev fr)) <;> simp [just,o1]
@[simp] theorem a_callV {f l}:aop Γ fr hp d (.callV f l)=(oFn (ev fr f)).bind fun g=>(acall Γ hp g.1 (l.map (ev fr)++g.2)).map (o1 hp):=by
  simp only [aop]; cases ev fr f <;> simp [oFn]
  rename_i g cap; cases acall Γ hp g (l.map (ev fr)++cap) <;> simp [just,o1]
@[simp] theorem a_inv {x n l}:aop Γ fr hp d (.inv x n l)=(oIfc (ev fr x)).bind fun t=>(Γ.mth t.1 n).bind fun f=>(acall Γ hp f (t.2::l.map (ev fr))).map (o1 hp):=by
  simp only [aop]; cases ev fr x <;> simp [oIfc]
  rename_i t v; cases Γ.mth t n <;> simp
  rename_i f; cases acall Γ hp f (v::l.map (ev fr)) <;> simp [just,o1]
@[simp] theorem a_callS {f l}:aop Γ fr hp d (.callS f l)=acallS Γ hp d f (l.map (ev fr)):=rfl
@[simp] theorem a_callVS {f l}:aop Γ fr hp d (.callVS f l)=(oFn (ev fr f)).bind fun g=>acallS Γ hp d g.1 (l.map (ev fr)++g.2):=by
  simp only [aop]; cases ev fr f <;> simp [oFn]
@[simp] theorem a_invS {x n l}:aop Γ fr hp d (.invS x n l)=(oIfc (ev fr x)).bind fun t=>(Γ.mth t.1 n).bind fun f=>acallS Γ hp d f (t.2::l.map (ev fr)):=by
  simp only [aop]; cases ev fr x <;> simp [oIfc]
  rename_i t v; cases Γ.mth t n <;> simp
@[simp] theorem a_bad:aop Γ fr hp d .bad=none:=rfl
@[simp] theorem a_fl {s}:aop Γ fr hp d (.fl s)=if flatIn fr s=true then (aop Γ fr [] d s).bind (fun out=>if pureV out.v=true then some (o1 hp out.v) else none) else none:=by
  simp only [aop]
  split
  · cases aop Γ fr [] d s <;> simp [just,o1]
  · rfl
@[simp] theorem o1_v {v:AV}:(o1 hp v).v=v:=rfl
end

section
variable {Γ:Gam} {st:St} {K:St→Prop} {dst:Option Nat} {r:List SO} {dd:List (List Nat)}
def kOps (Γ:Gam) (r:List SO) (dd:List (List Nat)) (fr:List (Nat × AV)) (dst:Option Nat) (K:St→Prop) (out:Out):Prop:=opsK Γ r (dTl dd) (rmS (dHd dd) (fin fr dst out)) K
@[simp] theorem kOps_o1 {fr hp v}:kOps Γ r dd fr dst K (o1 hp v)=opsK Γ r (dTl dd) ⟨rmF (dHd dd) (⟨putS fr dst v,hp⟩:St).fr,(⟨putS fr dst v,hp⟩:St).hp⟩ K:=rfl
@[simp] theorem kOps_o2 {fr hp d v o}:kOps Γ r dd fr dst K (o2 hp d v o)=opsK Γ r (dTl dd) ⟨rmF (dHd dd) (⟨putS (killF d fr) dst v,(d,o)::killH d hp⟩:St).fr,(⟨putS (killF d fr) dst v,(d,o)::killH d hp⟩:St).hp⟩ K:=rfl
@[simp] theorem kOps_o3 {fr hp id o}:kOps Γ r dd fr dst K (o3 hp id o)=opsK Γ r (dTl dd) ⟨rmF (dHd dd) (⟨putS fr dst .junk,hset hp id o⟩:St).fr,(⟨putS fr dst .junk,hset hp id o⟩:St).hp⟩ K:=rfl
@[simp] theorem kOps_mk {fr v hp n}:kOps Γ r dd fr dst K ⟨v,hp,n⟩=opsK Γ r (dTl dd) ⟨rmF (dHd dd) (⟨putS (killFs n fr) dst v,hp⟩:St).fr,(⟨putS (killFs n fr) dst v,hp⟩:St).hp⟩ K:=rfl
@[simp] theorem opsK_nil:opsK Γ [] dd st K=K st:=rfl
@[simp] theorem rmS_mk {ds:List Nat} {fr:List (Nat × AV)} {hp:List (Nat × AObj)}:rmS ds ⟨fr,hp⟩=⟨rmF ds fr,hp⟩:=rfl

theorem opsK_step {op:SOp} (h:∀ x,op ≠ .nextS x):opsK Γ (⟨dst,op,none⟩::r) dd st K=gO (aop Γ st.fr st.hp (dst.getD 0) op) (kOps Γ r dd st.fr dst K):=by
  simp only [opsK]
  cases op <;> first | (exfalso; exact h _ rfl) | (simp only [stepK]; split <;> rename_i ho <;> simp only [ho,gO_some,gO_none,kOps])

def nextK2 (o:Option AObj) (id:Nat) (Γ:Gam) (r:List SO) (dd:List (List Nat)) (dst:Option Nat) (st:St) (K:St→Prop):Prop:=match o with
    | some (.sit s pos) =>
      (pos < s.length→opsK Γ r (dTl dd) ⟨rmF (dHd dd) (putS st.fr dst (.tup [.bool true,.int .i64 (pos:Int),.int .i32 ((decR (s.drop pos)).1:Int)])),hset st.hp id (.sit s (pos+(decR (s.drop pos)).2))⟩ K) ∧
      (¬ pos < s.length→opsK Γ r (dTl dd) ⟨rmF (dHd dd) (putS st.fr dst (.tup [.bool false])),st.hp⟩ K)
    | _=>False
def nextK (v:AV) (Γ:Gam) (r:List SO) (dd:List (List Nat)) (dst:Option Nat) (st:St) (K:St→Prop):Prop:=match v with
  | .ref id 0=>nextK2 (hlk st.hp id) id Γ r dd dst st K
  | _=>False
@[simp] theorem nextK_ref {id}:nextK (.ref id 0) Γ r dd dst st K=nextK2 (hlk st.hp id) id Γ r dd dst st K:=rfl
@[simp] theorem nextK2_sit {s pos id}:nextK2 (some (.sit s pos)) id Γ r dd dst st K =
      ((pos < s.length→opsK Γ r (dTl dd) ⟨rmF (dHd dd) (putS st.fr dst (.tup [.bool true,.int .i64 (pos:Int),.int .i32 ((decR (s.drop pos)).1:Int)])),hset st.hp id (.sit s (pos+(decR (s.drop pos)).2))⟩ K) ∧
      (¬ pos < s.length→opsK Γ r (dTl dd) ⟨rmF (dHd dd) (putS st.fr dst (.tup [.bool false])),st.hp⟩ K)):=rfl
@[simp] theorem opsK_nextS {x}:opsK Γ (⟨dst,.nextS x,none⟩::r) dd st K=nextK (ev st.fr x) Γ r dd dst st K:=rfl

def guardK (v:AV) (Γ:Gam) (dst:Option Nat) (op:SOp) (g:Nat) (w:Bool) (r:List SO) (dd:List (List Nat)) (st:St) (K:St→Prop):Prop:=match v with
  | .bool b=>(b=w→opsK Γ (⟨dst,op,none⟩::r) dd ⟨(g,.bool w)::st.fr,st.hp⟩ K)∧(b=(!w)→opsK Γ r (dTl dd) ⟨rmF (dHd dd) (putS ((g,.bool (!w))::st.fr) dst (.tup [])),st.hp⟩ K)
  | .tup []=>opsK Γ r (dTl dd) ⟨rmF (dHd dd) (putS st.fr dst (.tup [])),st.hp⟩ K
  | _=>False
@[simp] theorem guardK_bool {b op g w}:guardK (.bool b) Γ dst op g w r dd st K=((b=w→opsK Γ (⟨dst,op,none⟩::r) dd ⟨(g,.bool w)::st.fr,st.hp⟩ K)∧(b=(!w)→opsK Γ r (dTl dd) ⟨rmF (dHd dd) (putS ((g,.bool (!w))::st.fr) dst (.tup [])),st.hp⟩ K)):=rfl
@[simp] theorem guardK_tup {op g w}:guardK (.tup []) Γ dst op g w r dd st K=opsK Γ r (dTl dd) ⟨rmF (dHd dd) (putS st.fr dst (.tup [])),st.hp⟩ K:=rfl
@[simp] theorem opsK_guard {op:SOp} {g:Nat} {w:Bool}:opsK Γ (⟨dst,op,some (g,w)⟩::r) dd st K=guardK (lk st.fr g) Γ dst op g w r dd st K:=by
  have e:∀ st K,stepK Γ ⟨dst,op,some (g,w)⟩ st K=stepK Γ ⟨dst,op,none⟩ st K:=by
    intro st K; cases op <;> rfl
  simp only [opsK,e,guardK]
  rfl
end
end

@[simp] theorem opsK_mv {Γ:Gam} {st:St} {K:St→Prop} {dst:Option Nat} {r:List SO} {dd:List (List Nat)} {a}:opsK Γ (⟨dst,.mv a,none⟩::r) dd st K=gO (aop Γ st.fr st.hp (dst.getD 0) (.mv a)) (kOps Γ r dd st.fr dst K):=opsK_step (by simp)
@[simp] theorem opsK_pick {Γ:Gam} {st:St} {K:St→Prop} {dst:Option Nat} {r:List SO} {dd:List (List Nat)} {a b c}:opsK Γ (⟨dst,.pick a b c,none⟩::r) dd st K=gO (aop Γ st.fr st.hp (dst.getD 0) (.pick a b c)) (kOps Γ r dd st.fr dst K):=opsK_step (by simp)
@[simp] theorem opsK_alloc {Γ:Gam} {st:St} {K:St→Prop} {dst:Option Nat} {r:List SO} {dd:List (List Nat)} {a}:opsK Γ (⟨dst,.alloc a,none⟩::r) dd st K=gO (aop Γ st.fr st.hp (dst.getD 0) (.alloc a)) (kOps Γ r dd st.fr dst K):=opsK_step (by simp)
@[simp] theorem opsK_agg {Γ:Gam} {st:St} {K:St→Prop} {dst:Option Nat} {r:List SO} {dd:List (List Nat)} {a b}:opsK Γ (⟨dst,.agg a b,none⟩::r) dd st K=gO (aop Γ st.fr st.hp (dst.getD 0) (.agg a b)) (kOps Γ r dd st.fr dst K):=opsK_step (by simp)
@[simp] theorem opsK_mkSl {Γ:Gam} {st:St} {K:St→Prop} {dst:Option Nat} {r:List SO} {dd:List (List Nat)} {a b c e}:opsK Γ (⟨dst,.mkSl a b c e,none⟩::r) dd st K=gO (aop Γ st.fr st.hp (dst.getD 0) (.mkSl a b c e)) (kOps Γ r dd st.fr dst K):=opsK_step (by simp)
@[simp] theorem opsK_load {Γ:Gam} {st:St} {K:St→Prop} {dst:Option Nat} {r:List SO} {dd:List (List Nat)} {a b}:opsK Γ (⟨dst,.load a b,none⟩::r) dd st K=gO (aop Γ st.fr st.hp (dst.getD 0) (.load a b)) (kOps Γ r dd st.fr dst K):=opsK_step (by simp)
@[simp] theorem opsK_store {Γ:Gam} {st:St} {K:St→Prop} {dst:Option Nat} {r:List SO} {dd:List (List Nat)} {a b c}:opsK Γ (⟨dst,.store a b c,none⟩::r) dd st K=gO (aop Γ st.fr st.hp (dst.getD 0) (.store a b c)) (kOps Γ r dd st.fr dst K):=opsK_step (by simp)
@[simp] theorem opsK_chk {Γ:Gam} {st:St} {K:St→Prop} {dst:Option Nat} {r:List SO} {dd:List (List Nat)} {a}:opsK Γ (⟨dst,.chk a,none⟩::r) dd st K=gO (aop Γ st.fr st.hp (dst.getD 0) (.chk a)) (kOps Γ r dd st.fr dst K):=opsK_step (by simp)
@[simp] theorem opsK_bin {Γ:Gam} {st:St} {K:St→Prop} {dst:Option Nat} {r:List SO} {dd:List (List Nat)} {a b c}:opsK Γ (⟨dst,.bin a b c,none⟩::r) dd st K=gO (aop Γ st.fr st.hp (dst.getD 0) (.bin a b c)) (kOps Γ r dd st.fr dst K):=opsK_step (by simp)
@[simp] theorem opsK_eqB {Γ:Gam} {st:St} {K:St→Prop} {dst:Option Nat} {r:List SO} {dd:List (List Nat)} {a b c}:opsK Γ (⟨dst,.eqB a b c,none⟩::r) dd st K=gO (aop Γ st.fr st.hp (dst.getD 0) (.eqB a b c)) (kOps Γ r dd st.fr dst K):=opsK_step (by simp)
@[simp] theorem opsK_eqI {Γ:Gam} {st:St} {K:St→Prop} {dst:Option Nat} {r:List SO} {dd:List (List Nat)} {a b c e f}:opsK Γ (⟨dst,.eqI a b c e f,none⟩::r) dd st K=gO (aop Γ st.fr st.hp (dst.getD 0) (.eqI a b c e f)) (kOps Γ r dd st.fr dst K):=opsK_step (by simp)
@[simp] theorem opsK_assertI {Γ:Gam} {st:St} {K:St→Prop} {dst:Option Nat} {r:List SO} {dd:List (List Nat)} {a b}:opsK Γ (⟨dst,.assertI a b,none⟩::r) dd st K=gO (aop Γ st.fr st.hp (dst.getD 0) (.assertI a b)) (kOps Γ r dd st.fr dst K):=opsK_step (by simp)
@[simp] theorem opsK_eqA {Γ:Gam} {st:St} {K:St→Prop} {dst:Option Nat} {r:List SO} {dd:List (List Nat)} {a b c e}:opsK Γ (⟨dst,.eqA a b c e,none⟩::r) dd st K=gO (aop Γ st.fr st.hp (dst.getD 0) (.eqA a b c e)) (kOps Γ r dd st.fr dst K):=opsK_step (by simp)
@[simp] theorem opsK_isNil {Γ:Gam} {st:St} {K:St→Prop} {dst:Option Nat} {r:List SO} {dd:List (List Nat)} {a b c}:opsK Γ (⟨dst,.isNil a b c,none⟩::r) dd st K=gO (aop Γ st.fr st.hp (dst.getD 0) (.isNil a b c)) (kOps Γ r dd st.fr dst K):=opsK_step (by simp)
@[simp] theorem opsK_mn {Γ:Gam} {st:St} {K:St→Prop} {dst:Option Nat} {r:List SO} {dd:List (List Nat)} {a b}:opsK Γ (⟨dst,.mn a b,none⟩::r) dd st K=gO (aop Γ st.fr st.hp (dst.getD 0) (.mn a b)) (kOps Γ r dd st.fr dst K):=opsK_step (by simp)
@[simp] theorem opsK_un {Γ:Gam} {st:St} {K:St→Prop} {dst:Option Nat} {r:List SO} {dd:List (List Nat)} {a b}:opsK Γ (⟨dst,.un a b,none⟩::r) dd st K=gO (aop Γ st.fr st.hp (dst.getD 0) (.un a b)) (kOps Γ r dd st.fr dst K):=opsK_step (by simp)
@[simp] theorem opsK_cInt {Γ:Gam} {st:St} {K:St→Prop} {dst:Option Nat} {r:List SO} {dd:List (List Nat)} {a b}:opsK Γ (⟨dst,.cInt a b,none⟩::r) dd st K=gO (aop Γ st.fr st.hp (dst.getD 0) (.cInt a b)) (kOps Γ r dd st.fr dst K):=opsK_step (by simp)
@[simp] theorem opsK_cIntStr {Γ:Gam} {st:St} {K:St→Prop} {dst:Option Nat} {r:List SO} {dd:List (List Nat)} {a}:opsK Γ (⟨dst,.cIntStr a,none⟩::r) dd st K=gO (aop Γ st.fr st.hp (dst.getD 0) (.cIntStr a)) (kOps Γ r dd st.fr dst K):=opsK_step (by simp)
@[simp] theorem opsK_cNop {Γ:Gam} {st:St} {K:St→Prop} {dst:Option Nat} {r:List SO} {dd:List (List Nat)} {a}:opsK Γ (⟨dst,.cNop a,none⟩::r) dd st K=gO (aop Γ st.fr st.hp (dst.getD 0) (.cNop a)) (kOps Γ r dd st.fr dst K):=opsK_step (by simp)
@[simp] theorem opsK_cStrBytes {Γ:Gam} {st:St} {K:St→Prop} {dst:Option Nat} {r:List SO} {dd:List (List Nat)} {a}:opsK Γ (⟨dst,.cStrBytes a,none⟩::r) dd st K=gO (aop Γ st.fr st.hp (dst.getD 0) (.cStrBytes a)) (kOps Γ r dd st.fr dst K):=opsK_step (by simp)
@[simp] theorem opsK_cBytesStr {Γ:Gam} {st:St} {K:St→Prop} {dst:Option Nat} {r:List SO} {dd:List (List Nat)} {a}:opsK Γ (⟨dst,.cBytesStr a,none⟩::r) dd st K=gO (aop Γ st.fr st.hp (dst.getD 0) (.cBytesStr a)) (kOps Γ r dd st.fr dst K):=opsK_step (by simp)
@[simp] theorem opsK_cStrRunes {Γ:Gam} {st:St} {K:St→Prop} {dst:Option Nat} {r:List SO} {dd:List (List Nat)} {a}:opsK Γ (⟨dst,.cStrRunes a,none⟩::r) dd st K=gO (aop Γ st.fr st.hp (dst.getD 0) (.cStrRunes a)) (kOps Γ r dd st.fr dst K):=opsK_step (by simp)
@[simp] theorem opsK_cRunesStr {Γ:Gam} {st:St} {K:St→Prop} {dst:Option Nat} {r:List SO} {dd:List (List Nat)} {a}:opsK Γ (⟨dst,.cRunesStr a,none⟩::r) dd st K=gO (aop Γ st.fr st.hp (dst.getD 0) (.cRunesStr a)) (kOps Γ r dd st.fr dst K):=opsK_step (by simp)
@[simp] theorem opsK_cSl {Γ:Gam} {st:St} {K:St→Prop} {dst:Option Nat} {r:List SO} {dd:List (List Nat)} {a}:opsK Γ (⟨dst,.cSl a,none⟩::r) dd st K=gO (aop Γ st.fr st.hp (dst.getD 0) (.cSl a)) (kOps Γ r dd st.fr dst K):=opsK_step (by simp)
@[simp] theorem opsK_mkIfc {Γ:Gam} {st:St} {K:St→Prop} {dst:Option Nat} {r:List SO} {dd:List (List Nat)} {a b}:opsK Γ (⟨dst,.mkIfc a b,none⟩::r) dd st K=gO (aop Γ st.fr st.hp (dst.getD 0) (.mkIfc a b)) (kOps Γ r dd st.fr dst K):=opsK_step (by simp)
@[simp] theorem opsK_mkFn {Γ:Gam} {st:St} {K:St→Prop} {dst:Option Nat} {r:List SO} {dd:List (List Nat)} {a b}:opsK Γ (⟨dst,.mkFn a b,none⟩::r) dd st K=gO (aop Γ st.fr st.hp (dst.getD 0) (.mkFn a b)) (kOps Γ r dd st.fr dst K):=opsK_step (by simp)
@[simp] theorem opsK_mkMap {Γ:Gam} {st:St} {K:St→Prop} {dst:Option Nat} {r:List SO} {dd:List (List Nat)}:opsK Γ (⟨dst,.mkMap ,none⟩::r) dd st K=gO (aop Γ st.fr st.hp (dst.getD 0) (.mkMap )) (kOps Γ r dd st.fr dst K):=opsK_step (by simp)
@[simp] theorem opsK_mkSlice {Γ:Gam} {st:St} {K:St→Prop} {dst:Option Nat} {r:List SO} {dd:List (List Nat)} {a b c e f}:opsK Γ (⟨dst,.mkSlice a b c e f,none⟩::r) dd st K=gO (aop Γ st.fr st.hp (dst.getD 0) (.mkSlice a b c e f)) (kOps Γ r dd st.fr dst K):=opsK_step (by simp)
@[simp] theorem opsK_slStr {Γ:Gam} {st:St} {K:St→Prop} {dst:Option Nat} {r:List SO} {dd:List (List Nat)} {a b c}:opsK Γ (⟨dst,.slStr a b c,none⟩::r) dd st K=gO (aop Γ st.fr st.hp (dst.getD 0) (.slStr a b c)) (kOps Γ r dd st.fr dst K):=opsK_step (by simp)
@[simp] theorem opsK_slSl {Γ:Gam} {st:St} {K:St→Prop} {dst:Option Nat} {r:List SO} {dd:List (List Nat)} {a b c e}:opsK Γ (⟨dst,.slSl a b c e,none⟩::r) dd st K=gO (aop Γ st.fr st.hp (dst.getD 0) (.slSl a b c e)) (kOps Γ r dd st.fr dst K):=opsK_step (by simp)
@[simp] theorem opsK_fAddr {Γ:Gam} {st:St} {K:St→Prop} {dst:Option Nat} {r:List SO} {dd:List (List Nat)} {a b}:opsK Γ (⟨dst,.fAddr a b,none⟩::r) dd st K=gO (aop Γ st.fr st.hp (dst.getD 0) (.fAddr a b)) (kOps Γ r dd st.fr dst K):=opsK_step (by simp)
@[simp] theorem opsK_field {Γ:Gam} {st:St} {K:St→Prop} {dst:Option Nat} {r:List SO} {dd:List (List Nat)} {a b c}:opsK Γ (⟨dst,.field a b c,none⟩::r) dd st K=gO (aop Γ st.fr st.hp (dst.getD 0) (.field a b c)) (kOps Γ r dd st.fr dst K):=opsK_step (by simp)
@[simp] theorem opsK_iAddr {Γ:Gam} {st:St} {K:St→Prop} {dst:Option Nat} {r:List SO} {dd:List (List Nat)} {a b c}:opsK Γ (⟨dst,.iAddr a b c,none⟩::r) dd st K=gO (aop Γ st.fr st.hp (dst.getD 0) (.iAddr a b c)) (kOps Γ r dd st.fr dst K):=opsK_step (by simp)
@[simp] theorem opsK_iAddrA {Γ:Gam} {st:St} {K:St→Prop} {dst:Option Nat} {r:List SO} {dd:List (List Nat)} {a b c e}:opsK Γ (⟨dst,.iAddrA a b c e,none⟩::r) dd st K=gO (aop Γ st.fr st.hp (dst.getD 0) (.iAddrA a b c e)) (kOps Γ r dd st.fr dst K):=opsK_step (by simp)
@[simp] theorem opsK_iStr {Γ:Gam} {st:St} {K:St→Prop} {dst:Option Nat} {r:List SO} {dd:List (List Nat)} {a b}:opsK Γ (⟨dst,.iStr a b,none⟩::r) dd st K=gO (aop Γ st.fr st.hp (dst.getD 0) (.iStr a b)) (kOps Γ r dd st.fr dst K):=opsK_step (by simp)
@[simp] theorem opsK_iArr {Γ:Gam} {st:St} {K:St→Prop} {dst:Option Nat} {r:List SO} {dd:List (List Nat)} {a b c e f}:opsK Γ (⟨dst,.iArr a b c e f,none⟩::r) dd st K=gO (aop Γ st.fr st.hp (dst.getD 0) (.iArr a b c e f)) (kOps Γ r dd st.fr dst K):=opsK_step (by simp)
@[simp] theorem opsK_look {Γ:Gam} {st:St} {K:St→Prop} {dst:Option Nat} {r:List SO} {dd:List (List Nat)} {a b c e}:opsK Γ (⟨dst,.look a b c e,none⟩::r) dd st K=gO (aop Γ st.fr st.hp (dst.getD 0) (.look a b c e)) (kOps Γ r dd st.fr dst K):=opsK_step (by simp)
@[simp] theorem opsK_mput {Γ:Gam} {st:St} {K:St→Prop} {dst:Option Nat} {r:List SO} {dd:List (List Nat)} {a b c}:opsK Γ (⟨dst,.mput a b c,none⟩::r) dd st K=gO (aop Γ st.fr st.hp (dst.getD 0) (.mput a b c)) (kOps Γ r dd st.fr dst K):=opsK_step (by simp)
@[simp] theorem opsK_mputD {Γ:Gam} {st:St} {K:St→Prop} {dst:Option Nat} {r:List SO} {dd:List (List Nat)} {a b c}:opsK Γ (⟨dst,.mputD a b c,none⟩::r) dd st K=gO (aop Γ st.fr st.hp (dst.getD 0) (.mputD a b c)) (kOps Γ r dd st.fr dst K):=opsK_step (by simp)
@[simp] theorem opsK_rangeS {Γ:Gam} {st:St} {K:St→Prop} {dst:Option Nat} {r:List SO} {dd:List (List Nat)} {a}:opsK Γ (⟨dst,.rangeS a,none⟩::r) dd st K=gO (aop Γ st.fr st.hp (dst.getD 0) (.rangeS a)) (kOps Γ r dd st.fr dst K):=opsK_step (by simp)
@[simp] theorem opsK_rangeM {Γ:Gam} {st:St} {K:St→Prop} {dst:Option Nat} {r:List SO} {dd:List (List Nat)} {a}:opsK Γ (⟨dst,.rangeM a,none⟩::r) dd st K=gO (aop Γ st.fr st.hp (dst.getD 0) (.rangeM a)) (kOps Γ r dd st.fr dst K):=opsK_step (by simp)
@[simp] theorem opsK_entry {Γ:Gam} {st:St} {K:St→Prop} {dst:Option Nat} {r:List SO} {dd:List (List Nat)} {a}:opsK Γ (⟨dst,.entry a,none⟩::r) dd st K=gO (aop Γ st.fr st.hp (dst.getD 0) (.entry a)) (kOps Γ r dd st.fr dst K):=opsK_step (by simp)
@[simp] theorem opsK_extr {Γ:Gam} {st:St} {K:St→Prop} {dst:Option Nat} {r:List SO} {dd:List (List Nat)} {a b}:opsK Γ (⟨dst,.extr a b,none⟩::r) dd st K=gO (aop Γ st.fr st.hp (dst.getD 0) (.extr a b)) (kOps Γ r dd st.fr dst K):=opsK_step (by simp)
@[simp] theorem opsK_assert {Γ:Gam} {st:St} {K:St→Prop} {dst:Option Nat} {r:List SO} {dd:List (List Nat)} {a b c e}:opsK Γ (⟨dst,.assert a b c e,none⟩::r) dd st K=gO (aop Γ st.fr st.hp (dst.getD 0) (.assert a b c e)) (kOps Γ r dd st.fr dst K):=opsK_step (by simp)
@[simp] theorem opsK_len {Γ:Gam} {st:St} {K:St→Prop} {dst:Option Nat} {r:List SO} {dd:List (List Nat)} {a b}:opsK Γ (⟨dst,.len a b,none⟩::r) dd st K=gO (aop Γ st.fr st.hp (dst.getD 0) (.len a b)) (kOps Γ r dd st.fr dst K):=opsK_step (by simp)
@[simp] theorem opsK_allocE {Γ:Gam} {st:St} {K:St→Prop} {dst:Option Nat} {r:List SO} {dd:List (List Nat)} {a}:opsK Γ (⟨dst,.allocE a,none⟩::r) dd st K=gO (aop Γ st.fr st.hp (dst.getD 0) (.allocE a)) (kOps Γ r dd st.fr dst K):=opsK_step (by simp)
@[simp] theorem opsK_nw {Γ:Gam} {st:St} {K:St→Prop} {dst:Option Nat} {r:List SO} {dd:List (List Nat)} {a b}:opsK Γ (⟨dst,.nw a b,none⟩::r) dd st K=gO (aop Γ st.fr st.hp (dst.getD 0) (.nw a b)) (kOps Γ r dd st.fr dst K):=opsK_step (by simp)
@[simp] theorem opsK_appF {Γ:Gam} {st:St} {K:St→Prop} {dst:Option Nat} {r:List SO} {dd:List (List Nat)} {a b c e}:opsK Γ (⟨dst,.appF a b c e,none⟩::r) dd st K=gO (aop Γ st.fr st.hp (dst.getD 0) (.appF a b c e)) (kOps Γ r dd st.fr dst K):=opsK_step (by simp)
@[simp] theorem opsK_app {Γ:Gam} {st:St} {K:St→Prop} {dst:Option Nat} {r:List SO} {dd:List (List Nat)} {a b c e}:opsK Γ (⟨dst,.app a b c e,none⟩::r) dd st K=gO (aop Γ st.fr st.hp (dst.getD 0) (.app a b c e)) (kOps Γ r dd st.fr dst K):=opsK_step (by simp)
@[simp] theorem opsK_call {Γ:Gam} {st:St} {K:St→Prop} {dst:Option Nat} {r:List SO} {dd:List (List Nat)} {a b}:opsK Γ (⟨dst,.call a b,none⟩::r) dd st K=gO (aop Γ st.fr st.hp (dst.getD 0) (.call a b)) (kOps Γ r dd st.fr dst K):=opsK_step (by simp)
@[simp] theorem opsK_callV {Γ:Gam} {st:St} {K:St→Prop} {dst:Option Nat} {r:List SO} {dd:List (List Nat)} {a b}:opsK Γ (⟨dst,.callV a b,none⟩::r) dd st K=gO (aop Γ st.fr st.hp (dst.getD 0) (.callV a b)) (kOps Γ r dd st.fr dst K):=opsK_step (by simp)
@[simp] theorem opsK_inv {Γ:Gam} {st:St} {K:St→Prop} {dst:Option Nat} {r:List SO} {dd:List (List Nat)} {a b c}:opsK Γ (⟨dst,.inv a b c,none⟩::r) dd st K=gO (aop Γ st.fr st.hp (dst.getD 0) (.inv a b c)) (kOps Γ r dd st.fr dst K):=opsK_step (by simp)
@[simp] theorem opsK_mkSlF {Γ:Gam} {st:St} {K:St→Prop} {dst:Option Nat} {r:List SO} {dd:List (List Nat)} {a b c e}:opsK Γ (⟨dst,.mkSlF a b c e,none⟩::r) dd st K=gO (aop Γ st.fr st.hp (dst.getD 0) (.mkSlF a b c e)) (kOps Γ r dd st.fr dst K):=opsK_step (by simp)
@[simp] theorem opsK_box {Γ:Gam} {st:St} {K:St→Prop} {dst:Option Nat} {r:List SO} {dd:List (List Nat)} {a}:opsK Γ (⟨dst,.box a,none⟩::r) dd st K=gO (aop Γ st.fr st.hp (dst.getD 0) (.box a)) (kOps Γ r dd st.fr dst K):=opsK_step (by simp)
@[simp] theorem opsK_boxF {Γ:Gam} {st:St} {K:St→Prop} {dst:Option Nat} {r:List SO} {dd:List (List Nat)} {a}:opsK Γ (⟨dst,.boxF a,none⟩::r) dd st K=gO (aop Γ st.fr st.hp (dst.getD 0) (.boxF a)) (kOps Γ r dd st.fr dst K):=opsK_step (by simp)
@[simp] theorem opsK_callS {Γ:Gam} {st:St} {K:St→Prop} {dst:Option Nat} {r:List SO} {dd:List (List Nat)} {a b}:opsK Γ (⟨dst,.callS a b,none⟩::r) dd st K=gO (aop Γ st.fr st.hp (dst.getD 0) (.callS a b)) (kOps Γ r dd st.fr dst K):=opsK_step (by simp)
@[simp] theorem opsK_callVS {Γ:Gam} {st:St} {K:St→Prop} {dst:Option Nat} {r:List SO} {dd:List (List Nat)} {a b}:opsK Γ (⟨dst,.callVS a b,none⟩::r) dd st K=gO (aop Γ st.fr st.hp (dst.getD 0) (.callVS a b)) (kOps Γ r dd st.fr dst K):=opsK_step (by simp)
@[simp] theorem opsK_invS {Γ:Gam} {st:St} {K:St→Prop} {dst:Option Nat} {r:List SO} {dd:List (List Nat)} {a b c}:opsK Γ (⟨dst,.invS a b c,none⟩::r) dd st K=gO (aop Γ st.fr st.hp (dst.getD 0) (.invS a b c)) (kOps Γ r dd st.fr dst K):=opsK_step (by simp)
@[simp] theorem opsK_fl {Γ:Gam} {st:St} {K:St→Prop} {dst:Option Nat} {r:List SO} {dd:List (List Nat)} {a}:opsK Γ (⟨dst,.fl a,none⟩::r) dd st K=gO (aop Γ st.fr st.hp (dst.getD 0) (.fl a)) (kOps Γ r dd st.fr dst K):=opsK_step (by simp)
@[simp] theorem opsK_bad {Γ:Gam} {st:St} {K:St→Prop} {dst:Option Nat} {r:List SO} {dd:List (List Nat)}:opsK Γ (⟨dst,.bad ,none⟩::r) dd st K=gO (aop Γ st.fr st.hp (dst.getD 0) (.bad )) (kOps Γ r dd st.fr dst K):=opsK_step (by simp)

section
@[simp] theorem bounds_nn {len:Nat}:bounds len none none=some (0,len):=by simp [bounds]
@[simp] theorem bounds_sn {len:Nat} {t:IntKind} {n:Int}:bounds len (some (.int t n)) none=if 0≤n∧n≤len then some (n.toNat,len) else none:=by
  simp only [bounds,idx]
  by_cases h:0≤n
  · simp only [h,if_true,true_and]
    by_cases h2:n≤len
    · rw [if_pos ⟨by omega,Nat.le_refl _⟩,if_pos h2]
    · rw [if_neg (by omega),if_neg h2]
  · simp [h]
@[simp] theorem bounds_ns {len:Nat} {t:IntKind} {n:Int}:bounds len none (some (.int t n))=if 0≤n∧n≤len then some (0,n.toNat) else none:=by
  simp only [bounds,idx]
  by_cases h:0≤n
  · simp only [h,if_true,true_and]
    by_cases h2:n≤len
    · rw [if_pos ⟨by omega,by omega⟩,if_pos h2]
    · rw [if_neg (by omega),if_neg h2]
  · simp [h]
@[simp] theorem bounds_ss {len:Nat} {t t':IntKind} {l n:Int}:bounds len (some (.int t l)) (some (.int t' n))=if 0≤l∧l≤n∧n≤len then some (l.toNat,n.toNat) else none:=by
  simp only [bounds,idx]
  by_cases h:0≤n
  · by_cases h1:0≤l
    · simp only [h,h1,if_true,true_and]
      by_cases h2:l≤n∧n≤len
      · rw [if_pos ⟨by omega,by omega⟩,if_pos h2]
      · rw [if_neg (by omega),if_neg h2]
    · simp [h,h1]
  · simp only [h,if_false]
    rw [if_neg (by omega)]
@[simp] theorem map_if1 {α β:Type} {f:α→β} {c:Prop} [Decidable c] {o:Option α}:(if c then o else none).map f=if c then o.map f else none:=by split <;> rfl
@[simp] theorem map_if2 {α β:Type} {f:α→β} {c:Prop} [Decidable c] {o:Option α}:(if c then none else o).map f=if c then none else o.map f:=by split <;> rfl
@[simp] theorem bind_if1 {α β:Type} {f:α→Option β} {c:Prop} [Decidable c] {o:Option α}:(if c then o else none).bind f=if c then o.bind f else none:=by split <;> rfl
@[simp] theorem bind_if2 {α β:Type} {f:α→Option β} {c:Prop} [Decidable c] {o:Option α}:(if c then none else o).bind f=if c then none else o.bind f:=by split <;> rfl
end

section
@[simp] theorem atom_int {k n}:atom (.int k n)=true:=rfl
@[simp] theorem atom_str {s}:atom (.str s)=true:=rfl
@[simp] theorem atom_bool {b}:atom (.bool b)=true:=rfl
@[simp] theorem atom_nilI:atom (.nilI )=true:=rfl
@[simp] theorem atom_nilP:atom (.nilP )=true:=rfl
@[simp] theorem atom_nilF:atom (.nilF )=true:=rfl
@[simp] theorem atom_nilM:atom (.nilM )=true:=rfl
@[simp] theorem atom_nilS:atom (.nilS )=true:=rfl
@[simp] theorem atom_sl {e xs}:atom (.sl e xs)=true:=rfl
@[simp] theorem atom_ptr {cs}:atom (.ptr cs)=true:=rfl
@[simp] theorem atom_bx {cs}:atom (.bx cs)=true:=rfl
@[simp] theorem atom_ifc {t v}:atom (.ifc t v)=true:=rfl
@[simp] theorem atom_fn {f c}:atom (.fn f c)=true:=rfl
@[simp] theorem atom_mp {es}:atom (.mp es)=true:=rfl
@[simp] theorem atom_ref {a b}:atom (.ref a b)=true:=rfl
@[simp] theorem atom_msl {a b c e}:atom (.msl a b c e)=true:=rfl
@[simp] theorem atom_mref {a}:atom (.mref a)=true:=rfl
@[simp] theorem atom_agg {cs}:atom (.agg cs)=false:=rfl
@[simp] theorem atom_tup {cs}:atom (.tup cs)=false:=rfl
@[simp] theorem atom_gp {q}:atom (.gp q)=true:=rfl
@[simp] theorem atom_junk:atom (.junk )=false:=rfl
end

attribute [simp] pureV pureVL readsOf argsOf opdS flatIn nwIn nwOut noD okNw
attribute [simp] dHd dTl rmF resOk rvV runsS up6 oldK ownN lowN exportS mapId mapIdL refs refsL mapO refsO mapH pickH restH idxN nameN keysH killHs deadN freshN inIds closedH backS gstep gsteps frzG frzF frzO frzH noRefO swapN mapF snapW snapWL elems
attribute [simp] amin
attribute [simp] runs alen idx cut isNilA ments aload loadC slCells ycount isSl aapp aappN aappM one1 hlk hset killH killO atoms cells fillA aun leafEq leafEqL flat flatL ev killFs putS keep dropS norm abin binI binS initF retV export_ hasRef hasRefL killF kill killL ptrOk bytesA runesA slA addrA elemA assertA assertIA ifcEq lkB lkC farC gcA frzOut
end Wax


namespace Wax
open Go (IntKind)

def b_laws_zzFits7_1:SCode :=
 (.seq
 (.region [⟨some 11,.bin .lss (.t 10) (.t 9),none⟩] [8,9,10,11] [] [])
 (.seq
 (.cond (.t 11)
 .skip
 (.exit 0))
 (.seq
 (.block 1
 (.seq
 (.region [⟨some 12,.iAddr 1 (.t 8) (.t 10),none⟩,⟨some 13,.load none (.t 12),none⟩,⟨some 4,.mv (.t 13),none⟩] [4,8,9,10] [] [[],[12]])
 (.seq
 (.region [⟨some 14,.mv (.t 4),none⟩,⟨some 15,.len 0 (.t 14),none⟩,⟨some 16,.bin .gtr (.t 15) (.k (.int .i64 2147483647)),none⟩] [8,9,10,16] [] [[4],[14]])
 (.cond (.t 16)
 (.seq
 (.region [⟨some 2,.mv (.k (.bool false)),none⟩] [2] [] [])
 .ret)
 .skip))))
 (.region [⟨some 17,.bin .add (.t 10) (.k (.int .i64 1)),none⟩,⟨some 10,.mv (.t 17),none⟩] [8,9,10] [] []))))

def t_laws_zzFits7_2:SCode :=
 (.seq
 (.region [⟨some 2,.mv (.k (.bool true)),none⟩] [2] [] [])
 .ret)

def c_laws_zzFits7:SFn:=⟨1,
 (.seq
 (.region [⟨some 2,.mv (.k (.bool false)),none⟩] [0] [] [])
 (.seq
 (.seq
 (.region [⟨some 5,.mv (.t 0),none⟩,⟨some 6,.len 1 (.t 5),none⟩,⟨some 7,.bin .gtr (.t 6) (.k (.int .i64 2147483647)),none⟩] [0,7] [] [[],[5]])
 (.cond (.t 7)
 (.seq
 (.region [⟨some 2,.mv (.k (.bool false)),none⟩] [2] [] [])
 .ret)
 .skip))
 (.seq
 (.seq
 (.region [⟨some 8,.mv (.t 0),none⟩,⟨some 9,.len 1 (.t 8),none⟩,⟨some 10,.mv (.k (.int .i64 0)),none⟩] [8,9,10] [] [[0]])
 (.block 0
 (.loop [8,9,10]
 b_laws_zzFits7_1)))
 t_laws_zzFits7_2))),
 [.t 2]⟩

def l_laws_zzFits7:Lay:={ rg:=[(0,([0],[])),(1,([0,7],[])),(2,([2],[])),(3,([8,9,10],[])),(4,([8,9,10,11],[])),(5,([4,8,9,10],[])),(6,([8,9,10,16],[])),(7,([2],[])),(8,([8,9,10],[])),(9,([2],[])),(1000004,([8,9,10],[]))],dd:=[(1,[[],[5]]),(3,[[0]]),(5,[[],[12]]),(6,[[4],[14]])] }

end Wax


