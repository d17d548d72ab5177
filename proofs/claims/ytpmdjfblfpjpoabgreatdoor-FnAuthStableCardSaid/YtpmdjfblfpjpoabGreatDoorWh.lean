/- The machine by which the functions are read, and what is proved of them (part 8): no premise. -/
import Derived.Test.YtpmdjfblfpjpoabGreatDoorWg
set_option linter.all false
namespace Wax
open Go (IntKind)

def Gam.le (A B:Gam):Prop :=
  (∀ f a r,A.fn f a=some r→B.fn f a=some r)∧(∀ t n f,A.mth t n=some f→B.mth t n=some f)∧∀ f a h q,A.st f a h=some q→B.st f a h=some q

theorem acall_mono {A B:Gam} (L:A.le B) {hp:List (Nat × AObj)} {f:Nat} {args:List AV} {r:AV} (h:acall A hp f args=some r):acall B hp f args=some r:=by
  unfold acall at h ⊢
  split at h
  · rename_i c
    rw [if_pos c]
    split at h
    · rename_i e; rw [L.1 _ _ _ e]; exact h
    · cases h
  · rename_i c
    rw [if_neg c]
    split at h
    · rename_i e; rw [L.1 _ _ _ e]; exact h
    · cases h

theorem acallS_mono {A B:Gam} (L:A.le B) {hp:List (Nat × AObj)} {d f:Nat} {args:List AV} {r:Out} (h:acallS A hp d f args=some r):acallS B hp d f args=some r:=by
  unfold acallS at h ⊢
  cases e:pickH hp (reach hp 200 (refsL args) []) with
  | none=>rw [e] at h; cases h
  | some os =>
    rw [e] at h
    simp only at h ⊢
    split at h
    · rename_i c
      rw [if_pos c]
      split at h
      · cases h
      · rename_i q eq; rw [L.2.2 _ _ _ _ eq]; exact h
    · cases h

theorem aop_mono {A B:Gam} (L:A.le B):∀ (op:SOp) (fr:List (Nat × AV)) (hp:List (Nat × AObj)) (d:Nat) (out:Out),aop A fr hp d op=some out→aop B fr hp d op=some out:=by
  intro op
  induction op with
  | fl s ih =>
    intro fr hp d out h
    simp only [aop] at h ⊢
    split at h
    · rename_i c
      rw [if_pos c]
      cases e:aop A fr [] d s with
      | none=>rw [e] at h; cases h
      | some o=>rw [e] at h; rw [ih _ _ _ _ e]; exact h
    · cases h
  | call f args =>
    intro fr hp d out h
    simp only [aop] at h ⊢
    cases e:acall A hp f (args.map (ev fr)) with
    | none=>rw [e] at h; cases h
    | some o=>rw [e] at h; rw [acall_mono L e]; exact h
  | callV f args =>
    intro fr hp d out h
    simp only [aop] at h ⊢
    split at h
    · rename_i g cap hf
      cases e:acall A hp g (args.map (ev fr)++cap) with
      | none=>rw [e] at h; cases h
      | some o=>rw [e] at h; rw [acall_mono L e]; exact h
    · cases h
  | inv x name args =>
    intro fr hp d out h
    simp only [aop] at h ⊢
    split at h
    · rename_i t v hx
      cases e:A.mth t name with
      | none=>rw [e] at h; cases h
      | some f =>
        rw [e] at h
        simp only [L.2.1 _ _ _ e]
        cases e2:acall A hp f (v::args.map (ev fr)) with
        | none=>simp only [e2] at h; cases h
        | some o=>simp only [e2] at h; rw [acall_mono L e2]; exact h
    · cases h
  | callS f args=>intro fr hp d out h; exact acallS_mono L h
  | callVS f args =>
    intro fr hp d out h
    simp only [aop] at h ⊢
    split at h
    · exact acallS_mono L h
    · cases h
  | invS x name args =>
    intro fr hp d out h
    simp only [aop] at h ⊢
    split at h
    · rename_i t v hx
      cases e:A.mth t name with
      | none=>rw [e] at h; cases h
      | some f=>rw [e] at h; simp only [L.2.1 _ _ _ e]; exact acallS_mono L h
    · cases h
  | _=>intro fr hp d out h; exact h

theorem stepK_op {Γ:Gam} {dst:Option Nat} {op:SOp} {g:Option (Nat × Bool)} {st:St} {K:St→Prop} (h:∀ x,op ≠ .nextS x) :
    stepK Γ ⟨dst,op,g⟩ st K=match aop Γ st.fr st.hp (dst.getD 0) op with | some out=>K (fin st.fr dst out) | none=>False:=by
  cases op <;> first | rfl | exact absurd rfl (h _)

theorem stepK_mono {A B:Gam} (L:A.le B) {o:SO} {st:St} {K K':St→Prop} (h:stepK A o st K) (hk:∀ s,K s→K' s):stepK B o st K':=by
  obtain ⟨dst,op,g⟩:=o
  by_cases hx:∃ x,op=.nextS x
  · obtain ⟨x,rfl⟩:=hx
    simp only [stepK] at h ⊢
    repeat' (split at h)
    all_goals first | exact h.elim | exact ⟨fun a=>hk _ (h.1 a),fun a=>hk _ (h.2 a)⟩
  · have hx':∀ x,op ≠ .nextS x:=fun x e=>hx ⟨x,e⟩
    rw [stepK_op hx'] at h ⊢
    cases e:aop A st.fr st.hp (dst.getD 0) op with
    | none=>rw [e] at h; exact h.elim
    | some o=>rw [e] at h; rw [aop_mono L _ _ _ _ _ e]; exact hk _ h

theorem opsK_mono {A B:Gam} (L:A.le B) {K K':St→Prop} (hk:∀ s,K s→K' s):∀ (ops:List SO) (dd:List (List Nat)) (st:St),opsK A ops dd st K→opsK B ops dd st K'
  | [],_,_,h=>hk _ h
  | o::r,dd,st,h=>by
    unfold opsK at h ⊢
    split at h
    · exact stepK_mono L h fun s hs=>opsK_mono L hk r _ _ hs
    · split at h
      · exact ⟨fun a=>stepK_mono L (h.1 a) fun s hs=>opsK_mono L hk r _ _ hs,fun a=>opsK_mono L hk r _ _ (h.2 a)⟩
      · exact opsK_mono L hk r _ _ h
      · exact h.elim

theorem awp_mono {A B:Gam} (L:A.le B):∀ (c:SCode) (Q Q':APost) (st:St),(∀ e s,Q e s→Q' e s)→awp A c Q st→awp B c Q' st
  | .skip,_,_,_,hq,h=>hq _ _ h
  | .ghost _,_,_,_,hq,h=>hq _ _ h
  | .region ops live drop dd,_,_,_,hq,h=>opsK_mono L (fun _ hs=>hq _ _ hs) ops dd _ h
  | .regM dst x ops live drop dd,_,_,_,hq,h=>by
    unfold awp at h ⊢
    split at h
    · split at h
      · exact ⟨fun a=>opsK_mono L (fun _ hs=>hq _ _ hs) _ _ _ (h.1 a),fun p k v q a=>opsK_mono L (fun _ hs=>hq _ _ hs) _ _ _ (h.2 p k v q a)⟩
      · exact h.elim
    · exact h.elim
  | .seq a b,Q,Q',st,hq,h=>awp_mono L a _ _ st (fun e s hs=>match e,hs with
    | .normal,hs=>awp_mono L b _ _ s hq hs
    | .exit _,hs=>hq _ _ hs
    | .ret,hs=>hq _ _ hs) h
  | .cond c a b,Q,Q',st,hq,h=>by
    unfold awp at h ⊢
    split at h
    · exact ⟨fun e=>awp_mono L a _ _ st hq (h.1 e),fun e=>awp_mono L b _ _ st hq (h.2 e)⟩
    · exact h.elim
  | .block id c,Q,Q',st,hq,h=>awp_mono L c _ _ st (fun e s hs=>match e,hs with
    | .normal,hs=>hq _ _ hs
    | .exit i,hs=>by
      simp only [blockQ] at hs ⊢
      split at hs
      · rename_i e; rw [if_pos e]; exact hq _ _ hs
      · rename_i e; rw [if_neg e]; exact hq _ _ hs
    | .ret,hs=>hq _ _ hs) h
  | .loop live c,Q,Q',st,hq,h=>by
    obtain ⟨σ,I,m,s,h0,hs⟩:=h
    refine ⟨σ,I,m,s,h0,fun s st hi=>awp_mono L c _ _ st (fun e s hs=>?_) (hs s st hi)⟩
    cases e with
    | normal=>exact hs
    | exit i=>exact hq _ _ hs
    | ret=>exact hq _ _ hs
  | .exit _,_,_,_,hq,h=>hq _ _ h
  | .ret,_,_,_,hq,h=>hq _ _ h

theorem runs_mono {A B:Gam} (L:A.le B) {fn:SFn} {args:List AV} {R:AV→Prop} (h:runs A fn args R):runs B fn args R :=
  ⟨h.1,awp_mono L _ _ _ _ (fun _ _ hs=>hs) h.2⟩

theorem stepK_sel {Γ:Gam} {o:SO} {st:St} {K:St→Prop} (h:stepK Γ o st K):∃ s,K s∧∀ K':St→Prop,K' s→stepK Γ o st K':=by
  obtain ⟨dst,op,g⟩:=o
  by_cases hx:∃ x,op=.nextS x
  · obtain ⟨x,rfl⟩:=hx
    simp only [stepK] at h ⊢
    split at h
    · split at h
      · rename_i s pos e
        by_cases hl:pos < s.length
        · exact ⟨_,h.1 hl,fun K' hk=>⟨fun _=>hk,fun n=>absurd hl n⟩⟩
        · exact ⟨_,h.2 hl,fun K' hk=>⟨fun n=>absurd n hl,fun _=>hk⟩⟩
      · exact h.elim
    · exact h.elim
  · have hx':∀ x,op ≠ .nextS x:=fun x e=>hx ⟨x,e⟩
    rw [stepK_op hx'] at h
    cases e:aop Γ st.fr st.hp (dst.getD 0) op with
    | none=>rw [e] at h; exact h.elim
    | some o =>
      rw [e] at h
      refine ⟨_,h,fun K' hk=>?_⟩
      rw [stepK_op hx',e]
      exact hk

theorem opsK_sel {Γ:Gam} {K:St→Prop}:∀ (ops:List SO) (dd:List (List Nat)) (st:St),opsK Γ ops dd st K→∃ s,K s∧∀ K':St→Prop,K' s→opsK Γ ops dd st K'
  | [],_,st,h=>⟨st,h,fun _ hk=>hk⟩
  | o::r,dd,st,h=>by
    unfold opsK at h
    split at h
    · rename_i hg
      obtain ⟨s1,h1,f1⟩:=stepK_sel h
      obtain ⟨s2,h2,f2⟩:=opsK_sel r _ _ h1
      refine ⟨s2,h2,fun K' hk=>?_⟩
      unfold opsK
      simp only [hg]
      exact f1 _ (f2 _ hk)
    · rename_i g want hg
      split at h
      · rename_i b hb
        by_cases hw:b=want
        · obtain ⟨s1,h1,f1⟩:=stepK_sel (h.1 hw)
          obtain ⟨s2,h2,f2⟩:=opsK_sel r _ _ h1
          refine ⟨s2,h2,fun K' hk=>?_⟩
          unfold opsK
          simp only [hg,hb]
          exact ⟨fun _=>f1 _ (f2 _ hk),fun n=>by subst hw; cases b <;> cases n⟩
        · have hw':b = !want:=by cases b <;> cases want <;> first | rfl | exact absurd rfl hw
          obtain ⟨s2,h2,f2⟩:=opsK_sel r _ _ (h.2 hw')
          refine ⟨s2,h2,fun K' hk=>?_⟩
          unfold opsK
          simp only [hg,hb]
          exact ⟨fun n=>absurd n hw,fun _=>f2 _ hk⟩
      · rename_i hb
        obtain ⟨s2,h2,f2⟩:=opsK_sel r _ _ h
        refine ⟨s2,h2,fun K' hk=>?_⟩
        unfold opsK
        simp only [hg,hb]
        exact f2 _ hk
      · exact h.elim

def det:SCode→Bool
  | .regM _ _ _ _ _ _=>false
  | .seq a b=>det a && det b
  | .cond _ a b=>det a && det b
  | .block _ c=>det c
  | .loop _ c=>det c
  | _=>true

inductive Lp (Γ:Gam) (live:List Nat) (c:SCode):Nat→St→AExit→St→Prop
  | stop {x e y}:e ≠ .normal→(∀ Q:APost,Q e y→awp Γ c Q x)→Lp Γ live c 0 x e y
  | more {n x y e z}:(∀ Q:APost,Q .normal y→awp Γ c Q x)→Lp Γ live c n (norm live y) e z→Lp Γ live c (n+1) x e z

theorem lp_awp {Γ:Gam} {live:List Nat} {c:SCode} {n:Nat} {st:St} {e:AExit} {y:St} (h:Lp Γ live c n (norm live st) e y) (Q:APost) (hq:Q e y):awp Γ (.loop live c) Q st:=by
  refine ⟨Nat,fun n s=>Lp Γ live c n s e y,id,n,h,fun n s hs=>?_⟩
  cases hs with
  | stop he f =>
    refine f _ ?_
    cases e with
    | normal=>exact absurd rfl he
    | exit i=>exact hq
    | ret=>exact hq
  | more f hl=>exact f _ ⟨_,hl,Nat.lt_succ_self _⟩

theorem awp_sel {Γ:Gam}:∀ (c:SCode),det c=true→∀ (Q:APost) (st:St),awp Γ c Q st→∃ e s,Q e s∧∀ Q':APost,Q' e s→awp Γ c Q' st
  | .skip,_,_,_,h=>⟨_,_,h,fun _ hq=>hq⟩
  | .ghost _,_,_,_,h=>⟨_,_,h,fun _ hq=>hq⟩
  | .region ops live drop dd,_,_,st,h=>by
    obtain ⟨s,h1,h2⟩:=opsK_sel ops dd st h
    exact ⟨_,_,h1,fun Q' hq=>h2 _ hq⟩
  | .seq a b,hd,Q,st,h=>by
    simp only [det,Bool.and_eq_true] at hd
    obtain ⟨e,s,h1,f1⟩:=awp_sel a hd.1 _ st h
    cases e with
    | normal =>
      obtain ⟨e2,s2,h2,f2⟩:=awp_sel b hd.2 _ s h1
      exact ⟨e2,s2,h2,fun Q' hq=>f1 _ (f2 _ hq)⟩
    | exit i=>exact ⟨_,s,h1,fun Q' hq=>f1 _ hq⟩
    | ret=>exact ⟨_,s,h1,fun Q' hq=>f1 _ hq⟩
  | .cond c a b,hd,Q,st,h=>by
    simp only [det,Bool.and_eq_true] at hd
    unfold awp at h
    split at h
    · rename_i t ht
      cases t with
      | true =>
        obtain ⟨e,s,h1,f1⟩:=awp_sel a hd.1 _ st (h.1 rfl)
        refine ⟨e,s,h1,fun Q' hq=>?_⟩
        unfold awp
        rw [ht]
        exact ⟨fun _=>f1 _ hq,fun n=>(by cases n)⟩
      | false =>
        obtain ⟨e,s,h1,f1⟩:=awp_sel b hd.2 _ st (h.2 rfl)
        refine ⟨e,s,h1,fun Q' hq=>?_⟩
        unfold awp
        rw [ht]
        exact ⟨fun n=>(by cases n),fun _=>f1 _ hq⟩
    · exact h.elim
  | .block id c,hd,Q,st,h=>by
    obtain ⟨e,s,h1,f1⟩:=awp_sel c hd _ st h
    cases e with
    | normal=>exact ⟨.normal,s,h1,fun Q' hq=>f1 _ hq⟩
    | exit i =>
      simp only [blockQ] at h1
      split at h1
      · rename_i e; exact ⟨.normal,s,h1,fun Q' hq=>f1 _ (by simp only [blockQ]; rw [if_pos e]; exact hq)⟩
      · rename_i e; exact ⟨.exit i,s,h1,fun Q' hq=>f1 _ (by simp only [blockQ]; rw [if_neg e]; exact hq)⟩
    | ret=>exact ⟨.ret,s,h1,fun Q' hq=>f1 _ hq⟩
  | .loop live c,hd,Q,st,h=>by
    obtain ⟨σ,I,m,s0,h0,hs⟩:=h
    have key:∀ (k:Nat) (s:σ) (x:St),m s≤k→I s x→∃ n e y,Lp Γ live c n x e y∧Q e y:=by
      intro k
      induction k with
      | zero =>
        intro s x hm hi
        obtain ⟨e,y,h1,f1⟩:=awp_sel c hd _ x (hs s x hi)
        cases e with
        | normal=>obtain ⟨s',h2,h3⟩:=h1; omega
        | exit i=>exact ⟨0,_,y,.stop (by simp) f1,h1⟩
        | ret=>exact ⟨0,_,y,.stop (by simp) f1,h1⟩
      | succ k ih =>
        intro s x hm hi
        obtain ⟨e,y,h1,f1⟩:=awp_sel c hd _ x (hs s x hi)
        cases e with
        | normal =>
          obtain ⟨s',h2,h3⟩:=h1
          obtain ⟨n,e,z,h4,h5⟩:=ih s' _ (by omega) h2
          exact ⟨n+1,e,z,.more f1 h4,h5⟩
        | exit i=>exact ⟨0,_,y,.stop (by simp) f1,h1⟩
        | ret=>exact ⟨0,_,y,.stop (by simp) f1,h1⟩
    obtain ⟨n,e,y,h1,h2⟩:=key _ s0 _ (Nat.le_refl _) h0
    exact ⟨e,y,h2,fun Q' hq=>lp_awp h1 Q' hq⟩
  | .exit _,_,_,_,h=>⟨_,_,h,fun _ hq=>hq⟩
  | .ret,_,_,_,h=>⟨_,_,h,fun _ hq=>hq⟩
  | .bad,_,_,_,h=>h.elim

theorem runs_sel {Γ:Gam} {fn:SFn} {args:List AV} {R:AV→Prop} (hd:det fn.body=true) (h:runs Γ fn args R):∃ v,R v∧runs Γ fn args (fun w=>w=v):=by
  obtain ⟨e,s,h1,f1⟩:=awp_sel fn.body hd _ _ h.2
  cases e with
  | normal=>exact ⟨_,h1.2,h.1,f1 _ ⟨h1.1,rfl⟩⟩
  | exit i=>exact h1.elim
  | ret=>exact ⟨_,h1.2,h.1,f1 _ ⟨h1.1,rfl⟩⟩
end Wax


namespace Wax
open Go (IntKind)

def gamE:Gam:=⟨fun _ _=>none,fun _ _=>none,fun _ _ _=>none⟩
theorem gamE_le {Γ:Gam}:gamE.le Γ:=⟨fun _ _ _ h=>(by cases h),fun _ _ _ h=>(by cases h),fun _ _ _ _ h=>(by cases h)⟩
def gamS (n:Nat) (c:List AV→Option AV):Gam:=⟨fun f=>if f=n then c else fun _=>none,fun _ _=>none,fun _ _ _=>none⟩
theorem gamS_le {n:Nat} {c c':List AV→Option AV} {Γ:Gam} (h:Γ.fn n=c') (hc:∀ a r,c a=some r→c' a=some r):(gamS n c).le Γ:=by
  refine ⟨fun f a r e=>?_,fun _ _ _ h=>(by cases h),fun _ _ _ _ h=>(by cases h)⟩
  simp only [gamS] at e
  split at e
  · rename_i hf; subst hf; rw [h]; exact hc _ _ e
  · cases e
theorem gamS_fn {n:Nat} {c:List AV→Option AV}:(gamS n c).fn n=c:=by simp [gamS]

theorem decR_w {s:L8} (h:s ≠ []):1≤(decR s).2∧(decR s).2≤s.length:=by
  have hl:=List.length_pos_iff.2 h
  simp only [decR,Go.Utf8.decode]
  have hz:(⟨s.toArray⟩:ByteArray).size=s.length:=by simp [ByteArray.size]
  rw [hz]
  repeat' split
  all_goals simp_all
  all_goals omega

theorem sp_any (n:Int):∃ b,(n < 128→b=isSp n)∧runs gamE c_authres_zzIsSpace [.int .i32 n] (fun v=>v=.bool b):=by
  by_cases h:n < 128
  · exact ⟨_,fun _=>rfl,ar_ok_zzIsSpace gamE _ _ (if_pos h)⟩
  have h1:9≤n:=by omega
  have h2:¬ n≤13:=by omega
  have h3:¬ n=32:=by omega
  have R:∀ b,runs gamE c_authres_zzIsSpace [.int .i32 n] (fun v=>v=.bool b)→∃ b,(n < 128→b=isSp n)∧runs gamE c_authres_zzIsSpace [.int .i32 n] (fun v=>v=.bool b):=fun b r=>⟨b,fun x=>absurd x h,r⟩
  by_cases f1:n=133
  · refine R true ?_; subst f1; simp [c_authres_zzIsSpace]
  by_cases f2:n=160
  · refine R true ?_; subst f2; simp [c_authres_zzIsSpace]
  by_cases f3:n=5760
  · refine R true ?_; subst f3; simp [c_authres_zzIsSpace]
  by_cases f5:n=8232
  · refine R true ?_; subst f5; simp [c_authres_zzIsSpace]
  by_cases f6:n=8233
  · refine R true ?_; subst f6; simp [c_authres_zzIsSpace]
  by_cases f7:n=8239
  · refine R true ?_; subst f7; simp [c_authres_zzIsSpace]
  by_cases f8:n=8287
  · refine R true ?_; subst f8; simp [c_authres_zzIsSpace]
  by_cases f9:n=12288
  · refine R true ?_; subst f9; simp [c_authres_zzIsSpace]
  by_cases f4:8192≤n
  · by_cases f0:n≤8202
    · exact R true (by simp [c_authres_zzIsSpace,f1,f2,f3,f4,f5,f6,f7,f8,f9,f0,h1,h2,h3])
    · exact R false (by simp [c_authres_zzIsSpace,f1,f2,f3,f4,f5,f6,f7,f8,f9,f0,h1,h2,h3])
  · exact R false (by simp [c_authres_zzIsSpace,f1,f2,f3,f4,f5,f6,f7,f8,f9,h1,h2,h3])
noncomputable def spU (n:Int):Bool:=Classical.epsilon fun b=>(n < 128→b=isSp n)∧runs gamE c_authres_zzIsSpace [.int .i32 n] (fun v=>v=.bool b)
noncomputable def con_spU:List AV→Option AV
  | [.int .i32 n]=>some (.bool (spU n))
  | _=>none
theorem u_ok_zzIsSpace (Γ:Gam):∀ args r,con_spU args=some r→runs Γ c_authres_zzIsSpace args (fun v=>v=r):=by
  intro args r h
  simp only [con_spU] at h
  split at h <;> (try simp at h; done)
  injection h with h; subst h
  exact runs_mono gamE_le (Classical.epsilon_spec (sp_any _)).2
theorem spU_sp {n:Int} (h:n < 128):spU n=isSp n:=(Classical.epsilon_spec (sp_any n)).1 h
theorem con_sp_le:∀ a r,con_zzIsSpace a=some r→con_spU a=some r:=by
  intro a r h
  simp only [con_zzIsSpace] at h
  split at h <;> (try simp at h; done)
  obtain ⟨hn,rfl⟩:=ite_some h
  simp only [con_spU,spU_sp hn]

theorem tr_reg (Γ:Gam) (Q:APost) (S:L8) (f t:Int) (i n:Nat) (hi:i < S.length) (hs:S.length < 1099511627776) (hn:n≤4)
    (h:(n < 4→i+n < S.length→Q .normal ⟨[(0,.str S),(3,.int .i64 f),(4,.int .i64 t),(7,.int .i64 i),(8,.int .i64 ((n+1:Nat):Int))],[]⟩) ∧
      Q (.exit 4) ⟨[(0,.str S),(3,.int .i64 f),(4,.int .i64 t),(7,.int .i64 i),(8,.int .i64 n),(54,.bool false)],[]⟩) :
    awp Γ b_authres_zzTrimSpace_2 Q ⟨[(0,.str S),(3,.int .i64 f),(4,.int .i64 t),(7,.int .i64 i),(8,.int .i64 n)],[]⟩:=by
  have ew:IntKind.i64.wrap ((i:Int)+n)=(i:Int)+n:=wrap64 (by omega) (by omega)
  have ew1:IntKind.i64.wrap ((n:Int)+1)=(n:Int)+1:=wrap64 (by omega) (by omega)
  have et:((i:Int)+(n:Int)).toNat=i+n:=by omega
  have nn:(0:Int)≤(i:Int)+n:=by omega
  have gi:S[i]? = some S[i]:=List.getElem?_eq_getElem hi
  have ex:Q (.exit 4) ⟨[(0,.str S),(3,.int .i64 f),(4,.int .i64 t),(7,.int .i64 i),(8,.int .i64 n),(54,.bool false)],[]⟩:=h.2
  simp only [b_authres_zzTrimSpace_2,awp_seq]
  by_cases h1:(n:Int) < 4
  · by_cases h2:(i:Int)+n < (S.length:Int)
    · by_cases h3:(192:Int)≤((S[i]).toNat:Int)
      · have gn:S[i+n]? = some S[i+n]:=List.getElem?_eq_getElem (by omega)
        by_cases h4:IntKind.u8.wrap (((S[i+n]).toNat % 2 ^ IntKind.u8.bits &&& 192 % 2 ^ IntKind.u8.bits:Nat):Int)=128
        · refine awp_region_to ⟨[(0,.str S),(3,.int .i64 f),(4,.int .i64 t),(7,.int .i64 i),(8,.int .i64 n),(54,.bool true)],[]⟩ ?_ ?_
          · simp (maxSteps:=1000000) [h1,h2,h3,ew,et,nn,gi,gn,abin,binI,h4]
          · simp [ew1]; exact h.1 (by omega) (by omega)
        · refine awp_region_to ⟨[(0,.str S),(3,.int .i64 f),(4,.int .i64 t),(7,.int .i64 i),(8,.int .i64 n),(54,.bool false)],[]⟩ ?_ ?_
          · simp (maxSteps:=1000000) [h1,h2,h3,ew,et,nn,gi,gn,abin,binI,h4]
          · simpa using ex
      · refine awp_region_to ⟨[(0,.str S),(3,.int .i64 f),(4,.int .i64 t),(7,.int .i64 i),(8,.int .i64 n),(54,.bool false)],[]⟩ ?_ ?_
        · simp (maxSteps:=1000000) [h1,h2,h3,ew,et,nn,gi]
        · simpa using ex
    · refine awp_region_to ⟨[(0,.str S),(3,.int .i64 f),(4,.int .i64 t),(7,.int .i64 i),(8,.int .i64 n),(54,.bool false)],[]⟩ ?_ ?_
      · simp (maxSteps:=1000000) [h1,h2,ew]
      · simpa using ex
  · refine awp_region_to ⟨[(0,.str S),(3,.int .i64 f),(4,.int .i64 t),(7,.int .i64 i),(8,.int .i64 n),(54,.bool false)],[]⟩ ?_ ?_
    · simp (maxSteps:=1000000) [h1]
    · simpa using ex

theorem tr_t3 (Γ:Gam) (h165:Γ.fn 165=con_spU) (Q:APost) (S:L8) (f t:Int) (i n:Nat) (hn:1≤n) (hi:i+n≤S.length) (hs:S.length < 1099511627776)
    (h:∀ (m:Nat) (t':Int),1≤m→i+m≤S.length→(t'=t∨t'=(i:Int)+m)→Q .normal ⟨[(0,.str S),(3,.int .i64 f),(4,.int .i64 t'),(7,.int .i64 ((i:Int)+m))],[]⟩) :
    awp Γ t_authres_zzTrimSpace_3 Q ⟨[(0,.str S),(3,.int .i64 f),(4,.int .i64 t),(7,.int .i64 i),(8,.int .i64 n),(54,.bool false)],[]⟩:=by
  have ew:IntKind.i64.wrap ((i:Int)+n)=(i:Int)+n:=wrap64 (by omega) (by omega)
  have ew1:IntKind.i64.wrap ((i:Int)+1)=(i:Int)+1:=wrap64 (by omega) (by omega)
  have et:((i:Int)+(n:Int)).toNat=i+n:=by omega
  have et1:((i:Int)+1).toNat=i+1:=by omega
  have nn:(0:Int)≤(i:Int)+n:=by omega
  have nn1:(0:Int)≤(i:Int)+1:=by omega
  have le1:i≤i+n:=by omega
  have le2:i+1≤S.length:=by omega
  have le3:i≤S.length:=by omega
  have ll:min (i+n) S.length - i=n:=by omega
  have ll1:min (i+1) S.length - i=1:=by omega
  have b1:(n+1) * 5 < 35184372088832:=by omega
  have rb:∀ (k:Nat) (l:L8),(runesF k l).length≤k:=by
    intro k
    induction k with
    | zero=>intro l; simp [runesF]
    | succ k ih=>intro l; simp only [runesF]; split <;> simp [ih]
  have hr:=rb n (List.drop i (List.take (i+n) S))
  have hr1:=rb 1 (List.drop i (List.take (i+1) S))
  generalize ers:runesF n (List.drop i (List.take (i+n) S))=rs at hr
  generalize ers1:runesF 1 (List.drop i (List.take (i+1) S))=rs1 at hr1
  have q1:=h n t hn hi (.inl rfl)
  have q2:=h n ((i:Int)+n) hn hi (.inr rfl)
  have q3:=h 1 t (by omega) le2 (.inl rfl)
  have q4:=h 1 ((i:Int)+1) (by omega) le2 (.inr rfl)
  match rs,rs1,hr,hr1,ers,ers1 with
  | [],_,hr,hr1,ers,ers1 =>
    simp -implicitDefEqProofs [t_authres_zzTrimSpace_3,ew,et,nn,hi,le1,le3,ll,ers,rcA,b1]
    all_goals (repeat' first | exact q2 | apply And.intro | omega)
  | [r],_,hr,hr1,ers,ers1 =>
    cases hw:spU r with
    | true =>
      simp -implicitDefEqProofs [t_authres_zzTrimSpace_3,ew,et,nn,hi,le1,le3,ll,ers,rcA,b1,acall,h165,con_spU,hw]
      all_goals (repeat' first | exact q1 | apply And.intro | omega)
    | false =>
      simp -implicitDefEqProofs [t_authres_zzTrimSpace_3,ew,et,nn,hi,le1,le3,ll,ers,rcA,b1,acall,h165,con_spU,hw]
      all_goals (repeat' first | exact q2 | apply And.intro | omega)
  | r::r2::rs,[],hr,hr1,ers,ers1 =>
    have hg:(1:Int) < (rs.length:Int)+1+1:=by omega
    have b2:rs.length+1+1+1≤n+1:=by simp at hr; omega
    simp -implicitDefEqProofs [t_authres_zzTrimSpace_3,ew,ew1,et,et1,nn,nn1,hi,le1,le2,le3,ll,ll1,ers,ers1,rcA,b1,hg]
    all_goals (repeat' first | exact q4 | apply And.intro | omega)
  | r::r2::rs,[r3],hr,hr1,ers,ers1 =>
    have hg:(1:Int) < (rs.length:Int)+1+1:=by omega
    cases hw:spU r3 with
    | true =>
      simp -implicitDefEqProofs [t_authres_zzTrimSpace_3,ew,ew1,et,et1,nn,nn1,hi,le1,le2,le3,ll,ll1,ers,ers1,rcA,b1,hg,acall,h165,con_spU,hw]
      all_goals (repeat' first | exact q3 | apply And.intro | omega)
    | false =>
      simp -implicitDefEqProofs [t_authres_zzTrimSpace_3,ew,ew1,et,et1,nn,nn1,hi,le1,le2,le3,ll,ll1,ers,ers1,rcA,b1,hg,acall,h165,con_spU,hw]
      all_goals (repeat' first | exact q4 | apply And.intro | omega)
  | _,r3::r4::_,hr,hr1,_,_=>simp at hr1

theorem tr_loop2 (Γ:Gam) (h165:Γ.fn 165=con_spU) (S:L8) (hs:S.length < 1099511627776) (f:Nat) (hf:f≤S.length) (R:AV→Prop) (hR:∀ t:L8,t.length≤S.length→R (.str t)) :
    awp Γ (.loop [0,3,4,7] b_authres_zzTrimSpace_4) (blockQ 2 (thenQ (awp Γ t_authres_zzTrimSpace_5 (finQ [.t 2] R)) (finQ [.t 2] R))) ⟨[(0,.str S),(3,.int .i64 f),(4,.int .i64 S.length),(7,.int .i64 f)],[]⟩:=by
  refine awp_loop2 (σ:=Nat × Nat) (fun p=>⟨[(0,.str S),(3,.int .i64 f),(4,.int .i64 (p.2:Int)),(7,.int .i64 (p.1:Int))],[]⟩)
    (fun p=>f≤p.1∧p.1≤S.length∧f≤p.2∧p.2≤S.length) (fun p=>S.length - p.1) (f,S.length) (by simp) ⟨Nat.le_refl _,hf,hf,Nat.le_refl _⟩ ?_
  rintro ⟨i,t⟩ ⟨e1,e2,e3,e4⟩ LQ hLQ
  simp only at e1 e2 e3 e4
  by_cases hi:(i:Int) < (S.length:Int)
  · simp -implicitDefEqProofs [b_authres_zzTrimSpace_4,hi]
    refine awp_loop2 (σ:=Nat) (fun n=>⟨[(0,.str S),(3,.int .i64 f),(4,.int .i64 (t:Int)),(7,.int .i64 (i:Int)),(8,.int .i64 (n:Int))],[]⟩)
      (fun n=>1≤n∧n≤4∧i+n≤S.length) (fun n=>4 - n) 1 (by simp) ⟨by omega,by omega,by omega⟩ ?_
    rintro n ⟨n1,n2,n3⟩ LQ2 hLQ2
    refine tr_reg Γ _ S f t i n (by omega) (by omega) n2 ⟨fun a b=>?_,?_⟩
    · exact hLQ2 (n+1) ⟨by omega,by omega,by omega⟩ (by omega) _ (by simp)
    · simp -implicitDefEqProofs
      refine tr_t3 Γ h165 _ S f t i n n1 n3 hs fun m t' m1 m2 m3=>?_
      simp -implicitDefEqProofs
      have:∃ k:Nat,(k:Int)=t'∧f≤k∧k≤S.length:=by
        rcases m3 with rfl | rfl
        · exact ⟨t,rfl,e3,e4⟩
        · exact ⟨i+m,by simp,by omega,m2⟩
      obtain ⟨k,rfl,k1,k2⟩:=this
      exact hLQ (i+m,k) ⟨by omega,m2,k1,k2⟩ (by omega) _ (by simp)
  · simp -implicitDefEqProofs [b_authres_zzTrimSpace_4,t_authres_zzTrimSpace_5,hi]
    refine ⟨fun _=>hR [] (by simp),fun _=>⟨⟨e3,e4⟩,hR _ (by simp; omega)⟩⟩

theorem trim_any (s:L8) (hs:s.length < mid):∃ t:L8,t.length≤s.length∧(plain s=true→t=trimS s)∧runs (gamS 165 con_spU) c_authres_zzTrimSpace [.str s] (fun v=>v=.str t):=by
  by_cases hp:plain s=true
  · refine ⟨trimS s,trimS_length s,fun _=>rfl,?_⟩
    exact runs_mono (gamS_le gamS_fn con_sp_le) (ar_ok_zzTrimSpace (gamS 165 con_zzIsSpace) gamS_fn _ _ (if_pos ⟨hs,hp⟩))
  have key:runs (gamS 165 con_spU) c_authres_zzTrimSpace [.str s] (fun v=>∃ t:L8,t.length≤s.length∧v=.str t):=by
    have h165:(gamS 165 con_spU).fn 165=con_spU:=gamS_fn
    simp only [mid] at hs
    have R:∀ t:L8,t.length≤s.length→∃ u:L8,u.length≤s.length∧AV.str t=.str u:=fun t ht=>⟨t,ht,rfl⟩
    simp -implicitDefEqProofs [c_authres_zzTrimSpace]
    refine awp_loop2 (σ:=Nat) (fun n=>⟨[(0,.str s),(3,.int .i64 s.length),(4,.int .i64 s.length),(16,.ref 16 0)],[(16,.sit s n)]⟩)
      (fun _=>True) (fun n=>s.length - n) 0 (by simp) trivial ?_
    rintro n - LQ hLQ
    by_cases hn:n < s.length
    · have hd:s.drop n ≠ []:=by intro e; have:=congrArg List.length e; simp at this; omega
      have hw:=decR_w hd
      cases hsp:spU ((decR (s.drop n)).1:Int) with
      | true =>
        simp -implicitDefEqProofs [b_authres_zzTrimSpace_1,hn,acall,h165,con_spU,hsp]
        exact hLQ (n+(decR (s.drop n)).2) trivial (by omega) _ (by simp)
      | false =>
        simp -implicitDefEqProofs [b_authres_zzTrimSpace_1,t_authres_zzTrimSpace_6,hn,acall,h165,con_spU,hsp]
        have:=tr_loop2 (gamS 165 con_spU) h165 s hs n (by omega) (fun v=>∃ t:L8,t.length≤s.length∧v=.str t) R
        simpa using this
    · simp -implicitDefEqProofs [b_authres_zzTrimSpace_1,t_authres_zzTrimSpace_6,hn]
      have:=tr_loop2 (gamS 165 con_spU) h165 s hs s.length (Nat.le_refl _) (fun v=>∃ t:L8,t.length≤s.length∧v=.str t) R
      simpa using this
  obtain ⟨v,⟨t,h1,rfl⟩,h2⟩:=runs_sel rfl key
  exact ⟨t,h1,fun h=>absurd h hp,h2⟩

noncomputable def trimU (s:L8):L8:=Classical.epsilon fun t=>t.length≤s.length∧(plain s=true→t=trimS s)∧runs (gamS 165 con_spU) c_authres_zzTrimSpace [.str s] (fun v=>v=.str t)
theorem trimU_len {s:L8} (h:s.length < mid):(trimU s).length≤s.length:=(Classical.epsilon_spec (trim_any s h)).1
theorem trimU_plain {s:L8} (h:s.length < mid) (hp:plain s=true):trimU s=trimS s:=(Classical.epsilon_spec (trim_any s h)).2.1 hp
noncomputable def con_trimU:List AV→Option AV
  | [.str s]=>if s.length < mid then some (.str (trimU s)) else none
  | _=>none
theorem u_ok_zzTrimSpace (Γ:Gam) (h165:Γ.fn 165=con_spU):∀ args r,con_trimU args=some r→runs Γ c_authres_zzTrimSpace args (fun v=>v=r):=by
  intro args r h
  simp only [con_trimU] at h
  split at h <;> (try simp at h; done)
  obtain ⟨hs,rfl⟩:=ite_some h
  exact runs_mono (gamS_le h165 fun _ _ e=>e) (Classical.epsilon_spec (trim_any _ hs)).2.2
end Wax


namespace Wax
open Go (IntKind)

set_option maxHeartbeats 8000000 in
theorem low_any (s:L8) (hs:s.length < mid):∃ t:L8,t.length≤s.length∧(ascii s=true→t=lowS s)∧runs gamE c_authres_zzToLower [.str s] (fun v=>v=.str t):=by
  by_cases ha:ascii s=true
  · exact ⟨lowS s,by simp,fun _=>rfl,ar_ok_zzToLower gamE _ _ (if_pos ⟨hs,ha⟩)⟩
  have key:runs gamE c_authres_zzToLower [.str s] (fun v=>∃ t:L8,t.length≤s.length∧v=.str t):=by
    simp only [mid] at hs
    simp -implicitDefEqProofs [c_authres_zzToLower]
    refine awp_loop2 (σ:=L8 × Nat × Nat) (fun p=>⟨[(0,.str s),(3,grV p.2.2 1 p.1.length),(4,.int .i64 (p.2.1:Int))],grH p.2.2 p.1.length (bcA p.1)⟩)
      (fun p=>p.1.length≤p.2.1∧p.2.1≤s.length∧(p.2.2=18∨p.2.2=31∨p.2.2=48)) (fun p=>s.length - p.2.1) ([],0,18) (by simp) (by simp) ?_
    rintro ⟨out,i,d⟩ ⟨e1,e2,e3⟩ LQ hLQ
    simp only at e1 e2 e3
    by_cases hi:(i:Int) < (s.length:Int)
    · have gi:s[i]? = some s[i]:=List.getElem?_eq_getElem (by omega)
      generalize s[i]=x at gi
      have ew1:IntKind.i64.wrap ((i:Int)+1)=(i:Int)+1:=wrap64 (by omega) (by omega)
      have ew2:IntKind.i64.wrap ((i:Int)+2)=(i:Int)+2:=wrap64 (by omega) (by omega)
      have ew21:IntKind.i64.wrap ((i:Int)+2+1)=(i:Int)+2+1:=wrap64 (by omega) (by omega)
      have ew3:IntKind.i64.wrap ((i:Int)+3)=(i:Int)+3:=wrap64 (by omega) (by omega)
      have ewm:IntKind.i64.wrap ((s.length:Int) - (i:Int))=(s.length:Int) - (i:Int):=wrap64 (by omega) (by omega)
      have et3:((i:Int)+3).toNat=i+3:=by omega
      have nn3:(0:Int)≤(i:Int)+3:=by omega
      have bb:(out.length+1+1) * 2 < 35184372088832:=by omega
      have tk:List.take out.length (bcA out)=bcA out:=List.take_of_length_le (by simp)
      have step:∀ (y:UInt8) (k d':Nat) st,(d'=18∨d'=31∨d'=48)→i+1≤k→k≤s.length→norm [0,3,4] st=⟨[(0,.str s),(3,.msl d' 1 0 (out.length+1)),(4,.int .i64 (k:Int))],[(d',.cells (bcA out++[.int .u8 (y.toNat:Int)]))]⟩→LQ st:=by
        intro y k d' st hd h1 h2 hst
        refine hLQ (out++[y],k,d') ⟨by simp; omega,h2,hd⟩ (by simp; omega) st ?_
        rw [hst]; simp
      by_cases hlow:65≤(x.toNat:Int)∧(x.toNat:Int)≤90
      · obtain ⟨l1,l2⟩:=hlow
        have w1:IntKind.u8.wrap ((x.toNat:Int)+97)=(x.toNat:Int)+97:=Go.IntWalk.u8_in _ ⟨by omega,by omega⟩
        have w2:IntKind.u8.wrap ((x.toNat:Int)+97 - 65)=(x.toNat:Int)+97 - 65:=Go.IntWalk.u8_in _ ⟨by omega,by omega⟩
        have hx:=lowB_toNat x
        rw [if_pos ⟨l1,l2⟩] at hx
        have st:=fun S h=>step (lowB x) (i+1) 31 S (by simp) (by omega) (by omega) h
        have hx':(x.toNat:Int)+97 - 65=((lowB x).toNat:Int):=by omega
        cases out with
        | nil =>
          simp -implicitDefEqProofs [b_authres_zzToLower_1,hi,gi,l1,l2,w1,w2,ew1]
          exact st _ (by simp [hx'])
        | cons o out =>
          rcases e3 with rfl | rfl | rfl
          all_goals
            simp -implicitDefEqProofs [b_authres_zzToLower_1,hi,gi,l1,l2,w1,w2,ew1,tk]
            exact ⟨by simp at bb; omega,st _ (by simp [hx'])⟩
      · have hc:(¬ 65≤(x.toNat:Int)∧True)∨(65≤(x.toNat:Int)∧¬ (x.toNat:Int)≤90):=by
          by_cases h:65≤(x.toNat:Int)
          · exact .inr ⟨h,fun h2=>hlow ⟨h,h2⟩⟩
          · exact .inl ⟨h,trivial⟩
        have st1:=fun S h=>step x (i+1) 18 S (by simp) (by omega) (by omega) h
        by_cases h3:(3:Int)≤(s.length:Int) - (i:Int)
        · have le3:i+3≤s.length:=by omega
          have le0:i≤i+3:=by omega
          have st2:=fun S h=>step 107 (i+3) 48 S (by simp) (by omega) (by omega) h
          by_cases h4:List.drop i (List.take (i+3) s)=[226,132,170]
          · rcases hc with ⟨l1,l2⟩ | ⟨l1,l2⟩
            all_goals
              cases out with
              | nil =>
                simp -implicitDefEqProofs [b_authres_zzToLower_1,hi,gi,l1,l2,ew1,ew2,ew21,tk,h3,h4,ewm,ew3,et3,nn3,le0,le3]
                all_goals (repeat' apply And.intro)
                all_goals first | omega | exact st2 _ (by simp; try omega)
              | cons o out =>
                rcases e3 with rfl | rfl | rfl
                all_goals
                  simp -implicitDefEqProofs [b_authres_zzToLower_1,hi,gi,l1,l2,ew1,ew2,ew21,tk,h3,h4,ewm,ew3,et3,nn3,le0,le3]
                  all_goals (repeat' apply And.intro)
                  all_goals first | (simp at bb; omega) | exact st2 _ (by simp; try omega)
          · rcases hc with ⟨l1,l2⟩ | ⟨l1,l2⟩
            all_goals
              cases out with
              | nil =>
                simp -implicitDefEqProofs [b_authres_zzToLower_1,hi,gi,l1,l2,ew1,ew2,ew21,tk,h3,h4,ewm,ew3,et3,nn3,le0,le3]
                all_goals (repeat' apply And.intro)
                all_goals first | omega | exact st1 _ (by simp; try omega)
              | cons o out =>
                rcases e3 with rfl | rfl | rfl
                all_goals
                  simp -implicitDefEqProofs [b_authres_zzToLower_1,hi,gi,l1,l2,ew1,ew2,ew21,tk,h3,h4,ewm,ew3,et3,nn3,le0,le3]
                  all_goals (repeat' apply And.intro)
                  all_goals first | (simp at bb; omega) | exact st1 _ (by simp; try omega)
        · rcases hc with ⟨l1,l2⟩ | ⟨l1,l2⟩
          all_goals
            cases out with
            | nil =>
              simp -implicitDefEqProofs [b_authres_zzToLower_1,hi,gi,l1,l2,ew1,ew2,ew21,tk,h3,ewm]
              all_goals (repeat' apply And.intro)
              all_goals first | omega | exact st1 _ (by simp; try omega)
            | cons o out =>
              rcases e3 with rfl | rfl | rfl
              all_goals
                simp -implicitDefEqProofs [b_authres_zzToLower_1,hi,gi,l1,l2,ew1,ew2,ew21,tk,h3,ewm]
                all_goals (repeat' apply And.intro)
                all_goals first | (simp at bb; omega) | exact st1 _ (by simp; try omega)
    · cases out with
      | nil=>simp -implicitDefEqProofs [b_authres_zzToLower_1,t_authres_zzToLower_2,hi]
      | cons o out =>
        have tk:List.take (out.length+1) (bcA (o::out))=bcA (o::out):=List.take_of_length_le (by simp)
        simp at e1
        simp -implicitDefEqProofs [b_authres_zzToLower_1,t_authres_zzToLower_2,hi,tk]
        omega
  obtain ⟨v,⟨t,h1,rfl⟩,h2⟩:=runs_sel rfl key
  exact ⟨t,h1,fun h=>absurd h ha,h2⟩
noncomputable def lowU (s:L8):L8:=Classical.epsilon fun t=>t.length≤s.length∧(ascii s=true→t=lowS s)∧runs gamE c_authres_zzToLower [.str s] (fun v=>v=.str t)
theorem lowU_len {s:L8} (h:s.length < mid):(lowU s).length≤s.length:=(Classical.epsilon_spec (low_any s h)).1
theorem lowU_ascii {s:L8} (h:s.length < mid) (hp:ascii s=true):lowU s=lowS s:=(Classical.epsilon_spec (low_any s h)).2.1 hp
noncomputable def con_lowU:List AV→Option AV
  | [.str s]=>if s.length < mid then some (.str (lowU s)) else none
  | _=>none
theorem u_ok_zzToLower (Γ:Gam):∀ args r,con_lowU args=some r→runs Γ c_authres_zzToLower args (fun v=>v=r):=by
  intro args r h
  simp only [con_lowU] at h
  split at h <;> (try simp at h; done)
  obtain ⟨hs,rfl⟩:=ite_some h
  exact runs_mono gamE_le (Classical.epsilon_spec (low_any _ hs)).2.2

theorem wordsGo_sum:∀ (s cur:L8),((wordsGo cur s).map fun w:L8=>w.length+1).sum≤2 * (s.length+cur.length)
  | [],cur=>by
    simp only [wordsGo]
    split
    · simp
    · rename_i h
      have:=List.length_pos_iff.2 h
      simp; omega
  | x::r,cur=>by
    have h1:=wordsGo_sum r []
    have h2:=wordsGo_sum r (cur++[x])
    simp only [wordsGo]
    split
    · split
      · simp at h1 ⊢; omega
      · rename_i h
        have:=List.length_pos_iff.2 h
        simp at h1 ⊢; omega
    · simp at h2 ⊢; omega
theorem words_sum (s:L8):((wordsOf s).map fun w:L8=>w.length+1).sum≤2 * s.length:=by
  have:=wordsGo_sum s []
  simpa [wordsOf] using this
set_option maxHeartbeats 8000000 in
theorem words_any (s:L8) (hs:s.length < mid):∃ l:List L8,(l.map fun w:L8=>w.length+1).sum≤2 * s.length∧(plain s=true→l=wordsOf s)∧runs (gamS 165 con_spU) c_authres_zzFields [.str s] (fun v=>v=wordsV l):=by
  by_cases hp:plain s=true
  · refine ⟨wordsOf s,?_,fun _=>rfl,?_⟩
    · exact words_sum s
    · exact runs_mono (gamS_le gamS_fn con_sp_le) (ok_zzFields (gamS 165 con_zzIsSpace) gamS_fn _ _ (if_pos ⟨hs,hp⟩))
  have key:runs (gamS 165 con_spU) c_authres_zzFields [.str s] (fun v=>∃ l:List L8,(l.map fun w:L8=>w.length+1).sum≤2 * s.length∧v=wordsV l):=by
    have h165:(gamS 165 con_spU).fn 165=con_spU:=gamS_fn
    simp only [mid] at hs
    simp -implicitDefEqProofs [c_authres_zzFields]
    refine awp_loop2 (σ:=List L8 × Nat × Int) (fun p=>⟨[(0,.str s),(3,grV 24 1 p.1.length),(4,.int .i64 p.2.2),(8,.ref 8 0)],grH 24 p.1.length (strsA p.1)++[(8,.sit s p.2.1)]⟩)
      (fun p=>p.1.length≤p.2.1∧p.2.1≤s.length∧(p.2.2 = -1∨(0≤p.2.2∧p.2.2 < (p.2.1:Int)∧(p.1.length:Int)≤p.2.2∧((p.1.map fun w:L8=>w.length+1).sum:Int)≤2 * p.2.2))∧(p.1.map fun w:L8=>w.length+1).sum≤2 * p.2.1) (fun p=>s.length - p.2.1) ([],0,-1) (by simp) (by simp) ?_
    rintro ⟨outs,n,fr⟩ ⟨e1,e2,e3,e4⟩ LQ hLQ
    simp only at e1 e2 e3 e4
    by_cases hn:n < s.length
    · have hd:s.drop n ≠ []:=by intro e; have:=congrArg List.length e; simp at this; omega
      have hw:=decR_w hd
      simp only [List.length_drop] at hw
      generalize hdr:decR (s.drop n)=q at hw
      obtain ⟨r,w⟩:=q
      simp only at hw
      cases hsp:spU (r:Int) with
      | true =>
        rcases e3 with rfl | ⟨f1,f2,f3,f4⟩
        · have f:=fun st h=>hLQ (outs,n+w,-1) ⟨by simp; omega,by simp; omega,.inl rfl,by simp at e4 ⊢; omega⟩ (by simp; omega) st h
          cases outs with
          | nil =>
            simp -implicitDefEqProofs [b_authres_zzFields_1,hn,hdr,acall,h165,con_spU,hsp]
            exact f _ (by simp)
          | cons o outs =>
            simp -implicitDefEqProofs [b_authres_zzFields_1,hn,hdr,acall,h165,con_spU,hsp]
            exact f _ (by simp)
        · obtain ⟨g,rfl⟩:=Int.eq_ofNat_of_zero_le f1
          have hg:g≤n:=by omega
          have hnl:n≤s.length:=e2
          have f:=fun st h=>hLQ (outs++[List.drop g (List.take n s)],n+w,-1) ⟨by simp; omega,by simp; omega,.inl rfl,by simp [List.sum_append] at f4 ⊢; omega⟩ (by simp; omega) st h
          cases outs with
          | nil =>
            simp -implicitDefEqProofs [b_authres_zzFields_1,hn,hdr,acall,h165,con_spU,hsp,hg,hnl]
            exact f _ (by simp)
          | cons o outs =>
            simp at e1
            simp -implicitDefEqProofs [b_authres_zzFields_1,hn,hdr,acall,h165,con_spU,hsp,hg,hnl]
            exact ⟨by omega,f _ (by simp)⟩
      | false =>
        rcases e3 with rfl | ⟨f1,f2,f3,f4⟩
        · have f:=fun st h=>hLQ (outs,n+w,(n:Int)) ⟨by simp; omega,by simp; omega,.inr ⟨by simp,by simp; omega,by simp; omega,by simp at e4 ⊢; omega⟩,by simp at e4 ⊢; omega⟩ (by simp; omega) st h
          cases outs with
          | nil =>
            simp -implicitDefEqProofs [b_authres_zzFields_1,hn,hdr,acall,h165,con_spU,hsp]
            exact f _ (by simp)
          | cons o outs =>
            simp -implicitDefEqProofs [b_authres_zzFields_1,hn,hdr,acall,h165,con_spU,hsp]
            exact f _ (by simp)
        · have hng:¬ fr < 0:=by omega
          have f:=fun st h=>hLQ (outs,n+w,fr) ⟨by simp; omega,by simp; omega,.inr ⟨f1,by simp; omega,f3,f4⟩,by simp at e4 ⊢; omega⟩ (by simp; omega) st h
          cases outs with
          | nil =>
            simp -implicitDefEqProofs [b_authres_zzFields_1,hn,hdr,acall,h165,con_spU,hsp,hng]
            exact f _ (by simp)
          | cons o outs =>
            simp -implicitDefEqProofs [b_authres_zzFields_1,hn,hdr,acall,h165,con_spU,hsp,hng]
            exact f _ (by simp)
    · have R:∀ l:List L8,(l.map fun w:L8=>w.length+1).sum≤2 * s.length→∀ v,v=wordsV l→∃ l:List L8,(l.map fun w:L8=>w.length+1).sum≤2 * s.length∧v=wordsV l:=fun l h1 v h3=>⟨l,h1,h3⟩
      rcases e3 with rfl | ⟨f1,f2,f3,f4⟩
      · have f:=R outs (by omega)
        cases outs with
        | nil =>
          simp -implicitDefEqProofs [b_authres_zzFields_1,t_authres_zzFields_2,hn]
          exact f _ (by simp [wordsV])
        | cons o outs =>
          simp -implicitDefEqProofs [b_authres_zzFields_1,t_authres_zzFields_2,hn]
          exact f _ (by simp [wordsV])
      · obtain ⟨g,rfl⟩:=Int.eq_ofNat_of_zero_le f1
        have hg:g≤s.length:=by omega
        have f:=R (outs++[List.drop g s]) (by simp [List.sum_append] at f4 ⊢; omega)
        cases outs with
        | nil =>
          simp -implicitDefEqProofs [b_authres_zzFields_1,t_authres_zzFields_2,hn,hg]
          exact f _ (by simp [wordsV])
        | cons o outs =>
          simp at e1
          simp -implicitDefEqProofs [b_authres_zzFields_1,t_authres_zzFields_2,hn,hg]
          refine ⟨by omega,f _ ?_⟩
          simp [wordsV]
          try exact List.take_of_length_le (by simp)
  obtain ⟨v,⟨t,h1,rfl⟩,h2⟩:=runs_sel rfl key
  exact ⟨t,h1,fun h=>absurd h hp,h2⟩
noncomputable def wordsU (s:L8):List L8:=Classical.epsilon fun l=>(l.map fun w:L8=>w.length+1).sum≤2 * s.length∧(plain s=true→l=wordsOf s)∧runs (gamS 165 con_spU) c_authres_zzFields [.str s] (fun v=>v=wordsV l)
theorem wordsU_bnd {s:L8} (h:s.length < mid):((wordsU s).map fun w:L8=>w.length+1).sum≤2 * s.length:=(Classical.epsilon_spec (words_any s h)).1
theorem wordsU_plain {s:L8} (h:s.length < mid) (hp:plain s=true):wordsU s=wordsOf s:=(Classical.epsilon_spec (words_any s h)).2.1 hp
noncomputable def con_wordsU:List AV→Option AV
  | [.str s]=>if s.length < mid then some (wordsV (wordsU s)) else none
  | _=>none
theorem u_ok_zzFields (Γ:Gam) (h165:Γ.fn 165=con_spU):∀ args r,con_wordsU args=some r→runs Γ c_authres_zzFields args (fun v=>v=r):=by
  intro args r h
  simp only [con_wordsU] at h
  split at h <;> (try simp at h; done)
  obtain ⟨hs,rfl⟩:=ite_some h
  exact runs_mono (gamS_le h165 fun _ _ e=>e) (Classical.epsilon_spec (words_any _ hs)).2.2

def ixV:Option Nat→Int
  | some n=>(n:Int)
  | none => -1
set_option maxHeartbeats 8000000 in
theorem ix_any (s:L8) (hs:s.length < mid):∃ n:Option Nat,(∀ k,n=some k→k < s.length)∧(plain s=true→n=wsAt s 0)∧runs (gamS 165 con_spU) c_strings_indexFunc [.str s,.fn 165 [],.bool true] (fun v=>v=.int .i64 (ixV n)):=by
  by_cases hp:plain s=true
  · refine ⟨wsAt s 0,fun k hk=>?_,fun _=>rfl,?_⟩
    · have:=(wsAt_lt hk).2; omega
    · exact runs_mono (gamS_le gamS_fn con_sp_le) (ok_indexFunc (gamS 165 con_zzIsSpace) gamS_fn _ _ (if_pos ⟨hs,hp⟩))
  have key:runs (gamS 165 con_spU) c_strings_indexFunc [.str s,.fn 165 [],.bool true] (fun v=>∃ n:Option Nat,(∀ k,n=some k→k < s.length)∧v=.int .i64 (ixV n)):=by
    have h165:(gamS 165 con_spU).fn 165=con_spU:=gamS_fn
    simp only [mid] at hs
    simp -implicitDefEqProofs [c_strings_indexFunc]
    refine awp_loop2 (σ:=Nat) (fun n=>⟨[(1,.fn 165 []),(2,.bool true),(10,.ref 10 0)],[(10,.sit s n)]⟩)
      (fun _=>True) (fun n=>s.length - n) 0 (by simp) trivial ?_
    rintro n - LQ hLQ
    by_cases hn:n < s.length
    · have hd:s.drop n ≠ []:=by intro e; have:=congrArg List.length e; simp at this; omega
      have hw:=decR_w hd
      generalize hdr:decR (s.drop n)=q at hw
      obtain ⟨r,w⟩:=q
      simp only at hw
      cases hsp:spU (r:Int) with
      | true =>
        simp -implicitDefEqProofs [hn,hdr,acall,h165,con_spU,hsp,leafEq]
        exact ⟨some n,fun k hk=>by injection hk with hk; omega,rfl⟩
      | false =>
        simp -implicitDefEqProofs [hn,hdr,acall,h165,con_spU,hsp,leafEq]
        exact hLQ (n+w) trivial (by omega) _ (by simp)
    · simp -implicitDefEqProofs [hn]
      exact ⟨none,fun k hk=>(by cases hk),rfl⟩
  obtain ⟨v,⟨t,h1,rfl⟩,h2⟩:=runs_sel rfl key
  exact ⟨t,h1,fun h=>absurd h hp,h2⟩
noncomputable def ixU (s:L8):Option Nat:=Classical.epsilon fun n=>(∀ k,n=some k→k < s.length)∧(plain s=true→n=wsAt s 0)∧runs (gamS 165 con_spU) c_strings_indexFunc [.str s,.fn 165 [],.bool true] (fun v=>v=.int .i64 (ixV n))
theorem ixU_lt {s:L8} (h:s.length < mid) {k:Nat} (hk:ixU s=some k):k < s.length:=(Classical.epsilon_spec (ix_any s h)).1 k hk
theorem ixU_plain {s:L8} (h:s.length < mid) (hp:plain s=true):ixU s=wsAt s 0:=(Classical.epsilon_spec (ix_any s h)).2.1 hp
noncomputable def con_ixU:List AV→Option AV
  | [.str s,.fn 165 [],.bool true]=>if s.length < mid then some (.int .i64 (ixV (ixU s))) else none
  | _=>none
noncomputable def con_IxU:List AV→Option AV
  | [.str s,.fn 165 []]=>if s.length < mid then some (.int .i64 (ixV (ixU s))) else none
  | _=>none
theorem u_ok_indexFunc (Γ:Gam) (h165:Γ.fn 165=con_spU):∀ args r,con_ixU args=some r→runs Γ c_strings_indexFunc args (fun v=>v=r):=by
  intro args r h
  simp only [con_ixU] at h
  split at h <;> (try simp at h; done)
  obtain ⟨hs,rfl⟩:=ite_some h
  exact runs_mono (gamS_le h165 fun _ _ e=>e) (Classical.epsilon_spec (ix_any _ hs)).2.2
theorem u_ok_IndexFunc (Γ:Gam) (h197:Γ.fn 197=con_ixU):∀ args r,con_IxU args=some r→runs Γ c_strings_IndexFunc args (fun v=>v=r):=by
  intro args r h
  simp only [con_IxU] at h
  split at h <;> (try simp at h; done)
  rename_i s
  obtain ⟨hs,rfl⟩:=ite_some h
  clear h
  have k:con_ixU [.str s,.fn 165 [],.bool true]=some (.int .i64 (ixV (ixU s))):=if_pos hs
  simp -implicitDefEqProofs [c_strings_IndexFunc,acall,h197,k]
end Wax


namespace Wax
open Go (IntKind)

noncomputable def kvU (s:L8):Option KVp:=(cutAt 61 s).map fun p=>(lowU (trimU p.1),trimU p.2)
noncomputable def con_paramU:List AV→Option AV
  | [.str s]=>if s.length < mid then some (kvV (kvU s)) else none
  | _=>none
theorem u_ok_parseParam (Γ:Gam) (h174:Γ.fn 174=con_zzCut) (h50:Γ.fn 50=con_errorsNew) (h163:Γ.fn 163=con_trimU) (h172:Γ.fn 172=con_lowU) :
    ∀ args r,con_paramU args=some r→runs Γ c_authres_parseParam args (fun v=>v=r):=by
  intro args r h
  simp only [con_paramU] at h
  split at h <;> (try simp at h; done)
  rename_i s
  obtain ⟨hs,rfl⟩:=ite_some h
  clear h
  have e1:s.length < big:=by simp only [mid,big] at *; omega
  have k1:con_zzCut [.str s,.str [61]]=some (cutV 61 s):=if_pos e1
  cases hc:cutAt 61 s with
  | none =>
    simp -implicitDefEqProofs [c_authres_parseParam,acall,h174,k1,cutV,hc,h50,con_errorsNew,kvU,kvV,arMsg]
  | some p =>
    obtain ⟨x,hx1,hx2,hx3⟩:=cutAt_eq hc
    have l1:p.1.length < s.length∧p.2.length < s.length:=by rw [hx2]; simp; omega
    have t1:=trimU_len (s:=p.1) (by omega)
    have k2:con_trimU [.str p.1]=some (.str (trimU p.1)):=if_pos (by omega)
    have k3:con_trimU [.str p.2]=some (.str (trimU p.2)):=if_pos (by omega)
    have k4:con_lowU [.str (trimU p.1)]=some (.str (lowU (trimU p.1))):=if_pos (by omega)
    simp -implicitDefEqProofs [c_authres_parseParam,acall,h174,k1,cutV,hc,h163,k2,k3,h172,k4,kvU,kvV]
theorem kvU_bnd {w:L8} {p:KVp} (hw:w.length < mid) (h:kvU w=some p):p.1.length+p.2.length < w.length:=by
  simp only [kvU,Option.map_eq_some_iff] at h
  obtain ⟨q,hq,rfl⟩:=h
  obtain ⟨x,hx1,hx2,hx3⟩:=cutAt_eq hq
  have l1:q.1.length+q.2.length < w.length:=by rw [hx2]; simp <;> omega
  have t1:=trimU_len (s:=q.1) (by omega)
  have t2:=trimU_len (s:=q.2) (by omega)
  have t3:=lowU_len (s:=trimU q.1) (by omega)
  simp; omega
noncomputable def prmsU:List L8→List KVp→List KVp
  | [],acc=>acc
  | w::r,acc=>match kvU w with
    | some p=>prmsU r (psetL acc p.1 p.2)
    | none=>prmsU r acc
noncomputable def resU (s:L8):L8 ⊕ Option PR:=match wordsU s with
  | []=>.inr none
  | w::r=>if w=sNone0 then .inr none else match kvU w with
    | none=>.inl arMsg
    | some p=>match prOf p.1 (lowU p.2) (prmsU r []) with
      | .inl e=>.inl e
      | .inr x=>.inr (some x)
noncomputable def resEU (s:L8):AV:=match wordsU s with
  | []=>.nilI
  | w::_=>if w=sNone0 then .nilI else match kvU w with
    | none=>.nilI
    | some _=>.ifc 7 (.ptr [.str [],.str [],.int .i64 0])
noncomputable def resVU (s:L8):AV:=match resU s with
  | .inl e=>.tup [resEU s,.ifc 3 (.ptr [.str e])]
  | .inr none=>.tup [.nilI,.nilI]
  | .inr (some x)=>.tup [x.av,.nilI]
noncomputable def con_resU:List AV→Option AV
  | [.str s]=>if s.length < qtr then some (resVU s) else none
  | _=>none
def kvSum (l:List KVp):Nat:=(l.map fun p:KVp=>kvSz p+1).sum
theorem psetL_sum:∀ (l:List KVp) (k v:L8),kvSum (psetL l k v)≤kvSum l+(k.length+v.length+1)
  | [],k,v=>by simp [psetL,kvSum,kvSz]
  | (i,u)::r,k,v=>by
    have:=psetL_sum r k v
    simp only [psetL]
    split
    · simp [kvSum,kvSz]; omega
    · simp only [kvSum,List.map_cons,List.sum_cons] at this ⊢; omega
theorem prmsU_sum:∀ (ws:List L8) (acc:List KVp),(∀ w∈ws,w.length < mid)→kvSum (prmsU ws acc)≤kvSum acc+(ws.map fun w:L8=>w.length+1).sum
  | [],acc,_=>by simp [prmsU]
  | w::ws,acc,h1=>by
    simp only [prmsU,List.map_cons,List.sum_cons]
    cases hk:kvU w with
    | none =>
      have:=prmsU_sum ws acc (fun w hw=>h1 w (by simp [hw]))
      simp only; omega
    | some p =>
      have hb:=kvU_bnd (h1 w (by simp)) hk
      have c:=psetL_sum acc p.1 p.2
      have:=prmsU_sum ws (psetL acc p.1 p.2) (fun w hw=>h1 w (by simp [hw]))
      simp only; omega
theorem kvSum_len {l:List KVp}:l.length≤kvSum l:=by
  induction l with
  | nil=>simp
  | cons p l ih=>simp only [kvSum,List.map_cons,List.sum_cons,List.length_cons] at ih ⊢; omega
theorem kvSum_mem {l:List KVp} {q:KVp} (h:q∈l):q.1.length+q.2.length+1≤kvSum l:=by
  induction l with
  | nil=>simp at h
  | cons p l ih =>
    simp only [kvSum,List.map_cons,List.sum_cons] at ih ⊢
    rcases List.mem_cons.1 h with rfl | h
    · simp only [kvSz]; omega
    · have:=ih h; omega
theorem wsum_len {l:List L8}:l.length≤(l.map fun w:L8=>w.length+1).sum:=by
  induction l with
  | nil=>simp
  | cons p l ih=>simp only [List.map_cons,List.sum_cons,List.length_cons] at ih ⊢; omega
theorem wsum_mem {l:List L8} {q:L8} (h:q∈l):q.length+1≤(l.map fun w:L8=>w.length+1).sum:=by
  induction l with
  | nil=>simp at h
  | cons p l ih =>
    simp only [List.map_cons,List.sum_cons] at ih ⊢
    rcases List.mem_cons.1 h with rfl | h
    · omega
    · have:=ih h; omega
theorem resVU_eq (s:L8):resVU s=match wordsU s with
  | []=>.tup [.nilI,.nilI]
  | w::r=>if w=sNone0 then .tup [.nilI,.nilI] else match kvU w with
    | none=>.tup [.nilI,.ifc 3 (.ptr [.str arMsg])]
    | some p=>prAV p.1 (lowU p.2) (prmsU r []):=by
  simp only [resVU,resU,resEU,prAV]
  cases wordsU s with
  | nil=>rfl
  | cons w r =>
    by_cases h:w=sNone0
    · simp only [if_pos h]
    · simp only [if_neg h]
      cases kvU w with
      | none=>rfl
      | some p =>
        simp only
        cases prOf p.1 (lowU p.2) (prmsU r []) <;> rfl

set_option maxHeartbeats 1000000 in
theorem u_ok0_parseResult (Γ:Gam) (h170:Γ.fn 170=con_wordsU) (h171:Γ.fn 171=con_paramU) (h172:Γ.fn 172=con_lowU) (h173:Γ.fn 173=con_newResults) (G:ArG Γ) :
    ∀ args r,con_resU args=some r→runs Γ c_authres_parseResult args (fun v=>v=r):=by
  intro args r h
  simp only [con_resU] at h
  split at h <;> (try simp at h; done)
  rename_i s
  obtain ⟨hs,rfl⟩:=ite_some h
  clear h
  simp only [qtr] at hs
  have hsm:s.length < mid:=by simp only [mid]; omega
  have k170:con_wordsU [.str s]=some (wordsV (wordsU s)):=if_pos hsm
  have hsum:=wordsU_bnd hsm
  have hwl:=wsum_len (l:=wordsU s)
  have hwm:∀ w∈wordsU s,w.length+1≤2 * s.length:=fun w hw=>Nat.le_trans (wsum_mem hw) hsum
  have hwd:∀ w∈wordsU s,w.length < mid:=fun w hw=>by have:=hwm w hw; simp only [mid]; omega
  rw [resVU_eq]
  generalize wordsU s=ws at *
  cases ws with
  | nil =>
    simp -implicitDefEqProofs [c_authres_parseResult,acall,h170,k170,wordsV]
  | cons w ws =>
    have kw:∀ u∈w::ws,con_paramU [.str u]=some (kvV (kvU u)):=fun u hu=>if_pos (hwd u hu)
    have kw0:=kw w (by simp)
    have hne:¬ ((ws.length:Int)+1=0):=by omega
    by_cases hn:w=sNone0
    · subst hn
      simp -implicitDefEqProofs [c_authres_parseResult,acall,h170,k170,wordsV,hne]
      simp [sNone0]
    · have hn':¬ w=[110,111,110,101]:=hn
      simp only [if_neg hn]
      cases hk:kvU w with
      | none =>
        rw [hk] at kw0
        simp -implicitDefEqProofs [c_authres_parseResult,acall,h170,k170,wordsV,hne,hn',h171,kw0,kvV]
      | some p =>
        rw [hk] at kw0
        have hpb:=kvU_bnd (hwd w (by simp)) hk
        have hwb:=hwm w (by simp)
        have k172:con_lowU [.str p.2]=some (.str (lowU p.2)):=by
          exact if_pos (by simp only [mid]; omega)
        simp only
        have hfin:=prmsU_sum ws [] (fun u hu=>hwd u (by simp [hu]))
        have hwt:(ws.map fun w:L8=>w.length+1).sum≤2 * s.length:=by simp only [List.map_cons,List.sum_cons] at hsum; omega
        have hks:kvSum (prmsU ws [])≤2 * s.length:=by simp only [kvSum,List.map_nil,List.sum_nil] at hfin ⊢; omega
        have hok:PsOk (prmsU ws []):=⟨by have:=kvSum_len (l:=prmsU ws []); simp only [half]; omega,fun q hq=>by have:=kvSum_mem hq; simp only [half]; omega,fun q hq=>by have:=kvSum_mem hq; simp only [mid]; omega⟩
        generalize hF:prmsU ws []=F at *
        have T:=pr_tail Γ h173 G p.1 (lowU p.2) F hok
        generalize prAV p.1 (lowU p.2) F=R at *
        simp -implicitDefEqProofs [c_authres_parseResult,acall,h170,k170,wordsV,hne,hn',h171,kw0,kvV,h172,k172]
        refine awp_loop2 (σ:=List L8 × List L8 × List KVp) (fun q=>⟨[(4,.sl 1 (strsA (w::ws))),(8,.str p.1),(9,.str (lowU p.2)),(10,.mref 43),(11,.int .i64 ((q.1.length:Int)+1))],[(43,.mp (pmA q.2.2))]⟩)
          (fun q=>ws=q.1++q.2.1∧prmsU q.2.1 q.2.2=F) (fun q=>q.2.1.length) ([],ws,[]) ?_ ⟨by simp,hF⟩ ?_
        · simp [pmA]
        rintro ⟨pre,post,acc⟩ ⟨e1,e2⟩ LQ hLQ
        simp only at e1 e2
        cases post with
        | nil =>
          simp only [List.append_nil] at e1
          simp only [prmsU] at e2
          subst e1; subst e2
          have t:=T (.sl 1 (.str w::strsA ws)) (.int .i64 ((ws.length:Int)+1)) (.bool false)
          simp -implicitDefEqProofs [b_authres_parseResult_1]
          exact t
        | cons u post =>
          have ku:=kw u (by rw [e1]; simp)
          have hlen:ws.length=pre.length+(post.length+1):=by rw [e1]; simp
          have hlt:(pre.length:Int)+1 < (ws.length:Int)+1:=by omega
          have hnn:¬ ((pre.length:Int)+1 < 0):=by omega
          have et:((pre.length:Int)+1).toNat=pre.length+1:=by omega
          have g:ws[pre.length]? = some u:=by rw [e1]; exact get_mid rfl
          have ew:IntKind.i64.wrap ((pre.length:Int)+1+1)=(pre.length:Int)+1+1:=wrap64 (by simp at hwl hsum; omega) (by simp at hwl hsum; omega)
          have hle:(0:Int)≤(pre.length:Int)+1:=by omega
          cases hku:kvU u with
          | none =>
            rw [hku] at ku
            simp -implicitDefEqProofs [b_authres_parseResult_1,hlt,et,g,hle,acall,h171,ku,kvV,ew]
            refine hLQ (pre++[u],post,acc) ⟨by rw [e1]; simp,by rw [← e2]; simp only [prmsU,hku]⟩ (by simp) _ ?_
            simp
          | some z =>
            rw [hku] at ku
            simp -implicitDefEqProofs [b_authres_parseResult_1,hlt,et,g,hle,acall,h171,ku,kvV,ew,mset_pmA]
            refine hLQ (pre++[u],post,psetL acc z.1 z.2) ⟨by rw [e1]; simp,by rw [← e2]; simp only [prmsU,hku]⟩ (by simp) _ ?_
            simp

theorem u_ok_parseResult (Γ:Gam) (h170:Γ.fn 170=con_wordsU) (h171:Γ.fn 171=con_paramU) (h172:Γ.fn 172=con_lowU) (h173:Γ.fn 173=con_newResults) (s175:Γ.st 175=con_nArc) (s176:Γ.st 176=con_nAuth) (s177:Γ.st 177=con_nDKIM) (s178:Γ.st 178=con_nDomk) (s179:Γ.st 179=con_nIprev) (s180:Γ.st 180=con_nSender) (s181:Γ.st 181=con_nSpf) (s182:Γ.st 182=con_nDmarc) (s187:Γ.st 187=con_pAuth) (s188:Γ.st 188=con_pDKIM) (s189:Γ.st 189=con_pDomk) (s190:Γ.st 190=con_pIprev) (s191:Γ.st 191=con_pSender) (s193:Γ.st 193=con_pSpf) (s194:Γ.st 194=con_pDmarc) (s195:Γ.st 195=con_pArc) (s196:Γ.st 196=con_pGen) (m7:Γ.mth 7 "given.example/pub-waxseal/pub/msgauth/authres.parse" = some 195) (m8:Γ.mth 8 "given.example/pub-waxseal/pub/msgauth/authres.parse" = some 187) (m9:Γ.mth 9 "given.example/pub-waxseal/pub/msgauth/authres.parse" = some 188) (m10:Γ.mth 10 "given.example/pub-waxseal/pub/msgauth/authres.parse" = some 189) (m11:Γ.mth 11 "given.example/pub-waxseal/pub/msgauth/authres.parse" = some 190) (m12:Γ.mth 12 "given.example/pub-waxseal/pub/msgauth/authres.parse" = some 191) (m13:Γ.mth 13 "given.example/pub-waxseal/pub/msgauth/authres.parse" = some 193) (m14:Γ.mth 14 "given.example/pub-waxseal/pub/msgauth/authres.parse" = some 194) (m15:Γ.mth 15 "given.example/pub-waxseal/pub/msgauth/authres.parse" = some 196) :
    ∀ args r,con_resU args=some r→runs Γ c_authres_parseResult args (fun v=>v=r) :=
  u_ok0_parseResult Γ h170 h171 h172 h173 ⟨m7,m8,m9,m10,m11,m12,m13,m14,m15,s175,s176,s177,s178,s179,s180,s181,s182,s187,s188,s189,s190,s191,s193,s194,s195,s196⟩
end Wax


namespace Wax
open Go (IntKind)

noncomputable def adIdU (p:L8):Option L8:=match ixU (trimU p) with
  | none=>some (trimU p)
  | some n=>if n=0 then some (trimU p) else if trimU ((trimU p).drop n)=[49] then some ((trimU p).take n) else none
noncomputable def adGoU:List L8→List PR→List PR × Option L8
  | [],acc=>(acc,none)
  | p::r,acc=>if trimU p=[] then adGoU r acc else match resU (trimU p) with
    | .inl e=>(acc,some e)
    | .inr none=>adGoU r acc
    | .inr (some x)=>adGoU r (acc++[x])
noncomputable def adPU (s:L8):AV:=match splitB 59 s with
  | []=>.junk
  | p::r=>match adIdU p with
    | none=>.tup [.str [],.nilS,.ifc 3 (.ptr [.str arVer])]
    | some i=>.tup [.str i,prsV (adGoU r []).1,errA (adGoU r []).2]
noncomputable def con_adPU:List AV→Option AV
  | [.str s]=>if s.length < qtr then some (adPU s) else none
  | _=>none
set_option maxHeartbeats 1000000 in
theorem u_ok_adParse (Γ:Gam) (s162:Γ.st 162=con_zzSplit) (h163:Γ.fn 163=con_trimU) (h164:Γ.fn 164=con_IxU) (h50:Γ.fn 50=con_errorsNew) (h166:Γ.fn 166=con_resU) :
    ∀ args r,con_adPU args=some r→runs Γ c_authres_Parse args (fun v=>v=r):=by
  intro args r h
  simp only [con_adPU] at h
  split at h <;> (try simp at h; done)
  rename_i s
  obtain ⟨hs,rfl⟩:=ite_some h
  clear h
  simp only [qtr] at hs
  have hsp:con_zzSplit [.str s,.str [59]] []=some (.msl 0 1 0 (splitB 59 s).length,[(0,.cells (strsA (splitB 59 s)))]):=if_pos (by simp only [mid]; omega)
  have hl:=splitB_length 59 s
  have hml:=splitB_mem_length 59 s
  have hne:=splitB_ne 59 s
  simp only [adPU]
  generalize splitB 59 s=L at *
  cases L with
  | nil=>exact absurd rfl hne
  | cons p0 L =>
    clear hne
    have kt:∀ p:L8,p.length < 549755813888→con_trimU [.str p]=some (.str (trimU p)):=fun p h1=>if_pos (by simp only [mid]; omega)
    have hp0:=hml p0 (by simp)
    have k0:=kt p0 (by omega)
    have ti:=trimU_len (s:=p0) (by simp only [mid]; omega)
    have hix:(trimU p0).length < mid:=by simp only [mid]; omega
    have ki:con_IxU [.str (trimU p0),.fn 165 []]=some (.int .i64 (ixV (ixU (trimU p0)))):=if_pos hix
    simp only [List.length_cons] at hl
    have main:∀ (i:L8),awp Γ (.loop [2,3,4,5,8] b_authres_Parse_1) (blockQ 0 (thenQ (awp Γ .ret (finQ [.t 2,.t 3,.t 4] fun v=>v=.tup [.str i,prsV (adGoU L []).1,errA (adGoU L []).2])) (finQ [.t 2,.t 3,.t 4] fun v=>v=.tup [.str i,prsV (adGoU L []).1,errA (adGoU L []).2])))
        ⟨[(2,.str i),(3,.nilS),(4,.nilI),(5,.msl 13 1 0 (L.length+1)),(8,.int .i64 1)],[(13,.cells (.str p0::strsA L))]⟩:=by
      intro i
      refine awp_loop2 (σ:=List L8 × List L8 × List PR) (fun q=>⟨[(2,.str i),(3,grV 60 1 q.2.2.length),(4,.nilI),(5,.msl 13 1 0 (L.length+1)),(8,.int .i64 ((q.1.length:Int)+1))],grH 60 q.2.2.length (prsA q.2.2)++[(13,.cells (.str p0::strsA L))]⟩)
        (fun q=>L=q.1++q.2.1∧adGoU L []=adGoU q.2.1 q.2.2∧q.2.2.length≤q.1.length) (fun q=>q.2.1.length) ([],L,[]) (by simp) (by simp) ?_
      rintro ⟨pre,post,acc⟩ ⟨e1,e2,e3⟩ LQ hLQ
      simp only at e1 e2 e3
      cases post with
      | nil =>
        simp only [List.append_nil] at e1
        rw [e2]
        simp only [adGoU]
        rw [← e1] at e3
        cases acc with
        | nil=>simp -implicitDefEqProofs [b_authres_Parse_1,← e1,prsV,errA]
        | cons x acc=>simp -implicitDefEqProofs [b_authres_Parse_1,← e1,prsV,errA,prsA_take]
      | cons u post =>
        have hlen:L.length=pre.length+(post.length+1):=by rw [e1]; simp
        have hlt:(pre.length:Int)+1 < (L.length:Int)+1:=by omega
        have hlt2:pre.length < L.length:=by omega
        have hle:(0:Int)≤(pre.length:Int)+1:=by omega
        have et:((pre.length:Int)+1).toNat=pre.length+1:=by omega
        have g:L[pre.length]? = some u:=by rw [e1]; exact get_mid rfl
        have ew:IntKind.i64.wrap ((pre.length:Int)+1+1)=(pre.length:Int)+1+1:=wrap64 (by omega) (by omega)
        have hul:=hml u (by rw [e1]; simp)
        have ku:=kt u (by omega)
        have tu:=trimU_len (s:=u) (by simp only [mid]; omega)
        have hdr:L.drop pre.length=u::post:=by rw [e1]; simp
        by_cases hz:trimU u=[]
        · rw [hz] at ku
          have f:=fun st h=>hLQ (pre++[u],post,acc) ⟨by rw [e1]; simp,by rw [e2]; simp only [adGoU,if_pos hz],by simp; omega⟩ (by simp) st h
          cases acc with
          | nil =>
            simp -implicitDefEqProofs [b_authres_Parse_1,hlt,hlt2,et,g,hdr,hle,acall,h163,ku,ew]
            exact f _ (by simp)
          | cons x acc =>
            simp -implicitDefEqProofs [b_authres_Parse_1,hlt,hlt2,et,g,hdr,hle,acall,h163,ku,ew]
            exact f _ (by simp)
        · have kr:con_resU [.str (trimU u)]=some (resVU (trimU u)):=if_pos (by simp only [qtr]; omega)
          simp only [resVU] at kr
          have e2':adGoU L []=match resU (trimU u) with | .inl e=>(acc,some e) | .inr none=>adGoU post acc | .inr (some x)=>adGoU post (acc++[x]):=by
            rw [e2]; simp only [adGoU,if_neg hz]
          cases hr:resU (trimU u) with
          | inl e =>
            rw [hr] at kr e2'
            simp only at kr e2'
            rw [e2']
            have hre:hasRef (resEU (trimU u))=false:=by
              simp only [resEU]
              split
              · rfl
              · split
                · rfl
                · split <;> rfl
            cases acc with
            | nil=>simp -implicitDefEqProofs [b_authres_Parse_1,hlt,hlt2,et,g,hdr,hle,acall,h163,ku,ew,hz,h166,kr,hre,prsV,errA]
            | cons x acc =>
              simp -implicitDefEqProofs [b_authres_Parse_1,hlt,hlt2,et,g,hdr,hle,acall,h163,ku,ew,hz,h166,kr,hre,prsV,errA,prsA_take]
          | inr o =>
            rw [hr] at kr e2'
            cases o with
            | none =>
              simp only at kr e2'
              have f:=fun st h=>hLQ (pre++[u],post,acc) ⟨by rw [e1]; simp,e2',by simp; omega⟩ (by simp) st h
              cases acc with
              | nil =>
                simp -implicitDefEqProofs [b_authres_Parse_1,hlt,hlt2,et,g,hdr,hle,acall,h163,ku,ew,hz,h166,kr]
                exact f _ (by simp)
              | cons x acc =>
                simp -implicitDefEqProofs [b_authres_Parse_1,hlt,hlt2,et,g,hdr,hle,acall,h163,ku,ew,hz,h166,kr]
                exact f _ (by simp)
            | some z =>
              simp only at kr e2'
              have f:=fun st h=>hLQ (pre++[u],post,acc++[z]) ⟨by rw [e1]; simp,e2',by simp; omega⟩ (by simp) st h
              have cz:=pav_cells (x:=z)
              simp only [cells] at cz
              have cn:=pav_nil (x:=z)
              simp only [isNilA] at cn
              cases acc with
              | nil =>
                simp -implicitDefEqProofs [b_authres_Parse_1,hlt,hlt2,et,g,hdr,hle,acall,h163,ku,ew,hz,h166,kr,cz,cn]
                exact f _ (by simp)
              | cons x acc =>
                simp at e3
                simp -implicitDefEqProofs [b_authres_Parse_1,hlt,hlt2,et,g,hdr,hle,acall,h163,ku,ew,hz,h166,kr,cz,cn]
                exact ⟨by omega,f _ (by simp [prsA_take])⟩
    have hnn:∀ n,ixU (trimU p0)=some n→n < (trimU p0).length:=fun n h=>ixU_lt hix h
    cases hw:ixU (trimU p0) with
    | none =>
      have hwv:ixV (ixU (trimU p0)) = -1:=by rw [hw]; rfl
      rw [hwv] at ki
      have hi:adIdU p0=some (trimU p0):=by simp only [adIdU,hw]
      simp only [hi]
      simp -implicitDefEqProofs [c_authres_Parse,acallS,s162,hsp,acall,h163,k0,h164,ki]
      exact main _
    | some n =>
      have hwv:ixV (ixU (trimU p0))=(n:Int):=by rw [hw]; rfl
      rw [hwv] at ki
      by_cases hn0:n=0
      · subst hn0
        have hi:adIdU p0=some (trimU p0):=by simp only [adIdU,hw,if_true]
        simp only [hi]
        simp -implicitDefEqProofs [c_authres_Parse,acallS,s162,hsp,acall,h163,k0,h164,ki]
        exact main _
      · have hnp:0 < n:=by omega
        have hnl:n≤(trimU p0).length:=by have:=hnn n hw; omega
        have hdl:((trimU p0).drop n).length < 549755813888:=by simp; omega
        have kd:=kt ((trimU p0).drop n) hdl
        by_cases h1:trimU ((trimU p0).drop n)=[49]
        · have hi:adIdU p0=some ((trimU p0).take n):=by simp only [adIdU,hw,if_neg hn0,if_pos h1]
          rw [h1] at kd
          simp only [hi]
          simp -implicitDefEqProofs [c_authres_Parse,acallS,s162,hsp,acall,h163,k0,h164,ki,hnp,hnl,kd]
          exact main _
        · have hi:adIdU p0=none:=by simp only [adIdU,hw,if_neg hn0,if_neg h1]
          simp only [hi]
          simp -implicitDefEqProofs [c_authres_Parse,acallS,s162,hsp,acall,h163,k0,h164,ki,hnp,hnl,kd,h1,h50,con_errorsNew,arVer]
noncomputable def adTextU (s:L8):Option (L8 × List PR):=match splitB 59 s with
  | []=>none
  | p::r=>match adIdU p with
    | none=>none
    | some i=>match adGoU r [] with
      | (l,none)=>some (i,l)
      | (_,some _)=>none
noncomputable def con_APU:List AV→Option AV
  | [.str s]=>if s.length < qtr then some (adV (adTextU s)) else none
  | _=>none
theorem resU_ok {t:L8} {x:PR} (ht:t.length < qtr) (h:resU t=.inr (some x)):x.kOk:=by
  simp only [qtr] at ht
  have htm:t.length < mid:=by simp only [mid]; omega
  simp only [resU] at h
  have b1:=wordsU_bnd htm
  cases hw:wordsU t with
  | nil=>rw [hw] at h; simp at h
  | cons w r =>
    rw [hw] at h b1
    simp only at h
    split at h
    · simp at h
    · cases hk:kvU w with
      | none=>rw [hk] at h; simp at h
      | some p =>
        rw [hk] at h
        simp only at h
        have hwd:∀ u∈w::r,u.length < mid:=fun u hu=>by have:=wsum_mem hu; simp only [mid]; omega
        have c:=prmsU_sum r [] (fun u hu=>hwd u (by simp [hu]))
        have c2:kvSum (prmsU r [])≤2 * t.length:=by simp only [kvSum,List.map_nil,List.sum_nil,List.map_cons,List.sum_cons] at c b1 ⊢; omega
        have hb:(prmsU r []).length < half∧∀ q∈prmsU r [],q.1.length < half:=⟨by have:=kvSum_len (l:=prmsU r []); simp only [half]; omega,fun q hq=>by have:=kvSum_mem hq; simp only [half]; omega⟩
        generalize prmsU r []=F at *
        cases hp:prOf p.1 (lowU p.2) F with
        | inl e=>rw [hp] at h; simp at h
        | inr y =>
          rw [hp] at h
          simp only [Sum.inr.injEq,Option.some.injEq] at h
          subst h
          simp only [prOf] at hp
          repeat' split at hp
          all_goals first | (simp at hp; done) | (simp only [Sum.inr.injEq] at hp; subst hp; first | trivial | exact hb)
theorem u_adGo_ok:∀ (L:List L8) (acc:List PR),(∀ p∈L,p.length < qtr)→(∀ x∈acc,x.kOk)→(adGoU L acc).1.length≤acc.length+L.length∧∀ x∈(adGoU L acc).1,x.kOk
  | [],acc,_,h=>⟨by simp [adGoU],h⟩
  | p::r,acc,hL,h=>by
    have hr:∀ p∈r,p.length < qtr:=fun q hq=>hL q (by simp [hq])
    have hp:=hL p (by simp)
    have tp:=trimU_len (s:=p) (by simp only [qtr] at hp; simp only [mid]; omega)
    simp only [adGoU]
    split
    · obtain ⟨a,b⟩:=u_adGo_ok r acc hr h
      exact ⟨by simp; omega,b⟩
    · cases hq:resU (trimU p) with
      | inl e=>exact ⟨by simp,h⟩
      | inr o =>
        cases o with
        | none =>
          obtain ⟨a,b⟩:=u_adGo_ok r acc hr h
          exact ⟨by simp; omega,b⟩
        | some x =>
          obtain ⟨a,b⟩:=u_adGo_ok r (acc++[x]) hr (fun y hy=>by
            rcases List.mem_append.1 hy with hy | hy
            · exact h y hy
            · rw [List.mem_singleton.1 hy]; exact resU_ok (by omega) hq)
          exact ⟨by simp at a ⊢; omega,b⟩

set_option maxHeartbeats 1000000 in
theorem u_ok_AParse (Γ:Gam) (h156:Γ.fn 156=con_adPU) (h157:Γ.fn 157=con_resultOf):∀ args r,con_APU args=some r→runs Γ c_impl_AParse args (fun v=>v=r):=by
  intro args r h
  simp only [con_APU] at h
  split at h <;> (try simp at h; done)
  rename_i s
  obtain ⟨hs,rfl⟩:=ite_some h
  clear h
  have k156:con_adPU [.str s]=some (adPU s):=if_pos hs
  simp only [qtr] at hs
  have hl:=splitB_length 59 s
  have hml:=splitB_mem_length 59 s
  have hne:=splitB_ne 59 s
  simp only [adPU] at k156
  simp only [adTextU]
  generalize splitB 59 s=L at *
  cases L with
  | nil=>exact absurd rfl hne
  | cons p0 L =>
    simp only at k156 ⊢
    cases hi:adIdU p0 with
    | none =>
      rw [hi] at k156
      simp only at k156
      simp -implicitDefEqProofs [c_impl_AParse,acall,h156,k156,adV]
    | some i =>
      rw [hi] at k156
      simp only at k156 ⊢
      obtain ⟨b1,b2⟩:=u_adGo_ok L [] (fun p hp=>by have:=hml p (by simp [hp]); simp only [qtr]; omega) (by simp)
      simp at hl b1
      generalize adGoU L []=q at *
      obtain ⟨l,e⟩:=q
      have hr:hasRef (prsV l)=false:=by cases l <;> simp [prsV]
      cases e with
      | some m=>simp -implicitDefEqProofs [c_impl_AParse,acall,h156,k156,adV,errA,hr]
      | none =>
        simp only at b1 b2
        simp only [errA] at k156
        cases l with
        | nil =>
          simp only [prsV] at k156
          simp -implicitDefEqProofs [c_impl_AParse,acall,h156,k156,adV]
          refine awp_loop2 (σ:=Unit) (fun _=>⟨[(5,.str i),(8,.nilS),(19,.nilS),(20,.int .i64 0),(21,.int .i64 0)],[]⟩) (fun _=>True) (fun _=>0) () (by simp) trivial ?_
          intro _ _ LQ hLQ
          simp -implicitDefEqProofs [b_impl_AParse_1,t_impl_AParse_2,arV]
        | cons x0 l0 =>
          simp only [prsV] at k156
          generalize hl0:x0::l0=l at *
          have hln:l ≠ []:=by rw [← hl0]; simp
          clear hl0 x0 l0
          simp -implicitDefEqProofs [c_impl_AParse,acall,h156,k156,adV]
          refine awp_loop2 (σ:=List PR × List PR) (fun q=>⟨[(5,.str i),(8,grV 29 16 q.1.length),(19,.sl 1 (prsA l)),(20,.int .i64 l.length),(21,.int .i64 q.1.length)],grH 29 q.1.length (arC (q.1.map PR.ar))⟩)
            (fun q=>l=q.1++q.2) (fun q=>q.2.length) ([],l) (by simp) (by simp) ?_
          rintro ⟨pre,post⟩ e1 LQ hLQ
          simp only at e1
          cases post with
          | nil =>
            simp only [List.append_nil] at e1
            subst e1
            cases l with
            | nil=>exact absurd rfl hln
            | cons x l =>
              have hg:=group_arC (l:=(x::l).map PR.ar)
              simp only [List.length_map,List.length_cons,List.map_cons,arC_cons] at hg
              simp -implicitDefEqProofs [b_impl_AParse_1,t_impl_AParse_2,arV,hg]
              omega
          | cons x post =>
            have hlen:l.length=pre.length+(post.length+1):=by rw [e1]; simp
            have hlt:(pre.length:Int) < (l.length:Int):=by omega
            have g:l[pre.length]? = some x:=by rw [e1]; exact get_mid rfl
            have ew:IntKind.i64.wrap ((pre.length:Int)+1)=(pre.length:Int)+1:=wrap64 (by omega) (by omega)
            have kx:=con_resultOf_ok (b2 x (by rw [e1]; simp))
            have cx:=pav_cells (x:=x)
            simp only [cells] at cx
            have f:∀ st,norm [5,8,19,20,21] st=⟨[(5,.str i),(8,.msl 29 16 0 (pre.length+1)),(19,.sl 1 (prsA l)),(20,.int .i64 l.length),(21,.int .i64 ((pre.length:Int)+1))],[(29,.cells (arC (pre.map PR.ar)++x.ar.cells))]⟩→LQ st:=by
              intro st hst
              exact hLQ (pre++[x],post) (by rw [e1]; simp) (by simp) st (by rw [hst]; simp)
            cases pre with
            | nil =>
              simp only [List.nil_append] at e1
              subst e1
              have ew0:IntKind.i64.wrap 1=1:=rfl
              have hl0:(0:Int) < (post.length:Int)+1:=by omega
              simp -implicitDefEqProofs [b_impl_AParse_1,ew0,hl0,acall,h157,kx,cx,splice_ar,take_ar]
              exact f _ (by simp)
            | cons y pre =>
              have hln2:l.length=pre.length+1+(post.length+1):=hlen
              have hlt1:(pre.length:Int)+1 < (l.length:Int):=by omega
              have g1:l[pre.length+1]? = some x:=g
              have ew1:IntKind.i64.wrap ((pre.length:Int)+1+1)=(pre.length:Int)+1+1:=wrap64 (by omega) (by omega)
              have et:((pre.length:Int)+1).toNat=pre.length+1:=by omega
              have hle:(0:Int)≤(pre.length:Int)+1:=by omega
              have tk:List.take ((pre.length+1) * 16) (y.ar.cells++arC (pre.map PR.ar))=y.ar.cells++arC (pre.map PR.ar):=List.take_of_length_le (by simp; omega)
              simp -implicitDefEqProofs [b_impl_AParse_1,hlt1,g1,ew1,et,hle,acall,h157,kx,cx,tk,splice_ar,take_ar]
              exact ⟨⟨by omega,by omega⟩,f _ (by simp)⟩
end Wax


namespace Wax
open Go (IntKind)

theorem sum_sub {α:Type} [DecidableEq α] {f:α→Nat}:∀ (a b:List α),a.Nodup→(∀ x∈a,x∈b)→(a.map f).sum≤(b.map f).sum
  | [],_,_,_=>by simp
  | x::a,b,hn,h=>by
    obtain ⟨b1,b2,rfl⟩:=List.append_of_mem (h x (by simp))
    rw [List.nodup_cons] at hn
    have:=sum_sub (f:=f) a (b1++b2) hn.2 fun y hy=>by
      have hy2:=h y (by simp [hy])
      simp only [List.mem_append,List.mem_cons] at hy2 ⊢
      rcases hy2 with h1 | rfl | h1
      · exact .inl h1
      · exact absurd hy hn.1
      · exact .inr h1
    simp only [List.map_cons,List.sum_cons,List.map_append,List.sum_append] at this ⊢
    omega
theorem mem_sum {α:Type} {f:α→Nat}:∀ {l:List α} {x:α},x∈l→f x≤(l.map f).sum
  | y::l,x,h=>by
    simp only [List.map_cons,List.sum_cons]
    rcases List.mem_cons.1 h with rfl | h
    · omega
    · have:=mem_sum (f:=f) h; omega
theorem nd_of_keys {l:List KVp} (h:(l.map (·.1)).Nodup):l.Nodup:=by
  have:l.Pairwise fun a b=>a.1 ≠ b.1:=List.pairwise_map.1 h
  exact this.imp fun h e=>h (by rw [e])
theorem fPart_len {r:AR} (hf:aFit1 r=true) (hm:aMute1 r=true):(fPart r.pr).length≤100+4 * r.bulk:=by
  have G:=pr_good hf hm
  have h1:((fmPairs r.pr.fm).map fun p:KVp=>kvSz p+4).sum≤prmSz r.prm:=sum_sub (f:=fun p:KVp=>kvSz p+4) (fmPairs r.pr.fm) r.prm (nd_of_keys (fmPairs_nd G.nd)) fun p hp=>by
    obtain ⟨a,b,_⟩:=fmPairs_mem hp
    exact G.keys p a b
  have h2:=prm_len r
  have h3:(flatW ((ft r).ps.map fun p=>(p.1,kvW p.2))).length≤((fmPairs r.pr.fm).map fun p:KVp=>kvSz p+4).sum:=by
    simp only [ft,List.map_map]
    generalize fmPairs r.pr.fm=l
    induction l with
    | nil=>simp [flatW]
    | cons p l ih =>
      simp only [flatW,List.map_cons,List.flatMap_cons,List.length_append,List.sum_cons,Function.comp] at ih ⊢
      simp only [kvW,kvSz,List.length_append,List.length_cons,List.length_nil] at ih ⊢
      omega
  have h4:(tl r).length≤1:=by unfold tl; split <;> simp
  rw [fPart_ft hf hm]
  simp only [List.length_cons,List.length_append,ResT.txt]
  have h5:(ft r).pre.length=1:=rfl
  have h6:(kvW (ft r).head).length=r.meth.length+(r.value.length+1):=by simp [ft,kvW]
  omega
theorem fText_len (i:L8) (l:List AR) (h:∀ r∈l,aFit1 r=true∧aMute1 r=true):(fText i (l.map AR.pr)).length≤i.length+(l.map fun r=>100+4 * r.bulk).sum+6:=by
  have:((l.map AR.pr).flatMap fPart).length≤(l.map fun r=>100+4 * r.bulk).sum:=by
    induction l with
    | nil=>simp
    | cons r l ih =>
      have h1:=fPart_len (h r (by simp)).1 (h r (by simp)).2
      have h2:=ih fun q hq=>h q (by simp [hq])
      simp only [List.map_cons,List.flatMap_cons,List.length_append,List.sum_cons]
      omega
  simp only [fText]
  split
  · simp only [List.length_append,List.length_cons,List.length_nil]; omega
  · simp only [List.length_append]; omega
set_option maxRecDepth 100000 in
theorem tk_ascii {s:L8} (h:∀ x∈s,tkC [64] x=true):ascii s=true:=by
  refine List.all_eq_true.2 fun x hx=>?_
  have all:∀ n:Fin 256,tkC [64] (UInt8.ofNat n.1)=true→decide ((UInt8.ofNat n.1).toNat < 128)=true:=by decide
  have:=all ⟨x.toNat,x.toNat_lt⟩
  simp only [UInt8.ofNat_toNat] at this
  exact this (h x hx)
theorem tok_tk {s:L8} (h:mTok s=true):∀ x∈s,tkC [64] x=true:=fun x hx=>by
  simp only [mTok,Bool.and_eq_true] at h
  simp [tkC,List.all_eq_true.1 h.1 x hx]
theorem kw_tk {s:L8} (h:mKw s=true):∀ x∈s,tkC [64] x=true:=fun x hx=>by
  simp only [mKw,Bool.and_eq_true] at h
  simp [tkC,kw_tok x (List.all_eq_true.1 h.1.1.1 x hx)]
theorem ip_vals {r:AR} (hf:aFit1 r=true):∀ p∈r.iprops,aPlain p.2.2=true:=by
  intro p hp
  simp only [aFit1,Bool.and_eq_true,decide_eq_true_eq,Bool.or_eq_true] at hf
  have f5:=hf.2
  unfold AR.iprops at hp
  split at hp
  · rename_i h0
    rw [if_pos h0] at f5
    simp only [Bool.and_eq_true,decide_eq_true_eq] at f5
    obtain ⟨q,hq,rfl⟩:=List.mem_map.1 hp
    exact (gFit_plain _ _ f5.2 q hq).1
  · rename_i h0
    rw [if_neg h0] at f5
    have h5:=List.all_eq_true.1 f5 p hp
    simp only [Bool.and_eq_true,decide_eq_true_eq] at h5
    exact h5.1.1
theorem fit_small {r:AR} (hf:aFit1 r=true) (h2:(r.ps.getD []).length < half) (hb:r.bulk≤2097152):r.small:=by
  have hk:=kind_cases hf
  refine ⟨⟨by omega,by omega,fun h0=>⟨h2,fun p hp=>?_⟩⟩,?_,fun p hp=>?_⟩
  · have h1:((r.ps.getD []).map fun p=>kvSz p+1).sum≤r.bulk:=by simp only [AR.bulk]; omega
    have h3:kvSz p+1≤((r.ps.getD []).map fun p=>kvSz p+1).sum:=mem_sum (f:=fun p:KVp=>kvSz p+1) hp
    have h4:p.1.length≤kvSz p:=by simp only [kvSz]; omega
    simp only [big]; omega
  · unfold AR.iprops
    split
    · simpa using h2
    · unfold AR.props
      repeat' split
      all_goals simp [half]
  · have:=(aPlain_g (ip_vals hf p hp)).2.2
    simp only [half]; omega
theorem fit_fmOk {r:AR} (hf:aFit1 r=true) (hm:aMute1 r=true) (h2:(r.ps.getD []).length < half) (hb:r.bulk≤2097152):r.pr.fmOk:=by
  have G:=pr_good hf hm
  refine ⟨?_,?_,fun p hp=>?_,?_⟩
  · rcases kind_cases hf with h | h | h | h | h | h | h | h <;> simp [AR.pr,h,PR.isArc]
  · rcases kind_cases hf with h | h | h | h | h | h | h | h
    · have hp:r.prm=r.ps.getD []:=by
        simp only [aFit1,Bool.and_eq_true,decide_eq_true_eq,h,if_true] at hf
        simp only [AR.prm,h,hf.2.1.1.1.2,rPs,if_true,List.nil_append]
      rw [G.gen h,hp]; exact h2
    all_goals simp [AR.pr,h,PR.fm,half]
  · by_cases hv:p.2=[]
    · rw [hv]; exact ⟨rfl,by simp [qrt]⟩
    · have hq:=G.keys p hp hv
      obtain ⟨a,b⟩:=prm_vals hf hm p hq
      refine ⟨?_,?_⟩
      · by_cases hr:p.1=qReason
        · exact tk_ascii (tok_tk (a hr))
        · exact tk_ascii (plain_tk (b hr).1).1
      · have h1:=prm_len r
        have h3:kvSz p+4≤prmSz r.prm:=mem_sum (f:=fun p:KVp=>kvSz p+4) hq
        have h4:p.2.length≤kvSz p:=by simp only [kvSz]; omega
        simp only [qrt]; omega
  · intro v rr k y e
    have h5:r.kind=5:=by
      rcases kind_cases hf with h | h | h | h | h | h | h | h <;> first | exact h | simp [AR.pr,h] at e
    have hk:k=r.hkey:=by simp only [AR.pr,h5] at e; simp at e; exact e.2.2.1.symm
    simp only [aFit1,Bool.and_eq_true,decide_eq_true_eq] at hf
    have f5:=hf.2
    rw [if_neg (by omega)] at f5
    have:=List.all_eq_true.1 f5 (tHeader,r.hkey,r.hval) (by simp [AR.props,h5])
    simp only [Bool.and_eq_true,decide_eq_true_eq] at this
    rw [hk]
    refine ⟨?_,tk_ascii (kw_tk this.1.2)⟩
    simp only [AR.bulk] at hb
    simp only [mid]; omega

theorem law_fmt0 {i:L8} {l:List AR} (L:LawAR l) (hf:aFits (l.map AR.only)=true) (hm:(l.map AR.only).all aMute1=true) (hq:i.length+(l.map fun r=>r.bulk+1).sum≤2097152) :
    con_AFormat [.str i,arV (l.map AR.only)]=some (.str (fText i ((l.map AR.only).map AR.pr)))∧(fText i ((l.map AR.only).map AR.pr)).length < qtr:=by
  have hsz:=(law_sz L hf).1
  have hff:=hf
  simp only [aFits,Bool.and_eq_true,List.all_eq_true] at hff hm
  have hb:∀ r∈l.map AR.only,r.bulk≤2097152:=by
    intro r hr
    obtain ⟨q,hq2,rfl⟩:=List.mem_map.1 hr
    have h1:=only_bulk q
    have h2:=mem_sum (f:=fun r:AR=>r.bulk+1) hq2
    omega
  have hlen:=fText_len i (l.map AR.only) fun r hr=>⟨hff.1 r hr,hm r hr⟩
  have hso:=sum_only l
  have hT:(fText i ((l.map AR.only).map AR.pr)).length < qtr:=by simp only [qtr]; omega
  refine ⟨?_,hT⟩
  simp only [con_AFormat,slAR_arV]
  exact if_pos ⟨hsz.1,hsz.2,fun r hr=>fit_fmOk (hff.1 r hr) (hm r hr) (hsz.2 r hr) (hb r hr),by simp only [qtr] at hT; simp only [mid]; omega⟩
theorem law_fmt {i:L8} (hi:aPlain i=true) {l:List AR} (L:LawAR l) (hf:aFits (l.map AR.only)=true) (hm:(l.map AR.only).all aMute1=true) (hq:i.length+(l.map fun r=>r.bulk+1).sum≤2097152) :
    ∃ (T:L8) (R:List AR),con_AFormat [.str i,arV (l.map AR.only)]=some (.str T)∧T=fText i ((l.map AR.only).map AR.pr)∧T.length < qtr∧con_AParse [.str T]=some (.tup [.str i,arV R,.bool true])∧R=(l.map AR.only).map AR.norm:=by
  obtain ⟨⟨xs,e1,e2⟩,hpl⟩:=fmt_read hi hf hm
  obtain ⟨h1,hT⟩:=law_fmt0 (i:=i) L hf hm hq
  refine ⟨_,xs.map PR.ar,h1,rfl,hT,?_,?_⟩
  · have:con_AParse [.str (fText i ((l.map AR.only).map AR.pr))]=some (adV (adText (fText i ((l.map AR.only).map AR.pr)))):=if_pos ⟨hT,hpl⟩
    rw [this,e1]; rfl
  · rw [e2]
    simp only [List.map_map]
    refine List.map_congr_left fun r _=>?_
    simp only [Function.comp,only_only]
theorem law_mute {l:List AR} (L:LawAR l) (hf:aFits (l.map AR.only)=true) (hq:(l.map fun r=>r.bulk+1).sum≤2097152):con_AMute [arV (l.map AR.only)]=some (.bool ((l.map AR.only).all aMute1)):=by
  have hsz:=(law_sz L hf).1
  have hff:=hf
  simp only [aFits,Bool.and_eq_true,List.all_eq_true] at hff
  have e:(l.map AR.only).all aMute1=(l.map AR.only).all aMuteI:=by
    congr 1; funext r; exact (aMuteI_eq r).symm
  rw [e]
  simp only [con_AMute,slAR_arV]
  refine if_pos ⟨hsz.1,fun r hr=>fit_small (hff.1 r hr) (hsz.2 r hr) ?_⟩
  obtain ⟨q,hq2,rfl⟩:=List.mem_map.1 hr
  have h1:=only_bulk q
  have h2:=mem_sum (f:=fun r:AR=>r.bulk+1) hq2
  omega
end Wax


namespace Wax
open Go (IntKind)

theorem kvU_plain {w:L8} (hw:w.length < mid) (hp:plain w=true):kvU w=kvOf w:=by
  simp only [kvU,kvOf]
  cases hc:cutAt 61 w with
  | none=>rfl
  | some p =>
    obtain ⟨x,hx1,hx2,hx3⟩:=cutAt_eq hc
    have p1:=plain_sub (t:=p.1) (fun y hy=>by rw [hx2]; simp [hy]) hp
    have p2:=plain_sub (t:=p.2) (fun y hy=>by rw [hx2]; simp [hy]) hp
    have l1:p.1.length < w.length∧p.2.length < w.length:=by rw [hx2]; simp; omega
    have t1:=trimS_length p.1
    rw [Option.map_some,Option.map_some,trimU_plain (by omega) p1,trimU_plain (by omega) p2,lowU_ascii (by omega) (plain_ascii (trimS_plain p1))]
theorem prmsU_plain:∀ (ws:List L8) (acc:List KVp),(∀ w∈ws,w.length < mid∧plain w=true)→prmsU ws acc=prmsOf ws acc
  | [],_,_=>rfl
  | w::ws,acc,h=>by
    have hw:=h w (by simp)
    simp only [prmsU,prmsOf,kvU_plain hw.1 hw.2]
    cases kvOf w with
    | none=>exact prmsU_plain ws acc fun u hu=>h u (by simp [hu])
    | some p=>exact prmsU_plain ws _ fun u hu=>h u (by simp [hu])
theorem resU_plain {s:L8} (hs:s.length < mid) (hp:plain s=true):resU s=resAOf s:=by
  obtain ⟨_,hwm⟩:=wordsOf_bnd s
  simp only [resU,resAOf,wordsU_plain hs hp]
  cases hw:wordsOf s with
  | nil=>rfl
  | cons w r =>
    rw [hw] at hwm
    have hq:∀ u∈w::r,u.length < mid∧plain u=true:=fun u hu=>⟨by have:=(hwm u hu).2.1; omega,plain_sub (hwm u hu).2.2 hp⟩
    obtain ⟨h1,h2⟩:=hq w (by simp)
    simp only [kvU_plain h1 h2]
    split
    · rfl
    · cases hk:kvOf w with
      | none=>rfl
      | some p =>
        have hb:=kvOf_bnd hk
        have p2:plain p.2=true:=by
          simp only [kvOf,Option.map_eq_some_iff] at hk
          obtain ⟨q,hq1,rfl⟩:=hk
          obtain ⟨c,hc1,hc2,hc3⟩:=cutAt_eq hq1
          exact trimS_plain (plain_sub (fun y hy=>by rw [hc2]; simp [hy]) h2)
        simp only [lowU_ascii (s:=p.2) (by omega) (plain_ascii p2),prmsU_plain r [] fun u hu=>hq u (by simp [hu])]
        rfl
theorem adGoU_plain:∀ (L:List L8) (acc:List PR),(∀ p∈L,p.length < mid∧plain p=true)→adGoU L acc=adGo L acc
  | [],_,_=>rfl
  | p::r,acc,h=>by
    obtain ⟨h1,h2⟩:=h p (by simp)
    have ih:=fun a=>adGoU_plain r a fun u hu=>h u (by simp [hu])
    have tp:=trimS_length p
    simp only [adGoU,adGo,trimU_plain h1 h2,resU_plain (s:=trimS p) (by omega) (trimS_plain h2),ih]
    rfl
theorem adIdU_plain {p:L8} (h1:p.length < mid) (h2:plain p=true):adIdU p=adId p:=by
  have tp:=trimS_length p
  have pp:=trimS_plain h2
  have hd:∀ n,trimU ((trimS p).drop n)=trimS ((trimS p).drop n):=fun n=>trimU_plain (by simp; omega) (plain_sub (fun y hy=>List.mem_of_mem_drop hy) pp)
  simp only [adIdU,adId,trimU_plain h1 h2,ixU_plain (s:=trimS p) (by omega) pp,hd]
  rfl
theorem adTextU_plain {s:L8} (hs:s.length < qtr) (hp:plain s=true):adTextU s=adText s:=by
  have hml:=splitB_mem_length 59 s
  have hmp:=fun p=>splitB_plain 59 s p hp
  simp only [qtr] at hs
  simp only [adTextU,adText]
  generalize splitB 59 s=L at *
  cases L with
  | nil=>rfl
  | cons p r =>
    have hq:∀ u∈p::r,u.length < mid∧plain u=true:=fun u hu=>⟨by have:=hml u hu; simp only [mid]; omega,hmp u hu⟩
    obtain ⟨h1,h2⟩:=hq p (by simp)
    simp only [adIdU_plain h1 h2,adGoU_plain r [] fun u hu=>hq u (by simp [hu])]
    rfl
theorem con_AP_le:∀ a r,con_AParse a=some r→con_APU a=some r:=by
  intro a r h
  simp only [con_AParse] at h
  split at h <;> (try simp at h; done)
  obtain ⟨⟨h1,h2⟩,rfl⟩:=ite_some h
  simp only [con_APU,if_pos h1,adTextU_plain h1 h2]
theorem con_low_le:∀ a r,con_zzToLower a=some r→con_lowU a=some r:=by
  intro a r h
  simp only [con_zzToLower] at h
  split at h <;> (try simp at h; done)
  obtain ⟨⟨h1,h2⟩,rfl⟩:=ite_some h
  simp only [con_lowU,if_pos h1,lowU_ascii h1 h2]

theorem lookP_len:∀ (l:List KVp) (k:L8),(lookP l k).length≤kvSum l
  | [],k=>by simp [lookP]
  | p::r,k=>by
    have:=lookP_len r k
    obtain ⟨i,v⟩:=p
    simp only [lookP,kvSum,List.map_cons,List.sum_cons,kvSz] at this ⊢
    split <;> omega
theorem psetL_nd:∀ (l:List KVp) (k v:L8),(l.map (·.1)).Nodup→((psetL l k v).map (·.1)).Nodup
  | [],k,v,_=>by simp [psetL]
  | (i,u)::r,k,v,h=>by
    simp only [List.map_cons,List.nodup_cons] at h
    simp only [psetL]
    split
    · rename_i e; subst e; simpa using h
    · rename_i e
      simp only [List.map_cons,List.nodup_cons]
      refine ⟨fun hm=>?_,psetL_nd r k v h.2⟩
      obtain ⟨q,hq,hq2⟩:=List.mem_map.1 hm
      rcases (psetL_bnd r k v).2 q hq with rfl | hr
      · exact e (by simpa using hq2)
      · exact h.1 (List.mem_map.2 ⟨q,hr,hq2⟩)
theorem prmsU_nd:∀ (ws:List L8) (acc:List KVp),(acc.map (·.1)).Nodup→((prmsU ws acc).map (·.1)).Nodup
  | [],_,h=>h
  | w::ws,acc,h=>by
    simp only [prmsU]
    split
    · exact prmsU_nd ws _ (psetL_nd acc _ _ h)
    · exact prmsU_nd ws _ h
theorem lookP_nd:∀ {l:List KVp},(l.map (·.1)).Nodup→∀ p∈l,lookP l p.1=p.2
  | (i,v)::r,h,p,hp=>by
    simp only [List.map_cons,List.nodup_cons] at h
    simp only [lookP]
    rcases List.mem_cons.1 hp with rfl | hp
    · simp
    · have:i ≠ p.1:=fun e=>h.1 (List.mem_map.2 ⟨p,hp,e.symm⟩)
      rw [if_neg (Ne.symm this)]
      exact lookP_nd h.2 p hp
theorem sortP_sum {l:List KVp} (h:(l.map (·.1)).Nodup):kvSum (sortP l)=kvSum l:=by
  have hp:(sortB (l.map (·.1))).Perm (l.map (·.1)):=List.mergeSort_perm _ _
  have h1:kvSum (sortP l)=((sortB (l.map (·.1))).map fun k=>k.length+(lookP l k).length+1).sum:=by
    simp only [kvSum,sortP,List.map_map]; rfl
  have h2:((l.map (·.1)).map fun k=>k.length+(lookP l k).length+1).sum=kvSum l:=by
    simp only [kvSum,List.map_map]
    refine congrArg List.sum (List.map_congr_left fun p hp=>?_)
    simp only [Function.comp,lookP_nd h p hp,kvSz]
  rw [h1,(hp.map _).sum_nat,h2]
theorem sidOf_len (l:List KVp):(sidOf l).1.length≤kvSum l∧(sidOf l).2.length≤kvSum l:=by
  unfold sidOf
  split
  · rename_i k hk
    have hm:=List.mem_of_find?_eq_some hk
    have hp:(sortB (l.map (·.1))).Perm (l.map (·.1)):=List.mergeSort_perm _ _
    obtain ⟨p,hp1,rfl⟩:=List.mem_map.1 (hp.mem_iff.1 hm)
    have:=kvSum_mem hp1
    exact ⟨by simp; omega,lookP_len _ _⟩
  · simp
theorem prOf_bulk {m v:L8} {F:List KVp} {x:PR} (hF:(F.map (·.1)).Nodup) (h:prOf m v F=.inr x):x.ar.bulk≤m.length+v.length+6 * kvSum F:=by
  have l1:=lookP_len F
  obtain ⟨s1,s2⟩:=sidOf_len F
  have s3:=sortP_sum hF
  simp only [kvSum] at s3
  simp only [prOf] at h
  repeat' split at h
  all_goals first | (simp at h; done) | simp only [Sum.inr.injEq] at h
  all_goals
    subst h
    simp only [PR.ar,AR.bulk,ar0,List.length_nil,Option.getD_none,List.map_nil,List.sum_nil,nilO_getD,s3]
    have a1:=l1 qRem
    have a2:=l1 qReason
    have a3:=l1 qAuth
    have a4:=l1 qD
    have a5:=l1 qI
    have a6:=l1 qFrom
    have a7:=l1 qSend
    have a8:=l1 qIprev
    have a9:=l1 qMail
    have a10:=l1 qHelo
    simp only [kvSum] at *
    omega
theorem resU_bulk {t:L8} {x:PR} (ht:t.length≤1000) (h:resU t=.inr (some x)):x.ar.bulk≤14000:=by
  have htm:t.length < mid:=by simp only [mid]; omega
  simp only [resU] at h
  have b1:=wordsU_bnd htm
  cases hw:wordsU t with
  | nil=>rw [hw] at h; simp at h
  | cons w r =>
    rw [hw] at h b1
    simp only at h
    split at h
    · simp at h
    · cases hk:kvU w with
      | none=>rw [hk] at h; simp at h
      | some p =>
        rw [hk] at h
        simp only at h
        have hwd:∀ u∈w::r,u.length < mid:=fun u hu=>by have:=wsum_mem hu; simp only [mid]; omega
        have c:=prmsU_sum r [] (fun u hu=>hwd u (by simp [hu]))
        have nd:=prmsU_nd r [] (by simp)
        have hb:=kvU_bnd (hwd w (by simp)) hk
        have hl:=lowU_len (s:=p.2) (by have:=hwd w (by simp); omega)
        simp only [List.map_cons,List.sum_cons] at b1
        have c0:kvSum []=0:=rfl
        generalize prmsU r []=F at *
        cases hp:prOf p.1 (lowU p.2) F with
        | inl e=>rw [hp] at h; simp at h
        | inr y =>
          rw [hp] at h
          simp only [Sum.inr.injEq,Option.some.injEq] at h
          subst h
          have:=prOf_bulk nd hp
          omega
theorem adGoU_bulk:∀ (L:List L8) (acc:List PR),(∀ p∈L,p.length≤1000)→(∀ x∈acc,x.ar.bulk≤14000)→∀ x∈(adGoU L acc).1,x.ar.bulk≤14000
  | [],_,_,h=>h
  | p::r,acc,hL,h=>by
    have hp:=hL p (by simp)
    have ih:=fun a ha=>adGoU_bulk r a (fun q hq=>hL q (by simp [hq])) ha
    have tp:=trimU_len (s:=p) (by simp only [mid]; omega)
    simp only [adGoU]
    split
    · exact ih acc h
    · cases hq:resU (trimU p) with
      | inl e=>exact h
      | inr o =>
        cases o with
        | none=>exact ih acc h
        | some x =>
          exact ih _ fun y hy=>by
            rcases List.mem_append.1 hy with hy | hy
            · exact h y hy
            · rw [List.mem_singleton.1 hy]; exact resU_bulk (by omega) hq
theorem adTextU_bnd {s:L8} (hs:s.length≤1000) {q:L8 × List PR} (h:adTextU s=some q):q.1.length≤1000∧q.2.length≤1000∧∀ x∈q.2,x.ar.bulk≤14000:=by
  have hl:=splitB_length 59 s
  have hml:=splitB_mem_length 59 s
  simp only [adTextU] at h
  generalize splitB 59 s=L at *
  cases L with
  | nil=>simp at h
  | cons p0 L =>
    simp only at h
    cases hi:adIdU p0 with
    | none=>rw [hi] at h; simp at h
    | some i =>
      rw [hi] at h
      simp only at h
      have hp0:=hml p0 (by simp)
      have tp:=trimU_len (s:=p0) (by simp only [mid]; omega)
      have hil:i.length≤1000:=by
        simp only [adIdU] at hi
        repeat' split at hi
        all_goals first | (simp at hi; done) | simp only [Option.some.injEq] at hi
        all_goals subst hi
        all_goals first | omega | (simp; omega)
      have b:=adGoU_bulk L [] (fun p hp=>by have:=hml p (by simp [hp]); omega) (by simp)
      obtain ⟨n,_⟩:=u_adGo_ok L [] (fun p hp=>by have:=hml p (by simp [hp]); simp only [qtr]; omega) (by simp)
      cases hg:adGoU L [] with
      | mk l e =>
        rw [hg] at h b n
        cases e with
        | some e=>simp at h
        | none =>
          simp only [Option.some.injEq] at h
          subst h
          simp at hl n
          exact ⟨hil,by simp only; omega,b⟩
theorem fit2_bulk {r:AR} (h:r.bulk≤2147483647):fit2 r=true:=by
  simp only [AR.bulk] at h
  have hk:kvSum (r.ps.getD [])≤2147483647:=Nat.le_trans (Nat.le_add_left _ _) h
  have h1:=kvSum_len (l:=r.ps.getD [])
  have h2:fits13 (r.ps.getD [])=true:=by
    simp only [fits13,Bool.and_eq_true,decide_eq_true_eq,List.all_eq_true]
    refine ⟨by omega,fun p hp=>?_⟩
    have:=kvSum_mem hp
    simp only [fits14,Bool.and_eq_true,decide_eq_true_eq]
    omega
  simp only [fit2,lenB,h2,Bool.and_eq_true,decide_eq_true_eq]
  repeat' apply And.intro
  all_goals first | omega | trivial
theorem sum_le_mul:∀ (l:List AR) (n:Nat),(∀ r∈l,r.bulk≤n)→(l.map fun r=>r.bulk+1).sum≤l.length * (n+1)
  | [],_,_=>by simp
  | r::l,n,h=>by
    have h1:=h r (by simp)
    have h2:=sum_le_mul l n fun q hq=>h q (by simp [hq])
    simp only [List.map_cons,List.sum_cons,List.length_cons,Nat.add_mul]
    omega
theorem only_ar (x:PR) (h:x.ar.kind≤7):x.ar.only=x.ar:=by
  cases x <;> first | rfl | (simp [PR.ar] at h)
theorem only_fits {l:List PR} (h:aFits (l.map PR.ar)=true):(l.map PR.ar).map AR.only=l.map PR.ar:=by
  simp only [aFits,Bool.and_eq_true,List.all_eq_true] at h
  rw [List.map_map]
  refine List.map_congr_left fun x hx=>?_
  have:=kind_cases (h.1 x.ar (List.mem_map.2 ⟨x,hx,rfl⟩))
  exact only_ar x (by omega)
end Wax


namespace Wax
open Go (IntKind)

def Gam.put (Γ:Gam) (q:Nat) (c:List AV→Option AV):Gam:=⟨fun f=>if f=q then c else Γ.fn f,Γ.mth,Γ.st⟩
theorem put_le {Γ:Gam} {q:Nat} {c c':List AV→Option AV} (h:Γ.fn q=c') (hc:∀ a r,c a=some r→c' a=some r):(Γ.put q c).le Γ:=by
  refine ⟨fun f a r e=>?_,fun _ _ _ h=>h,fun _ _ _ _ h=>h⟩
  simp only [Gam.put] at e
  split at e
  · rename_i hf; subst hf; rw [h]; exact hc _ _ e
  · exact e
theorem u_ok_fSender (Γ:Gam) (h172:Γ.fn 172=con_lowU):∀ args r,con_fSender args=some r→runs Γ c_authres_SenderIDResult_format args (fun v=>v=r) :=
  fun args r h =>
  runs_mono (gamS_le h172 con_low_le) (ok_fSender (gamS 172 con_zzToLower) gamS_fn args r h)
theorem u_ok_awake (Γ:Gam) (h144:Γ.fn 144=con_APU) (h133:Γ.fn 133=con_MParse):∀ args r,con_awake args=some r→runs Γ c_laws_awake args (fun v=>v=r) :=
  fun args r h =>
  runs_mono (put_le h144 con_AP_le) (au_ok_awake (Γ.put 144 con_AParse) (by simp [Gam.put]) (by simp [Gam.put,h133]) args r h)

def con_FnAuthStable:List AV→Option AV
  | [.str s]=>if s.length < 9223372036854775808 then some (.bool true) else none
  | _=>none
set_option maxRecDepth 100000 in
set_option maxHeartbeats 4000000 in
theorem ok_FnAuthStable (Γ:Gam) (h144:Γ.fn 144=con_APU) (h204:Γ.fn 204=con_APlain) (h215:Γ.fn 215=con_AFits) (h248:Γ.fn 248=con_AMute) (h233:Γ.fn 233=con_AFormat) (h217:Γ.fn 217=con_ASames) (h137:Γ.fn 137=con_awake) :
    ∀ args r,con_FnAuthStable args=some r→runs Γ c_laws_FnAuthStable args (fun v=>v=r):=by
  intro args r h
  simp only [con_FnAuthStable] at h
  split at h <;> (try simp at h; done)
  rename_i s
  obtain ⟨h1,rfl⟩:=ite_some h
  clear h
  have k6:con_awake []=some (.bool true):=rfl
  have alS:∀ (hp:List (Nat × AObj)) (s:L8),alen hp 0 (.str s)=some s.length:=fun _ _=>rfl
  by_cases b1:(2147483647:Int) < (s.length:Int)
  · simp -implicitDefEqProofs [-alen,c_laws_FnAuthStable,alS,b1]
  by_cases b2:(1000:Int) < (s.length:Int)
  · simp -implicitDefEqProofs [-alen,c_laws_FnAuthStable,alS,b1,b2]
  have hs:s.length≤1000:=by omega
  have k1:con_APU [.str s]=some (adV (adTextU s)):=if_pos (by simp only [qtr]; omega)
  cases hq:adTextU s with
  | none =>
    rw [hq] at k1
    simp only [adV] at k1
    simp -implicitDefEqProofs [-alen,c_laws_FnAuthStable,alS,b1,b2,acall,h144,k1,h137,k6]
  | some q =>
    obtain ⟨i,xs⟩:=q
    obtain ⟨n1,n2,n3⟩:=adTextU_bnd hs hq
    rw [hq] at k1
    simp only [adV] at k1 n1 n2 n3
    have hE:aFits (xs.map PR.ar)=true→(xs.map PR.ar).map AR.only=xs.map PR.ar:=only_fits
    have n2':(xs.map PR.ar).length≤1000:=by simpa using n2
    have n3':∀ r∈xs.map PR.ar,r.bulk≤14000:=fun r hr=>by
      obtain ⟨x,hx,rfl⟩:=List.mem_map.1 hr
      exact n3 x hx
    clear hq n2 n3
    generalize xs.map PR.ar=l at *
    have hfit:l.all fit2=true:=List.all_eq_true.2 fun r hr=>fit2_bulk (by have:=n3' r hr; omega)
    have kp:=plain_con (s:=i) (by simp only [mid]; omega)
    have kf:con_AFits [arV l]=some (.bool (aFits l)):=by
      simp only [con_AFits,slAR_arV]
      exact if_pos ⟨by simp only [half]; omega,hfit⟩
    have vr:=sar_ref (slAR_arV l)
    have vk:=sar_kill (slAR_arV l)
    have vs:=sar_snapW (slAR_arV l)
    cases b4:aPlain i with
    | false =>
      rw [b4] at kp
      generalize arV l=LV at *
      simp -implicitDefEqProofs [-alen,c_laws_FnAuthStable,alS,b1,b2,acall,h144,k1,vr,vk,vs,h204,kp,h137,k6]
    | true =>
      rw [b4] at kp
      cases b5:aFits l with
      | false =>
        rw [b5] at kf
        generalize arV l=LV at *
        simp -implicitDefEqProofs [-alen,c_laws_FnAuthStable,alS,b1,b2,acall,h144,k1,vr,vk,vs,h204,kp,h215,kf,h137,k6]
      | true =>
        rw [b5] at kf
        have hO:=hE b5
        have hl10:l.length≤10:=by simp only [aFits,Bool.and_eq_true,decide_eq_true_eq] at b5; exact b5.2
        have hsum:(l.map fun r=>r.bulk+1).sum≤140010:=Nat.le_trans (sum_le_mul l 14000 n3') (by have:=Nat.mul_le_mul_right 14001 hl10; omega)
        have L:LawAR l:=⟨by omega,by rw [hO]; exact hfit⟩
        have b5':aFits (l.map AR.only)=true:=by rw [hO]; exact b5
        have km:=law_mute L b5' (by omega)
        rw [hO] at km
        cases b6:l.all aMute1 with
        | false =>
          rw [b6] at km
          generalize arV l=LV at *
          simp -implicitDefEqProofs [-alen,c_laws_FnAuthStable,alS,b1,b2,acall,h144,k1,vr,vk,vs,h204,kp,h215,kf,h248,km,h137,k6]
        | true =>
          rw [b6] at km
          obtain ⟨T,R,kt,_,_,ka,eR⟩:=law_fmt b4 L b5' (by rw [hO]; exact b6) (by omega)
          obtain ⟨⟨z1,z2⟩,z3,z4⟩:=law_sz L b5'
          rw [hO] at kt eR z1 z2 z3 z4
          have ka:=con_AP_le _ _ ka
          rw [← eR] at z3 z4
          have ks:con_ASames [arV R,arV l]=some (.bool true):=by
            have e:arSames R l=true:=by rw [eR]; exact sames_norm norm_norm _
            simp only [con_ASames,slAR_arV,e]
            exact if_pos ⟨z3,z1,z4,z2⟩
          have wr:=sar_ref (slAR_arV R)
          have wk:=sar_kill (slAR_arV R)
          have ws:=sar_snapW (slAR_arV R)
          generalize arV R=RV at *
          generalize arV l=LV at *
          simp -implicitDefEqProofs [-alen,c_laws_FnAuthStable,alS,b1,b2,acall,h144,k1,vr,vk,vs,h204,kp,h215,kf,h248,km,h233,kt,ka,wr,wk,ws,h217,ks,h137,k6]
end Wax


