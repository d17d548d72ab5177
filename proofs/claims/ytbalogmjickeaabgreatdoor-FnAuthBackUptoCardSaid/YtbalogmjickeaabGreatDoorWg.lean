/- The machine by which the functions are read, and what is proved of them (part 7): no premise. -/
import Derived.Laws.OwnMore
import Derived.Sort.Grow
import Derived.Sort.EncStr
import Derived.WideShapes
import Derived.SliceStrings
import Derived.OpenShut
import Derived.Lib.LaidTab
import Derived.Deep.SlicePairs
import Derived.ChangeArms
import Derived.Lib.SmallJoins
import Derived.Maps.Own
import Derived.Sort.KeysCollected
import Derived.Test.YtbalogmjickeaabGreatDoorWf
set_option linter.all false
namespace Wax
open Go (IntKind)

def gB (c:UInt8):Prop:=32 < c.toNat ∧ c.toNat < 127 ∧ c ≠ 59
def allBl (s:L8):Prop:=∀ x ∈ s,blB x=true
theorem blB_ws {x:UInt8} (h:blB x=true):isWs x.toNat=true:=by
  simp only [blB,decide_eq_true_eq] at h
  simp only [isWs,decide_eq_true_eq]
  omega
theorem gB_ws {x:UInt8} (h:gB x):isWs x.toNat=false:=by
  obtain ⟨h1,h2,_⟩:=h
  simp only [isWs,decide_eq_false_iff_not]
  omega
theorem allBl_ws {s:L8} (h:allBl s):allWs s:=fun x hx=>blB_ws (h x hx)
theorem allBl_no {s:L8} (h:allBl s) {n:Int} (hn:32 < n):noB n s:=by
  intro x hx
  have:=h x hx
  simp only [blB,decide_eq_true_eq] at this
  omega
theorem allBl_nil:allBl []:=by intro x hx; simp at hx
theorem mSpace_bl (n:Nat):allBl (mSpace n):=by
  have h:n % 6 < 6:=Nat.mod_lt _ (by omega)
  simp only [mSpace]
  generalize n % 6=q at *
  match q,h with
  | 0,_=>simp [allBl,blB]
  | 1,_=>simp [allBl,blB]
  | 2,_=>simp [allBl,blB]
  | 3,_=>simp [allBl,blB]
  | 4,_=>simp [allBl,blB]
  | 5,_=>simp [allBl,blB]
theorem spAt_bl (fm:L8) (k:Nat):allBl (spAt fm k):=by
  unfold spAt
  split
  · exact allBl_nil
  · exact mSpace_bl _
theorem trimS_mid {a n b:L8} (ha:allBl a) (hn:∀ x ∈ n,gB x) (hne:n ≠ []) (hb:allBl b):trimS (a ++ n ++ b)=n:=by
  have e:trimS (a ++ n ++ b)=trimS (n ++ b):=by
    rw [List.append_assoc]
    simp only [trimS]
    rw [trimL_app (allBl_ws ha)]
  rw [e]
  exact trimS_word (fun x hx=>gB_ws (hn x hx)) hne (allBl_ws hb)
theorem trimS_bl {a:L8} (ha:allBl a):trimS a=[]:=by
  have e:=trimL_app (a:=a) (b:=[]) (allBl_ws ha)
  simp only [List.append_nil] at e
  simp only [trimS,e]
  rfl

structure Gt (t:KVp):Prop where
  n1:t.1 ≠ []
  n2:∀ x ∈ t.1,gB x ∧ x ≠ 61
  v1:t.2 ≠ []
  v2:∀ x ∈ t.2,gB x

def Pc (p:L8) (t:KVp):Prop:=∃ a b c d,allBl a ∧ allBl b ∧ allBl c ∧ allBl d ∧ p=a ++ t.1 ++ b ++ 61 :: (c ++ t.2 ++ d)

theorem prd2_pc {p:L8} {t:KVp} (h:Pc p t) (g:Gt t) {acc:List KVp} (hk:hasK t.1 acc=false) (r:List L8):prd2 (p :: r) acc=prd2 r (acc ++ [t]):=by
  obtain ⟨a,b,c,d,ha,hb,hc,hd,rfl⟩:=h
  have hno:noB (61:UInt8).toNat (a ++ t.1 ++ b):=by
    intro x hx
    simp only [List.mem_append] at hx
    rcases hx with (hx | hx) | hx
    · exact allBl_no ha (by decide) x hx
    · have:=(g.n2 x hx).2
      intro e
      exact this (UInt8.toNat_inj.1 (by exact_mod_cast e))
    · exact allBl_no hb (by decide) x hx
  have e:cutAt 61 (a ++ t.1 ++ b ++ 61 :: (c ++ t.2 ++ d))=some (a ++ t.1 ++ b,c ++ t.2 ++ d):=cutAt_noB hno
  simp only [prd2,e]
  rw [trimS_mid ha (fun x hx=>(g.n2 x hx).1) g.n1 hb,trimS_mid hc g.v2 g.v1 hd,psetL_new hk]
theorem prd2_bl {p:L8} (h:allBl p) (r:List L8) (acc:List KVp):prd2 (p :: r) acc=prd2 r acc:=by
  have e:cutAt 61 p=none:=by
    have:=cutAt_app 61 p [] (allBl_no h (by decide))
    simpa [cutAt] using this
  simp only [prd2,e,trimS_bl h,if_true]

def tailT (fm:L8) (k:Nat) (e:Bool):L8:=if e then spAt fm (k + 1) ++ [59] else []
def pcsL (fm:L8):Nat → L8 → List KVp → Bool → List L8
  | k,cur,[],e=>if e then [cur ++ spAt fm (k + 1),[]] else [cur]
  | k,cur,t :: r,e=>(cur ++ spAt fm (k + 1)) :: pcsL fm (k + 4) (spAt fm (k + 2) ++ t.1 ++ spAt fm (k + 3) ++ 61 :: (spAt fm (k + 4) ++ t.2)) r e
theorem noB_app {c:Int} {a b:L8} (ha:noB c a) (hb:noB c b):noB c (a ++ b):=by
  intro x hx
  rcases List.mem_append.1 hx with hx | hx
  · exact ha x hx
  · exact hb x hx
theorem gB_no {s:L8} (h:∀ x ∈ s,gB x):noB 59 s:=fun x hx e=>(h x hx).2.2 (UInt8.toNat_inj.1 (by exact_mod_cast e))
theorem cur_no {fm:L8} {k:Nat} {t:KVp} (g:Gt t):noB 59 (spAt fm (k + 2) ++ t.1 ++ spAt fm (k + 3) ++ 61 :: (spAt fm (k + 4) ++ t.2)):=by
  have h1:noB 59 (61 :: (spAt fm (k + 4) ++ t.2)):=by
    intro x hx
    rcases List.mem_cons.1 hx with rfl | hx
    · decide
    · exact noB_app (allBl_no (spAt_bl fm _) (by decide)) (gB_no g.v2) x hx
  exact noB_app (noB_app (noB_app (allBl_no (spAt_bl fm _) (by decide)) (gB_no fun x hx=>(g.n2 x hx).1)) (allBl_no (spAt_bl fm _) (by decide))) h1
theorem split_tags (fm:L8) (e:Bool):∀ (l:List KVp) (k:Nat) (cur:L8),noB 59 cur → (∀ t ∈ l,Gt t) → splitB 59 (cur ++ (tagsT fm k l ++ tailT fm (k + 4 * l.length) e))=pcsL fm k cur l e
  | [],k,cur,hc,_=>by
    cases e with
    | false =>
      simp only [tagsT,tailT,pcsL]
      simpa using splitB_only (b:=59) hc
    | true =>
      have h:=splitB_app (b:=59) (post:=[]) (noB_app hc (allBl_no (spAt_bl fm (k + 1)) (by decide)))
      simp only [tagsT,tailT,pcsL,List.nil_append,List.length_nil,Nat.mul_zero,Nat.add_zero,if_true]
      rw [← List.append_assoc]
      simpa [splitB] using h
  | t :: r,k,cur,hc,hg=>by
    have ih:=split_tags fm e r (k + 4) _ (cur_no (fm:=fm) (k:=k) (hg t (by simp))) (fun t' ht=>hg t' (by simp [ht]))
    have h:=splitB_app (b:=59) (post:=(spAt fm (k + 2) ++ t.1 ++ spAt fm (k + 3) ++ 61 :: (spAt fm (k + 4) ++ t.2)) ++ (tagsT fm (k + 4) r ++ tailT fm (k + 4 + 4 * r.length) e)) (noB_app hc (allBl_no (spAt_bl fm (k + 1)) (by decide)))
    simp only [pcsL]
    rw [← ih,← h]
    have e4:k + 4 * (t :: r).length=k + 4 + 4 * r.length:=by simp; omega
    rw [e4]
    congr 1
    simp [tagsT,oneT]
theorem prd2_pcsL (fm:L8) (e:Bool):∀ (l:List KVp) (k:Nat) (cur:L8) (t:KVp) (acc:List KVp),(∃ a b c,allBl a ∧ allBl b ∧ allBl c ∧ cur=a ++ t.1 ++ b ++ 61 :: (c ++ t.2)) → Gt t → (∀ t ∈ l,Gt t) → ((acc ++ t :: l).map (·.1)).Nodup → prd2 (pcsL fm k cur l e) acc=(acc ++ t :: l,true)
  | [],k,cur,t,acc,⟨a,b,c,ha,hb,hc,hcur⟩,g,_,nd=>by
    have hk:hasK t.1 acc=false:=by
      simp only [hasK,List.any_eq_false,decide_eq_true_eq]
      intro u hu e
      rw [List.map_append,List.nodup_append] at nd
      exact nd.2.2 u.1 (List.mem_map.2 ⟨u,hu,rfl⟩) t.1 (by simp) e.symm
    cases e with
    | false =>
      simp only [pcsL]
      rw [if_neg (by simp),prd2_pc ⟨a,b,c,[],ha,hb,hc,allBl_nil,by simpa using hcur⟩ g hk]
      rfl
    | true =>
      simp only [pcsL,if_true]
      rw [prd2_pc ⟨a,b,c,spAt fm (k + 1),ha,hb,hc,spAt_bl _ _,by rw [hcur]; simp⟩ g hk,prd2_bl allBl_nil]
      rfl
  | t2 :: r,k,cur,t,acc,⟨a,b,c,ha,hb,hc,hcur⟩,g,hg,nd=>by
    have hk:hasK t.1 acc=false:=by
      simp only [hasK,List.any_eq_false,decide_eq_true_eq]
      intro u hu e
      rw [List.map_append,List.nodup_append] at nd
      exact nd.2.2 u.1 (List.mem_map.2 ⟨u,hu,rfl⟩) t.1 (by simp) e.symm
    simp only [pcsL]
    rw [prd2_pc ⟨a,b,c,spAt fm (k + 1),ha,hb,hc,spAt_bl _ _,by rw [hcur]; simp⟩ g hk]
    rw [prd2_pcsL fm e r (k + 4) _ t2 (acc ++ [t]) ⟨spAt fm (k + 2),spAt fm (k + 3),spAt fm (k + 4),spAt_bl _ _,spAt_bl _ _,spAt_bl _ _,rfl⟩ (hg t2 (by simp)) (fun t' ht=>hg t' (by simp [ht])) (by simpa using nd)]
    simp
theorem gt_v:Gt (kV,sDM):=⟨by simp [kV],by simp only [kV,gB]; decide,by simp [sDM],by simp only [sDM,gB]; decide⟩
theorem mText_eq (fm:L8) (l:List KVp) (e:Bool):mText fm l e=(spAt [] 0 ++ kV ++ spAt fm 1 ++ 61 :: (spAt fm 2 ++ sDM)) ++ (tagsT fm 2 l ++ tailT fm (2 + 4 * l.length) e):=by
  simp [mText,headT,tailT,kV,spAt]
theorem prd2_text (fm:L8) (l:List KVp) (e:Bool) (hg:∀ t ∈ l,Gt t) (nd:(((kV,sDM) :: l).map (·.1)).Nodup):prd2 (splitB 59 (mText fm l e)) []=((kV,sDM) :: l,true):=by
  have hno:noB 59 (spAt [] 0 ++ kV ++ spAt fm 1 ++ 61 :: (spAt fm 2 ++ sDM)):=by
    have h1:noB 59 (61 :: (spAt fm 2 ++ sDM)):=by
      intro x hx
      rcases List.mem_cons.1 hx with rfl | hx
      · decide
      · exact noB_app (allBl_no (spAt_bl fm _) (by decide)) (gB_no gt_v.v2) x hx
    exact noB_app (noB_app (noB_app (allBl_no (spAt_bl [] _) (by decide)) (gB_no fun x hx=>(gt_v.n2 x hx).1)) (allBl_no (spAt_bl fm _) (by decide))) h1
  rw [mText_eq,split_tags fm e l 2 _ hno hg]
  exact prd2_pcsL fm e l 2 _ (kV,sDM) [] ⟨spAt [] 0,spAt fm 1,spAt fm 2,spAt_bl _ _,spAt_bl _ _,spAt_bl _ _,rfl⟩ gt_v hg (by simpa using nd)
end Wax


namespace Wax
open Go (IntKind)

theorem pu_num:∀ (l:L8) (acc:Nat),l.all digB=true → (acc + 1) * 10 ^ l.length ≤ 100000000000 → ∃ m:Nat,Go.Lib.parseUint10 acc l=.ok m ∧ numW (acc:Int) l=(m:Int) ∧ m + 1 ≤ 100000000000
  | [],acc,_,h=>⟨acc,rfl,rfl,by simpa using h⟩
  | c :: r,acc,hd,h=>by
    simp only [List.all_cons,Bool.and_eq_true] at hd
    have hc:=hd.1
    simp only [digB,decide_eq_true_eq] at hc
    have hp:1 ≤ 10 ^ r.length:=Nat.pos_of_ne_zero (by simp)
    have h2:(acc + 1) * 10 * 10 ^ r.length ≤ 100000000000:=by
      have:(acc + 1) * 10 ^ (c :: r).length=(acc + 1) * 10 * 10 ^ r.length:=by rw [List.length_cons,Nat.pow_succ]; simp [Nat.mul_assoc,Nat.mul_comm]
      omega
    have h3:(acc + 1) * 10 ≤ 100000000000:=Nat.le_trans (Nat.le_mul_of_pos_right _ hp) h2
    have h4:(acc * 10 + (c.toNat - 48) + 1) * 10 ^ r.length ≤ 100000000000:=Nat.le_trans (Nat.mul_le_mul_right _ (by omega)) h2
    obtain ⟨m,e1,e2,e3⟩:=pu_num r (acc * 10 + (c.toNat - 48)) hd.2 h4
    refine ⟨m,?_,?_,e3⟩
    · simp only [Go.Lib.parseUint10]
      rw [if_pos hc,if_neg (by omega),if_neg (by omega),e1]
    · rw [← e2]
      have w1:IntKind.i64.wrap (10 * (acc:Int))=10 * (acc:Int):=wrap64 (by omega) (by omega)
      have w2:IntKind.i64.wrap (10 * (acc:Int) + ((c.toNat:Int) - 48))=((acc * 10 + (c.toNat - 48):Nat):Int):=by
        rw [wrap64 (by omega) (by omega)]; omega
      simp only [numW,List.foldl_cons,w1,w2]
theorem num_atoi {v:L8} {n:Int} (h:(mNum v n).2=true) (hn:n ≤ 10):∃ m:Nat,Go.Lib.atoiAll v=.ok (m:Int) ∧ (mNum v n).1=(m:Int) ∧ m + 1 ≤ 100000000000:=by
  unfold mNum at h ⊢
  split at h
  · rename_i hd
    rw [if_pos hd]
    simp only [Bool.and_eq_true,decide_eq_true_eq] at h
    obtain ⟨h1,h2⟩:=h
    have hp:10 ^ v.length ≤ 10 ^ 10:=Nat.pow_le_pow_right (by omega) (by omega)
    obtain ⟨m,e1,e2,e3⟩:=pu_num v 0 hd (by omega)
    refine ⟨m,?_,by simpa using e2,e3⟩
    cases v with
    | nil=>exact absurd rfl h1
    | cons c r =>
      simp only [List.all_cons,Bool.and_eq_true] at hd
      have hc:=hd.1
      simp only [digB,decide_eq_true_eq] at hc
      have e0:Go.Lib.parseMag (c :: r)=.ok m:=by simp only [Go.Lib.parseMag]; rw [if_neg (by simp),e1]
      simp only [Go.Lib.atoiAll]
      rw [if_neg (by omega),e0]
      simp only
      rw [if_neg (by omega),if_neg (by omega),if_neg (by omega)]
  · simp at h

theorem tokB_g {c:UInt8} (h:tokB c=true):gB c:=by
  simp only [tokB,Bool.and_eq_true,decide_eq_true_eq,Bool.not_eq_true'] at h
  refine ⟨h.1.1,h.1.2,?_⟩
  rintro rfl
  simp [tokStop] at h
theorem kwB_g {c:UInt8} (h:kwB c=true):gB c ∧ c ≠ 61:=by
  simp only [kwB,decide_eq_true_eq] at h
  refine ⟨⟨by omega,by omega,?_⟩,?_⟩ <;> rintro rfl <;> simp at h
theorem digB_g {c:UInt8} (h:digB c=true):gB c:=by
  simp only [digB,decide_eq_true_eq] at h
  refine ⟨by omega,by omega,?_⟩; rintro rfl; simp at h
theorem split_g {b:UInt8} (hb:gB b):∀ {v:L8},(∀ p ∈ splitB b v,∀ x ∈ p,gB x) → ∀ x ∈ v,gB x
  | [],_,x,hx=>by simp at hx
  | c :: r,h,x,hx=>by
    simp only [splitB] at h
    split at h
    · rename_i e
      rcases List.mem_cons.1 hx with rfl | hx
      · rw [e]; exact hb
      · exact split_g hb (v:=r) (fun p hp=>h p (by simp [hp])) x hx
    · cases hs:splitB b r with
      | nil=>exact absurd hs (splitB_ne b r)
      | cons p t =>
        rw [hs] at h
        simp only at h
        rcases List.mem_cons.1 hx with rfl | hx
        · exact h (x :: p) (by simp) x (by simp)
        · refine split_g hb (v:=r) ?_ x hx
          intro q hq y hy
          rw [hs] at hq
          rcases List.mem_cons.1 hq with rfl | hq
          · exact h (c :: q) (by simp) y (by simp [hy])
          · exact h q (by simp [hq]) y hy
theorem mlist_g {b:UInt8} (hb:gB b) {right:L8 → Bool} (hr:∀ p,right p=true → ∀ x ∈ p,gB x) {v:L8} (h:(mlist b right v).isSome=true):(∀ x ∈ v,gB x) ∧ mlist b right v=some (splitB b v) ∧ (splitB b v).all right=true:=by
  unfold mlist at h ⊢
  split at h
  · rename_i ha
    rw [if_pos ha]
    refine ⟨split_g hb (fun p hp=>hr p (List.all_eq_true.1 ha p hp)),rfl,ha⟩
  · simp at h
theorem dom_g {s:L8} (h:mDom s=true):∀ x ∈ s,gB x:=by
  simp only [mDom,Bool.and_eq_true] at h
  refine split_g (b:=46) (by simp only [gB]; decide) (fun p hp x hx=>?_)
  have:=List.all_eq_true.1 h.1 p hp
  simp only [Bool.and_eq_true,mKw] at this
  exact (kwB_g (List.all_eq_true.1 this.1.1.1.1 x hx)).1
theorem cut_mem {c:UInt8} {s:L8} {p:L8 × L8} (h:cutAt c.toNat s=some p):s=p.1 ++ c :: p.2:=by
  obtain ⟨x,hx,e,_⟩:=cutAt_eq (a:=p.1) (b:=p.2) h
  have:x=c:=UInt8.toNat_inj.1 (by exact_mod_cast hx)
  rw [e,this]
theorem addr_g {s:L8} (h:addrB s=true):∀ x ∈ s,gB x:=by
  unfold addrB at h
  split at h
  · rename_i p hp
    simp only [Bool.and_eq_true,mTok] at h
    rw [cut_mem (c:=64) hp]
    intro x hx
    simp only [List.mem_append,List.mem_cons] at hx
    rcases hx with hx | rfl | hx
    · exact tokB_g (List.all_eq_true.1 h.1.1 x hx)
    · simp only [gB]; decide
    · exact dom_g h.2 x hx
  · simp at h
theorem mNum_g {v:L8} {n:Int} (h:(mNum v n).2=true):∀ x ∈ v,gB x:=by
  unfold mNum at h
  split at h
  · rename_i hd
    exact fun x hx=>digB_g (List.all_eq_true.1 hd x hx)
  · simp at h
theorem size_g {s:L8} (h:∀ x ∈ sizeOff s,gB x):∀ x ∈ s,gB x:=by
  unfold sizeOff at h
  split at h
  · rename_i c hc
    split at h
    · rename_i hk
      have e:s=s.dropLast ++ [c]:=by
        rw [List.getLast?_eq_some_iff] at hc
        obtain ⟨ys,rfl⟩:=hc
        simp
      rw [e]
      intro x hx
      simp only [List.mem_append,List.mem_singleton] at hx
      rcases hx with hx | rfl
      · exact h x hx
      · simp only [sKmgt,List.contains_eq_mem,decide_eq_true_eq,List.mem_cons,List.not_mem_nil,or_false] at hk
        rcases hk with rfl | rfl | rfl | rfl <;> (simp only [gB]; decide)
    · exact h
  · exact h
theorem muri_g {s:L8} (h:muri s=true):∀ x ∈ s,gB x:=by
  simp only [muri,Bool.and_eq_true,decide_eq_true_eq] at h
  obtain ⟨⟨h1,h2⟩,h3⟩:=h
  have hd:∀ x ∈ s.drop 7,gB x:=by
    split at h3
    · rename_i p hp
      simp only [Bool.and_eq_true] at h3
      rw [cut_mem (c:=33) hp]
      intro x hx
      simp only [List.mem_append,List.mem_cons] at hx
      rcases hx with hx | rfl | hx
      · exact addr_g h3.2 x hx
      · simp only [gB]; decide
      · exact size_g (mNum_g h3.1) x hx
    · exact addr_g h3
  rw [← List.take_append_drop 7 s,h2]
  intro x hx
  rcases List.mem_append.1 hx with hx | hx
  · clear h3 hd h1 h2
    have hm:∀ y ∈ sMailto,gB y:=by simp only [sMailto,gB]; decide
    exact hm x hx
  · exact hd x hx
theorem foOk_c {s:L8} (h:foOk s=true):∃ c,s=[c] ∧ (c=48 ∨ c=49 ∨ c=100 ∨ c=115):=by
  unfold foOk at h
  split at h
  · rename_i c
    simp only [s01ds,List.contains_eq_mem,decide_eq_true_eq,List.mem_cons,List.not_mem_nil,or_false] at h
    exact ⟨c,rfl,h⟩
  · simp at h
theorem foOk_g {s:L8} (h:foOk s=true):∀ x ∈ s,gB x:=by
  obtain ⟨c,rfl,rfl | rfl | rfl | rfl⟩:=foOk_c h <;> (simp only [gB]; decide)
structure Rd (l:List KVp):Prop where
  ok:∀ t ∈ l,mOk t=true ∧ Gt t
  nd:(((kV,sDM) :: l).map (·.1)).Nodup
  p:∃ v,findP l kP=some v

def recOf (f:L8 → Option L8):DR :=
  { dk:=(f kAdkim).getD sR,sp:=(f kAspf).getD sR,fo:=(match f kFo with | none=>0 | some v=>foOf (splitB 58 v)),p:=(f kP).getD [],pct:=(f kPct).map fun v=>(mNum v 3).1,
    rf:=(f kRf).map (splitB 58),ri:=(match f kRi with | none=>0 | some v=>(mNum v 10).1),rua:=(f kRua).map (splitB 44),ruf:=(f kRuf).map (splitB 44),sub:=(f kSp).getD [] }

theorem fo2_of:∀ (L:List L8) (n:Int),L.all foOk=true → fo2 n L=some (L.foldl (fun n x=>orI n (foBit x)) n)
  | [],n,_=>rfl
  | x :: r,n,h=>by
    simp only [List.all_cons,Bool.and_eq_true] at h
    have ih:=fun m=>fo2_of r m h.2
    obtain ⟨c,rfl,hc⟩:=foOk_c h.1
    have ht:trimS [c]=[c]:=by rcases hc with rfl | rfl | rfl | rfl <;> decide
    have hb:fobit2 [c]=some (foBit [c]):=by
      simp only [fobit2,ht]
      rcases hc with rfl | rfl | rfl | rfl <;> decide
    simp only [fo2,hb,ih,List.foldl_cons]
theorem uris_of {v:L8} (h:(splitB 44 v).all muri=true):uris v=splitB 44 v:=by
  simp only [uris]
  have:∀ (L:List L8),L.all muri=true → L.map trimS=L:=by
    intro L
    induction L with
    | nil=>intro _; rfl
    | cons x r ih =>
      intro h
      simp only [List.all_cons,Bool.and_eq_true] at h
      have hne:x ≠ []:=by rintro rfl; simp [muri] at h
      have:=trimS_word (n:=x) (b:=[]) (fun y hy=>gB_ws (muri_g h.1 y hy)) hne (fun y hy=>by simp at hy)
      simp only [List.append_nil] at this
      simp [this,ih h.2]
  exact this _ h

section
variable {acc:List KVp} (ha:∀ k v,findP acc k=some v → k ≠ kV → mOk (k,v)=true)
include ha
theorem mdSp_of (r:DR) (hr:r.sub=[]):mdSp acc r=.inr { r with sub:=(findP acc kSp).getD [] }:=by
  unfold mdSp
  split
  · rename_i h; rw [h]; simp [← hr]
  · rename_i v h
    have:=ha _ _ h (by decide)
    rw [h]
    have hp:polB v=true:=by simpa [mOk,kSp,kAdkim,kAspf,kP] using this
    rw [if_pos hp]; rfl
theorem mdRuf_of (r:DR) (hr:r.sub=[] ∧ r.ruf=none):mdRuf acc r=.inr { r with sub:=(findP acc kSp).getD [],ruf:=(findP acc kRuf).map (splitB 44) }:=by
  unfold mdRuf
  cases h:findP acc kRuf with
  | none=>simp only; rw [mdSp_of ha _ hr.1]; simp [← hr.2]
  | some v =>
    have:=ha _ _ h (by decide)
    have hp:(mlist 44 muri v).isSome=true:=by simpa [mOk,kSp,kAdkim,kAspf,kP,kFo,kPct,kRf,kRi,kRua,kRuf] using this
    have hu:=(mlist_g (by simp only [gB]; decide) (fun p=>muri_g) hp).2.2
    simp only
    rw [uris_of hu,mdSp_of ha]; rfl
    exact hr.1
theorem mdRua_of (r:DR) (hr:r.sub=[] ∧ r.ruf=none ∧ r.rua=none):mdRua acc r=.inr { r with sub:=(findP acc kSp).getD [],ruf:=(findP acc kRuf).map (splitB 44),rua:=(findP acc kRua).map (splitB 44) }:=by
  unfold mdRua
  cases h:findP acc kRua with
  | none=>simp only; rw [mdRuf_of ha _ ⟨hr.1,hr.2.1⟩]; simp [← hr.2.2]
  | some v =>
    have:=ha _ _ h (by decide)
    have hp:(mlist 44 muri v).isSome=true:=by simpa [mOk,kSp,kAdkim,kAspf,kP,kFo,kPct,kRf,kRi,kRua,kRuf] using this
    have hu:=(mlist_g (by simp only [gB]; decide) (fun p=>muri_g) hp).2.2
    simp only
    rw [uris_of hu,mdRuf_of ha]; rfl
    exact ⟨hr.1,hr.2.1⟩
theorem mdRi_of (r:DR) (hr:r.sub=[] ∧ r.ruf=none ∧ r.rua=none ∧ r.ri=0):mdRi acc r=.inr { r with sub:=(findP acc kSp).getD [],ruf:=(findP acc kRuf).map (splitB 44),rua:=(findP acc kRua).map (splitB 44),ri:=(match findP acc kRi with | none=>0 | some v=>(mNum v 10).1) }:=by
  unfold mdRi
  cases h:findP acc kRi with
  | none=>simp only; rw [mdRua_of ha _ ⟨hr.1,hr.2.1,hr.2.2.1⟩]; simp [← hr.2.2.2]
  | some v =>
    have:=ha _ _ h (by decide)
    have hp:((mNum v 10).2=true ∧ 0 < (mNum v 10).1) ∧ (mNum v 10).1 < 4294967296:=by simpa [mOk,kSp,kAdkim,kAspf,kP,kFo,kPct,kRf,kRi,kRua,kRuf] using this
    obtain ⟨m,e1,e2,e3⟩:=num_atoi hp.1.1 (by omega)
    simp only [e1,e2]
    rw [if_neg (by omega),mdRua_of ha]
    exact ⟨hr.1,hr.2.1,hr.2.2.1⟩
theorem mdRf_of (r:DR) (hr:r.sub=[] ∧ r.ruf=none ∧ r.rua=none ∧ r.ri=0 ∧ r.rf=none):mdRf acc r=.inr { r with sub:=(findP acc kSp).getD [],ruf:=(findP acc kRuf).map (splitB 44),rua:=(findP acc kRua).map (splitB 44),ri:=(match findP acc kRi with | none=>0 | some v=>(mNum v 10).1),rf:=(findP acc kRf).map (splitB 58) }:=by
  unfold mdRf
  cases h:findP acc kRf with
  | none=>simp only; rw [mdRi_of ha _ ⟨hr.1,hr.2.1,hr.2.2.1,hr.2.2.2.1⟩]; simp [← hr.2.2.2.2]
  | some v =>
    have:=ha _ _ h (by decide)
    have hp:(mlist 58 (fun s=>decide (s=sAfrf)) v).isSome=true:=by simpa [mOk,kSp,kAdkim,kAspf,kP,kFo,kPct,kRf,kRi,kRua,kRuf] using this
    have hu:(splitB 58 v).all (fun s=>decide (s=sAfrf))=true:=by
      unfold mlist at hp; split at hp
      · assumption
      · simp at hp
    simp only
    rw [if_pos hu,mdRi_of ha]; rfl
    exact ⟨hr.1,hr.2.1,hr.2.2.1,hr.2.2.2.1⟩
theorem mdPct_of (r:DR) (hr:r.sub=[] ∧ r.ruf=none ∧ r.rua=none ∧ r.ri=0 ∧ r.rf=none ∧ r.pct=none):mdPct acc r=.inr { r with sub:=(findP acc kSp).getD [],ruf:=(findP acc kRuf).map (splitB 44),rua:=(findP acc kRua).map (splitB 44),ri:=(match findP acc kRi with | none=>0 | some v=>(mNum v 10).1),rf:=(findP acc kRf).map (splitB 58),pct:=(findP acc kPct).map fun v=>(mNum v 3).1 }:=by
  unfold mdPct
  cases h:findP acc kPct with
  | none=>simp only; rw [mdRf_of ha _ ⟨hr.1,hr.2.1,hr.2.2.1,hr.2.2.2.1,hr.2.2.2.2.1⟩]; simp [← hr.2.2.2.2.2]
  | some v =>
    have:=ha _ _ h (by decide)
    have hp:(mNum v 3).2=true ∧ (mNum v 3).1 ≤ 100:=by simpa [mOk,kSp,kAdkim,kAspf,kP,kFo,kPct,kRf,kRi,kRua,kRuf] using this
    obtain ⟨m,e1,e2,e3⟩:=num_atoi hp.1 (by omega)
    simp only [e1,Option.map_some,e2]
    rw [if_neg (by omega),mdRf_of ha]
    exact ⟨hr.1,hr.2.1,hr.2.2.1,hr.2.2.2.1,hr.2.2.2.2.1⟩
theorem mdFo_of (r:DR) (hr:r.sub=[] ∧ r.ruf=none ∧ r.rua=none ∧ r.ri=0 ∧ r.rf=none ∧ r.pct=none ∧ r.fo=0):mdFo acc r=.inr { r with sub:=(findP acc kSp).getD [],ruf:=(findP acc kRuf).map (splitB 44),rua:=(findP acc kRua).map (splitB 44),ri:=(match findP acc kRi with | none=>0 | some v=>(mNum v 10).1),rf:=(findP acc kRf).map (splitB 58),pct:=(findP acc kPct).map (fun v=>(mNum v 3).1),fo:=(match findP acc kFo with | none=>0 | some v=>foOf (splitB 58 v)) }:=by
  have hr6:r.sub=[] ∧ r.ruf=none ∧ r.rua=none ∧ r.ri=0 ∧ r.rf=none ∧ r.pct=none:=⟨hr.1,hr.2.1,hr.2.2.1,hr.2.2.2.1,hr.2.2.2.2.1,hr.2.2.2.2.2.1⟩
  unfold mdFo
  cases h:findP acc kFo with
  | none=>simp only; rw [mdPct_of ha _ hr6]; simp [← hr.2.2.2.2.2.2]
  | some v =>
    have:=ha _ _ h (by decide)
    have hp:(mlist 58 foOk v).isSome=true:=by simpa [mOk,kSp,kAdkim,kAspf,kP,kFo,kPct,kRf,kRi,kRua,kRuf] using this
    have hu:=(mlist_g (by simp only [gB]; decide) (fun p=>foOk_g) hp).2.2
    simp only [fo2_of _ 0 hu]
    rw [mdPct_of ha]; rfl
    exact hr6
theorem mdAspf_of (r:DR) (hr:r.sub=[] ∧ r.ruf=none ∧ r.rua=none ∧ r.ri=0 ∧ r.rf=none ∧ r.pct=none ∧ r.fo=0):mdAspf acc r=.inr { r with sub:=(findP acc kSp).getD [],ruf:=(findP acc kRuf).map (splitB 44),rua:=(findP acc kRua).map (splitB 44),ri:=(match findP acc kRi with | none=>0 | some v=>(mNum v 10).1),rf:=(findP acc kRf).map (splitB 58),pct:=(findP acc kPct).map (fun v=>(mNum v 3).1),fo:=(match findP acc kFo with | none=>0 | some v=>foOf (splitB 58 v)),sp:=(findP acc kAspf).getD sR }:=by
  unfold mdAspf
  cases h:findP acc kAspf with
  | none=>simp only; rw [mdFo_of ha]; rfl; exact hr
  | some v =>
    have:=ha _ _ h (by decide)
    have hp:alignB v=true:=by simpa [mOk,kSp,kAdkim,kAspf] using this
    simp only
    rw [if_pos hp,mdFo_of ha]; rfl; exact hr
theorem mdAdkim_of (r:DR) (hr:r.sub=[] ∧ r.ruf=none ∧ r.rua=none ∧ r.ri=0 ∧ r.rf=none ∧ r.pct=none ∧ r.fo=0):mdAdkim acc r=.inr { r with sub:=(findP acc kSp).getD [],ruf:=(findP acc kRuf).map (splitB 44),rua:=(findP acc kRua).map (splitB 44),ri:=(match findP acc kRi with | none=>0 | some v=>(mNum v 10).1),rf:=(findP acc kRf).map (splitB 58),pct:=(findP acc kPct).map (fun v=>(mNum v 3).1),fo:=(match findP acc kFo with | none=>0 | some v=>foOf (splitB 58 v)),sp:=(findP acc kAspf).getD sR,dk:=(findP acc kAdkim).getD sR }:=by
  unfold mdAdkim
  cases h:findP acc kAdkim with
  | none=>simp only; rw [mdAspf_of ha]; rfl; exact hr
  | some v =>
    have:=ha _ _ h (by decide)
    have hp:alignB v=true:=by simpa [mOk,kSp,kAdkim] using this
    simp only
    rw [if_pos hp,mdAspf_of ha]; rfl; exact hr
end
theorem mdAll_of {acc:List KVp} (ha:∀ k v,findP acc k=some v → k ≠ kV → mOk (k,v)=true) (hv:findP acc kV=some sDM) {v:L8} (hp:findP acc kP=some v):mdAll acc=.inr (recOf (findP acc)):=by
  unfold mdAll
  have e:(some sDM:Option L8).getD []=sDM:=rfl
  rw [hv,if_pos e,hp]
  have:=ha _ _ hp (by decide)
  have hpv:polB v=true:=by simpa [mOk,kAdkim,kAspf,kP] using this
  simp only
  rw [if_pos hpv,mdAdkim_of ha]
  · simp only [recOf,hp,dr0,Option.getD_some]
    congr 1
  · simp [dr0]
end Wax


namespace Wax
open Go (IntKind)

def MR.short (r:MR):Prop:=(r.rf.getD []).length < mid ∧ (r.rua.getD []).length < mid ∧ (r.ruf.getD []).length < mid
instance (r:MR):Decidable r.short:=by unfold MR.short; infer_instance

end Wax


namespace Wax
open Go (IntKind)

theorem findP_cons_ne {k i v:L8} {l:List KVp} (h:k ≠ i):findP ((i,v) :: l) k=findP l k:=by
  simp only [findP]; rw [if_neg (fun e=>h e.symm)]
theorem findP_of_mem:∀ {l:List KVp} {k v:L8},(l.map (·.1)).Nodup → (k,v) ∈ l → findP l k=some v
  | [],_,_,_,h=>by simp at h
  | (i,u) :: r,k,v,nd,h=>by
    simp only [List.map_cons,List.nodup_cons] at nd
    rcases List.mem_cons.1 h with h2 | h2
    · injection h2 with h3 h4; subst h3; subst h4; simp [findP]
    · have hne:k ≠ i:=fun e=>nd.1 (List.mem_map.2 ⟨(k,v),h2,e⟩)
      rw [findP_cons_ne hne]
      exact findP_of_mem nd.2 h2
theorem recOf_congr {f g:L8 → Option L8} (h:∀ k ∈ mKnown,f k=g k):recOf f=recOf g:=by
  have:=fun k hk=>h k hk
  simp only [recOf,h kAdkim (by decide),h kAspf (by decide),h kFo (by decide),h kP (by decide),h kPct (by decide),h kRf (by decide),h kRi (by decide),h kRua (by decide),h kRuf (by decide),h kSp (by decide)]
theorem known_ne {k:L8} (h:k ∈ mKnown):k ≠ kV:=by
  simp only [mKnown,List.mem_cons,List.not_mem_nil,or_false] at h
  rcases h with rfl | rfl | rfl | rfl | rfl | rfl | rfl | rfl | rfl | rfl <;> decide
theorem Rd.text {l:List KVp} (h:Rd l) (fm:L8) (e:Bool):mdText (mText fm l e)=.inr (recOf (findP l)):=by
  have hp:=prd2_text fm l e (fun t ht=>(h.ok t ht).2) h.nd
  simp only [mdText,hp,if_true]
  obtain ⟨v,hv⟩:=h.p
  rw [mdAll_of (acc:=(kV,sDM) :: l) (v:=v) _ (by simp [findP]) (by rw [findP_cons_ne (by decide)]; exact hv)]
  · rw [recOf_congr (g:=findP l)]
    intro k hk
    exact findP_cons_ne (known_ne hk)
  · intro k v hf hk
    rw [findP_cons_ne hk] at hf
    exact (h.ok _ (findP_in hf)).1

theorem gB_plain {x:UInt8} (h:gB x):plainB x=true:=plainB_true (by have:=h.1; have:=h.2.1; omega)
theorem allBl_plain {s:L8} (h:allBl s):plain s=true:=by
  simp only [plain,List.all_eq_true]
  intro x hx
  have:=h x hx
  simp only [blB,decide_eq_true_eq] at this
  exact plainB_true (by omega)
theorem gt_plain {t:KVp} (g:Gt t):plain t.1=true ∧ plain t.2=true:=by
  simp only [plain,List.all_eq_true]
  exact ⟨fun x hx=>gB_plain (g.n2 x hx).1,fun x hx=>gB_plain (g.v2 x hx)⟩
theorem plain_cons {x:UInt8} {s:L8}:plain (x :: s)=(plainB x && plain s):=rfl
theorem tagsT_plain (fm:L8):∀ (l:List KVp) (k:Nat),(∀ t ∈ l,Gt t) → plain (tagsT fm k l)=true
  | [],_,_=>rfl
  | t :: r,k,h=>by
    have g:=gt_plain (h t (by simp))
    have s:=fun j=>allBl_plain (spAt_bl fm j)
    have b1:plainB 59=true:=by decide
    have b2:plainB 61=true:=by decide
    simp only [tagsT,oneT,plain_app,plain_cons,g.1,g.2,s,b1,b2,tagsT_plain fm r (k + 4) (fun t ht=>h t (by simp [ht])),Bool.and_self]
theorem mText_plain {fm:L8} {l:List KVp} {e:Bool} (h:∀ t ∈ l,Gt t):plain (mText fm l e)=true:=by
  have s:=fun j=>allBl_plain (spAt_bl fm j)
  have b1:plainB 59=true:=by decide
  have b2:plainB 61=true:=by decide
  have b3:plainB 118=true:=by decide
  have b4:plain sDM=true:=by decide
  have b5:plain []=true:=rfl
  cases e <;> simp only [mText,headT,plain_app,plain_cons,b1,b2,b3,b4,b5,s,tagsT_plain fm l 2 h,Bool.and_self,if_true,if_false,Bool.false_eq_true]
theorem mText_len {fm:L8} {l:List KVp} {e:Bool} (h:l.length ≤ 20) (h2:∀ t ∈ l,t.1.length ≤ 20 ∧ t.2.length ≤ 200):(mText fm l e).length < mid:=by
  have a:=headT_len fm
  have b:=tagsT_len (fm:=fm) (k:=2) h2
  have c:=spAt_len fm (2 + 4 * l.length + 1)
  simp only [mText,List.length_append,mid]
  cases e <;> simp <;> omega

structure Sz (l:List KVp):Prop where
  n:l.length ≤ 20
  t:∀ t ∈ l,t.1.length ≤ 20 ∧ t.2.length ≤ 200
theorem Rd.parse {l:List KVp} (h:Rd l) (z:Sz l) (fm:L8) (e:Bool):con_MParse [.str (mText fm l e)]=some (.tup [.agg (recM (recOf (findP l))).cells,.bool true]):=by
  have b:(mText fm l e).length < mid ∧ plain (mText fm l e)=true:=⟨mText_len z.n z.t,mText_plain fun t ht=>(h.ok t ht).2⟩
  simp only [con_MParse]
  rw [if_pos b,h.text]; rfl

theorem has_one {f:L8 → Option L8} {k v:L8} (hf:f k=some v) (ho:mOk (k,v)=true):mSameAt k (recM (recOf f)) (mPut mr0 (k,v))=true:=by
  unfold mOk at ho
  simp only at ho
  unfold mSameAt mPut
  simp only
  by_cases h1:k=kAdkim
  · rw [if_pos h1,if_pos h1]; subst h1; simp [recM,recOf,hf]
  rw [if_neg h1,if_neg h1]; rw [if_neg h1] at ho
  by_cases h2:k=kAspf
  · rw [if_pos h2,if_pos h2]; subst h2; simp [recM,recOf,hf]
  rw [if_neg h2,if_neg h2]; rw [if_neg h2] at ho
  by_cases h3:k=kP
  · rw [if_pos h3,if_pos h3]; subst h3; simp [recM,recOf,hf]
  rw [if_neg h3,if_neg h3]; rw [if_neg h3] at ho
  by_cases h4:k=kSp
  · rw [if_pos h4,if_pos h4]; subst h4; simp [recM,recOf,hf]
  rw [if_neg h4,if_neg h4]; rw [if_neg h4] at ho
  by_cases h5:k=kFo
  · rw [if_pos h5,if_pos h5]; rw [if_pos h5] at ho; subst h5
    have:=(mlist_g (by simp only [gB]; decide) (fun p=>foOk_g) ho).2.1
    have e:(mlist 58 foOk v)=some (splitB 58 v):=this
    simp [recM,recOf,hf,e]
  rw [if_neg h5,if_neg h5]; rw [if_neg h5] at ho
  by_cases h6:k=kPct
  · rw [if_pos h6,if_pos h6]; subst h6; simp [recM,recOf,hf]
  rw [if_neg h6,if_neg h6]; rw [if_neg h6] at ho
  by_cases h7:k=kRf
  · rw [if_pos h7,if_pos h7]; rw [if_pos h7] at ho; subst h7
    have e:mlist 58 (fun s=>decide (s=sAfrf)) v=some (splitB 58 v):=by
      unfold mlist at ho ⊢; split at ho
      · rename_i hh; rw [if_pos hh]
      · simp at ho
    simp [recM,recOf,hf,e,splitB_ne]
  rw [if_neg h7,if_neg h7]; rw [if_neg h7] at ho
  by_cases h8:k=kRi
  · rw [if_pos h8,if_pos h8]; subst h8; simp [recM,recOf,hf]
  rw [if_neg h8,if_neg h8]; rw [if_neg h8] at ho
  by_cases h9:k=kRua
  · rw [if_pos h9,if_pos h9]; rw [if_pos h9] at ho; subst h9
    have e:mlist 44 muri v=some (splitB 44 v):=(mlist_g (by simp only [gB]; decide) (fun p=>muri_g) ho).2.1
    simp [recM,recOf,hf,e]
  rw [if_neg h9,if_neg h9]; rw [if_neg h9] at ho
  by_cases h10:k=kRuf
  · rw [if_pos h10,if_pos h10]; rw [if_pos h10] at ho; subst h10
    have e:mlist 44 muri v=some (splitB 44 v):=(mlist_g (by simp only [gB]; decide) (fun p=>muri_g) ho).2.1
    simp [recM,recOf,hf,e]
  rw [if_neg h10]
theorem Rd.nd' {l:List KVp} (h:Rd l):(l.map (·.1)).Nodup:=by
  have:=h.nd
  simp only [List.map_cons,List.nodup_cons] at this
  exact this.2
theorem Rd.has {l:List KVp} (h:Rd l):mHas (recM (recOf (findP l))) l=true:=by
  simp only [mHas,List.all_eq_true]
  rintro ⟨k,v⟩ ht
  exact has_one (findP_of_mem h.nd' ht) (h.ok _ ht).1

end Wax


namespace Wax
open Go (IntKind)

theorem takeW {p:UInt8 → Bool}:∀ {l:L8} {x:UInt8},x ∈ l.takeWhile p → p x=true
  | y :: r,x,h=>by
    by_cases hy:p y=true
    · rw [List.takeWhile_cons_of_pos hy] at h
      rcases List.mem_cons.1 h with rfl | h
      · exact hy
      · exact takeW h
    · rw [List.takeWhile_cons_of_neg hy] at h; simp at h
theorem wordsGo_tail {R:L8} (hR:allWs R):∀ (m cur:L8),wordsGo cur (m ++ R)=wordsGo cur m
  | [],cur=>by
    by_cases hc:cur=[]
    · subst hc
      have:=wordsGo_ws (b:=R) [] hR
      simpa [wordsGo] using this
    · by_cases hb:R=[]
      · subst hb; rfl
      · have h1:=wordsGo_end (s:=[]) hc hb hR
        have h2:=wordsGo_ws (b:=R) [] hR
        simp only [List.append_nil] at h1 h2
        simp only [List.nil_append]
        rw [h1,h2]
        simp [wordsGo,hc]
  | x :: r,cur=>by
    simp only [List.cons_append,wordsGo]
    split
    · split
      · exact wordsGo_tail hR r []
      · rw [wordsGo_tail hR r []]
    · exact wordsGo_tail hR r _
theorem trimL_split (t:L8):∃ a,allWs a ∧ t=a ++ trimL t:=by
  refine ⟨t.takeWhile fun b=>isWs b.toNat,fun x hx=>?_,(List.takeWhile_append_dropWhile).symm⟩
  exact takeW hx
theorem trimR_split (t:L8):∃ b,allWs b ∧ t=trimR t ++ b:=by
  obtain ⟨a,ha,e⟩:=trimL_split t.reverse
  refine ⟨a.reverse,fun x hx=>ha x (List.mem_reverse.1 hx),?_⟩
  have:=congrArg List.reverse e
  simp only [List.reverse_reverse,List.reverse_append,trimL] at this
  exact this
theorem wordsOf_trim (t:L8):wordsOf (trimS t)=wordsOf t:=by
  obtain ⟨a,ha,e1⟩:=trimL_split t
  obtain ⟨b,hb,e2⟩:=trimR_split (trimL t)
  have e3:wordsOf t=wordsOf (trimL t):=by
    conv=>lhs; rw [e1]
    exact wordsGo_ws _ ha
  have e4:wordsOf (trimL t)=wordsOf (trimR (trimL t)):=by
    conv=>lhs; rw [e2]
    exact wordsGo_tail hb _ _
  rw [e3,e4]; rfl

def flatW (l:List (L8 × L8)):L8:=l.flatMap fun p=>p.1 ++ p.2
def SepOk (l:List (L8 × L8)):Prop:=∀ p ∈ l,(p.1 ≠ [] ∧ allWs p.1) ∧ p.2 ≠ [] ∧ nonWs p.2
theorem wordsGo_flat {b:L8} (hb:allWs b):∀ (l:List (L8 × L8)) (cur:L8),cur ≠ [] → SepOk l → wordsGo cur (flatW l ++ b)=cur :: l.map (·.2)
  | [],cur,hc,_=>by
    have:=wordsGo_tail hb [] cur
    simp only [flatW,List.flatMap_nil,List.nil_append] at this ⊢
    rw [this]; simp [wordsGo,hc]
  | (sp,w) :: r,cur,hc,h=>by
    obtain ⟨⟨h1,h2⟩,h3,h4⟩:=h (sp,w) (by simp)
    have ih:=wordsGo_flat hb r w h3 (fun p hp=>h p (by simp [hp]))
    have e:flatW ((sp,w) :: r) ++ b=sp ++ (w ++ (flatW r ++ b)):=by simp [flatW]
    rw [e,wordsGo_end hc h1 h2,wordsGo_ws _ h2,wordsGo_word _ _ h4]
    simp only [List.nil_append,List.map_cons]
    rw [ih]
theorem wordsOf_flat {a b w:L8} {l:List (L8 × L8)} (ha:allWs a) (hb:allWs b) (hw:w ≠ []) (hn:nonWs w) (hl:SepOk l):wordsOf (a ++ (w ++ (flatW l ++ b)))=w :: l.map (·.2):=by
  rw [wordsOf,wordsGo_ws _ ha,wordsGo_word _ _ hn,List.nil_append]
  exact wordsGo_flat hb l w hw hl

def gW (s:L8):Prop:=∀ x ∈ s,32 < x.toNat ∧ x.toNat < 127 ∧ x ≠ 59
theorem gW_non {s:L8} (h:gW s):nonWs s:=by
  intro x hx
  obtain ⟨h1,h2,_⟩:=h x hx
  simp only [isWs,decide_eq_false_iff_not]
  omega
theorem gW_no {s:L8} (h:gW s):noB 59 s:=fun x hx e=>(h x hx).2.2 (UInt8.toNat_inj.1 (by exact_mod_cast e))
theorem gW_plain {s:L8} (h:gW s):plain s=true:=by
  simp only [plain,List.all_eq_true]
  intro x hx
  have:=h x hx
  exact plainB_true (by omega)
theorem gW_trim {s:L8} (h:gW s):trimS s=s:=by
  by_cases hs:s=[]
  · subst hs; rfl
  · have:=trimS_word (gW_non h) hs (b:=[]) (by intro x hx; simp at hx)
    simpa using this
theorem allWs_no {s:L8} (h:allWs s):noB 59 s:=by
  intro x hx e
  have:=h x hx
  simp only [isWs,decide_eq_true_eq] at this
  omega
theorem allWs_plain {s:L8} (h:allWs s):plain s=true:=by
  simp only [plain,List.all_eq_true]
  intro x hx
  have:=h x hx
  simp only [isWs,decide_eq_true_eq] at this
  exact plainB_true (by omega)

structure KvOk (p:KVp):Prop where
  k:gW p.1
  e:∀ x ∈ p.1,x ≠ 61
  v:gW p.2
def kvW (p:KVp):L8:=p.1 ++ 61 :: p.2
theorem kvW_g {p:KVp} (h:KvOk p):gW (kvW p):=by
  intro x hx
  simp only [kvW,List.mem_append,List.mem_cons] at hx
  rcases hx with hx | rfl | hx
  · exact h.k x hx
  · decide
  · exact h.v x hx
theorem kvW_ne {p:KVp}:kvW p ≠ []:=by simp [kvW]
theorem kvW_of {p:KVp} (h:KvOk p):kvOf (kvW p)=some (lowS p.1,p.2):=by
  have hno:noB (61:UInt8).toNat p.1:=fun x hx e=>h.e x hx (UInt8.toNat_inj.1 (by exact_mod_cast e))
  have:=cutAt_noB (c:=61) (r:=p.2) hno
  simp only [kvOf,kvW]
  have e61:((61:UInt8).toNat:Int)=61:=rfl
  rw [e61] at this
  rw [this]
  simp only [Option.map_some,gW_trim h.k,gW_trim h.v]

theorem hasK_none {k:L8} {l:List KVp} (h:k ∉ l.map (·.1)):hasK k l=false:=by
  simp only [hasK,List.any_eq_false,decide_eq_true_eq]
  rintro p hp rfl
  exact h (List.mem_map.2 ⟨p,hp,rfl⟩)
theorem prmsOf_kv:∀ (l:List KVp) (acc:List KVp),(∀ p ∈ l,KvOk p) → ((acc ++ l.map fun p=>(lowS p.1,p.2)).map (·.1)).Nodup → prmsOf (l.map kvW) acc=acc ++ l.map fun p=>(lowS p.1,p.2)
  | [],acc,_,_=>by simp [prmsOf]
  | p :: r,acc,h,nd=>by
    have hp:=h p (by simp)
    have hk:hasK (lowS p.1) acc=false:=by
      refine hasK_none fun hm=>?_
      rw [List.map_append,List.nodup_append] at nd
      exact nd.2.2 _ hm _ (by simp) rfl
    simp only [List.map_cons,prmsOf,kvW_of hp]
    rw [psetL_new hk,prmsOf_kv r _ (fun q hq=>h q (by simp [hq])) (by simpa using nd)]
    simp

structure ResT where
  pre:L8
  head:KVp
  ps:List (L8 × KVp)
def ResT.txt (t:ResT):L8:=t.pre ++ (kvW t.head ++ flatW (t.ps.map fun p=>(p.1,kvW p.2)))
structure ResT.Ok (t:ResT):Prop where
  pre:allWs t.pre
  head:KvOk t.head
  ps:∀ p ∈ t.ps,(p.1 ≠ [] ∧ allWs p.1) ∧ KvOk p.2
  nd:(t.ps.map fun p=>lowS p.2.1).Nodup
def ResT.prm (t:ResT):List KVp:=t.ps.map fun p=>(lowS p.2.1,p.2.2)
theorem kvW_not_none {p:KVp}:kvW p ≠ sNone0:=by
  intro h
  have:(61:UInt8) ∈ sNone0:=by rw [← h]; simp [kvW]
  simp [sNone0] at this
theorem ResT.Ok.words {t:ResT} (h:t.Ok) {b:L8} (hb:allWs b):wordsOf (t.txt ++ b)=kvW t.head :: (t.ps.map (·.2)).map kvW:=by
  have e:t.txt ++ b=t.pre ++ (kvW t.head ++ (flatW (t.ps.map fun p=>(p.1,kvW p.2)) ++ b)):=by simp [ResT.txt]
  rw [e,wordsOf_flat h.pre hb kvW_ne (gW_non (kvW_g h.head))]
  · simp
  · intro p hp
    obtain ⟨q,hq,rfl⟩:=List.mem_map.1 hp
    have:=h.ps q hq
    exact ⟨this.1,kvW_ne,gW_non (kvW_g this.2)⟩
theorem ResT.Ok.res {t:ResT} (h:t.Ok) {b:L8} (hb:allWs b) {x:PR} (hx:prOf (lowS t.head.1) (lowS t.head.2) t.prm=.inr x):trimS (t.txt ++ b) ≠ [] ∧ resAOf (trimS (t.txt ++ b))=.inr (some x):=by
  have hw:=h.words hb
  have hw2:=wordsOf_trim (t.txt ++ b)
  rw [hw] at hw2
  refine ⟨fun e=>?_,?_⟩
  · rw [e] at hw2; simp [wordsOf,wordsGo] at hw2
  · have hp:prmsOf ((t.ps.map (·.2)).map kvW) []=t.prm:=by
      rw [prmsOf_kv _ [] (fun p hp=>by obtain ⟨q,hq,rfl⟩:=List.mem_map.1 hp; exact (h.ps q hq).2)]
      · simp [ResT.prm]
      · simpa [Function.comp_def] using h.nd
    simp only [resAOf,hw2]
    rw [if_neg kvW_not_none,kvW_of h.head]
    simp only [hp,hx]
theorem ResT.Ok.no {t:ResT} (h:t.Ok):noB 59 t.txt:=by
  refine noB_app (allWs_no h.pre) (noB_app (gW_no (kvW_g h.head)) ?_)
  intro x hx
  simp only [flatW,List.mem_flatMap,List.mem_map] at hx
  obtain ⟨_,⟨q,hq,rfl⟩,hx⟩:=hx
  have:=h.ps q hq
  rcases List.mem_append.1 hx with hx | hx
  · exact allWs_no this.1.2 x hx
  · exact gW_no (kvW_g this.2) x hx
theorem plain_appB {a b:L8} (ha:plain a=true) (hb:plain b=true):plain (a ++ b)=true:=by rw [plain_app,ha,hb]; rfl
theorem ResT.Ok.pl {t:ResT} (h:t.Ok):plain t.txt=true:=by
  refine plain_appB (allWs_plain h.pre) (plain_appB (gW_plain (kvW_g h.head)) ?_)
  simp only [plain,List.all_eq_true]
  intro x hx
  simp only [flatW,List.mem_flatMap,List.mem_map] at hx
  obtain ⟨_,⟨q,hq,rfl⟩,hx⟩:=hx
  have:=h.ps q hq
  have hp:plain (q.1 ++ kvW q.2)=true:=plain_appB (allWs_plain this.1.2) (gW_plain (kvW_g this.2))
  exact List.all_eq_true.1 hp x hx

def flatP (l:List (L8 × ResT)):L8:=l.flatMap fun p=>p.1 ++ 59 :: p.2.txt
def pcsP:L8 → List (L8 × ResT) → List L8
  | cur,[]=>[cur]
  | cur,p :: r=>(cur ++ p.1) :: pcsP p.2.txt r
theorem split_flatP:∀ (l:List (L8 × ResT)) (cur:L8),noB 59 cur → (∀ p ∈ l,allWs p.1 ∧ p.2.Ok) → splitB 59 (cur ++ flatP l)=pcsP cur l
  | [],cur,hc,_=>by
    simp only [flatP,List.flatMap_nil,List.append_nil,pcsP]
    exact splitB_only (b:=59) hc
  | p :: r,cur,hc,h=>by
    obtain ⟨h1,h2⟩:=h p (by simp)
    have ih:=split_flatP r p.2.txt h2.no (fun q hq=>h q (by simp [hq]))
    have e:cur ++ flatP (p :: r)=(cur ++ p.1) ++ 59 :: (p.2.txt ++ flatP r):=by simp [flatP]
    rw [e,splitB_app (b:=59) (noB_app hc (allWs_no h1)),ih]; rfl
theorem adGo_pcs:∀ (l:List (L8 × ResT)) (t:ResT) (xs:List PR) (x:PR) (acc:List PR),t.Ok → prOf (lowS t.head.1) (lowS t.head.2) t.prm=.inr x → (∀ p ∈ l,allWs p.1 ∧ p.2.Ok) →
    l.map (fun p=>prOf (lowS p.2.head.1) (lowS p.2.head.2) p.2.prm)=xs.map .inr → adGo (pcsP t.txt l) acc=(acc ++ x :: xs,none)
  | [],t,xs,x,acc,ht,hx,_,e=>by
    have hxs:xs=[]:=by
      cases xs with
      | nil=>rfl
      | cons _ _=>simp at e
    subst hxs
    obtain ⟨h1,h2⟩:=ht.res (b:=[]) (by intro y hy; simp at hy) hx
    simp only [List.append_nil] at h1 h2
    simp only [pcsP,adGo,if_neg h1,h2]
  | p :: r,t,xs,x,acc,ht,hx,h,e=>by
    obtain ⟨h1,h2⟩:=h p (by simp)
    cases xs with
    | nil=>simp at e
    | cons y ys =>
      simp only [List.map_cons,List.cons.injEq] at e
      obtain ⟨n1,n2⟩:=ht.res h1 hx
      simp only [pcsP,adGo,if_neg n1,n2]
      rw [adGo_pcs r p.2 ys y (acc ++ [x]) h2 e.1 (fun q hq=>h q (by simp [hq])) e.2]
      simp

theorem adId_word {i b:L8} (hi:gW i) (hne:i ≠ []) (hb:allWs b):adId (i ++ b)=some i:=by
  have ht:trimS (i ++ b)=i:=trimS_word (gW_non hi) hne hb
  have hw:∀ (s:L8) (n:Nat),nonWs s → wsAt s n=none:=by
    intro s
    induction s with
    | nil=>intro n _; rfl
    | cons x r ih =>
      intro n h
      have h1:=h x (by simp)
      simp only [wsAt,h1]
      exact ih _ fun y hy=>h y (by simp [hy])
  simp only [adId,ht,hw i 0 (gW_non hi)]
theorem ad_text {i c:L8} (hc:noB 59 c) (hid:∀ b,allWs b → adId (c ++ b)=some i) {l:List (L8 × ResT)} {xs:List PR} (h:∀ p ∈ l,allWs p.1 ∧ p.2.Ok) (e:l.map (fun p=>prOf (lowS p.2.head.1) (lowS p.2.head.2) p.2.prm)=xs.map .inr):adText (c ++ flatP l)=some (i,xs):=by
  simp only [adText]
  rw [split_flatP l c hc h]
  cases l with
  | nil =>
    have hxs:xs=[]:=by
      cases xs with
      | nil=>rfl
      | cons _ _=>simp at e
    subst hxs
    have:=hid [] (by intro y hy; simp at hy)
    simp only [List.append_nil] at this
    simp only [pcsP,this,adGo]
  | cons p r =>
    obtain ⟨h1,h2⟩:=h p (by simp)
    cases xs with
    | nil=>simp at e
    | cons y ys =>
      simp only [List.map_cons,List.cons.injEq] at e
      have hg:=adGo_pcs r p.2 ys y [] h2 e.1 (fun q hq=>h q (by simp [hq])) e.2
      simp only [pcsP,hid _ h1,hg,List.nil_append]
end Wax


namespace Wax
open Go (IntKind)

def tSmtp:L8:=[115,109,116,112]
def tHeader:L8:=[104,101,97,100,101,114]
def tPolicy:L8:=[112,111,108,105,99,121]
def nAuth:L8:=[97,117,116,104]
def nD:L8:=[100]
def nI:L8:=[105]
def nFrom:L8:=[102,114,111,109]
def nSender:L8:=[115,101,110,100,101,114]
def nIprev:L8:=[105,112,114,101,118]
def nMail:L8:=[109,97,105,108,102,114,111,109]
def nHelo:L8:=[104,101,108,111]
def aVals:List L8:=[[110,111,110,101],[112,97,115,115],[102,97,105,108],[112,111,108,105,99,121],[110,101,117,116,114,97,108],[116,101,109,112,101,114,114,111,114],[112,101,114,109,101,114,114,111,114],[115,111,102,116,102,97,105,108],[104,97,114,100,102,97,105,108]]
def aMeths:List L8:=[sAuth,sDkim,sDomk,sIprev,sSender,sSpf,sDmarc,sArc]

def aPlain (s:L8):Bool:=match cutAt 64 s with
  | none=>mTok s && decide (s.length ≤ 200)
  | some p=>(decide (p.1=[]) || mTok p.1) && mDom p.2 && decide (s.length ≤ 200)
theorem tok_ne {s:L8} (h:mTok s=true):s ≠ []:=by simp only [mTok,Bool.and_eq_true,decide_eq_true_eq] at h; exact h.2
theorem tok_g {s:L8} (h:mTok s=true):gW s:=by
  simp only [mTok,Bool.and_eq_true] at h
  exact fun x hx=>tokB_g (List.all_eq_true.1 h.1 x hx)
theorem kw_g {s:L8} (h:mKw s=true):gW s ∧ (∀ x ∈ s,x ≠ 61) ∧ s ≠ []:=by
  simp only [mKw,Bool.and_eq_true,decide_eq_true_eq] at h
  have hk:=fun x hx=>kwB_g (List.all_eq_true.1 h.1.1.1 x hx)
  exact ⟨fun x hx=>(hk x hx).1,fun x hx=>(hk x hx).2,h.1.1.2⟩
theorem aPlain_g {s:L8} (h:aPlain s=true):gW s ∧ s ≠ [] ∧ s.length ≤ 200:=by
  unfold aPlain at h
  split at h
  · simp only [Bool.and_eq_true,decide_eq_true_eq] at h
    exact ⟨tok_g h.1,tok_ne h.1,h.2⟩
  · rename_i q hq
    simp only [Bool.and_eq_true,Bool.or_eq_true,decide_eq_true_eq] at h
    have e:=cut_mem (c:=64) hq
    refine ⟨?_,by rw [e]; simp,h.2⟩
    rw [e]
    intro x hx
    simp only [List.mem_append,List.mem_cons] at hx
    rcases hx with hx | rfl | hx
    · rcases h.1.1 with h1 | h1
      · rw [h1] at hx; simp at hx
      · exact tok_g h1 x hx
    · decide
    · exact dom_g h.1.2 x hx

def AR.props (r:AR):List (L8 × L8 × L8) :=
  if r.kind=1 then [(tSmtp,nAuth,r.auth)]
  else if r.kind=2 then [(tHeader,nD,r.domain),(tHeader,nI,r.ident)]
  else if r.kind=3 then [(tHeader,nD,r.domain),(tHeader,nFrom,r.fr),(tHeader,nSender,r.sender)]
  else if r.kind=4 then [(tPolicy,nIprev,r.ip)]
  else if r.kind=5 then [(tHeader,r.hkey,r.hval)]
  else if r.kind=6 then [(tSmtp,nMail,r.fr),(tSmtp,nHelo,r.helo)]
  else if r.kind=7 then [(tHeader,nFrom,r.fr)]
  else []
def AR.only (r:AR):AR :=
  if r.kind=0 then { ar0 with kind:=r.kind,value:=r.value,method:=r.method,ps:=r.ps }
  else if r.kind=1 then { ar0 with kind:=r.kind,value:=r.value,reason:=r.reason,auth:=r.auth }
  else if r.kind=2 then { ar0 with kind:=r.kind,value:=r.value,reason:=r.reason,domain:=r.domain,ident:=r.ident }
  else if r.kind=3 then { ar0 with kind:=r.kind,value:=r.value,reason:=r.reason,domain:=r.domain,fr:=r.fr,sender:=r.sender }
  else if r.kind=4 then { ar0 with kind:=r.kind,value:=r.value,reason:=r.reason,ip:=r.ip }
  else if r.kind=5 then { ar0 with kind:=r.kind,value:=r.value,reason:=r.reason,hkey:=r.hkey,hval:=r.hval }
  else if r.kind=6 then { ar0 with kind:=r.kind,value:=r.value,reason:=r.reason,fr:=r.fr,helo:=r.helo }
  else if r.kind=7 then { ar0 with kind:=r.kind,value:=r.value,reason:=r.reason,fr:=r.fr }
  else { ar0 with kind:=r.kind,value:=r.value,reason:=r.reason }
def gFit:Option L8 → List KVp → Bool
  | _,[]=>true
  | prev,p :: r=>(match cutAt 46 p.1 with | some q=>mKw q.1 && mKw q.2 | none=>false) && decide (lowS p.1=p.1) && aPlain p.2 && (match prev with | none=>true | some k=>decide (k < p.1)) && gFit (some p.1) r
def aFit1 (r:AR):Bool:=aVals.contains r.value && decide (0 ≤ r.kind) && decide (r.kind ≤ 7) && (decide (r.reason=[]) || mTok r.reason) &&
  (if r.kind=0 then mKw r.method && decide (lowS r.method=r.method) && decide (r.method ≠ sNone0) && decide (r.reason=[]) && decide (r.method.length ≤ 30) && !aMeths.contains r.method && gFit none (r.ps.getD [])
   else r.props.all fun p=>aPlain p.2.2 && mKw p.2.1 && decide (lowS p.2.1=p.2.1))
def aFits (l:List AR):Bool:=l.all aFit1 && decide (l.length ≤ 10)
def AR.norm (r:AR):AR:={ r with ps:=nilO (r.ps.getD []) }

def AR.meth (r:AR):L8:=if r.kind=0 then r.method else aMeths.getD (r.kind - 1).toNat []
def rPs (s:L8):List KVp:=if s=[] then [] else [(qReason,s)]
def AR.prm (r:AR):List KVp:=rPs r.reason ++ (if r.kind=0 then r.ps.getD [] else r.props.map fun p=>(p.1 ++ 46 :: p.2.1,p.2.2))

theorem lookP_rPs (s:L8) (l:List KVp) (k:L8) (h:k ≠ qReason):lookP (rPs s ++ l) k=lookP l k:=by
  unfold rPs
  split
  · rfl
  · simp only [List.cons_append,List.nil_append,lookP,if_neg h]
theorem lookP_reason (s:L8) (l:List KVp) (h:qReason ∉ l.map (·.1)):lookP (rPs s ++ l) qReason=s:=by
  have hn:∀ l:List KVp,qReason ∉ l.map (·.1) → lookP l qReason=[]:=by
    intro l
    induction l with
    | nil=>intro _; rfl
    | cons t l ih =>
      intro h
      simp only [List.map_cons,List.mem_cons,not_or] at h
      simp only [lookP,if_neg h.1]
      exact ih h.2
  unfold rPs
  split
  · rename_i e; subst e; exact hn l h
  · simp [lookP]

theorem val_low {v:L8} (h:aVals.contains v=true):lowS v=v ∧ gW v ∧ v ≠ []:=by
  simp only [aVals,List.contains_cons,List.contains_nil,Bool.or_false,Bool.or_eq_true,beq_iff_eq] at h
  rcases h with h | h | h | h | h | h | h | h | h <;> subst h <;> refine ⟨by decide,?_,by decide⟩ <;> simp only [gW] <;> decide
theorem gFit_spec:∀ (l:List KVp) (prev:Option L8),gFit prev l=true → (∀ p ∈ l,KvOk p ∧ lowS p.1=p.1 ∧ (∃ q,cutAt 46 p.1=some q ∧ mKw q.1=true ∧ mKw q.2=true) ∧ p.2.length ≤ 200) ∧ Asc l ∧ ∀ k,prev=some k → ∀ p ∈ l,k < p.1
  | [],_,_=>⟨by simp,by simp [Asc],by simp⟩
  | p :: r,prev,h=>by
    simp only [gFit,Bool.and_eq_true,decide_eq_true_eq] at h
    obtain ⟨⟨⟨⟨h1,h2⟩,h3⟩,h4⟩,h5⟩:=h
    obtain ⟨a,b,c⟩:=gFit_spec r (some p.1) h5
    have hq:∃ q,cutAt 46 p.1=some q ∧ mKw q.1=true ∧ mKw q.2=true:=by
      split at h1
      · rename_i q hq
        simp only [Bool.and_eq_true] at h1
        exact ⟨q,hq,h1⟩
      · simp at h1
    have hv:=aPlain_g h3
    have hk:KvOk p:=by
      obtain ⟨q,hq,k1,k2⟩:=hq
      have e:=cut_mem (c:=46) hq
      obtain ⟨g1,e1,_⟩:=kw_g k1
      obtain ⟨g2,e2,_⟩:=kw_g k2
      refine ⟨?_,?_,hv.1⟩
      · rw [e]
        intro x hx
        simp only [List.mem_append,List.mem_cons] at hx
        rcases hx with hx | rfl | hx
        · exact g1 x hx
        · decide
        · exact g2 x hx
      · rw [e]
        intro x hx
        simp only [List.mem_append,List.mem_cons] at hx
        rcases hx with hx | rfl | hx
        · exact e1 x hx
        · decide
        · exact e2 x hx
    refine ⟨fun q hq'=>?_,?_,fun k hk' q hq'=>?_⟩
    · rcases List.mem_cons.1 hq' with rfl | hq'
      · exact ⟨hk,h2,hq,hv.2.2⟩
      · exact a q hq'
    · exact List.pairwise_cons.2 ⟨fun q hq'=>c p.1 rfl q hq',b⟩
    · subst hk'
      simp only [decide_eq_true_eq] at h4
      rcases List.mem_cons.1 hq' with rfl | hq'
      · exact h4
      · exact List.lt_trans h4 (c p.1 rfl q hq')


def Reads (r:AR):Prop:=∃ x:PR,prOf r.meth r.value r.prm=.inr x ∧ x.ar=r.only.norm

theorem reads_Auth {r:AR} (h:r.kind=1):Reads r:=by
  have hm:r.meth=sAuth:=by simp only [AR.meth,h]; rfl
  have hp:r.prm=rPs r.reason ++ [(qAuth,r.auth)]:=by simp only [AR.prm,AR.props,h]; rfl
  have hr:lookP r.prm qReason=r.reason:=by rw [hp]; exact lookP_reason _ _ (by simp only [List.map_cons,List.map_nil]; decide)
  have hl_qAuth:lookP r.prm qAuth=r.auth:=by rw [hp,lookP_rPs _ _ _ (by decide)]; simp only [lookP]; simp [qAuth]
  refine ⟨.auth r.value r.reason r.auth,?_,?_⟩
  · rw [hm]; simp only [prOf]; rw [if_neg (show ¬ sAuth=sArc by decide),if_pos trivial,hr,hl_qAuth]
  · simp only [PR.ar,AR.only,AR.norm,h,ar0]; rfl

theorem reads_Dkim {r:AR} (h:r.kind=2):Reads r:=by
  have hm:r.meth=sDkim:=by simp only [AR.meth,h]; rfl
  have hp:r.prm=rPs r.reason ++ [(qD,r.domain),(qI,r.ident)]:=by simp only [AR.prm,AR.props,h]; rfl
  have hr:lookP r.prm qReason=r.reason:=by rw [hp]; exact lookP_reason _ _ (by simp only [List.map_cons,List.map_nil]; decide)
  have hl_qD:lookP r.prm qD=r.domain:=by rw [hp,lookP_rPs _ _ _ (by decide)]; simp only [lookP]; simp [qD,qI]
  have hl_qI:lookP r.prm qI=r.ident:=by rw [hp,lookP_rPs _ _ _ (by decide)]; simp only [lookP]; simp [qD,qI]
  refine ⟨.dkim r.value r.reason r.domain r.ident,?_,?_⟩
  · rw [hm]; simp only [prOf]; rw [if_neg (show ¬ sDkim=sArc by decide),if_neg (show ¬ sDkim=sAuth by decide),if_pos trivial,hr,hl_qD,hl_qI]
  · simp only [PR.ar,AR.only,AR.norm,h,ar0]; rfl

theorem reads_Domk {r:AR} (h:r.kind=3):Reads r:=by
  have hm:r.meth=sDomk:=by simp only [AR.meth,h]; rfl
  have hp:r.prm=rPs r.reason ++ [(qD,r.domain),(qFrom,r.fr),(qSend,r.sender)]:=by simp only [AR.prm,AR.props,h]; rfl
  have hr:lookP r.prm qReason=r.reason:=by rw [hp]; exact lookP_reason _ _ (by simp only [List.map_cons,List.map_nil]; decide)
  have hl_qD:lookP r.prm qD=r.domain:=by rw [hp,lookP_rPs _ _ _ (by decide)]; simp only [lookP]; simp [qD,qFrom,qSend]
  have hl_qFrom:lookP r.prm qFrom=r.fr:=by rw [hp,lookP_rPs _ _ _ (by decide)]; simp only [lookP]; simp [qD,qFrom,qSend]
  have hl_qSend:lookP r.prm qSend=r.sender:=by rw [hp,lookP_rPs _ _ _ (by decide)]; simp only [lookP]; simp [qD,qFrom,qSend]
  refine ⟨.domk r.value r.reason r.domain r.fr r.sender,?_,?_⟩
  · rw [hm]; simp only [prOf]; rw [if_neg (show ¬ sDomk=sArc by decide),if_neg (show ¬ sDomk=sAuth by decide),if_neg (show ¬ sDomk=sDkim by decide),if_pos trivial,hr,hl_qD,hl_qFrom,hl_qSend]
  · simp only [PR.ar,AR.only,AR.norm,h,ar0]; rfl

theorem reads_Iprev {r:AR} (h:r.kind=4):Reads r:=by
  have hm:r.meth=sIprev:=by simp only [AR.meth,h]; rfl
  have hp:r.prm=rPs r.reason ++ [(qIprev,r.ip)]:=by simp only [AR.prm,AR.props,h]; rfl
  have hr:lookP r.prm qReason=r.reason:=by rw [hp]; exact lookP_reason _ _ (by simp only [List.map_cons,List.map_nil]; decide)
  have hl_qIprev:lookP r.prm qIprev=r.ip:=by rw [hp,lookP_rPs _ _ _ (by decide)]; simp only [lookP]; simp [qIprev]
  refine ⟨.iprev r.value r.reason r.ip,?_,?_⟩
  · rw [hm]; simp only [prOf]; rw [if_neg (show ¬ sIprev=sArc by decide),if_neg (show ¬ sIprev=sAuth by decide),if_neg (show ¬ sIprev=sDkim by decide),if_neg (show ¬ sIprev=sDomk by decide),if_pos trivial,hr,hl_qIprev]
  · simp only [PR.ar,AR.only,AR.norm,h,ar0]; rfl

theorem reads_Spf {r:AR} (h:r.kind=6):Reads r:=by
  have hm:r.meth=sSpf:=by simp only [AR.meth,h]; rfl
  have hp:r.prm=rPs r.reason ++ [(qMail,r.fr),(qHelo,r.helo)]:=by simp only [AR.prm,AR.props,h]; rfl
  have hr:lookP r.prm qReason=r.reason:=by rw [hp]; exact lookP_reason _ _ (by simp only [List.map_cons,List.map_nil]; decide)
  have hl_qMail:lookP r.prm qMail=r.fr:=by rw [hp,lookP_rPs _ _ _ (by decide)]; simp only [lookP]; simp [qMail,qHelo]
  have hl_qHelo:lookP r.prm qHelo=r.helo:=by rw [hp,lookP_rPs _ _ _ (by decide)]; simp only [lookP]; simp [qMail,qHelo]
  refine ⟨.spf r.value r.reason r.fr r.helo,?_,?_⟩
  · rw [hm]; simp only [prOf]; rw [if_neg (show ¬ sSpf=sArc by decide),if_neg (show ¬ sSpf=sAuth by decide),if_neg (show ¬ sSpf=sDkim by decide),if_neg (show ¬ sSpf=sDomk by decide),if_neg (show ¬ sSpf=sIprev by decide),if_neg (show ¬ sSpf=sSender by decide),if_pos trivial,hr,hl_qMail,hl_qHelo]
  · simp only [PR.ar,AR.only,AR.norm,h,ar0]; rfl

theorem reads_Dmarc {r:AR} (h:r.kind=7):Reads r:=by
  have hm:r.meth=sDmarc:=by simp only [AR.meth,h]; rfl
  have hp:r.prm=rPs r.reason ++ [(qFrom,r.fr)]:=by simp only [AR.prm,AR.props,h]; rfl
  have hr:lookP r.prm qReason=r.reason:=by rw [hp]; exact lookP_reason _ _ (by simp only [List.map_cons,List.map_nil]; decide)
  have hl_qFrom:lookP r.prm qFrom=r.fr:=by rw [hp,lookP_rPs _ _ _ (by decide)]; simp only [lookP]; simp [qFrom]
  refine ⟨.dmarc r.value r.reason r.fr,?_,?_⟩
  · rw [hm]; simp only [prOf]; rw [if_neg (show ¬ sDmarc=sArc by decide),if_neg (show ¬ sDmarc=sAuth by decide),if_neg (show ¬ sDmarc=sDkim by decide),if_neg (show ¬ sDmarc=sDomk by decide),if_neg (show ¬ sDmarc=sIprev by decide),if_neg (show ¬ sDmarc=sSender by decide),if_neg (show ¬ sDmarc=sSpf by decide),if_pos trivial,hr,hl_qFrom]
  · simp only [PR.ar,AR.only,AR.norm,h,ar0]; rfl

theorem sort2 (k:L8) (s:L8) (hk:headB k=true):(sortB ((rPs s ++ [(k,([]:L8))]).map (·.1))).find? headB=some k:=by
  have hq:headB qReason=false:=by decide
  have hmem:∀ y,y ∈ sortB ((rPs s ++ [(k,([]:L8))]).map (·.1)) → y=k ∨ headB y=false:=by
    intro y hy
    have:y ∈ (rPs s ++ [(k,([]:L8))]).map (·.1):=by simpa [sortB] using hy
    unfold rPs at this
    split at this
    · simp at this; exact .inl this
    · simp at this
      rcases this with rfl | rfl
      · exact .inr hq
      · exact .inl rfl
  have hin:k ∈ sortB ((rPs s ++ [(k,([]:L8))]).map (·.1)):=by simp [sortB]
  generalize sortB ((rPs s ++ [(k,([]:L8))]).map (·.1))=L at *
  cases hf:L.find? headB with
  | none =>
    have:=List.find?_eq_none.1 hf k hin
    rw [hk] at this; simp at this
  | some y =>
    have h1:=List.find?_some hf
    rcases hmem y (List.mem_of_find?_eq_some hf) with rfl | h
    · rfl
    · rw [h] at h1; simp at h1
theorem reads_Sender {r:AR} (h:r.kind=5):Reads r:=by
  have hm:r.meth=sSender:=by simp only [AR.meth,h]; rfl
  have hp:r.prm=rPs r.reason ++ [(tHeader ++ 46 :: r.hkey,r.hval)]:=by simp only [AR.prm,AR.props,h]; rfl
  have hne:tHeader ++ 46 :: r.hkey ≠ qReason:=by
    intro e
    have:=congrArg List.head? e
    simp [tHeader,qReason] at this
  have hr:lookP r.prm qReason=r.reason:=by
    rw [hp]; exact lookP_reason _ _ (by simp only [List.map_cons,List.map_nil,List.mem_singleton]; exact fun e=>hne e.symm)
  have hl:lookP r.prm (tHeader ++ 46 :: r.hkey)=r.hval:=by rw [hp,lookP_rPs _ _ _ hne]; simp [lookP]
  have hb:headB (tHeader ++ 46 :: r.hkey)=true:=by
    simp only [headB,tHeader,qHead]
    simp [List.isPrefixOf]
  have hs:sidOf r.prm=(r.hkey,r.hval):=by
    have h2:=sort2 (tHeader ++ 46 :: r.hkey) r.reason hb
    have e:(rPs r.reason ++ [(tHeader ++ 46 :: r.hkey,([]:L8))]).map (·.1)=r.prm.map (·.1):=by rw [hp]; simp
    rw [e] at h2
    simp only [sidOf,h2,hl]
    rfl
  refine ⟨.sender r.value r.reason r.hkey r.hval,?_,?_⟩
  · rw [hm]; simp only [prOf]; rw [if_neg (show ¬ sSender=sArc by decide),if_neg (show ¬ sSender=sAuth by decide),if_neg (show ¬ sSender=sDkim by decide),if_neg (show ¬ sSender=sDomk by decide),if_neg (show ¬ sSender=sIprev by decide),if_pos trivial,hr,hs]
  · simp only [PR.ar,AR.only,AR.norm,h,ar0]; rfl

theorem reads_Gen {r:AR} (h:r.kind=0) (hf:aFit1 r=true):Reads r:=by
  simp only [aFit1,Bool.and_eq_true,if_pos h,decide_eq_true_eq] at hf
  obtain ⟨_,⟨⟨⟨⟨⟨⟨m1,m2⟩,m3⟩,m4⟩,m5⟩,m6⟩,m7⟩⟩:=hf
  have hm:r.meth=r.method:=by simp only [AR.meth,h,if_true]
  have hp:r.prm=r.ps.getD []:=by simp only [AR.prm,h,m4,rPs,if_true,List.nil_append]
  have nm:∀ x ∈ aMeths,r.method ≠ x:=by
    intro x hx e
    have:aMeths.contains r.method=true:=by rw [e]; simpa using hx
    rw [this] at m6; simp at m6
  have hs:sortP (r.ps.getD [])=r.ps.getD []:=(asc_sortP (gFit_spec _ _ m7).2.1 (List.Perm.refl _)).symm
  refine ⟨.gen r.method r.value (r.ps.getD []),?_,?_⟩
  · rw [hm,hp]; simp only [prOf]
    rw [if_neg (nm sArc (by simp [aMeths])),if_neg (nm sAuth (by simp [aMeths])),if_neg (nm sDkim (by simp [aMeths])),if_neg (nm sDomk (by simp [aMeths])),if_neg (nm sIprev (by simp [aMeths])),if_neg (nm sSender (by simp [aMeths])),if_neg (nm sSpf (by simp [aMeths])),if_neg (nm sDmarc (by simp [aMeths]))]
  · simp only [PR.ar,AR.only,AR.norm,h,ar0,hs,if_true]
theorem reads_all {r:AR} (hf:aFit1 r=true):Reads r:=by
  have hk:0 ≤ r.kind ∧ r.kind ≤ 7:=by
    simp only [aFit1,Bool.and_eq_true,decide_eq_true_eq] at hf
    exact ⟨hf.1.1.1.2,hf.1.1.2⟩
  have:r.kind=0 ∨ r.kind=1 ∨ r.kind=2 ∨ r.kind=3 ∨ r.kind=4 ∨ r.kind=5 ∨ r.kind=6 ∨ r.kind=7:=by omega
  rcases this with h | h | h | h | h | h | h | h
  · exact reads_Gen h hf
  · exact reads_Auth h
  · exact reads_Dkim h
  · exact reads_Domk h
  · exact reads_Iprev h
  · exact reads_Sender h
  · exact reads_Spf h
  · exact reads_Dmarc h
end Wax


namespace Wax
open Go (IntKind)

def aSp (n:Nat):L8:=([[32],[32],[32,32],[9],[13,10,32],[32,9]]:List L8).getD (n % 6) []
theorem aSp_ok (n:Nat):aSp n ≠ [] ∧ allWs (aSp n):=by
  have h:n % 6 < 6:=Nat.mod_lt _ (by omega)
  simp only [aSp]
  generalize n % 6=q at *
  match q,h with
  | 0,_=>exact ⟨by simp,by simp only [allWs]; decide⟩
  | 1,_=>exact ⟨by simp,by simp only [allWs]; decide⟩
  | 2,_=>exact ⟨by simp,by simp only [allWs]; decide⟩
  | 3,_=>exact ⟨by simp,by simp only [allWs]; decide⟩
  | 4,_=>exact ⟨by simp,by simp only [allWs]; decide⟩
  | 5,_=>exact ⟨by simp,by simp only [allWs]; decide⟩
def nx (fm:L8) (k:Nat):Nat:=if fm=[] then 0 else (fm.getD (k % fm.length) 0).toNat

def sepKv (fm:L8):Nat → List KVp → List (L8 × KVp)
  | _,[]=>[]
  | k,p :: r=>(aSp (nx fm k),p) :: sepKv fm (k + 1) r
theorem sepKv_map (fm:L8):∀ (l:List KVp) (k:Nat),(sepKv fm k l).map (·.2)=l
  | [],_=>rfl
  | p :: r,k=>by simp [sepKv,sepKv_map fm r (k + 1)]
theorem sepKv_mem (fm:L8):∀ (l:List KVp) (k:Nat),∀ p ∈ sepKv fm k l,(p.1 ≠ [] ∧ allWs p.1) ∧ p.2 ∈ l
  | [],_,p,h=>by simp [sepKv] at h
  | q :: r,k,p,h=>by
    rcases List.mem_cons.1 h with rfl | h
    · exact ⟨aSp_ok _,by simp⟩
    · have:=sepKv_mem fm r (k + 1) p h
      exact ⟨this.1,by simp [this.2]⟩
def aPre (n:Nat):L8:=if n % 3=0 then aSp n else []
def aBeh (n:Nat):L8:=if n % 3=0 then [] else aSp n
theorem aPre_ws (n:Nat):allWs (aPre n):=by
  unfold aPre
  split
  · exact (aSp_ok n).2
  · intro x hx; simp at hx
theorem aBeh_ws (n:Nat):allWs (aBeh n):=by
  unfold aBeh
  split
  · intro x hx; simp at hx
  · exact (aSp_ok n).2
def aPart (fm:L8) (k:Nat) (r:AR):L8 × ResT:=(aPre (nx fm (k + 1)),⟨aBeh (nx fm (k + 2)),(r.meth,r.value),sepKv fm (k + 3) r.prm⟩)
def aParts (fm:L8):Nat → List AR → List (L8 × ResT)
  | _,[]=>[]
  | k,r :: l=>aPart fm k r :: aParts fm (k + 2 + r.prm.length) l
def aTextOf (i:L8) (l:List AR) (fm:L8):L8:=i ++ (flatP (aParts fm 0 l) ++ (if l=[] then 59 :: (aSp (nx fm 1) ++ sNone0) else []))

structure PrmOk (l:List KVp):Prop where
  kv:∀ p ∈ l,KvOk p ∧ lowS p.1=p.1
  nd:(l.map (·.1)).Nodup
theorem low_kv {l:List KVp} (h:PrmOk l):(l.map fun p=>(lowS p.1,p.2))=l:=by
  conv=>rhs; rw [← List.map_id l]
  refine List.map_congr_left fun p hp=>?_
  rw [(h.kv p hp).2]; rfl

theorem rPs_ok {s:L8} (h:s=[] ∨ mTok s=true):∀ p ∈ rPs s,KvOk p ∧ lowS p.1=p.1 ∧ p.1=qReason:=by
  intro p hp
  unfold rPs at hp
  split at hp
  · simp at hp
  · rename_i hs
    simp only [List.mem_singleton] at hp
    subst hp
    refine ⟨⟨(show gW qReason by simp only [gW]; decide),(show ∀ x ∈ qReason,x ≠ 61 by decide),?_⟩,(show lowS qReason=qReason by decide),rfl⟩
    rcases h with h | h
    · exact absurd h hs
    · exact tok_g h
theorem prop_kv {t n v:L8} (ht:gW t ∧ (∀ x ∈ t,x ≠ 61) ∧ lowS t=t) (hn:mKw n=true) (hl:lowS n=n) (hv:aPlain v=true):KvOk (t ++ 46 :: n,v) ∧ lowS (t ++ 46 :: n)=t ++ 46 :: n:=by
  obtain ⟨g,e,_⟩:=kw_g hn
  refine ⟨⟨?_,?_,(aPlain_g hv).1⟩,?_⟩
  · intro x hx
    simp only [List.mem_append,List.mem_cons] at hx
    rcases hx with hx | rfl | hx
    · exact ht.1 x hx
    · decide
    · exact g x hx
  · intro x hx
    simp only [List.mem_append,List.mem_cons] at hx
    rcases hx with hx | rfl | hx
    · exact ht.2.1 x hx
    · decide
    · exact e x hx
  · have:lowS (t ++ 46 :: n)=lowS t ++ 46 :: lowS n:=by simp [lowS,lowB]
    rw [this,ht.2.2,hl]
theorem kind_cases {r:AR} (hf:aFit1 r=true):r.kind=0 ∨ r.kind=1 ∨ r.kind=2 ∨ r.kind=3 ∨ r.kind=4 ∨ r.kind=5 ∨ r.kind=6 ∨ r.kind=7:=by
  simp only [aFit1,Bool.and_eq_true,decide_eq_true_eq] at hf
  have:=hf.1.1.1.2
  have:=hf.1.1.2
  omega
theorem smtp_t:gW tSmtp ∧ (∀ x ∈ tSmtp,x ≠ 61) ∧ lowS tSmtp=tSmtp:=⟨by simp only [gW]; decide,by decide,by decide⟩
theorem header_t:gW tHeader ∧ (∀ x ∈ tHeader,x ≠ 61) ∧ lowS tHeader=tHeader:=⟨by simp only [gW]; decide,by decide,by decide⟩
theorem policy_t:gW tPolicy ∧ (∀ x ∈ tPolicy,x ≠ 61) ∧ lowS tPolicy=tPolicy:=⟨by simp only [gW]; decide,by decide,by decide⟩
theorem props_t {r:AR}:∀ p ∈ r.props,(gW p.1 ∧ (∀ x ∈ p.1,x ≠ 61) ∧ lowS p.1=p.1) ∧ 46 ∉ p.1 ∧ p.1 ≠ []:=by
  intro p hp
  unfold AR.props at hp
  repeat' split at hp
  all_goals
    simp only [List.mem_cons,List.not_mem_nil,or_false] at hp
    try (rcases hp with rfl | rfl | rfl)
    try (rcases hp with rfl | rfl)
    try subst hp
  all_goals try (first | exact ⟨smtp_t,(show ¬ 46 ∈ tSmtp by decide),(show tSmtp ≠ [] by decide)⟩ | exact ⟨header_t,(show ¬ 46 ∈ tHeader by decide),(show tHeader ≠ [] by decide)⟩ | exact ⟨policy_t,(show ¬ 46 ∈ tPolicy by decide),(show tPolicy ≠ [] by decide)⟩)
theorem key_ne_reason {t n:L8}:t ++ 46 :: n ≠ qReason:=by
  intro h
  have:(46:UInt8) ∈ qReason:=by rw [← h]; simp
  revert this; decide
theorem fit_parts {r:AR} (hf:aFit1 r=true):PrmOk r.prm ∧ KvOk (r.meth,r.value) ∧ lowS r.meth=r.meth ∧ lowS r.value=r.value:=by
  have hk:=kind_cases hf
  simp only [aFit1,Bool.and_eq_true,decide_eq_true_eq,Bool.or_eq_true] at hf
  obtain ⟨⟨⟨⟨f1,f2⟩,f3⟩,f4⟩,f5⟩:=hf
  obtain ⟨v1,v2,v3⟩:=val_low f1
  have hrp:=rPs_ok f4
  by_cases h0:r.kind=0
  · rw [if_pos h0] at f5
    simp only [Bool.and_eq_true,decide_eq_true_eq] at f5
    obtain ⟨⟨⟨⟨⟨⟨m1,m2⟩,m3⟩,m4⟩,m5⟩,m6⟩,m7⟩:=f5
    obtain ⟨g1,g2,_⟩:=kw_g m1
    have hm:r.meth=r.method:=by simp only [AR.meth,h0,if_true]
    have hp:r.prm=r.ps.getD []:=by simp only [AR.prm,h0,m4,rPs,if_true,List.nil_append]
    obtain ⟨a,b,_⟩:=gFit_spec _ _ m7
    rw [hm,hp]
    refine ⟨⟨fun p hp=>⟨(a p hp).1,(a p hp).2.1⟩,?_⟩,⟨g1,g2,v2⟩,m2,v1⟩
    have:((r.ps.getD []).map (·.1)).Pairwise (· < ·):=List.pairwise_map.2 b
    exact this.imp fun h=>fun e=>absurd (e ▸ h) (List.lt_irrefl _)
  · rw [if_neg h0] at f5
    simp only [List.all_eq_true,Bool.and_eq_true,decide_eq_true_eq] at f5
    have hp:r.prm=rPs r.reason ++ r.props.map fun p=>(p.1 ++ 46 :: p.2.1,p.2.2):=by simp only [AR.prm,if_neg h0]
    have hmk:∀ k:Nat,k < 7 → gW (aMeths.getD k []) ∧ (∀ x ∈ aMeths.getD k [],x ≠ 61) ∧ lowS (aMeths.getD k [])=aMeths.getD k []:=by
      intro k hk
      match k,hk with
      | 0,_=>exact ⟨by simp only [gW]; decide,by decide,by decide⟩
      | 1,_=>exact ⟨by simp only [gW]; decide,by decide,by decide⟩
      | 2,_=>exact ⟨by simp only [gW]; decide,by decide,by decide⟩
      | 3,_=>exact ⟨by simp only [gW]; decide,by decide,by decide⟩
      | 4,_=>exact ⟨by simp only [gW]; decide,by decide,by decide⟩
      | 5,_=>exact ⟨by simp only [gW]; decide,by decide,by decide⟩
      | 6,_=>exact ⟨by simp only [gW]; decide,by decide,by decide⟩
    obtain ⟨m,hm7,hmm⟩:∃ m,m < 7 ∧ r.meth=aMeths.getD m []:=by
      refine ⟨(r.kind - 1).toNat,by omega,?_⟩
      simp only [AR.meth,if_neg h0]
    obtain ⟨mg,me,ml⟩:=hmk m hm7
    rw [hmm]
    have hkv:∀ p ∈ r.prm,KvOk p ∧ lowS p.1=p.1:=by
      intro p hpm
      rw [hp] at hpm
      rcases List.mem_append.1 hpm with hpm | hpm
      · have:=hrp p hpm; exact ⟨this.1,this.2.1⟩
      · obtain ⟨q,hq,rfl⟩:=List.mem_map.1 hpm
        have hq5:=f5 q hq
        exact prop_kv (props_t q hq).1 hq5.1.2 hq5.2 hq5.1.1
    refine ⟨⟨hkv,?_⟩,⟨mg,me,v2⟩,ml,v1⟩
    have hnd:(r.props.map fun p=>(p.1 ++ 46 :: p.2.1:L8)).Nodup:=by
      unfold AR.props
      repeat' split
      all_goals simp only [List.map_cons,List.map_nil]
      all_goals first | decide | simp
    rw [hp,List.map_append,List.nodup_append]
    refine ⟨?_,by simpa [Function.comp_def] using hnd,?_⟩
    · unfold rPs; split <;> simp
    · intro a ha b hb e
      obtain ⟨q,hq,rfl⟩:=List.mem_map.1 ha
      have hqr:=(hrp q hq).2.2
      rw [List.map_map] at hb
      obtain ⟨z,hz,rfl⟩:=List.mem_map.1 hb
      rw [hqr] at e
      exact key_ne_reason e.symm

theorem aPart_ok {r:AR} (hf:aFit1 r=true) (fm:L8) (k:Nat):allWs (aPart fm k r).1 ∧ (aPart fm k r).2.Ok ∧ (aPart fm k r).2.prm=r.prm:=by
  obtain ⟨h1,h2,h3,h4⟩:=fit_parts hf
  have hmp:((sepKv fm (k + 3) r.prm).map fun p=>(lowS p.2.1,p.2.2))=r.prm:=by
    have:=congrArg (List.map fun p:KVp=>(lowS p.1,p.2)) (sepKv_map fm r.prm (k + 3))
    rw [low_kv h1,List.map_map] at this
    exact this
  refine ⟨aPre_ws _,⟨aBeh_ws _,h2,fun p hp=>?_,?_⟩,hmp⟩
  · have:=sepKv_mem fm _ _ p hp
    exact ⟨this.1,(h1.kv _ this.2).1⟩
  · have:=congrArg (List.map fun p:KVp=>p.1) hmp
    rw [List.map_map] at this
    show (List.map _ (sepKv fm (k + 3) r.prm)).Nodup
    have e:(sepKv fm (k + 3) r.prm).map (fun p=>lowS p.2.1)=r.prm.map (·.1):=this
    rw [e]
    exact h1.nd
theorem aParts_ok:∀ (l:List AR),(∀ r ∈ l,aFit1 r=true) → ∀ (fm:L8) (k:Nat),(∀ p ∈ aParts fm k l,allWs p.1 ∧ p.2.Ok) ∧
    ∃ xs:List PR,(aParts fm k l).map (fun p=>prOf (lowS p.2.head.1) (lowS p.2.head.2) p.2.prm)=xs.map .inr ∧ xs.map PR.ar=l.map fun r=>r.only.norm
  | [],_,fm,k=>⟨by simp [aParts],[],by simp [aParts],rfl⟩
  | r :: l,h,fm,k=>by
    have hf:=h r (by simp)
    obtain ⟨a1,a2,a3⟩:=aPart_ok hf fm k
    obtain ⟨_,_,h3,h4⟩:=fit_parts hf
    obtain ⟨x,hx,hxa⟩:=reads_all hf
    obtain ⟨b1,xs,b2,b3⟩:=aParts_ok l (fun q hq=>h q (by simp [hq])) fm (k + 2 + r.prm.length)
    refine ⟨fun p hp=>?_,x :: xs,?_,by simp [hxa,b3]⟩
    · rcases List.mem_cons.1 hp with rfl | hp
      · exact ⟨a1,a2⟩
      · exact b1 p hp
    · simp only [aParts,List.map_cons,b2,a3]
      have e1:lowS (aPart fm k r).2.head.1=r.meth:=h3
      have e2:lowS (aPart fm k r).2.head.2=r.value:=h4
      rw [e1,e2,hx]

theorem read_text {i:L8} (hi:aPlain i=true) {l:List AR} (h:aFits l=true) (fm:L8):∃ xs:List PR,adText (aTextOf i l fm)=some (i,xs) ∧ xs.map PR.ar=l.map fun r=>r.only.norm:=by
  obtain ⟨g1,g2,g3⟩:=aPlain_g hi
  simp only [aFits,Bool.and_eq_true,List.all_eq_true] at h
  obtain ⟨a,xs,b,c⟩:=aParts_ok l h.1 fm 0
  by_cases hl:l=[]
  · subst hl
    simp at c
    subst c
    refine ⟨[],?_,rfl⟩
    obtain ⟨s1,s2⟩:=aSp_ok (nx fm 1)
    have nn:nonWs sNone0:=by simp only [nonWs]; decide
    have hno:noB 59 (aSp (nx fm 1) ++ sNone0):=noB_app (allWs_no s2) (by simp only [noB]; decide)
    have e:aTextOf i [] fm=i ++ 59 :: (aSp (nx fm 1) ++ sNone0):=by simp [aTextOf,aParts,flatP]
    have hw:wordsOf (aSp (nx fm 1) ++ sNone0)=[sNone0]:=by
      have:=wordsOf_flat (a:=aSp (nx fm 1)) (b:=[]) (w:=sNone0) (l:=[]) s2 (by intro y hy; simp at hy) (by decide) nn (by intro p hp; simp at hp)
      simpa [flatW] using this
    have hw2:=wordsOf_trim (aSp (nx fm 1) ++ sNone0)
    rw [hw] at hw2
    have hne:trimS (aSp (nx fm 1) ++ sNone0) ≠ []:=by
      intro e; rw [e] at hw2; simp [wordsOf,wordsGo] at hw2
    have hr:resAOf (trimS (aSp (nx fm 1) ++ sNone0))=.inr none:=by simp only [resAOf,hw2,if_true]
    have hid:=adId_word g1 g2 (b:=[]) (by intro y hy; simp at hy)
    simp only [List.append_nil] at hid
    simp only [adText,e,splitB_app (b:=59) (gW_no g1),splitB_only (b:=59) hno,hid,adGo,if_neg hne,hr]
  · refine ⟨xs,?_,c⟩
    have e:aTextOf i l fm=i ++ flatP (aParts fm 0 l):=by simp [aTextOf,hl]
    rw [e]
    exact ad_text (gW_no g1) (fun b hb=>adId_word g1 g2 hb) a b
theorem flatP_plain:∀ (l:List (L8 × ResT)),(∀ p ∈ l,allWs p.1 ∧ p.2.Ok) → plain (flatP l)=true
  | [],_=>rfl
  | p :: r,h=>by
    obtain ⟨h1,h2⟩:=h p (by simp)
    have e:flatP (p :: r)=p.1 ++ ([59] ++ (p.2.txt ++ flatP r)):=by simp [flatP]
    rw [e]
    exact plain_appB (allWs_plain h1) (plain_appB (by decide) (plain_appB h2.pl (flatP_plain r fun q hq=>h q (by simp [hq]))))
theorem text_plain {i:L8} (hi:aPlain i=true) {l:List AR} (h:aFits l=true) (fm:L8):plain (aTextOf i l fm)=true:=by
  obtain ⟨g1,g2,g3⟩:=aPlain_g hi
  simp only [aFits,Bool.and_eq_true,List.all_eq_true] at h
  refine plain_appB (gW_plain g1) (plain_appB (flatP_plain _ (aParts_ok l h.1 fm 0).1) ?_)
  split
  · have e:(59 :: (aSp (nx fm 1) ++ sNone0):L8)=[59] ++ (aSp (nx fm 1) ++ sNone0):=rfl
    rw [e]
    exact plain_appB (by decide) (plain_appB (allWs_plain (aSp_ok _).2) (by decide))
  · rfl
end Wax


namespace Wax
open Go (IntKind)

@[simp] theorem slP_none:slP none=.nilS:=rfl
def con_AValues:List AV → Option AV
  | []=>some (.sl 1 (strsA aVals))
  | _=>none
theorem ok_AValues (Γ:Gam):∀ args r,con_AValues args=some r → runs Γ c_spec_AValues args (fun v=>v=r):=by
  intro args r h
  cases args <;> simp [con_AValues] at h
  subst h
  simp -implicitDefEqProofs [c_spec_AValues,aVals,snap,resolveA]
def con_AMethods:List AV → Option AV
  | []=>some (.sl 1 (strsA aMeths))
  | _=>none
theorem ok_AMethods (Γ:Gam):∀ args r,con_AMethods args=some r → runs Γ c_spec_AMethods args (fun v=>v=r):=by
  intro args r h
  cases args <;> simp [con_AMethods] at h
  subst h
  simp -implicitDefEqProofs [c_spec_AMethods,aMeths,sAuth,sDkim,sDomk,sIprev,sSender,sSpf,sDmarc,sArc,snap,resolveA]
def con_APlain:List AV → Option AV
  | [.str s]=>if s.length < mid then some (.bool (aPlain s)) else none
  | _=>none
theorem ok_APlain (Γ:Gam) (h102:Γ.fn 102=con_MailHalves) (h104:Γ.fn 104=con_MailToken) (h105:Γ.fn 105=con_MailDomain):∀ args r,con_APlain args=some r → runs Γ c_spec_APlain args (fun v=>v=r):=by
  intro args r h
  simp only [con_APlain] at h
  split at h <;> (try simp at h; done)
  rename_i s
  obtain ⟨hs,rfl⟩:=ite_some h
  clear h
  have hs':s.length < big:=by simp only [mid] at hs; simp only [big]; omega
  have k102:con_MailHalves [.str s,.int .u8 64]=some (cutV 64 s):=if_pos hs'
  have hI:decide ((s.length:Int) ≤ 200)=decide (s.length ≤ 200):=by rw [decide_eq_decide]; omega
  cases hc:cutAt 64 s with
  | none =>
    have k104:con_MailToken [.str s]=some (.bool (mTok s)):=if_pos hs'
    simp only [aPlain,hc]
    cases ht:mTok s with
    | false =>
      rw [ht] at k104
      simp -implicitDefEqProofs [c_spec_APlain,acall,h102,k102,cutV,hc,h104,k104]
    | true =>
      rw [ht] at k104
      simp -implicitDefEqProofs [c_spec_APlain,acall,h102,k102,cutV,hc,h104,k104,hI]
  | some p =>
    obtain ⟨l1,l2⟩:=cutAt_lens hc
    have k104:con_MailToken [.str p.1]=some (.bool (mTok p.1)):=if_pos (by omega)
    have k105:con_MailDomain [.str p.2]=some (.bool (mDom p.2)):=if_pos (by omega)
    simp only [aPlain,hc]
    by_cases hp:p.1=[]
    · cases hd:mDom p.2 with
      | false =>
        rw [hd] at k105
        simp -implicitDefEqProofs [c_spec_APlain,acall,h102,k102,cutV,hc,h104,k104,h105,k105,hp]
      | true =>
        rw [hd] at k105
        simp -implicitDefEqProofs [c_spec_APlain,acall,h102,k102,cutV,hc,h104,k104,h105,k105,hp,hI]
    · cases ht:mTok p.1 with
      | false =>
        rw [ht] at k104
        simp -implicitDefEqProofs [c_spec_APlain,acall,h102,k102,cutV,hc,h104,k104,h105,k105,hp]
      | true =>
        rw [ht] at k104
        cases hd:mDom p.2 with
        | false =>
          rw [hd] at k105
          simp -implicitDefEqProofs [c_spec_APlain,acall,h102,k102,cutV,hc,h104,k104,h105,k105,hp]
        | true =>
          rw [hd] at k105
          simp -implicitDefEqProofs [c_spec_APlain,acall,h102,k102,cutV,hc,h104,k104,h105,k105,hp,hI]

def tr3 (l:List (L8 × L8 × L8)):List AV:=l.map fun p=>.agg [.str p.1,.str p.2.1,.str p.2.2]
def tc3 (l:List (L8 × L8 × L8)):List AV:=l.flatMap fun p=>[.str p.1,.str p.2.1,.str p.2.2]
@[simp] theorem tr3_nil:tr3 []=[]:=rfl
@[simp] theorem tr3_cons {x l}:tr3 (x :: l)=.agg [.str x.1,.str x.2.1,.str x.2.2] :: tr3 l:=rfl
@[simp] theorem tr3_length {l}:(tr3 l).length=l.length:=by simp [tr3]
@[simp] theorem tc3_nil:tc3 []=[]:=rfl
@[simp] theorem tc3_cons {x:L8 × L8 × L8} {l}:tc3 (x :: l)=.str x.1 :: .str x.2.1 :: .str x.2.2 :: tc3 l:=rfl
@[simp] theorem tc3_app {l m}:tc3 (l ++ m)=tc3 l ++ tc3 m:=by simp [tc3]
@[simp] theorem tc3_length {l:List (L8 × L8 × L8)}:(tc3 l).length=l.length * 3:=by induction l <;> simp_all; omega
@[simp] theorem atoms_tc3 {l}:atoms (tc3 l)=true:=by induction l <;> simp_all
@[simp] theorem killL_tc3 {d l}:killL d (tc3 l)=tc3 l:=by induction l <;> simp_all
@[simp] theorem map_snap_tc3 {n:Nat} {hp:List (Nat × AObj)} {l}:(tc3 l).map (snap (n + 1) hp)=tc3 l:=by induction l <;> simp_all
@[simp] theorem snapWL_tc3 {g:AV → AV} {l}:snapWL g (tc3 l)=tc3 l:=by induction l <;> simp_all
@[simp] theorem hasRefL_tr3 {l}:hasRefL (tr3 l)=false:=by induction l <;> simp_all
@[simp] theorem group_tc3:∀ {l:List (L8 × L8 × L8)},group 3 l.length (tc3 l)=tr3 l
  | []=>rfl
  | x :: l=>by simp [group,group_tc3 (l:=l)]
def tripV (l:List (L8 × L8 × L8)):AV:=match l with | []=>.nilS | _=>.sl 3 (tr3 l)

def con_AProps:List AV → Option AV
  | [.agg cs]=>(asAR cs).map fun r=>tripV r.props
  | _=>none
set_option maxHeartbeats 1000000 in
theorem ok_AProps (Γ:Gam):∀ args r,con_AProps args=some r → runs Γ c_spec_AProps args (fun v=>v=r):=by
  intro args r h
  simp only [con_AProps] at h
  split at h <;> (try simp at h; done)
  rename_i cs
  simp only [Option.map_eq_some_iff] at h
  obtain ⟨r,hr,rfl⟩:=h
  rw [asAR_spec hr]
  have cu:=slP_cells r.ps
  simp only [cells] at cu
  by_cases h1:r.kind=1
  · simp -implicitDefEqProofs [c_spec_AProps,AR.cells,cu,h1,AR.props,tripV,group,tSmtp,nAuth]
  by_cases h2:r.kind=2
  · simp -implicitDefEqProofs [c_spec_AProps,AR.cells,cu,h2,AR.props,tripV,group,tHeader,nD,nI]
  by_cases h3:r.kind=3
  · simp -implicitDefEqProofs [c_spec_AProps,AR.cells,cu,h3,AR.props,tripV,group,tHeader,nD,nFrom,nSender]
  by_cases h4:r.kind=4
  · simp -implicitDefEqProofs [c_spec_AProps,AR.cells,cu,h4,AR.props,tripV,group,tPolicy,nIprev]
  by_cases h5:r.kind=5
  · simp -implicitDefEqProofs [c_spec_AProps,AR.cells,cu,h5,AR.props,tripV,group,tHeader]
  by_cases h6:r.kind=6
  · simp -implicitDefEqProofs [c_spec_AProps,AR.cells,cu,h6,AR.props,tripV,group,tSmtp,nMail,nHelo]
  by_cases h7:r.kind=7
  · simp -implicitDefEqProofs [c_spec_AProps,AR.cells,cu,h7,AR.props,tripV,group,tHeader,nFrom]
  simp -implicitDefEqProofs [c_spec_AProps,AR.cells,cu,h1,h2,h3,h4,h5,h6,h7,AR.props,tripV,group]

def con_AOnly:List AV → Option AV
  | [.agg cs]=>(asAR cs).map fun r=>.agg r.only.cells
  | _=>none
set_option maxHeartbeats 2000000 in
theorem ok_AOnly (Γ:Gam):∀ args r,con_AOnly args=some r → runs Γ c_spec_AOnly args (fun v=>v=r):=by
  intro args r h
  simp only [con_AOnly] at h
  split at h <;> (try simp at h; done)
  rename_i cs
  simp only [Option.map_eq_some_iff] at h
  obtain ⟨r,hr,rfl⟩:=h
  rw [asAR_spec hr]
  have cu:=slP_cells r.ps
  simp only [cells] at cu
  by_cases h0:r.kind=0
  · simp -implicitDefEqProofs [c_spec_AOnly,AR.cells,cu,h0,AR.only,ar0]
  by_cases h1:r.kind=1
  · simp -implicitDefEqProofs [c_spec_AOnly,AR.cells,cu,h1,AR.only,ar0]
  by_cases h2:r.kind=2
  · simp -implicitDefEqProofs [c_spec_AOnly,AR.cells,cu,h2,AR.only,ar0]
  by_cases h3:r.kind=3
  · simp -implicitDefEqProofs [c_spec_AOnly,AR.cells,cu,h3,AR.only,ar0]
  by_cases h4:r.kind=4
  · simp -implicitDefEqProofs [c_spec_AOnly,AR.cells,cu,h4,AR.only,ar0]
  by_cases h5:r.kind=5
  · simp -implicitDefEqProofs [c_spec_AOnly,AR.cells,cu,h5,AR.only,ar0]
  by_cases h6:r.kind=6
  · simp -implicitDefEqProofs [c_spec_AOnly,AR.cells,cu,h6,AR.only,ar0]
  by_cases h7:r.kind=7
  · simp -implicitDefEqProofs [c_spec_AOnly,AR.cells,cu,h7,AR.only,ar0]
  simp -implicitDefEqProofs [c_spec_AOnly,AR.cells,cu,h0,h1,h2,h3,h4,h5,h6,h7,AR.only,ar0]
end Wax


namespace Wax
open Go (IntKind)

def halfP (s:L8):L8 × L8:=match cutAt 46 s with | some q=>q | none=>(s,[])
def AR.iprops (r:AR):List (L8 × L8 × L8):=if r.kind=0 then (r.ps.getD []).map fun p=>((halfP p.1).1,(halfP p.1).2,p.2) else r.props
def infoV (r:AR):AV:=.agg [.str r.meth,.str [],.str r.value,.str r.reason,tripV r.iprops]
def con_AInfoOf:List AV → Option AV
  | [.agg cs]=>match asAR cs with
    | some r=>if 0 ≤ r.kind ∧ r.kind ≤ 8 ∧ (r.kind=0 → (r.ps.getD []).length < half ∧ (∀ p ∈ r.ps.getD [],p.1.length < big)) then some (infoV r) else none
    | none=>none
  | _=>none

theorem tripV_ref (l:List (L8 × L8 × L8)):hasRef (tripV l)=false:=by cases l <;> simp [tripV,← tr3_cons,-tr3_cons]
theorem tripV_cells (l:List (L8 × L8 × L8)):cells (tripV l)=[tripV l]:=by cases l <;> rfl
theorem tripV_atom (l:List (L8 × L8 × L8)):atom (tripV l)=true:=by cases l <;> rfl
theorem tripV_kill (l:List (L8 × L8 × L8)) (d:Nat):kill d (tripV l)=tripV l:=by cases l <;> rfl

set_option maxHeartbeats 2000000 in
theorem ok_AInfoOf (Γ:Gam) (h200:Γ.fn 200=con_AMethods) (h201:Γ.fn 201=con_AProps) (h102:Γ.fn 102=con_MailHalves):∀ args r,con_AInfoOf args=some r → runs Γ c_spec_AInfoOf args (fun v=>v=r):=by
  intro args r h
  simp only [con_AInfoOf] at h
  split at h <;> (try simp at h; done)
  rename_i cs
  split at h <;> (try simp at h; done)
  rename_i r hr
  obtain ⟨⟨hk0,hk8,hpk⟩,rfl⟩:=ite_some h
  clear h
  rw [asAR_spec hr]
  clear hr cs
  have cu:=slP_cells r.ps
  simp only [cells] at cu
  by_cases h0:r.kind=0
  · obtain ⟨hps,hkl⟩:=hpk h0
    clear hpk
    have hm:r.meth=r.method:=by simp only [AR.meth,h0,if_true]
    have hi:r.iprops=(r.ps.getD []).map fun p=>((halfP p.1).1,(halfP p.1).2,p.2):=by simp only [AR.iprops,h0,if_true]
    have ha:=slP_alen r.ps
    simp only [infoV,hm,hi]
    have hcase:r.ps.getD []=[] ∨ r.ps=some (r.ps.getD []):=by cases r.ps <;> simp
    generalize hL:r.ps.getD []=L at *
    simp only [half] at hps
    simp -implicitDefEqProofs [-alen,c_spec_AInfoOf,AR.cells,cu,h0,ha,hL]
    refine awp_loop2 (σ:=List KVp × List KVp) (fun q=>⟨[(2,.ref 2 0),(3,.ref 3 0),(20,slP r.ps),(21,.int .i64 L.length),(22,.int .i64 q.1.length)],grH 41 q.1.length (tc3 (q.1.map fun p=>((halfP p.1).1,(halfP p.1).2,p.2))) ++ [(3,.cells [.str r.method,.str [],.str r.value,.str r.reason,grV 41 3 q.1.length]),(2,.cells [.str [],.str [],.str [],.str [],.nilS])]⟩)
      (fun q=>L=q.1 ++ q.2) (fun q=>q.2.length) ([],L) (by simp) (by simp) ?_
    rintro ⟨pre,post⟩ e1 LQ hLQ
    simp only at e1
    cases post with
    | nil =>
      simp only [List.append_nil] at e1
      subst e1
      have hnl:¬ ((L.length:Int) < (L.length:Int)):=by omega
      cases L with
      | nil=>simp -implicitDefEqProofs [b_spec_AInfoOf_1,t_spec_AInfoOf_2,tripV]
      | cons x L =>
        have hg:=group_tc3 (l:=(x :: L).map fun p=>((halfP p.1).1,(halfP p.1).2,p.2))
        simp only [List.length_map,List.length_cons,List.map_cons,tc3_cons,tr3_cons] at hg
        simp -implicitDefEqProofs [b_spec_AInfoOf_1,t_spec_AInfoOf_2,tripV,hg]
        try omega
    | cons x post =>
      have hs:=hcase.resolve_left (by rw [e1]; simp)
      rw [hs] at hLQ ⊢
      simp only [slP] at hLQ ⊢
      have hlen:L.length=pre.length + (post.length + 1):=by rw [e1]; simp
      have hlt:(pre.length:Int) < (L.length:Int):=by omega
      have g:L[pre.length]? = some x:=by rw [e1]; exact get_mid rfl
      have g2:(pr2 L)[pre.length]? = some (.agg [.str x.1,.str x.2]):=by simp [pr2,g]
      have ew:IntKind.i64.wrap ((pre.length:Int) + 1)=(pre.length:Int) + 1:=wrap64 (by omega) (by omega)
      have k102:con_MailHalves [.str x.1,.int .u8 46]=some (cutV 46 x.1):=if_pos (hkl x (by rw [e1]; simp))
      obtain ⟨z,hz⟩:∃ z:L8 × L8 × AV,cutV 46 x.1=.tup [.str z.1,.str z.2.1,z.2.2] ∧ halfP x.1=(z.1,z.2.1):=by
        simp only [cutV,halfP]
        cases hc:cutAt 46 x.1 with
        | none=>exact ⟨(x.1,[],.bool false),rfl,rfl⟩
        | some q=>exact ⟨(q.1,q.2,.bool true),rfl,rfl⟩
      rw [hz.1] at k102
      have hz3:hasRef z.2.2=false:=by
        have h1:=hz.1
        simp only [cutV] at h1
        cases hc:cutAt 46 x.1 with
        | none=>rw [hc] at h1; simp at h1; rw [← h1.2.2]; rfl
        | some q=>rw [hc] at h1; simp at h1; rw [← h1.2.2]; rfl
      have f:∀ st,norm [2,3,20,21,22] st=⟨[(2,.ref 2 0),(3,.ref 3 0),(20,.sl 2 (pr2 L)),(21,.int .i64 L.length),(22,.int .i64 ((pre.length:Int) + 1))],[(41,.cells (tc3 (pre.map fun p=>((halfP p.1).1,(halfP p.1).2,p.2)) ++ [.str z.1,.str z.2.1,.str x.2])),(3,.cells [.str r.method,.str [],.str r.value,.str r.reason,.msl 41 3 0 (pre.length + 1)]),(2,.cells [.str [],.str [],.str [],.str [],.nilS])]⟩ → LQ st:=by
        intro st hst
        refine hLQ (pre ++ [x],post) (by rw [e1]; simp) (by simp) st ?_
        rw [hst]; simp [hz.2]
      cases pre with
      | nil =>
        simp only [List.nil_append] at e1
        subst e1
        have ew0:IntKind.i64.wrap 1=1:=rfl
        have hl0:(0:Int) < (post.length:Int) + 1:=by omega
        simp -implicitDefEqProofs [b_spec_AInfoOf_1,hl0,ew0,acall,h102,k102,hz3]
        exact f _ (by simp)
      | cons y pre =>
        have hln2:L.length=pre.length + 1 + (post.length + 1):=hlen
        have hlt1:(pre.length:Int) + 1 < (L.length:Int):=by omega
        have g1:L[pre.length + 1]? = some x:=g
        have g3:(pr2 L)[pre.length + 1]? = some (.agg [.str x.1,.str x.2]):=g2
        have ew1:IntKind.i64.wrap ((pre.length:Int) + 1 + 1)=(pre.length:Int) + 1 + 1:=wrap64 (by omega) (by omega)
        have et:((pre.length:Int) + 1).toNat=pre.length + 1:=by omega
        have hle:(0:Int) ≤ (pre.length:Int) + 1:=by omega
        have tk:List.take ((pre.length + 1) * 3) (AV.str (halfP y.1).1 :: AV.str (halfP y.1).2 :: AV.str y.2 :: tc3 (pre.map fun p=>((halfP p.1).1,(halfP p.1).2,p.2)))=AV.str (halfP y.1).1 :: AV.str (halfP y.1).2 :: AV.str y.2 :: tc3 (pre.map fun p=>((halfP p.1).1,(halfP p.1).2,p.2)):=List.take_of_length_le (by simp; omega)
        simp -implicitDefEqProofs [b_spec_AInfoOf_1,hlt1,g1,g3,ew1,et,hle,acall,h102,k102,hz3,tk]
        exact ⟨⟨by omega,by omega⟩,f _ (by simp)⟩
  · have hi:r.iprops=r.props:=by simp only [AR.iprops,if_neg h0]
    obtain ⟨q,hq,hqm⟩:∃ q:Nat,r.kind - 1=(q:Int) ∧ aMeths[q]? = some r.meth:=by
      refine ⟨(r.kind - 1).toNat,by omega,?_⟩
      have hlt:(r.kind - 1).toNat < aMeths.length:=by simp [aMeths]; omega
      simp only [AR.meth,if_neg h0,List.getD_eq_getElem?_getD,List.getElem?_eq_getElem hlt,Option.getD_some]
    have ew:IntKind.i64.wrap (r.kind - 1)=(q:Int):=by rw [wrap64 (by omega) (by omega)]; exact hq
    have k200:con_AMethods []=some (.sl 1 (strsA aMeths)):=rfl
    have k201:con_AProps [.agg r.cells]=some (tripV r.props):=by simp [con_AProps,asAR_cells]
    have tr:=tripV_ref r.props
    have tc:=tripV_cells r.props
    have ta:=tripV_atom r.props
    have tk:=tripV_kill r.props
    simp only [cells] at tc
    simp only [infoV,hi]
    generalize tripV r.props=V at *
    generalize hM:aMeths=Ms at *
    generalize r.meth=m at *
    simp only [AR.cells] at k201
    simp -implicitDefEqProofs [c_spec_AInfoOf,t_spec_AInfoOf_3,AR.cells,cu,h0,acall,h200,k200,h201,k201,ew,hqm,tr,tc,ta,tk]

end Wax


namespace Wax
@[simp 2000] theorem guardK_tt {Γ:Gam} {dst:Option Nat} {op:SOp} {g:Nat} {r:List SO} {dd:List (List Nat)} {st:St} {K:St → Prop}:guardK (.bool true) Γ dst op g true r dd st K=opsK Γ (⟨dst,op,none⟩ :: r) dd ⟨(g,.bool true) :: st.fr,st.hp⟩ K:=by simp [guardK]
@[simp 2000] theorem guardK_ff {Γ:Gam} {dst:Option Nat} {op:SOp} {g:Nat} {r:List SO} {dd:List (List Nat)} {st:St} {K:St → Prop}:guardK (.bool false) Γ dst op g false r dd st K=opsK Γ (⟨dst,op,none⟩ :: r) dd ⟨(g,.bool false) :: st.fr,st.hp⟩ K:=by simp [guardK]
@[simp 2000] theorem guardK_tf {Γ:Gam} {dst:Option Nat} {op:SOp} {g:Nat} {r:List SO} {dd:List (List Nat)} {st:St} {K:St → Prop}:guardK (.bool true) Γ dst op g false r dd st K=opsK Γ r (dTl dd) ⟨rmF (dHd dd) (putS ((g,.bool true) :: st.fr) dst (.tup [])),st.hp⟩ K:=by simp [guardK]
@[simp 2000] theorem guardK_ft {Γ:Gam} {dst:Option Nat} {op:SOp} {g:Nat} {r:List SO} {dd:List (List Nat)} {st:St} {K:St → Prop}:guardK (.bool false) Γ dst op g true r dd st K=opsK Γ r (dTl dd) ⟨rmF (dHd dd) (putS ((g,.bool false) :: st.fr) dst (.tup [])),st.hp⟩ K:=by simp [guardK]
end Wax


namespace Wax
open Go (IntKind)

def arSame (a b:AR):Bool:=decide (a.norm=b.norm)
theorem arSame_iff {a b:AR}:arSame a b=true ↔ a.norm=b.norm:=by simp [arSame]
theorem norm_eq_iff {a b:AR}:a.norm=b.norm ↔ ((a.ps.getD []=b.ps.getD []) ∧ a.kind=b.kind ∧ a.method=b.method ∧ a.value=b.value ∧ a.reason=b.reason ∧ a.domain=b.domain ∧ a.ident=b.ident ∧ a.fr=b.fr ∧ a.sender=b.sender ∧ a.ip=b.ip ∧ a.helo=b.helo ∧ a.auth=b.auth ∧ a.hkey=b.hkey ∧ a.hval=b.hval ∧ a.remote=b.remote ∧ a.oldest=b.oldest):=by
  have hn:nilO (a.ps.getD [])=nilO (b.ps.getD []) ↔ a.ps.getD []=b.ps.getD []:=by
    constructor
    · intro h
      have:=congrArg (fun x=>x.getD []) h
      simpa [nilO_getD] using this
    · intro h; rw [h]
  simp only [AR.norm,AR.mk.injEq,hn]
  constructor
  · rintro ⟨h0,h1,h2,h3,h4,h5,h6,h7,h8,h9,h10,h11,h12,h13,h14,z⟩
    exact ⟨z,h0,h1,h2,h3,h4,h5,h6,h7,h8,h9,h10,h11,h12,h13,h14⟩
  · rintro ⟨z,h0,h1,h2,h3,h4,h5,h6,h7,h8,h9,h10,h11,h12,h13,h14⟩
    exact ⟨h0,h1,h2,h3,h4,h5,h6,h7,h8,h9,h10,h11,h12,h13,h14,z⟩
def con_ASame:List AV → Option AV
  | [.agg x,.agg y]=>match asAR x,asAR y with
    | some a,some b=>if (a.ps.getD []).length < half ∧ (b.ps.getD []).length < half then some (.bool (arSame a b)) else none
    | _,_=>none
  | _=>none

set_option maxRecDepth 100000 in
set_option maxHeartbeats 4000000 in
theorem as_tail (Γ:Gam) (u v:AV) (a1 b1 a2 b2 a3 b3 a4 b4 a5 b5 a6 b6 a7 b7 a8 b8 a9 b9 a10 b10 a11 b11 a12 b12 a13 b13:L8) (a0 b0 a14 b14:Int) (ex:List (Nat × AV)) (R:Bool) (hR:R=decide (a0=b0 ∧ a1=b1 ∧ a2=b2 ∧ a3=b3 ∧ a4=b4 ∧ a5=b5 ∧ a6=b6 ∧ a7=b7 ∧ a8=b8 ∧ a9=b9 ∧ a10=b10 ∧ a11=b11 ∧ a12=b12 ∧ a13=b13 ∧ a14=b14)) :
    awp Γ t_spec_ASame_2 (finQ [.t 4] fun w=>w=.bool R) ⟨(2,.ptr [.int .i64 a0,.str a1,.str a2,.str a3,.str a4,.str a5,.str a6,.str a7,.str a8,.str a9,.str a10,.str a11,.str a12,.str a13,.int .i64 a14,u]) :: (3,.ptr [.int .i64 b0,.str b1,.str b2,.str b3,.str b4,.str b5,.str b6,.str b7,.str b8,.str b9,.str b10,.str b11,.str b12,.str b13,.int .i64 b14,v]) :: ex,[]⟩:=by
  subst hR
  by_cases c0:a0=b0
  case neg=>simp -implicitDefEqProofs [t_spec_ASame_2,c0]
  by_cases c1:a1=b1
  case neg=>simp -implicitDefEqProofs [t_spec_ASame_2,c0,c1]
  by_cases c2:a2=b2
  case neg=>simp -implicitDefEqProofs [t_spec_ASame_2,c0,c1,c2]
  by_cases c3:a3=b3
  case neg=>simp -implicitDefEqProofs [t_spec_ASame_2,c0,c1,c2,c3]
  by_cases c4:a4=b4
  case neg=>simp -implicitDefEqProofs [t_spec_ASame_2,c0,c1,c2,c3,c4]
  by_cases c5:a5=b5
  case neg=>simp -implicitDefEqProofs [t_spec_ASame_2,c0,c1,c2,c3,c4,c5]
  by_cases c6:a6=b6
  case neg=>simp -implicitDefEqProofs [t_spec_ASame_2,c0,c1,c2,c3,c4,c5,c6]
  by_cases c7:a7=b7
  case neg=>simp -implicitDefEqProofs [t_spec_ASame_2,c0,c1,c2,c3,c4,c5,c6,c7]
  by_cases c8:a8=b8
  case neg=>simp -implicitDefEqProofs [t_spec_ASame_2,c0,c1,c2,c3,c4,c5,c6,c7,c8]
  by_cases c9:a9=b9
  case neg=>simp -implicitDefEqProofs [t_spec_ASame_2,c0,c1,c2,c3,c4,c5,c6,c7,c8,c9]
  by_cases c10:a10=b10
  case neg=>simp -implicitDefEqProofs [t_spec_ASame_2,c0,c1,c2,c3,c4,c5,c6,c7,c8,c9,c10]
  by_cases c11:a11=b11
  case neg=>simp -implicitDefEqProofs [t_spec_ASame_2,c0,c1,c2,c3,c4,c5,c6,c7,c8,c9,c10,c11]
  by_cases c12:a12=b12
  case neg=>simp -implicitDefEqProofs [t_spec_ASame_2,c0,c1,c2,c3,c4,c5,c6,c7,c8,c9,c10,c11,c12]
  by_cases c13:a13=b13
  case neg=>simp -implicitDefEqProofs [t_spec_ASame_2,c0,c1,c2,c3,c4,c5,c6,c7,c8,c9,c10,c11,c12,c13]
  by_cases c14:a14=b14
  · simp -implicitDefEqProofs [t_spec_ASame_2,c0,c1,c2,c3,c4,c5,c6,c7,c8,c9,c10,c11,c12,c13,c14]
  · simp -implicitDefEqProofs [t_spec_ASame_2,c0,c1,c2,c3,c4,c5,c6,c7,c8,c9,c10,c11,c12,c13,c14]

set_option maxHeartbeats 2000000 in
theorem ok_ASame (Γ:Gam):∀ args r,con_ASame args=some r → runs Γ c_spec_ASame args (fun v=>v=r):=by
  intro args r h
  simp only [con_ASame] at h
  split at h <;> (try simp at h; done)
  rename_i x y
  split at h <;> (try simp at h; done)
  rename_i a b ha hb
  obtain ⟨⟨la,lb⟩,rfl⟩:=ite_some h
  clear h
  rw [asAR_spec ha,asAR_spec hb]
  clear ha hb x y
  have cua:=slP_cells a.ps
  have cub:=slP_cells b.ps
  simp only [cells] at cua cub
  have lea:=slP_alen a.ps
  have leb:=slP_alen b.ps
  have T:=fun ex R hR=>as_tail Γ (slP a.ps) (slP b.ps) a.method b.method a.value b.value a.reason b.reason a.domain b.domain a.ident b.ident a.fr b.fr a.sender b.sender a.ip b.ip a.helo b.helo a.auth b.auth a.hkey b.hkey a.hval b.hval a.remote b.remote a.kind b.kind a.oldest b.oldest ex R hR
  have ni:=norm_eq_iff (a:=a) (b:=b)
  have hca:a.ps.getD []=[] ∨ a.ps=some (a.ps.getD []):=by cases a.ps <;> simp
  have hcb:b.ps.getD []=[] ∨ b.ps=some (b.ps.getD []):=by cases b.ps <;> simp
  have hS1:a.ps.getD [] ≠ b.ps.getD [] → arSame a b=false:=by
    intro h; rw [Bool.eq_false_iff,ne_eq,arSame_iff,ni]; exact fun q=>h q.1
  have hS2:a.ps.getD []=b.ps.getD [] → arSame a b=decide (a.kind=b.kind ∧ a.method=b.method ∧ a.value=b.value ∧ a.reason=b.reason ∧ a.domain=b.domain ∧ a.ident=b.ident ∧ a.fr=b.fr ∧ a.sender=b.sender ∧ a.ip=b.ip ∧ a.helo=b.helo ∧ a.auth=b.auth ∧ a.hkey=b.hkey ∧ a.hval=b.hval ∧ a.remote=b.remote ∧ a.oldest=b.oldest):=by
    intro h
    simp only [arSame]
    rw [decide_eq_decide,ni]
    exact ⟨fun q=>q.2,fun q=>⟨h,q⟩⟩
  generalize arSame a b=R at *
  clear ni
  generalize hLa:a.ps.getD []=La at *
  generalize hLb:b.ps.getD []=Lb at *
  simp only [half] at la lb
  by_cases hlen:(La.length:Int)=(Lb.length:Int)
  · simp -implicitDefEqProofs [-alen,c_spec_ASame,AR.cells,cua,cub,lea,leb,hlen,hLa,hLb]
    refine awp_loop2 (σ:=List KVp × List KVp × List KVp × List KVp) (fun q=>⟨[(2,.ptr [.int .i64 a.kind,.str a.method,.str a.value,.str a.reason,.str a.domain,.str a.ident,.str a.fr,.str a.sender,.str a.ip,.str a.helo,.str a.auth,.str a.hkey,.str a.hval,.str a.remote,.int .i64 a.oldest,slP a.ps]),(3,.ptr [.int .i64 b.kind,.str b.method,.str b.value,.str b.reason,.str b.domain,.str b.ident,.str b.fr,.str b.sender,.str b.ip,.str b.helo,.str b.auth,.str b.hkey,.str b.hval,.str b.remote,.int .i64 b.oldest,slP b.ps]),(15,.int .i64 Lb.length),(16,.int .i64 q.1.length)],[]⟩)
      (fun q=>La=q.1 ++ q.2.1 ∧ Lb=q.2.2.1 ++ q.2.2.2 ∧ q.1=q.2.2.1) (fun q=>q.2.1.length) ([],La,[],Lb) ?_ (by simp) ?_
    · simp
    rintro ⟨p1,q1,p2,q2⟩ ⟨e1,e2,e3⟩ LQ hLQ
    simp only at e1 e2 e3
    subst e3
    have hn:q1.length=q2.length:=by
      have h1:=congrArg List.length e1
      have h2:=congrArg List.length e2
      simp at h1 h2; omega
    cases q1 with
    | nil =>
      have hq2:q2=[]:=by cases q2 <;> simp at hn; rfl
      subst hq2
      simp only [List.append_nil] at e1 e2
      have hnl:¬ ((p1.length:Int) < (Lb.length:Int)):=by rw [e2]; omega
      simp -implicitDefEqProofs [b_spec_ASame_1,hnl]
      exact T _ R (hS2 (by rw [e1,e2]))
    | cons x q1 =>
      cases q2 with
      | nil=>simp at hn
      | cons y q2 =>
        have sa:=hca.resolve_left (by rw [e1]; simp)
        have sb:=hcb.resolve_left (by rw [e2]; simp)
        rw [sa,sb] at hLQ ⊢
        simp only [slP] at hLQ ⊢
        have hlb:Lb.length=p1.length + (q2.length + 1):=by rw [e2]; simp
        have hlt:(p1.length:Int) < (Lb.length:Int):=by omega
        have g1:La[p1.length]? = some x:=by rw [e1]; exact get_mid rfl
        have g2:Lb[p1.length]? = some y:=by rw [e2]; exact get_mid rfl
        have ew:IntKind.i64.wrap ((p1.length:Int) + 1)=(p1.length:Int) + 1:=wrap64 (by omega) (by omega)
        by_cases hxy:x=y
        · subst hxy
          simp -implicitDefEqProofs [b_spec_ASame_1,hlt,g1,g2,ew,leafEqL,leafEq]
          refine hLQ (p1 ++ [x],q1,p1 ++ [x],q2) ⟨by rw [e1]; simp,by rw [e2]; simp,rfl⟩ (by simp) _ ?_
          simp
        · have hne:La ≠ Lb:=by
            rw [e1,e2]
            intro h
            have:=List.append_cancel_left h
            simp only [List.cons.injEq] at this
            exact hxy this.1
          have hd:(decide (x.1=y.1) && decide (x.2=y.2))=false:=by
            by_cases h1:x.1=y.1
            · have:¬ x.2=y.2:=fun h2=>hxy (Prod.ext h1 h2)
              simp [this]
            · simp [h1]
          rw [hS1 hne]
          simp -implicitDefEqProofs [b_spec_ASame_1,hlt,g1,g2,ew,leafEqL,leafEq,hd]
  · have hne:La ≠ Lb:=fun h=>hlen (by rw [h])
    have hlen':¬ La.length=Lb.length:=fun h=>hlen (by rw [h])
    rw [hS1 hne]
    simp -implicitDefEqProofs [-alen,c_spec_ASame,AR.cells,cua,cub,lea,leb,hlen,hlen',hLa,hLb]
end Wax


namespace Wax
open Go

def lkF:List (Nat × SFn) → Nat → Option SFn
  | [],_=>none
  | (i,v) :: r,j=>if i == j then some v else lkF r j

inductive TbOk (P:Program) (T:Tab):List (Nat × SFn) → Prop where
  | nil:TbOk P T []
  | cons {f g:Nat} {fn:Func} {sfn:SFn} {L:Lay} {r:List (Nat × SFn)} (hf:lkN T.fns f=some g) (hb:hasBody P f=true) (hfn:P.funcs[f]? = some fn) (hc:compFn P T L fn=some sfn) (hr:TbOk P T r):TbOk P T ((g,sfn) :: r)

theorem TbOk.get {P:Program} {T:Tab}:∀ {tb:List (Nat × SFn)},TbOk P T tb → ∀ {g:Nat} {sfn:SFn},lkF tb g=some sfn → ∃ f fn L,lkN T.fns f=some g ∧ hasBody P f=true ∧ P.funcs[f]? = some fn ∧ compFn P T L fn=some sfn
  | _,.nil,g,sfn,h=>by simp [lkF] at h
  | _,.cons (f:=f) (fn:=fn) (L:=L) hf hb hfn hc hr,g,sfn,h=>by
    simp only [lkF] at h
    split at h
    · rename_i e
      simp only [beq_iff_eq] at e
      simp only [Option.some.injEq] at h
      subst e; subst h
      exact ⟨f,fn,L,hf,hb,hfn,hc⟩
    · exact hr.get h

end Wax


namespace Wax
open Go
def aIn:List UInt8:=[97,59,32,100,107,105,109,61,112,97,115,115,32,104,101,97,100,101,114,46,100,61,98]
def aOut:AV:=.tup [.str [97],.sl 16 [.agg [.int .i64 2,.str [],.str [112,97,115,115],.str [],.str [98],.str [],.str [],.str [],.str [],.str [],.str [],.str [],.str [],.str [],.int .i64 0,.nilS]],.bool true]
end Wax


namespace Wax
open Go (IntKind)
def tIn:L8:=[118,61,68,77,65,82,67,49,59,32,112,61,110,111,110,101]
def con_awake:List AV → Option AV
  | []=>some (.bool true)
  | _=>none
theorem tIn_ok:mpV (mdText tIn)=.tup [.agg (MR.cells { mr0 with adkim:=sR,aspf:=sR,p:=sNone }),.bool true]:=by rfl
end Wax


namespace Wax
open Go (IntKind)

theorem adIn:adText aIn=some ([97],[.dkim [112,97,115,115] [] [98] []]):=by kernel_rfl
theorem au_ok_awake (Γ:Gam) (h144:Γ.fn 144=con_AParse) (h133:Γ.fn 133=con_MParse):∀ args r,con_awake args=some r → runs Γ c_laws_awake args (fun v=>v=r):=by
  intro args r h
  simp only [con_awake] at h
  split at h <;> (try simp at h; done)
  injection h with h
  subst h
  have k:con_AParse [.str [97,59,32,100,107,105,109,61,112,97,115,115,32,104,101,97,100,101,114,46,100,61,98]]=some aOut:=by
    have e:aIn.length < qtr ∧ plain aIn=true:=⟨by simp [aIn,qtr],by kernel_rfl⟩
    show con_AParse [.str aIn]=_
    simp only [con_AParse]
    rw [if_pos e,adIn]
    rfl
  have k2:con_MParse [.str tIn]=some (.tup [.agg (MR.cells { mr0 with adkim:=sR,aspf:=sR,p:=sNone }),.bool true]):=by
    have e:tIn.length < mid ∧ plain tIn=true:=⟨by simp [tIn,mid],by kernel_rfl⟩
    simp only [con_MParse]
    rw [if_pos e,tIn_ok]
  simp only [aOut] at k
  simp only [MR.cells,mr0,slO_none,tIn,sR,sNone] at k2
  simp -implicitDefEqProofs [c_laws_awake,acall,h144,h133,k,k2,sNone]

end Wax


namespace Wax
open Go (IntKind)

def asARs:List AV → Option (List AR)
  | []=>some []
  | .agg cs :: r=>match asAR cs,asARs r with
    | some x,some l=>some (x :: l)
    | _,_=>none
  | _ :: _=>none
def slAR:AV → Option (List AR)
  | .nilS=>some []
  | .sl es xs=>if es=16 then asARs xs else none
  | _=>none
theorem asARs_arA:∀ l,asARs (arA l)=some l
  | []=>rfl
  | x :: l=>by simp [asARs,asAR_cells,asARs_arA l]
theorem asARs_spec:∀ {xs:List AV} {l:List AR},asARs xs=some l → xs=arA l
  | [],l,h=>by simp [asARs] at h; subst h; rfl
  | v :: r,l,h=>by
    unfold asARs at h
    split at h
    · rename_i e; simp at e
    · rename_i cs r' e
      simp at e; obtain ⟨rfl,rfl⟩:=e
      split at h
      · rename_i x l' h1 h2
        simp at h; subst h
        rw [asAR_spec h1,asARs_spec h2]; rfl
      · simp at h
    · simp at h
theorem slAR_cases {v:AV} {l} (h:slAR v=some l):(v=.nilS ∧ l=[]) ∨ v=.sl 16 (arA l):=by
  cases v <;> simp [slAR] at h
  · left; exact ⟨rfl,h⟩
  · right; obtain ⟨e,h⟩:=h; rw [asARs_spec h,e]
section
variable {u:AV} {l:List AR} (h:slAR u=some l)
include h
theorem sar_kill (d:Nat):kill d u=u:=by rcases slAR_cases h with ⟨rfl,_⟩ | rfl <;> rfl
theorem sar_ref:hasRef u=false:=by rcases slAR_cases h with ⟨rfl,_⟩ | rfl <;> rfl
theorem sar_snapW (g:AV → AV):snapW g u=u:=by rcases slAR_cases h with ⟨rfl,_⟩ | rfl <;> rfl
theorem sar_alen (hp:List (Nat × AObj)):alen hp 1 u=some l.length:=by rcases slAR_cases h with ⟨rfl,rfl⟩ | rfl <;> simp [alen]
theorem sar_ne (hn:l ≠ []):u=.sl 16 (arA l):=by
  rcases slAR_cases h with ⟨_,rfl⟩ | rfl
  · exact absurd rfl hn
  · rfl
end
theorem slAR_arV (l:List AR):slAR (arV l)=some l:=by cases l <;> simp [arV,slAR,← arA_cons,asARs_arA,-arA_cons]

end Wax


namespace Wax
open Go (IntKind)

def con_zzFits4:List AV → Option AV
  | [.agg [.str a,.str b]]=>some (.bool (fits14 a b))
  | _=>none
theorem ok_zzFits4 (Γ:Gam):∀ args r,con_zzFits4 args=some r → runs Γ c_laws_zzFits4 args (fun v=>v=r):=by
  intro args r h
  simp only [con_zzFits4] at h
  split at h <;> simp at h
  rename_i a b
  subst h
  by_cases h1:(2147483647:Int) < (a.length:Int)
  · have e:¬ a.length ≤ 2147483647:=by omega
    simp -implicitDefEqProofs [c_laws_zzFits4,h1,fits14,e]
  · have e:a.length ≤ 2147483647:=by omega
    by_cases h2:(2147483647:Int) < (b.length:Int)
    · have e2:¬ b.length ≤ 2147483647:=by omega
      simp -implicitDefEqProofs [c_laws_zzFits4,h1,h2,fits14,e,e2]
    · have e2:b.length ≤ 2147483647:=by omega
      simp -implicitDefEqProofs [c_laws_zzFits4,h1,h2,fits14,e,e2]


def con_zzFits3:List AV → Option AV
  | [u]=>match slPairs u with
    | some l=>if l.length < 9223372036854775808 then some (.bool (fits13 l)) else none
    | none=>none
  | _=>none
theorem ok_zzFits3 (Γ:Gam) (h211:Γ.fn 211=con_zzFits4):∀ args r,con_zzFits3 args=some r → runs Γ c_laws_zzFits3 args (fun v=>v=r):=by
  intro args r h
  simp only [con_zzFits3] at h
  split at h <;> (try simp at h; done)
  rename_i u
  split at h <;> (try simp at h; done)
  rename_i l hl
  obtain ⟨h1,rfl⟩:=ite_some h
  clear h
  by_cases hb:(2147483647:Int) < (l.length:Int)
  · have e:¬ l.length ≤ 2147483647:=by omega
    simp -implicitDefEqProofs [-alen,c_laws_zzFits3,slp_alen hl,hb,fits13,e]
  · have e:l.length ≤ 2147483647:=by omega
    simp -implicitDefEqProofs [-alen,c_laws_zzFits3,slp_alen hl,hb]
    refine awp_loop2 (σ:=List KVp × List KVp) (fun p=>⟨[(8,u),(9,.int .i64 l.length),(10,.int .i64 p.1.length)],[]⟩)
      (fun p=>l=p.1 ++ p.2 ∧ (p.1.all fun t=>fits14 t.1 t.2)=true) (fun p=>p.2.length) ([],l) (by simp) (by simp) ?_
    rintro ⟨pre,post⟩ ⟨e1,e2⟩ LQ hLQ
    simp only at e1 e2
    cases post with
    | nil =>
      simp only [List.append_nil] at e1
      subst e1
      have:fits13 l=true:=by simp only [fits13,e2,e]; rfl
      simp -implicitDefEqProofs [b_laws_zzFits3_1,t_laws_zzFits3_2,this]
    | cons x post =>
      obtain ⟨a,b⟩:=x
      have hu:=slp_ne hl (by rw [e1]; simp)
      subst hu
      have hlen:l.length=pre.length + (post.length + 1):=by rw [e1]; simp
      have hlt:(pre.length:Int) < (l.length:Int):=by omega
      have ew:IntKind.i64.wrap ((pre.length:Int) + 1)=(pre.length:Int) + 1:=wrap64 (by omega) (by omega)
      have g:l[pre.length]? = some (a,b):=by rw [e1]; exact get_mid rfl
      cases hf:fits14 a b with
      | true =>
        simp -implicitDefEqProofs [b_laws_zzFits3_1,hlt,g,acall,h211,con_zzFits4,hf,ew]
        exact hLQ (pre ++ [(a,b)],post) ⟨by rw [e1]; simp,by simp only [List.all_append,e2,List.all_cons,hf]; rfl⟩ (by simp) _ (by simp)
      | false =>
        have:fits13 l=false:=by
          have:(l.all fun t=>fits14 t.1 t.2)=false:=by rw [e1]; simp [hf]
          simp only [fits13,this,Bool.and_false]
        simp -implicitDefEqProofs [b_laws_zzFits3_1,hlt,g,acall,h211,con_zzFits4,hf,this]


def lenB (s:L8):Bool:=decide (s.length ≤ 2147483647)
def fit2 (r:AR):Bool:=lenB r.method && (lenB r.value && (lenB r.reason && (lenB r.domain && (lenB r.ident && (lenB r.fr && (lenB r.sender && (lenB r.ip && (lenB r.helo && (lenB r.auth && (lenB r.hkey && (lenB r.hval && (lenB r.remote && fits13 (r.ps.getD [])))))))))))))
def con_zzFits2:List AV → Option AV
  | [.agg cs]=>match asAR cs with
    | some r=>if (r.ps.getD []).length < 9223372036854775808 then some (.bool (fit2 r)) else none
    | none=>none
  | _=>none
theorem lenB_f {s:L8} (h:(2147483647:Int) < (s.length:Int)):lenB s=false:=decide_eq_false (by omega)
theorem lenB_t {s:L8} (h:¬ (2147483647:Int) < (s.length:Int)):lenB s=true:=decide_eq_true (by omega)
set_option maxRecDepth 100000 in
set_option maxHeartbeats 4000000 in
theorem ok_zzFits2 (Γ:Gam) (h210:Γ.fn 210=con_zzFits3):∀ args r,con_zzFits2 args=some r → runs Γ c_laws_zzFits2 args (fun v=>v=r):=by
  intro args r h
  simp only [con_zzFits2] at h
  split at h <;> (try simp at h; done)
  rename_i cs
  split at h <;> (try simp at h; done)
  rename_i r hr
  obtain ⟨h1,rfl⟩:=ite_some h
  clear h
  rw [asAR_spec hr]
  obtain ⟨kind,method,value,reason,domain,ident,fr,sender,ip,helo,auth,hkey,hval,remote,oldest,ps⟩:=r
  simp only at h1
  have k3:con_zzFits3 [slP ps]=some (.bool (fits13 (ps.getD []))):=by
    simp only [con_zzFits3,slP_pairs]
    exact if_pos h1
  have cu:=slP_cells ps
  simp only [cells] at cu
  have ca:=slP_atom ps
  have cr:=slP_ref ps
  have ck:=slP_kill ps
  simp only [fit2,AR.cells]
  by_cases q0:(2147483647:Int) < (method.length:Int)
  · have e:=lenB_f q0
    simp -implicitDefEqProofs [c_laws_zzFits2,cu,ca,cr,ck,q0,e]
  have e0:=lenB_t q0
  simp only [e0,Bool.true_and]
  by_cases q1:(2147483647:Int) < (value.length:Int)
  · have e:=lenB_f q1
    simp -implicitDefEqProofs [c_laws_zzFits2,cu,ca,cr,ck,q0,q1,e]
  have e1:=lenB_t q1
  simp only [e1,Bool.true_and]
  by_cases q2:(2147483647:Int) < (reason.length:Int)
  · have e:=lenB_f q2
    simp -implicitDefEqProofs [c_laws_zzFits2,cu,ca,cr,ck,q0,q1,q2,e]
  have e2:=lenB_t q2
  simp only [e2,Bool.true_and]
  by_cases q3:(2147483647:Int) < (domain.length:Int)
  · have e:=lenB_f q3
    simp -implicitDefEqProofs [c_laws_zzFits2,cu,ca,cr,ck,q0,q1,q2,q3,e]
  have e3:=lenB_t q3
  simp only [e3,Bool.true_and]
  by_cases q4:(2147483647:Int) < (ident.length:Int)
  · have e:=lenB_f q4
    simp -implicitDefEqProofs [c_laws_zzFits2,cu,ca,cr,ck,q0,q1,q2,q3,q4,e]
  have e4:=lenB_t q4
  simp only [e4,Bool.true_and]
  by_cases q5:(2147483647:Int) < (fr.length:Int)
  · have e:=lenB_f q5
    simp -implicitDefEqProofs [c_laws_zzFits2,cu,ca,cr,ck,q0,q1,q2,q3,q4,q5,e]
  have e5:=lenB_t q5
  simp only [e5,Bool.true_and]
  by_cases q6:(2147483647:Int) < (sender.length:Int)
  · have e:=lenB_f q6
    simp -implicitDefEqProofs [c_laws_zzFits2,cu,ca,cr,ck,q0,q1,q2,q3,q4,q5,q6,e]
  have e6:=lenB_t q6
  simp only [e6,Bool.true_and]
  by_cases q7:(2147483647:Int) < (ip.length:Int)
  · have e:=lenB_f q7
    simp -implicitDefEqProofs [c_laws_zzFits2,cu,ca,cr,ck,q0,q1,q2,q3,q4,q5,q6,q7,e]
  have e7:=lenB_t q7
  simp only [e7,Bool.true_and]
  by_cases q8:(2147483647:Int) < (helo.length:Int)
  · have e:=lenB_f q8
    simp -implicitDefEqProofs [c_laws_zzFits2,cu,ca,cr,ck,q0,q1,q2,q3,q4,q5,q6,q7,q8,e]
  have e8:=lenB_t q8
  simp only [e8,Bool.true_and]
  by_cases q9:(2147483647:Int) < (auth.length:Int)
  · have e:=lenB_f q9
    simp -implicitDefEqProofs [c_laws_zzFits2,cu,ca,cr,ck,q0,q1,q2,q3,q4,q5,q6,q7,q8,q9,e]
  have e9:=lenB_t q9
  simp only [e9,Bool.true_and]
  by_cases q10:(2147483647:Int) < (hkey.length:Int)
  · have e:=lenB_f q10
    simp -implicitDefEqProofs [c_laws_zzFits2,cu,ca,cr,ck,q0,q1,q2,q3,q4,q5,q6,q7,q8,q9,q10,e]
  have e10:=lenB_t q10
  simp only [e10,Bool.true_and]
  by_cases q11:(2147483647:Int) < (hval.length:Int)
  · have e:=lenB_f q11
    simp -implicitDefEqProofs [c_laws_zzFits2,cu,ca,cr,ck,q0,q1,q2,q3,q4,q5,q6,q7,q8,q9,q10,q11,e]
  have e11:=lenB_t q11
  simp only [e11,Bool.true_and]
  by_cases q12:(2147483647:Int) < (remote.length:Int)
  · have e:=lenB_f q12
    simp -implicitDefEqProofs [c_laws_zzFits2,cu,ca,cr,ck,q0,q1,q2,q3,q4,q5,q6,q7,q8,q9,q10,q11,q12,e]
  have e12:=lenB_t q12
  simp only [e12,Bool.true_and]
  generalize fits13 (ps.getD [])=b at k3 ⊢
  cases b <;> simp -implicitDefEqProofs [c_laws_zzFits2,cu,ca,cr,ck,q0,q1,q2,q3,q4,q5,q6,q7,q8,q9,q10,q11,q12,acall,h210,k3]

def fit1 (l:List AR):Bool:=decide (l.length ≤ 2147483647) && l.all fit2
def con_zzFits1:List AV → Option AV
  | [u]=>match slAR u with
    | some l=>if l.length < 9223372036854775808 ∧ ∀ r ∈ l,(r.ps.getD []).length < 9223372036854775808 then some (.bool (fit1 l)) else none
    | none=>none
  | _=>none
theorem ok_zzFits1 (Γ:Gam) (h209:Γ.fn 209=con_zzFits2):∀ args r,con_zzFits1 args=some r → runs Γ c_laws_zzFits1 args (fun v=>v=r):=by
  intro args r h
  simp only [con_zzFits1] at h
  split at h <;> (try simp at h; done)
  rename_i u
  split at h <;> (try simp at h; done)
  rename_i l hl
  obtain ⟨⟨h1,h2⟩,rfl⟩:=ite_some h
  clear h
  by_cases hb:(2147483647:Int) < (l.length:Int)
  · have e:¬ l.length ≤ 2147483647:=by omega
    simp -implicitDefEqProofs [-alen,c_laws_zzFits1,sar_alen hl,hb,fit1,e]
  · have e:l.length ≤ 2147483647:=by omega
    simp -implicitDefEqProofs [-alen,c_laws_zzFits1,sar_alen hl,hb]
    refine awp_loop2 (σ:=List AR × List AR) (fun p=>⟨[(8,u),(9,.int .i64 l.length),(10,.int .i64 p.1.length)],[]⟩)
      (fun p=>l=p.1 ++ p.2 ∧ p.1.all fit2=true) (fun p=>p.2.length) ([],l) (by simp) (by simp) ?_
    rintro ⟨pre,post⟩ ⟨e1,e2⟩ LQ hLQ
    simp only at e1 e2
    cases post with
    | nil =>
      simp only [List.append_nil] at e1
      subst e1
      have:fit1 l=true:=by simp only [fit1,e2,e]; rfl
      simp -implicitDefEqProofs [b_laws_zzFits1_1,t_laws_zzFits1_2,this]
    | cons x post =>
      have hu:=sar_ne hl (by rw [e1]; simp)
      subst hu
      have hlen:l.length=pre.length + (post.length + 1):=by rw [e1]; simp
      have hlt:(pre.length:Int) < (l.length:Int):=by omega
      have ew:IntKind.i64.wrap ((pre.length:Int) + 1)=(pre.length:Int) + 1:=wrap64 (by omega) (by omega)
      have g:(arA l)[pre.length]? = some (.agg x.cells):=by rw [e1,arA_app]; exact get_mid (by simp)
      have k2:con_zzFits2 [.agg x.cells]=some (.bool (fit2 x)):=by
        simp only [con_zzFits2,asAR_cells]
        exact if_pos (h2 x (by rw [e1]; simp))
      have cu:=slP_cells x.ps
      simp only [cells] at cu
      simp only [AR.cells] at g k2
      cases hf:fit2 x with
      | true =>
        rw [hf] at k2
        simp -implicitDefEqProofs [b_laws_zzFits1_1,hlt,g,acall,h209,k2,ew,cu]
        exact hLQ (pre ++ [x],post) ⟨by rw [e1]; simp,by simp only [List.all_append,e2,List.all_cons,hf]; rfl⟩ (by simp) _ (by simp)
      | false =>
        rw [hf] at k2
        have:fit1 l=false:=by
          have:l.all fit2=false:=by rw [e1]; simp [hf]
          simp only [fit1,this,Bool.and_false]
        simp -implicitDefEqProofs [b_laws_zzFits1_1,hlt,g,acall,h209,k2,this,cu]

def arSames:List AR → List AR → Bool
  | [],[]=>true
  | a :: x,b :: y=>arSame a b && arSames x y
  | _,_=>false
theorem arSames_len:∀ {a b:List AR},a.length ≠ b.length → arSames a b=false
  | [],[],h=>absurd rfl h
  | [],_ :: _,_=>rfl
  | _ :: _,[],_=>rfl
  | a :: x,b :: y,h=>by simp only [arSames,arSames_len (a:=x) (b:=y) (fun e=>h (by simp [e])),Bool.and_false]
theorem arSames_bad {x y:AR} (hf:arSame x y=false) {p q:List AR}:∀ {a b:List AR},a.length=b.length → arSames (a ++ x :: p) (b ++ y :: q)=false
  | [],[],_=>by simp [arSames,hf]
  | [],_ :: _,h=>by simp at h
  | _ :: _,[],h=>by simp at h
  | a :: r,b :: s,h=>by simp only [List.cons_append,arSames,arSames_bad hf (a:=r) (b:=s) (by simpa using h),Bool.and_false]
theorem arSames_snoc {x y:AR}:∀ {a b:List AR},arSames a b=true → arSame x y=true → arSames (a ++ [x]) (b ++ [y])=true
  | [],[],_,h=>by simp [arSames,h]
  | [],_ :: _,h,_=>by simp [arSames] at h
  | _ :: _,[],h,_=>by simp [arSames] at h
  | a :: r,b :: s,h,h2=>by
    simp only [arSames,Bool.and_eq_true,List.cons_append] at h ⊢
    exact ⟨h.1,arSames_snoc h.2 h2⟩
def con_ASames:List AV → Option AV
  | [u,v]=>match slAR u,slAR v with
    | some a,some b=>if a.length < half ∧ b.length < half ∧ (∀ r ∈ a,(r.ps.getD []).length < half) ∧ ∀ r ∈ b,(r.ps.getD []).length < half then some (.bool (arSames a b)) else none
    | _,_=>none
  | _=>none
theorem ok_ASames (Γ:Gam) (h202:Γ.fn 202=con_ASame):∀ args r,con_ASames args=some r → runs Γ c_spec_ASames args (fun v=>v=r):=by
  intro args r h
  simp only [con_ASames] at h
  split at h <;> (try simp at h; done)
  rename_i u v
  split at h <;> (try simp at h; done)
  rename_i a b ha hb
  obtain ⟨⟨h1,h2,h3,h4⟩,rfl⟩:=ite_some h
  clear h
  simp only [half] at h1 h2
  by_cases hl:a.length=b.length
  · have hl':(a.length:Int)=(b.length:Int):=by omega
    simp -implicitDefEqProofs [-alen,c_spec_ASames,sar_alen ha,sar_alen hb,hl']
    refine awp_loop2 (σ:=(List AR × List AR) × List AR × List AR) (fun p=>⟨[(0,u),(1,v),(12,.int .i64 b.length),(13,.int .i64 p.1.1.length)],[]⟩)
      (fun p=>a=p.1.1 ++ p.1.2 ∧ b=p.2.1 ++ p.2.2 ∧ p.1.1.length=p.2.1.length ∧ arSames p.1.1 p.2.1=true) (fun p=>p.1.2.length) (([],a),([],b)) (by simp) (by simp [arSames]) ?_
    rintro ⟨⟨p,q⟩,⟨s,t⟩⟩ ⟨e1,e2,e3,e4⟩ LQ hLQ
    simp only at e1 e2 e3 e4
    have hq:q.length=t.length:=by
      have:=congrArg List.length e1; have:=congrArg List.length e2; simp at *; omega
    match q,t,hq with
    | [],[],_ =>
      simp only [List.append_nil] at e1 e2
      subst e1 e2
      have hn:¬ ((a.length:Int) < (b.length:Int)):=by omega
      simp -implicitDefEqProofs [b_spec_ASames_1,t_spec_ASames_2,hn,e4]
    | x :: q,y :: t,_ =>
      have hu:=sar_ne ha (by rw [e1]; simp)
      have hv:=sar_ne hb (by rw [e2]; simp)
      subst hu hv
      have hlen:b.length=p.length + (t.length + 1):=by rw [e2]; simp; omega
      have hlt:(p.length:Int) < (b.length:Int):=by omega
      have ew:IntKind.i64.wrap ((p.length:Int) + 1)=(p.length:Int) + 1:=wrap64 (by omega) (by omega)
      have g1:(arA a)[p.length]? = some (.agg x.cells):=by rw [e1,arA_app]; exact get_mid (by simp)
      have g2:(arA b)[p.length]? = some (.agg y.cells):=by rw [e2,arA_app]; exact get_mid (by simp [e3])
      have k2:con_ASame [.agg x.cells,.agg y.cells]=some (.bool (arSame x y)):=by
        simp only [con_ASame,asAR_cells]
        exact if_pos ⟨h3 x (by rw [e1]; simp),h4 y (by rw [e2]; simp)⟩
      have cu:=slP_cells x.ps
      have cv:=slP_cells y.ps
      simp only [cells] at cu cv
      simp only [AR.cells] at g1 g2 k2
      cases hf:arSame x y with
      | true =>
        rw [hf] at k2
        simp -implicitDefEqProofs [b_spec_ASames_1,hlt,g1,g2,acall,h202,k2,ew,cu,cv]
        exact hLQ ((p ++ [x],q),(s ++ [y],t)) ⟨by rw [e1]; simp,by rw [e2]; simp,by simp [e3],arSames_snoc e4 hf⟩ (by simp) _ (by simp)
      | false =>
        rw [hf] at k2
        have hbad:arSames a b=false:=by rw [e1,e2]; exact arSames_bad hf e3
        simp -implicitDefEqProofs [b_spec_ASames_1,hlt,g1,g2,acall,h202,k2,hbad,cu,cv]
  · have hl':¬ ((a.length:Int)=(b.length:Int)):=by omega
    have e:=arSames_len hl
    simp -implicitDefEqProofs [-alen,c_spec_ASames,sar_alen ha,sar_alen hb,hl',e]

def con_only:List AV → Option AV
  | [u]=>match slAR u with
    | some l=>if l.length ≤ 2147483647 then some (arV (l.map AR.only)) else none
    | none=>none
  | _=>none

theorem ok_only (Γ:Gam) (h208:Γ.fn 208=con_AOnly):∀ args r,con_only args=some r → runs Γ c_laws_only args (fun v=>v=r):=by
  intro args r h
  simp only [con_only] at h
  split at h <;> (try simp at h; done)
  rename_i u
  split at h <;> (try simp at h; done)
  rename_i l hl
  obtain ⟨h1,rfl⟩:=ite_some h
  clear h
  have uk:=sar_kill hl
  have us:=sar_snapW hl
  have ua:=sar_alen hl
  simp -implicitDefEqProofs [-alen,c_laws_only,ua]
  refine awp_loop2 (σ:=List AR × List AR) (fun q=>⟨[(3,grV 16 16 q.1.length),(6,u),(7,.int .i64 l.length),(8,.int .i64 q.1.length)],grH 16 q.1.length (arC (q.1.map AR.only))⟩)
    (fun q=>l=q.1 ++ q.2) (fun q=>q.2.length) ([],l) (by simp) (by simp) ?_
  rintro ⟨pre,post⟩ e1 LQ hLQ
  simp only at e1
  cases post with
  | nil =>
    simp only [List.append_nil] at e1
    subst e1
    have hnl:¬ ((l.length:Int) < (l.length:Int)):=by omega
    cases l with
    | nil=>simp -implicitDefEqProofs [b_laws_only_1,t_laws_only_2,arV]
    | cons x l =>
      have hg:=group_arC (l:=(x :: l).map AR.only)
      simp only [List.length_map,List.length_cons,List.map_cons,arC_cons] at hg
      simp -implicitDefEqProofs [b_laws_only_1,t_laws_only_2,arV,hg]
      omega
  | cons x post =>
    have hu:=sar_ne hl (by rw [e1]; simp)
    subst hu
    have hlen:l.length=pre.length + (post.length + 1):=by rw [e1]; simp
    have hlt:(pre.length:Int) < (l.length:Int):=by omega
    have g:(arA l)[pre.length]? = some (.agg x.cells):=by rw [e1,arA_app]; exact get_mid (by simp)
    have ew:IntKind.i64.wrap ((pre.length:Int) + 1)=(pre.length:Int) + 1:=wrap64 (by omega) (by omega)
    have kx:con_AOnly [.agg x.cells]=some (.agg x.only.cells):=by simp only [con_AOnly,asAR_cells,Option.map]
    have cu:=slP_cells x.ps
    have cv:=slP_cells x.only.ps
    simp only [cells] at cu cv
    have hco:x.only.cells=[.int .i64 x.only.kind,.str x.only.method,.str x.only.value,.str x.only.reason,.str x.only.domain,.str x.only.ident,.str x.only.fr,.str x.only.sender,.str x.only.ip,.str x.only.helo,.str x.only.auth,.str x.only.hkey,.str x.only.hval,.str x.only.remote,.int .i64 x.only.oldest,slP x.only.ps]:=rfl
    have f:∀ st,norm [3,6,7,8] st=⟨[(3,.msl 16 16 0 (pre.length + 1)),(6,.sl 16 (arA l)),(7,.int .i64 l.length),(8,.int .i64 ((pre.length:Int) + 1))],[(16,.cells (arC (pre.map AR.only) ++ x.only.cells))]⟩ → LQ st:=by
      intro st hst
      exact hLQ (pre ++ [x],post) (by rw [e1]; simp) (by simp) st (by rw [hst]; simp)
    rw [hco] at kx f
    simp only [AR.cells] at g kx
    cases pre with
    | nil =>
      simp only [List.nil_append] at e1
      have ew0:IntKind.i64.wrap 1=1:=rfl
      subst e1
      have hl0:(0:Int) < (post.length:Int) + 1:=by omega
      have hx:x.cells=[.int .i64 x.kind,.str x.method,.str x.value,.str x.reason,.str x.domain,.str x.ident,.str x.fr,.str x.sender,.str x.ip,.str x.helo,.str x.auth,.str x.hkey,.str x.hval,.str x.remote,.int .i64 x.oldest,slP x.ps]:=rfl
      simp -implicitDefEqProofs [b_laws_only_1,hl0,hx,ew0,acall,h208,kx,cu,cv]
      exact f _ (by simp [hx])
    | cons y pre =>
      have tk:List.take ((pre.length + 1) * 16) (y.only.cells ++ arC (pre.map AR.only))=y.only.cells ++ arC (pre.map AR.only):=List.take_of_length_le (by simp; omega)
      have hlt1:(pre.length:Int) + 1 < (l.length:Int):=by simpa using hlt
      have ew1:IntKind.i64.wrap ((pre.length:Int) + 1 + 1)=(pre.length:Int) + 1 + 1:=wrap64 (by omega) (by omega)
      have et:((pre.length:Int) + 1).toNat=pre.length + 1:=by omega
      have hle:(0:Int) ≤ (pre.length:Int) + 1:=by omega
      simp only [List.length_cons] at g
      simp -implicitDefEqProofs [b_laws_only_1,hlt1,g,ew1,et,hle,acall,h208,kx,cu,cv,tk]

      exact ⟨⟨by omega,by omega⟩,f _ (by simp)⟩
end Wax


namespace Wax
open Go (IntKind)

theorem keyw_con {s:L8} (h:s.length < mid):con_MailKeyword [.str s]=some (.bool (mKw s)):=if_pos (by simp only [mid] at h; simp only [big]; omega)
theorem plain_con {s:L8} (h:s.length < mid):con_APlain [.str s]=some (.bool (aPlain s)):=if_pos h
theorem halves_con {s:L8} {c:Int} (h:s.length < mid):con_MailHalves [.str s,.int .u8 c]=some (cutV c s):=if_pos (by simp only [mid] at h; simp only [big]; omega)
theorem tokn_con {s:L8} (h:s.length < mid):con_MailToken [.str s]=some (.bool (mTok s)):=if_pos (by simp only [mid] at h; simp only [big]; omega)

section
variable {Γ:Gam} (h99:Γ.fn 99=con_MailKeyword) (h102:Γ.fn 102=con_MailHalves) (h104:Γ.fn 104=con_MailToken) (h112:Γ.fn 112=con_MailLower) (h200:Γ.fn 200=con_AMethods) (h201:Γ.fn 201=con_AProps) (h203:Γ.fn 203=con_AValues) (h204:Γ.fn 204=con_APlain)
variable {u:AV} (uk:∀ d,kill d u=u) (us:∀ g,snapW g u=u) (n i:Int)

def g1Fit (prev:Option L8) (p:KVp):Bool:=(match cutAt 46 p.1 with | some q=>mKw q.1 && mKw q.2 | none=>false) && decide (lowS p.1=p.1) && aPlain p.2 && (match prev with | none=>true | some k=>decide (k < p.1))
theorem gFit_cons (prev:Option L8) (p:KVp) (r:List KVp):gFit prev (p :: r)=(g1Fit prev p && gFit (some p.1) r):=rfl

include h99 h102 h112 h204 uk us in
set_option maxRecDepth 100000 in
set_option maxHeartbeats 4000000 in
theorem af_4 {Q:APost} (r:AR) (L:List KVp) (hL:r.ps.getD []=L) (hl:L.length < mid) (hz:∀ p ∈ L,p.1.length < mid ∧ p.2.length < mid) (ex:List (Nat × AV))
    (hT:gFit none L=true → ∀ ex',Q (.exit 1) ⟨(0,u) :: (4,.ptr r.cells) :: (17,u) :: (18,.int .i64 n) :: (19,.int .i64 i) :: ex',[]⟩)
    (hF:gFit none L=false → Q .ret ⟨[(2,.bool false)],[]⟩) :
    awp Γ f_spec_AFits_4 Q ⟨(0,u) :: (4,.ptr r.cells) :: (17,u) :: (18,.int .i64 n) :: (19,.int .i64 i) :: ex,[]⟩:=by
  have ha:∀ hp,alen hp 1 (slP r.ps)=some L.length:=by
    intro hp; rw [← hL]; cases r.ps <;> simp [slP,alen]
  have cu:=slP_cells r.ps
  have at_:=slP_atom r.ps
  have kl:=slP_kill r.ps
  have sn:=slP_snapW r.ps
  simp only [cells] at cu
  simp only [mid] at hl
  have hc:r.cells=[.int .i64 r.kind,.str r.method,.str r.value,.str r.reason,.str r.domain,.str r.ident,.str r.fr,.str r.sender,.str r.ip,.str r.helo,.str r.auth,.str r.hkey,.str r.hval,.str r.remote,.int .i64 r.oldest,slP r.ps]:=rfl
  have hne:L ≠ [] → slP r.ps=.sl 2 (pr2 L):=by
    intro h; cases hp:r.ps with
    | none=>rw [hp] at hL; exact absurd hL.symm h
    | some x=>rw [hp] at hL; simp at hL; subst hL; rfl
  simp only [hc] at hT ⊢
  generalize slP r.ps=S at *
  simp -implicitDefEqProofs [-alen,f_spec_AFits_4,cu,ha,at_,kl,sn,uk,us]
  refine awp_loop2 (σ:=List KVp × List KVp) (fun z=>⟨[(0,u),(4,.ptr [.int .i64 r.kind,.str r.method,.str r.value,.str r.reason,.str r.domain,.str r.ident,.str r.fr,.str r.sender,.str r.ip,.str r.helo,.str r.auth,.str r.hkey,.str r.hval,.str r.remote,.int .i64 r.oldest,S]),(17,u),(18,.int .i64 n),(19,.int .i64 i),(103,S),(104,.int .i64 L.length),(105,.int .i64 z.1.length)],[]⟩)
    (fun z=>L=z.1 ++ z.2 ∧ gFit none L=gFit (z.1.getLast?.map (·.1)) z.2) (fun z=>z.2.length) ([],L) (by simp) (by simp) ?_
  rintro ⟨pre,post⟩ ⟨e1,e2⟩ LQ hLQ
  simp only at e1 e2
  cases post with
  | nil =>
    simp only [List.append_nil] at e1
    subst e1
    have hnl:¬ ((L.length:Int) < (L.length:Int)):=by omega
    simp -implicitDefEqProofs [b_spec_AFits_3]
    exact hT e2 _
  | cons p post =>
    have hS:=hne (by rw [e1]; simp)
    subst hS
    have hlen:L.length=pre.length + (post.length + 1):=by rw [e1]; simp
    have hlt:(pre.length:Int) < (L.length:Int):=by omega
    have ew:IntKind.i64.wrap ((pre.length:Int) + 1)=(pre.length:Int) + 1:=wrap64 (by omega) (by omega)
    have ew1:IntKind.i64.wrap ((pre.length:Int) - 1)=(pre.length:Int) - 1:=wrap64 (by omega) (by omega)
    have g:L[pre.length]? = some p:=by rw [e1]; exact get_mid rfl
    obtain ⟨k,v⟩:=p
    obtain ⟨z1,z2⟩:=hz (k,v) (by rw [e1]; simp)
    simp only at z1 z2
    have k1:=halves_con (c:=46) z1
    have k2:=low_con z1
    have k3:=plain_con z2
    rw [gFit_cons] at e2
    have bad:g1Fit (pre.getLast?.map (·.1)) (k,v)=false → Q .ret ⟨[(2,.bool false)],[]⟩:=fun h=>hF (by rw [e2,h]; rfl)
    have good:g1Fit (pre.getLast?.map (·.1)) (k,v)=true → LQ ⟨[(0,u),(4,.ptr [.int .i64 r.kind,.str r.method,.str r.value,.str r.reason,.str r.domain,.str r.ident,.str r.fr,.str r.sender,.str r.ip,.str r.helo,.str r.auth,.str r.hkey,.str r.hval,.str r.remote,.int .i64 r.oldest,.sl 2 (pr2 L)]),(17,u),(18,.int .i64 n),(19,.int .i64 i),(103,.sl 2 (pr2 L)),(104,.int .i64 L.length),(105,.int .i64 ((pre.length:Int) + 1))],[]⟩:=fun h =>
      hLQ (pre ++ [(k,v)],post) ⟨by rw [e1]; simp,by rw [e2,h]; simp⟩ (by simp) _ (by simp)
    simp only [g1Fit] at bad good
    cases hc2:cutAt 46 k with
    | none =>
      simp only [cutV,hc2] at k1
      have b:=bad (by simp [hc2])
      simp -implicitDefEqProofs [b_spec_AFits_3,hlt,g,acall,h102,k1]
      exact b
    | some q =>
      simp only [cutV,hc2] at k1
      have hq:=cutAt_lens hc2
      have w1:=keyw_con (s:=q.1) (by omega)
      have w2:=keyw_con (s:=q.2) (by omega)
      simp only [hc2] at bad good
      by_cases b1:mKw q.1=true
      case neg =>
        have b:=bad (by simp [b1])
        simp only [Bool.not_eq_true] at b1
        rw [b1] at w1
        simp -implicitDefEqProofs [b_spec_AFits_3,hlt,g,acall,h102,k1,h99,w1]
        exact b
      rw [b1] at w1
      by_cases b2:mKw q.2=true
      case neg =>
        have b:=bad (by simp [b2])
        simp only [Bool.not_eq_true] at b2
        rw [b2] at w2
        simp -implicitDefEqProofs [b_spec_AFits_3,hlt,g,acall,h102,k1,h99,w1,w2]
        exact b
      rw [b2] at w2
      by_cases b3:lowS k=k
      case neg =>
        have b:=bad (by simp [b3])
        simp -implicitDefEqProofs [b_spec_AFits_3,hlt,g,acall,h102,k1,h99,w1,w2,h112,k2,b3]
        exact b
      rw [b3] at k2
      by_cases b4:aPlain v=true
      case neg =>
        have b:=bad (by simp [b4])
        simp only [Bool.not_eq_true] at b4
        rw [b4] at k3
        simp -implicitDefEqProofs [b_spec_AFits_3,hlt,g,acall,h102,k1,h99,w1,w2,h112,k2,h204,k3]
        exact b
      rw [b4] at k3
      simp only [b1,b2,b3,b4,Bool.and_self,decide_true,Bool.true_and] at bad good
      rcases List.eq_nil_or_concat pre with rfl | ⟨p',y,rfl⟩
      · have gd:=good (by simp)
        simp only [List.nil_append] at e1
        subst e1
        have hl0:(0:Int) < (post.length:Int) + 1:=by omega
        have ew0:IntKind.i64.wrap 1=1:=rfl
        simp at gd
        simp -implicitDefEqProofs [b_spec_AFits_3,hl0,ew0,acall,h102,k1,h99,w1,w2,h112,k2,h204,k3,uk,us]
        exact gd
      · have hlt':(p'.length:Int) + 1 < (L.length:Int):=by simpa using hlt
        have g':L[p'.length + 1]? = some (k,v):=by simpa using g
        have gy:L[p'.length]? = some y:=by rw [e1]; simp
        have ew':IntKind.i64.wrap ((p'.length:Int) + 1 + 1)=(p'.length:Int) + 1 + 1:=wrap64 (by omega) (by omega)
        have ew2:IntKind.i64.wrap ((p'.length:Int))=(p'.length:Int):=wrap64 (by omega) (by omega)
        have et:((p'.length:Int) + 1).toNat=p'.length + 1:=by omega
        have hle:(0:Int) ≤ (p'.length:Int) + 1:=by omega
        have hpos:(0:Int) < (p'.length:Int) + 1:=by omega
        simp at bad good
        obtain ⟨yk,yv⟩:=y
        by_cases b5:yk < k
        · have gd:=good b5
          simp -implicitDefEqProofs [b_spec_AFits_3,hlt',g',et,hle,hpos,ew',ew2,gy,acall,h102,k1,h99,w1,w2,h112,k2,h204,k3,uk,us,lexLt_eq,b5]
          exact gd
        · have b:=bad (by simpa using b5)
          simp -implicitDefEqProofs [b_spec_AFits_3,hlt',g',et,hle,hpos,ew',ew2,gy,acall,h102,k1,h99,w1,w2,h112,k2,h204,k3,uk,us,lexLt_eq,b5]
          exact b

theorem ms_any (m:L8) (pre post:List L8):(pre ++ post).contains m=(pre.contains m || post.contains m):=by
  rw [Bool.eq_iff_iff]; simp
include h99 h102 h112 h200 h204 uk us in
set_option maxRecDepth 100000 in
set_option maxHeartbeats 4000000 in
theorem af_5 {Q:APost} (r:AR) (L:List KVp) (hL:r.ps.getD []=L) (hl:L.length < mid) (hz:∀ p ∈ L,p.1.length < mid ∧ p.2.length < mid) (ex:List (Nat × AV))
    (hT:(!aMeths.contains r.method && gFit none L)=true → ∀ ex',Q (.exit 1) ⟨(0,u) :: (4,.ptr r.cells) :: (17,u) :: (18,.int .i64 n) :: (19,.int .i64 i) :: ex',[]⟩)
    (hF:(!aMeths.contains r.method && gFit none L)=false → Q .ret ⟨[(2,.bool false)],[]⟩) :
    awp Γ f_spec_AFits_5 Q ⟨(0,u) :: (4,.ptr r.cells) :: (17,u) :: (18,.int .i64 n) :: (19,.int .i64 i) :: ex,[]⟩:=by
  have cu:=slP_cells r.ps
  have at_:=slP_atom r.ps
  have kl:=slP_kill r.ps
  have sn:=slP_snapW r.ps
  simp only [cells] at cu
  have hc:r.cells=[.int .i64 r.kind,.str r.method,.str r.value,.str r.reason,.str r.domain,.str r.ident,.str r.fr,.str r.sender,.str r.ip,.str r.helo,.str r.auth,.str r.hkey,.str r.hval,.str r.remote,.int .i64 r.oldest,slP r.ps]:=rfl
  have k0:con_AMethods []=some (.sl 1 (strsA aMeths)):=rfl
  have hal:aMeths.length=8:=rfl
  have T:=fun (b:aMeths.contains r.method=false) ex=>af_4 (Q:=Q) h99 h102 h112 h204 uk us n i r L hL hl hz ex (fun h=>hT (by rw [b,h]; rfl)) (fun h=>hF (by rw [b,h]; rfl))
  generalize aMeths=M at *
  simp only [hc] at T ⊢
  simp -implicitDefEqProofs [f_spec_AFits_5,cu,at_,kl,sn,uk,us,acall,h200,k0]
  refine awp_loop2 (σ:=List L8 × List L8) (fun z=>⟨[(0,u),(4,.ptr [.int .i64 r.kind,.str r.method,.str r.value,.str r.reason,.str r.domain,.str r.ident,.str r.fr,.str r.sender,.str r.ip,.str r.helo,.str r.auth,.str r.hkey,.str r.hval,.str r.remote,.int .i64 r.oldest,slP r.ps]),(17,u),(18,.int .i64 n),(19,.int .i64 i),(91,.sl 1 (strsA M)),(92,.int .i64 M.length),(93,.int .i64 z.1.length)],[]⟩)
    (fun z=>M=z.1 ++ z.2 ∧ z.1.contains r.method=false) (fun z=>z.2.length) ([],M) (by simp) (by simp) ?_
  rintro ⟨pre,post⟩ ⟨e1,e2⟩ LQ hLQ
  simp only at e1 e2
  cases post with
  | nil =>
    simp only [List.append_nil] at e1
    subst e1
    have hnl:¬ ((M.length:Int) < (M.length:Int)):=by omega
    simp -implicitDefEqProofs [b_spec_AFits_2]
    exact T e2 _
  | cons m post =>
    have hlen:M.length=pre.length + (post.length + 1):=by rw [e1]; simp
    have hlt:(pre.length:Int) < (M.length:Int):=by omega
    have ew:IntKind.i64.wrap ((pre.length:Int) + 1)=(pre.length:Int) + 1:=wrap64 (by omega) (by omega)
    have g:M[pre.length]? = some m:=by rw [e1]; exact get_mid rfl
    by_cases hm:m=r.method
    · have b:M.contains r.method=true:=by rw [e1,hm]; simp
      have f:=hF (by rw [b]; rfl)
      simp -implicitDefEqProofs [b_spec_AFits_2,hlt,g,hm]
      exact f
    · have b:(pre ++ [m]).contains r.method=false:=by rw [ms_any,e2]; simp [Ne.symm hm]
      simp -implicitDefEqProofs [b_spec_AFits_2,hlt,g,hm,ew,uk,us]
      exact hLQ (pre ++ [m],post) ⟨by rw [e1]; simp,b⟩ (by simp) _ (by simp)

theorem props_len (r:AR):r.props.length ≤ 10:=by
  unfold AR.props
  repeat' split
  all_goals simp
theorem tripV_ne {L:List (L8 × L8 × L8)} (h:L ≠ []):tripV L=.sl 3 (tr3 L):=by cases L with
  | nil=>exact absurd rfl h
  | cons _ _=>rfl
def t1Fit (p:L8 × L8 × L8):Bool:=aPlain p.2.2 && mKw p.2.1 && decide (lowS p.2.1=p.2.1)
include h99 h112 h201 h204 uk us in
set_option maxRecDepth 100000 in
set_option maxHeartbeats 4000000 in
theorem af_7 {Q:APost} (r:AR) (hz:∀ p ∈ r.props,p.2.1.length < mid ∧ p.2.2.length < mid) (ex:List (Nat × AV))
    (hT:r.props.all t1Fit=true → ∀ ex',Q .normal ⟨(0,u) :: (17,u) :: (18,.int .i64 n) :: (19,.int .i64 i) :: ex',[]⟩)
    (hF:r.props.all t1Fit=false → Q .ret ⟨[(2,.bool false)],[]⟩) :
    awp Γ f_spec_AFits_7 Q ⟨(0,u) :: (4,.ptr r.cells) :: (17,u) :: (18,.int .i64 n) :: (19,.int .i64 i) :: ex,[]⟩:=by
  have cu:=slP_cells r.ps
  have at_:=slP_atom r.ps
  have kl:=slP_kill r.ps
  have sn:=slP_snapW r.ps
  simp only [cells] at cu
  have hc:r.cells=[.int .i64 r.kind,.str r.method,.str r.value,.str r.reason,.str r.domain,.str r.ident,.str r.fr,.str r.sender,.str r.ip,.str r.helo,.str r.auth,.str r.hkey,.str r.hval,.str r.remote,.int .i64 r.oldest,slP r.ps]:=rfl
  have k0:con_AProps [.agg r.cells]=some (tripV r.props):=by simp only [con_AProps,asAR_cells,Option.map]
  have hq:r.props.length ≤ 10:=props_len r
  generalize r.props=L at *
  have ha:∀ hp,alen hp 1 (tripV L)=some L.length:=by intro hp; cases L <;> simp [tripV,alen]
  have tc:=tripV_cells L
  have ta:=tripV_atom L
  have tk:=tripV_kill L
  have tr:=tripV_ref L
  simp only [cells] at tc
  have hne:L ≠ [] → tripV L=.sl 3 (tr3 L):=fun h=>tripV_ne h
  simp only [hc] at k0 ⊢
  generalize tripV L=S at *
  simp -implicitDefEqProofs [-alen,f_spec_AFits_7,cu,at_,kl,sn,uk,us,acall,h201,k0,ha,tc,ta,tk,tr]
  refine awp_loop2 (σ:=List (L8 × L8 × L8) × List (L8 × L8 × L8)) (fun z=>⟨[(0,u),(17,u),(18,.int .i64 n),(19,.int .i64 i),(161,S),(162,.int .i64 L.length),(163,.int .i64 z.1.length)],[]⟩)
    (fun z=>L=z.1 ++ z.2 ∧ z.1.all t1Fit=true) (fun z=>z.2.length) ([],L) (by simp) (by simp) ?_
  rintro ⟨pre,post⟩ ⟨e1,e2⟩ LQ hLQ
  simp only at e1 e2
  cases post with
  | nil =>
    simp only [List.append_nil] at e1
    subst e1
    have hnl:¬ ((L.length:Int) < (L.length:Int)):=by omega
    simp -implicitDefEqProofs [b_spec_AFits_6]
    exact hT e2 _
  | cons p post =>
    have hS:=hne (by rw [e1]; simp)
    subst hS
    have hlen:L.length=pre.length + (post.length + 1):=by rw [e1]; simp
    have hlt:(pre.length:Int) < (L.length:Int):=by omega
    have ew:IntKind.i64.wrap ((pre.length:Int) + 1)=(pre.length:Int) + 1:=wrap64 (by omega) (by omega)
    have g:L[pre.length]? = some p:=by rw [e1]; exact get_mid rfl
    have g2:(tr3 L)[pre.length]? = some (.agg [.str p.1,.str p.2.1,.str p.2.2]):=by simp [tr3,g]
    obtain ⟨z1,z2⟩:=hz p (by rw [e1]; simp)
    obtain ⟨a,b,c⟩:=p
    simp only at z1 z2 g2
    have k1:=plain_con z2
    have k2:=keyw_con z1
    have k3:=low_con z1
    have bad:t1Fit (a,b,c)=false → Q .ret ⟨[(2,.bool false)],[]⟩:=fun h=>hF (by rw [e1]; simp [h])
    have good:t1Fit (a,b,c)=true → LQ ⟨[(0,u),(17,u),(18,.int .i64 n),(19,.int .i64 i),(161,.sl 3 (tr3 L)),(162,.int .i64 L.length),(163,.int .i64 ((pre.length:Int) + 1))],[]⟩:=fun h =>
      hLQ (pre ++ [(a,b,c)],post) ⟨by rw [e1]; simp,by rw [List.all_append,e2]; simp [h]⟩ (by simp) _ (by simp)
    simp only [t1Fit] at bad good
    by_cases b1:aPlain c=true
    case neg =>
      have f:=bad (by simp [b1])
      simp only [Bool.not_eq_true] at b1
      rw [b1] at k1
      simp -implicitDefEqProofs [b_spec_AFits_6,hlt,g2,uk,us,acall,h204,k1]
      exact f
    rw [b1] at k1
    by_cases b2:mKw b=true
    case neg =>
      have f:=bad (by simp [b2])
      simp only [Bool.not_eq_true] at b2
      rw [b2] at k2
      simp -implicitDefEqProofs [b_spec_AFits_6,hlt,g2,uk,us,acall,h204,k1,h99,k2]
      exact f
    rw [b2] at k2
    by_cases b3:lowS b=b
    case neg =>
      have f:=bad (by simp [b3])
      simp -implicitDefEqProofs [b_spec_AFits_6,hlt,g2,uk,us,acall,h204,k1,h99,k2,h112,k3,b3]
      exact f
    rw [b3] at k3
    have f:=good (by simp [b1,b2,b3])
    simp -implicitDefEqProofs [b_spec_AFits_6,hlt,g2,uk,us,acall,h204,k1,h99,k2,h112,k3,ew]
    exact f

def k1Fit (r:AR):Bool:=if r.kind=0 then mKw r.method && decide (lowS r.method=r.method) && decide (r.method ≠ sNone0) && decide (r.reason=[]) && decide (r.method.length ≤ 30) && !aMeths.contains r.method && gFit none (r.ps.getD [])
   else r.props.all t1Fit
structure SzR (r:AR):Prop where
  m:r.method.length < mid
  rs:r.reason.length < mid
  l:(r.ps.getD []).length < mid
  z:∀ p ∈ r.ps.getD [],p.1.length < mid ∧ p.2.length < mid
  q:∀ p ∈ r.props,p.2.1.length < mid ∧ p.2.2.length < mid

include h99 h102 h112 h200 h201 h204 uk us in
set_option maxRecDepth 100000 in
set_option maxHeartbeats 4000000 in
theorem af_8 {Q:APost} (r:AR) (sz:SzR r) (ex:List (Nat × AV))
    (hT:k1Fit r=true → ∀ ex',Q .normal ⟨(0,u) :: (17,u) :: (18,.int .i64 n) :: (19,.int .i64 i) :: ex',[]⟩)
    (hT2:k1Fit r=true → ∀ ex',Q (.exit 1) ⟨(0,u) :: (4,.ptr r.cells) :: (17,u) :: (18,.int .i64 n) :: (19,.int .i64 i) :: ex',[]⟩)
    (hF:k1Fit r=false → Q .ret ⟨[(2,.bool false)],[]⟩) :
    awp Γ f_spec_AFits_8 Q ⟨(0,u) :: (4,.ptr r.cells) :: (17,u) :: (18,.int .i64 n) :: (19,.int .i64 i) :: ex,[]⟩:=by
  have cu:=slP_cells r.ps
  have at_:=slP_atom r.ps
  have kl:=slP_kill r.ps
  have sn:=slP_snapW r.ps
  simp only [cells] at cu
  have hc:r.cells=[.int .i64 r.kind,.str r.method,.str r.value,.str r.reason,.str r.domain,.str r.ident,.str r.fr,.str r.sender,.str r.ip,.str r.helo,.str r.auth,.str r.hkey,.str r.hval,.str r.remote,.int .i64 r.oldest,slP r.ps]:=rfl
  by_cases h0:r.kind=0
  · simp only [k1Fit,if_pos h0] at hT hT2 hF
    have k1:=keyw_con sz.m
    have k2:=low_con sz.m
    by_cases b1:mKw r.method=true
    case neg =>
      have f:=hF (by simp [b1])
      simp only [Bool.not_eq_true] at b1
      rw [b1] at k1
      simp only [hc]
      simp -implicitDefEqProofs [f_spec_AFits_8,h0,cu,at_,kl,sn,uk,us,acall,h99,k1]
      exact f
    rw [b1] at k1
    by_cases b2:lowS r.method=r.method
    case neg =>
      have f:=hF (by simp [b2])
      simp only [hc]
      simp -implicitDefEqProofs [f_spec_AFits_8,h0,cu,at_,kl,sn,uk,us,acall,h99,k1,h112,k2,b2]
      exact f
    rw [b2] at k2
    by_cases b3:r.method=sNone0
    · have f:=hF (by simp [b3])
      have b3':r.method=[110,111,110,101]:=b3
      rw [b3'] at k1 k2
      simp only [hc]
      simp -implicitDefEqProofs [f_spec_AFits_8,h0,cu,at_,kl,sn,uk,us,acall,h99,k1,h112,k2,b3']
      exact f
    have b3':¬ r.method=[110,111,110,101]:=b3
    by_cases b4:r.reason=[]
    case neg =>
      have f:=hF (by simp [b4])
      simp only [hc]
      simp -implicitDefEqProofs [f_spec_AFits_8,h0,cu,at_,kl,sn,uk,us,acall,h99,k1,h112,k2,b3',b4]
      exact f
    by_cases b5:r.method.length ≤ 30
    case neg =>
      have f:=hF (by simp [b5])
      have b5':(30:Int) < (r.method.length:Int):=by omega
      simp only [hc]
      simp -implicitDefEqProofs [f_spec_AFits_8,h0,cu,at_,kl,sn,uk,us,acall,h99,k1,h112,k2,b3',b4,b5']
      exact f
    have b5':¬ (30:Int) < (r.method.length:Int):=by omega
    simp only [b1,b2,b3,b4,b5,decide_true,Bool.and_self,Bool.true_and,ne_eq,not_false_eq_true] at hT hT2 hF
    have T:=fun ex=>af_5 (Q:=thenQ (awp Γ f_spec_AFits_7 Q) Q) h99 h102 h112 h200 h204 uk us n i r _ rfl sz.l sz.z ex (fun h=>hT2 h) (fun h=>hF h)
    simp only [hc,h0,b4] at T
    simp only [hc]
    simp -implicitDefEqProofs [f_spec_AFits_8,h0,cu,at_,kl,sn,uk,us,acall,h99,k1,h112,k2,b3',b4,b5']
    exact T _
  · simp only [k1Fit,if_neg h0] at hT hF
    have T:=fun ex=>af_7 (Q:=Q) h99 h112 h201 h204 uk us n i r sz.q ex hT hF
    simp only [hc] at T ⊢
    simp -implicitDefEqProofs [f_spec_AFits_8,h0,cu,at_,kl,sn,uk,us]
    exact T _

theorem fit1_k (r:AR):aFit1 r=(aVals.contains r.value && (decide (0 ≤ r.kind) && (decide (r.kind ≤ 7) && ((decide (r.reason=[]) || mTok r.reason) && k1Fit r)))):=by
  have e:t1Fit=fun p=>aPlain p.2.2 && mKw p.2.1 && decide (lowS p.2.1=p.2.1):=rfl
  simp only [aFit1,k1Fit,e,Bool.and_assoc]

include h99 h102 h104 h112 h200 h201 h204 uk us in
set_option maxRecDepth 100000 in
set_option maxHeartbeats 4000000 in
theorem af_9 {Q:APost} (r:AR) (sz:SzR r) (ex:List (Nat × AV))
    (hT:aFit1 r=true → ∀ ex',Q .normal ⟨(0,u) :: (17,u) :: (18,.int .i64 n) :: (19,.int .i64 i) :: ex',[]⟩)
    (hT2:aFit1 r=true → ∀ ex',Q (.exit 1) ⟨(0,u) :: (4,.ptr r.cells) :: (17,u) :: (18,.int .i64 n) :: (19,.int .i64 i) :: ex',[]⟩)
    (hF:aFit1 r=false → Q .ret ⟨[(2,.bool false)],[]⟩) :
    awp Γ f_spec_AFits_9 Q ⟨(0,u) :: (4,.ptr r.cells) :: (5,.bool (aVals.contains r.value)) :: (17,u) :: (18,.int .i64 n) :: (19,.int .i64 i) :: ex,[]⟩:=by
  have cu:=slP_cells r.ps
  have at_:=slP_atom r.ps
  have kl:=slP_kill r.ps
  have sn:=slP_snapW r.ps
  simp only [cells] at cu
  have hc:r.cells=[.int .i64 r.kind,.str r.method,.str r.value,.str r.reason,.str r.domain,.str r.ident,.str r.fr,.str r.sender,.str r.ip,.str r.helo,.str r.auth,.str r.hkey,.str r.hval,.str r.remote,.int .i64 r.oldest,slP r.ps]:=rfl
  have T:=fun (h:aFit1 r=k1Fit r) ex=>af_8 (Q:=Q) h99 h102 h112 h200 h201 h204 uk us n i r sz ex (fun e=>hT (h.trans e)) (fun e=>hT2 (h.trans e)) (fun e=>hF (h.trans e))
  rw [fit1_k] at T hF
  clear hT hT2
  have kt:=tokn_con sz.rs
  cases b1:aVals.contains r.value with
  | false =>
    have f:=hF (by simp only [b1,Bool.false_and])
    simp only [hc]
    simp -implicitDefEqProofs [f_spec_AFits_9,cu,at_,kl,sn,uk,us]
    exact f
  | true =>
    by_cases b2:r.kind < 0
    · have f:=hF (by simp only [b1,show ¬ (0 ≤ r.kind) by omega,decide_false,Bool.false_and,Bool.and_false])
      simp only [hc]
      simp -implicitDefEqProofs [f_spec_AFits_9,cu,at_,kl,sn,uk,us,b2]
      exact f
    by_cases b3:7 < r.kind
    · have f:=hF (by simp only [b1,show ¬ (r.kind ≤ 7) by omega,decide_false,Bool.false_and,Bool.and_false])
      simp only [hc]
      simp -implicitDefEqProofs [f_spec_AFits_9,cu,at_,kl,sn,uk,us,b2,b3]
      exact f
    have c2:0 ≤ r.kind:=by omega
    have c3:r.kind ≤ 7:=by omega
    simp only [b1,c2,c3,decide_true,Bool.true_and] at T hF
    by_cases b4:r.reason=[]
    · have T':=T (by rw [b4]; simp)
      simp only [hc,b4] at T'
      simp only [hc]
      simp -implicitDefEqProofs [f_spec_AFits_9,cu,at_,kl,sn,uk,us,b2,b3,b4]
      exact T' _
    · cases b5:mTok r.reason with
      | false =>
        have f:=hF (by simp [b4,b5])
        rw [b5] at kt
        simp only [hc]
        simp -implicitDefEqProofs [f_spec_AFits_9,cu,at_,kl,sn,uk,us,b2,b3,b4,acall,h104,kt]
        exact f
      | true =>
        have T':=T (by simp [b5])
        rw [b5] at kt
        simp only [hc] at T' ⊢
        simp -implicitDefEqProofs [f_spec_AFits_9,cu,at_,kl,sn,uk,us,b2,b3,b4,acall,h104,kt]
        exact T' _
end

section
variable {Γ:Gam} {u:AV} (uk:∀ d,kill d u=u) (us:∀ g,snapW g u=u) (n i:Int)
include uk us in
set_option maxRecDepth 100000 in
set_option maxHeartbeats 4000000 in
theorem af_v {Q:APost} (r:AR) (V:List L8) (hV:V.length ≤ 10)
    (hT:∀ ex',Q (.exit 2) ⟨(0,u) :: (4,.ptr r.cells) :: (5,.bool (V.contains r.value)) :: (17,u) :: (18,.int .i64 n) :: (19,.int .i64 i) :: ex',[]⟩) :
    awp Γ (.loop [0,4,5,17,18,19,23,24,25] b_spec_AFits_1) Q ⟨[(0,u),(4,.ptr r.cells),(5,.bool false),(17,u),(18,.int .i64 n),(19,.int .i64 i),(23,.sl 1 (strsA V)),(24,.int .i64 V.length),(25,.int .i64 0)],[]⟩:=by
  have cu:=slP_cells r.ps
  have at_:=slP_atom r.ps
  have kl:=slP_kill r.ps
  have sn:=slP_snapW r.ps
  simp only [cells] at cu
  have hc:r.cells=[.int .i64 r.kind,.str r.method,.str r.value,.str r.reason,.str r.domain,.str r.ident,.str r.fr,.str r.sender,.str r.ip,.str r.helo,.str r.auth,.str r.hkey,.str r.hval,.str r.remote,.int .i64 r.oldest,slP r.ps]:=rfl
  simp only [hc] at hT ⊢
  refine awp_loop2 (σ:=List L8 × List L8) (fun z=>⟨[(0,u),(4,.ptr [.int .i64 r.kind,.str r.method,.str r.value,.str r.reason,.str r.domain,.str r.ident,.str r.fr,.str r.sender,.str r.ip,.str r.helo,.str r.auth,.str r.hkey,.str r.hval,.str r.remote,.int .i64 r.oldest,slP r.ps]),(5,.bool (z.1.contains r.value)),(17,u),(18,.int .i64 n),(19,.int .i64 i),(23,.sl 1 (strsA V)),(24,.int .i64 V.length),(25,.int .i64 z.1.length)],[]⟩)
    (fun z=>V=z.1 ++ z.2) (fun z=>z.2.length) ([],V) (by simp) (by simp) ?_
  rintro ⟨pre,post⟩ e1 LQ hLQ
  simp only at e1
  cases post with
  | nil =>
    simp only [List.append_nil] at e1
    subst e1
    have hnl:¬ ((V.length:Int) < (V.length:Int)):=by omega
    simp -implicitDefEqProofs [b_spec_AFits_1]
    simpa using hT _
  | cons m post =>
    have hlen:V.length=pre.length + (post.length + 1):=by rw [e1]; simp
    have hlt:(pre.length:Int) < (V.length:Int):=by omega
    have ew:IntKind.i64.wrap ((pre.length:Int) + 1)=(pre.length:Int) + 1:=wrap64 (by omega) (by omega)
    have g:V[pre.length]? = some m:=by rw [e1]; exact get_mid rfl
    have f:LQ ⟨[(0,u),(4,.ptr [.int .i64 r.kind,.str r.method,.str r.value,.str r.reason,.str r.domain,.str r.ident,.str r.fr,.str r.sender,.str r.ip,.str r.helo,.str r.auth,.str r.hkey,.str r.hval,.str r.remote,.int .i64 r.oldest,slP r.ps]),(5,.bool ((pre ++ [m]).contains r.value)),(17,u),(18,.int .i64 n),(19,.int .i64 i),(23,.sl 1 (strsA V)),(24,.int .i64 V.length),(25,.int .i64 ((pre.length:Int) + 1))],[]⟩ :=
      hLQ (pre ++ [m],post) (by rw [e1]; simp) (by simp) _ (by simp)
    rw [ms_any] at f
    cases hb:pre.contains r.value with
    | true =>
      rw [hb] at f
      simp -implicitDefEqProofs [b_spec_AFits_1,hlt,g,ew,uk,us,cu,at_,kl,sn]
      simpa using f
    | false =>
      rw [hb] at f
      have e:[m].contains r.value=decide (m=r.value):=by rw [Bool.eq_iff_iff]; simp [eq_comm]
      rw [e] at f
      simp -implicitDefEqProofs [b_spec_AFits_1,hlt,g,ew,uk,us,cu,at_,kl,sn]
      simpa using f
theorem sz_fit2 {r:AR} (h:fit2 r=true):SzR r:=by
  simp only [fit2,lenB,fits13,fits14,Bool.and_eq_true,decide_eq_true_eq,List.all_eq_true] at h
  obtain ⟨h1,h2,h3,h4,h5,h6,h7,h8,h9,h10,h11,h12,h13,h14,h15⟩:=h
  refine ⟨by simp only [mid]; omega,by simp only [mid]; omega,by simp only [mid]; omega,fun p hp=>by have:=h15 p hp; simp only [mid]; omega,?_⟩
  have M:(2147483647:Nat) < mid:=by simp only [mid]; omega
  intro p hp
  unfold AR.props at hp
  have c5:∀ s:L8,s.length ≤ 10 → s.length < mid:=fun s h=>by simp only [mid]; omega
  repeat' split at hp
  all_goals simp at hp
  all_goals try rcases hp with rfl | rfl | rfl
  all_goals try rcases hp with rfl | rfl
  all_goals try subst hp
  all_goals (refine ⟨?_,?_⟩ <;> first | (simp only [mid]; omega) | (simp [nAuth,nD,nI,nFrom,nSender,nIprev,nMail,nHelo,mid]))
end

def con_AFits:List AV → Option AV
  | [u]=>match slAR u with
    | some l=>if l.length < half ∧ l.all fit2=true then some (.bool (aFits l)) else none
    | none=>none
  | _=>none
set_option maxRecDepth 100000 in
set_option maxHeartbeats 4000000 in
theorem ok_AFits (Γ:Gam) (h99:Γ.fn 99=con_MailKeyword) (h102:Γ.fn 102=con_MailHalves) (h104:Γ.fn 104=con_MailToken) (h112:Γ.fn 112=con_MailLower) (h200:Γ.fn 200=con_AMethods) (h201:Γ.fn 201=con_AProps) (h203:Γ.fn 203=con_AValues) (h204:Γ.fn 204=con_APlain) :
    ∀ args r,con_AFits args=some r → runs Γ c_spec_AFits args (fun v=>v=r):=by
  intro args r h
  simp only [con_AFits] at h
  split at h <;> (try simp at h; done)
  rename_i u
  split at h <;> (try simp at h; done)
  rename_i l hl
  obtain ⟨⟨h1,h2⟩,rfl⟩:=ite_some h
  clear h
  have uk:=sar_kill hl
  have us:=sar_snapW hl
  have ua:=sar_alen hl
  simp only [half] at h1
  rw [List.all_eq_true] at h2
  simp -implicitDefEqProofs [-alen,c_spec_AFits,ua]
  refine awp_loop2 (σ:=List AR × List AR) (fun z=>⟨[(0,u),(17,u),(18,.int .i64 l.length),(19,.int .i64 z.1.length)],[]⟩)
    (fun z=>l=z.1 ++ z.2 ∧ z.1.all aFit1=true) (fun z=>z.2.length) ([],l) (by simp) (by simp) ?_
  rintro ⟨pre,post⟩ ⟨e1,e2⟩ LQ hLQ
  simp only at e1 e2
  cases post with
  | nil =>
    simp only [List.append_nil] at e1
    subst e1
    have hnl:¬ ((l.length:Int) < (l.length:Int)):=by omega
    have e:aFits l=decide ((l.length:Int) ≤ 10):=by
      simp only [aFits,e2,Bool.true_and]
      exact decide_eq_decide.2 (by omega)
    simp -implicitDefEqProofs [-alen,b_spec_AFits_11,t_spec_AFits_12,ua,e]
  | cons x post =>
    have hu:=sar_ne hl (by rw [e1]; simp)
    subst hu
    have hlen:l.length=pre.length + (post.length + 1):=by rw [e1]; simp
    have hlt:(pre.length:Int) < (l.length:Int):=by omega
    have ew:IntKind.i64.wrap ((pre.length:Int) + 1)=(pre.length:Int) + 1:=wrap64 (by omega) (by omega)
    have g:(arA l)[pre.length]? = some (.agg x.cells):=by rw [e1,arA_app]; exact get_mid (by simp)
    have sz:=sz_fit2 (h2 x (by rw [e1]; simp))
    have cu:=slP_cells x.ps
    simp only [cells] at cu
    have k203:con_AValues []=some (.sl 1 (strsA aVals)):=rfl
    have bad:aFit1 x=false → aFits l=false:=fun h=>by
      have:l.all aFit1=false:=by rw [e1]; simp [h]
      simp only [aFits,this,Bool.false_and]
    have good:aFit1 x=true → LQ ⟨[(0,.sl 16 (arA l)),(17,.sl 16 (arA l)),(18,.int .i64 l.length),(19,.int .i64 ((pre.length:Int) + 1))],[]⟩:=fun h =>
      hLQ (pre ++ [x],post) ⟨by rw [e1]; simp,by rw [List.all_append,e2]; simp [h]⟩ (by simp) _ (by simp)
    have hc:x.cells=[.int .i64 x.kind,.str x.method,.str x.value,.str x.reason,.str x.domain,.str x.ident,.str x.fr,.str x.sender,.str x.ip,.str x.helo,.str x.auth,.str x.hkey,.str x.hval,.str x.remote,.int .i64 x.oldest,slP x.ps]:=rfl
    have T:=fun Q a b c ex=>af_9 (Γ:=Γ) (Q:=Q) h99 h102 h104 h112 h200 h201 h204 uk us (l.length:Int) (pre.length:Int) x sz ex a b c
    have hal:aVals.length=9:=rfl
    have V:=fun Q hT=>af_v (Γ:=Γ) (Q:=Q) uk us (l.length:Int) (pre.length:Int) x aVals (by omega) hT
    rw [hal] at V
    simp only [hc] at g T V
    generalize hVV:aVals=V9 at *
    simp -implicitDefEqProofs [b_spec_AFits_11,hlt,g,cu,uk,us,acall,h203,k203,hal]
    refine V _ fun ex'=>?_
    refine T _ ?_ ?_ ?_ _
    · intro h ex''
      have gd:=good h
      simp -implicitDefEqProofs [t_spec_AFits_10,ew]
      exact gd
    · intro h ex''
      have gd:=good h
      simp -implicitDefEqProofs [t_spec_AFits_10,ew]
      exact gd
    · intro h
      have b:=bad h
      simp -implicitDefEqProofs [b]
end Wax


namespace Wax
open Go (IntKind)

theorem only_only (r:AR):r.only.only=r.only:=by
  by_cases h0:r.kind=0
  · simp [AR.only,h0]
  by_cases h1:r.kind=1
  · simp [AR.only,h1]
  by_cases h2:r.kind=2
  · simp [AR.only,h2]
  by_cases h3:r.kind=3
  · simp [AR.only,h3]
  by_cases h4:r.kind=4
  · simp [AR.only,h4]
  by_cases h5:r.kind=5
  · simp [AR.only,h5]
  by_cases h6:r.kind=6
  · simp [AR.only,h6]
  by_cases h7:r.kind=7
  · simp [AR.only,h7]
  simp [AR.only,h0,h1,h2,h3,h4,h5,h6,h7]
theorem fit2_only {r:AR} (h:fit2 r=true):fit2 r.only=true:=by
  simp only [fit2,lenB,Bool.and_eq_true,decide_eq_true_eq] at h
  obtain ⟨h1,h2,h3,h4,h5,h6,h7,h8,h9,h10,h11,h12,h13,h14⟩:=h
  have hn:fits13 []=true:=rfl
  unfold AR.only
  repeat' split
  all_goals simp [fit2,lenB,ar0,h1,h2,h3,h4,h5,h6,h7,h8,h9,h10,h11,h12,h13,h14,hn]
theorem norm_norm (r:AR):r.norm.norm=r.norm:=by
  obtain ⟨a,b,c,d,e,f,g,h,i,j,k,l,m,n,o,ps⟩:=r
  cases ps with
  | none=>rfl
  | some p=>cases p <;> rfl
theorem norm_ps (r:AR):r.norm.ps.getD []=r.ps.getD []:=by
  obtain ⟨a,b,c,d,e,f,g,h,i,j,k,l,m,n,o,ps⟩:=r
  cases ps with
  | none=>rfl
  | some p=>cases p <;> rfl
theorem sames_norm {f:AR → AR} (hf:∀ r:AR,(f r).norm=r.norm):∀ l:List AR,arSames (l.map f) l=true
  | []=>rfl
  | r :: l=>by
    simp only [List.map_cons,arSames,Bool.and_eq_true]
    exact ⟨arSame_iff.2 (hf r),sames_norm hf l⟩
structure LawAR (l:List AR):Prop where
  len:l.length ≤ 2147483647
  fit:(l.map AR.only).all fit2=true
theorem lawAR {l:List AR} (h:fit1 l=true):LawAR l:=by
  simp only [fit1,Bool.and_eq_true,decide_eq_true_eq,List.all_eq_true] at h
  refine ⟨h.1,?_⟩
  simp only [List.all_eq_true,List.mem_map]
  rintro _ ⟨r,hr,rfl⟩
  exact fit2_only (h.2 r hr)
theorem fit2_ps {r:AR} (h:fit2 r=true):(r.ps.getD []).length < half:=by
  simp only [fit2,lenB,fits13,Bool.and_eq_true,decide_eq_true_eq] at h
  simp only [half]; omega
theorem law_sz {l:List AR} (L:LawAR l) (hf:aFits (l.map AR.only)=true):((l.map AR.only).length < half ∧ ∀ r ∈ l.map AR.only,(r.ps.getD []).length < half) ∧ (((l.map AR.only).map AR.norm).length < half ∧ ∀ r ∈ (l.map AR.only).map AR.norm,(r.ps.getD []).length < half):=by
  have h1:=L.fit
  rw [List.all_eq_true] at h1
  have h2:(l.map AR.only).length ≤ 10:=by simp only [aFits,Bool.and_eq_true,decide_eq_true_eq] at hf; exact hf.2
  have a:=fun r hr=>fit2_ps (h1 r hr)
  refine ⟨⟨by simp only [half]; omega,a⟩,⟨by rw [List.length_map]; simp only [half]; omega,?_⟩⟩
  intro r hr
  obtain ⟨s,hs,rfl⟩:=List.mem_map.1 hr
  rw [norm_ps]; exact a s hs

section
variable {Γ:Gam} {u f:AV} {l:List AR} {fm:L8}
theorem k_fit1 (hl:slAR u=some l) (h1:l.length < 9223372036854775808) (h2:∀ r ∈ l,(r.ps.getD []).length < 9223372036854775808):con_zzFits1 [u]=some (.bool (fit1 l)):=by
  simp only [con_zzFits1,hl]; exact if_pos ⟨h1,h2⟩
theorem k_only (hl:slAR u=some l) (L:LawAR l):con_only [u]=some (arV (l.map AR.only)):=by
  simp only [con_only,hl]; exact if_pos L.len
theorem k_fits (L:LawAR l):con_AFits [arV (l.map AR.only)]=some (.bool (aFits (l.map AR.only))):=by
  simp only [con_AFits,slAR_arV]
  exact if_pos ⟨by have:=L.len; simp only [List.length_map,half]; omega,L.fit⟩
end

end Wax


namespace Wax
open Go (IntKind)

def tspL:List Int:=[40,41,60,62,64,44,59,58,92,34,47,91,93,63,61]
def adrL:List Int:=[35,36,37,38,39,42,43,44,46,47,45,64,91,93,92,94,95,96,123,124,125,126]
def con_tspecial:List AV → Option AV
  | [.int .i32 c]=>some (.bool (tspL.contains c))
  | _=>none
set_option maxHeartbeats 4000000 in
set_option maxRecDepth 10000 in
theorem ok_tspecial (Γ:Gam):∀ args r,con_tspecial args=some r → runs Γ c_authres_tspecial args (fun v=>v=r):=by
  intro args r h
  simp only [con_tspecial] at h
  split at h <;> (try simp at h; done)
  rename_i c
  injection h with h; subst h
  simp -implicitDefEqProofs [c_authres_tspecial]
  simp +contextual [tspL]
def con_addressOk:List AV → Option AV
  | [.int .i32 c]=>some (.bool (adrL.contains c))
  | _=>none
set_option maxHeartbeats 4000000 in
set_option maxRecDepth 10000 in
theorem ok_addressOk (Γ:Gam):∀ args r,con_addressOk args=some r → runs Γ c_authres_addressOk args (fun v=>v=r):=by
  intro args r h
  simp only [con_addressOk] at h
  split at h <;> (try simp at h; done)
  rename_i c
  injection h with h; subst h
  simp -implicitDefEqProofs [c_authres_addressOk]
  simp +contextual [adrL]
def letN (c:Int):Bool:=decide ((97 ≤ c ∧ c ≤ 122) ∨ (65 ≤ c ∧ c ≤ 90) ∨ c=170 ∨ c=181 ∨ c=186 ∨ (192 ≤ c ∧ c ≤ 255 ∧ c ≠ 215 ∧ c ≠ 247))
def con_zzIsLetter2:List AV → Option AV
  | [.int .i32 c]=>some (.bool (letN c))
  | _=>none
set_option maxHeartbeats 4000000 in
theorem ok_zzIsLetter2 (Γ:Gam):∀ args r,con_zzIsLetter2 args=some r → runs Γ c_authres_zzIsLetter args (fun v=>v=r):=by
  intro args r h
  simp only [con_zzIsLetter2] at h
  split at h <;> (try simp at h; done)
  rename_i c
  injection h with h; subst h
  simp -implicitDefEqProofs [c_authres_zzIsLetter]
  have hl:∀ b:Bool,(letN c=b)=(decide ((97 ≤ c ∧ c ≤ 122) ∨ (65 ≤ c ∧ c ≤ 90) ∨ c=170 ∨ c=181 ∨ c=186 ∨ (192 ≤ c ∧ c ≤ 255 ∧ c ≠ 215 ∧ c ≠ 247))=b):=fun _=>rfl
  simp only [hl,decide_eq_true_eq,decide_eq_false_iff_not]
  omega
def digN (c:Int):Bool:=decide (48 ≤ c ∧ c ≤ 57)
def con_zzIsDigit2:List AV → Option AV
  | [.int .i32 c]=>some (.bool (digN c))
  | _=>none
theorem ok_zzIsDigit2 (Γ:Gam):∀ args r,con_zzIsDigit2 args=some r → runs Γ c_authres_zzIsDigit args (fun v=>v=r):=by
  intro args r h
  simp only [con_zzIsDigit2] at h
  split at h <;> (try simp at h; done)
  rename_i c
  injection h with h; subst h
  simp -implicitDefEqProofs [c_authres_zzIsDigit]
  refine ⟨fun h=>by simp [digN,h],fun h=>by simp [digN]; omega⟩
def qtB:L8 → L8
  | []=>[]
  | c :: r=>if c=34 then 92 :: 34 :: qtB r else c :: qtB r
theorem qtB_len:∀ s:L8,(qtB s).length ≤ 2 * s.length
  | []=>by simp [qtB]
  | c :: r=>by
    have:=qtB_len r
    simp only [qtB]
    split <;> simp <;> omega
theorem qtB_app:∀ (a b:L8),qtB (a ++ b)=qtB a ++ qtB b
  | [],b=>rfl
  | c :: a,b=>by
    simp only [List.cons_append,qtB,qtB_app a b]
    split <;> simp
def con_zzQuotes:List AV → Option AV
  | [.str s]=>if s.length < mid then some (.str (qtB s)) else none
  | _=>none
set_option maxHeartbeats 4000000 in
theorem ok_zzQuotes (Γ:Gam):∀ args r,con_zzQuotes args=some r → runs Γ c_authres_zzQuotes args (fun v=>v=r):=by
  intro args r h
  simp only [con_zzQuotes] at h
  split at h <;> (try simp at h; done)
  rename_i s
  obtain ⟨hl,rfl⟩:=ite_some h
  clear h
  simp only [mid] at hl
  simp -implicitDefEqProofs [c_authres_zzQuotes]
  refine awp_loop2 (σ:=L8 × L8 × L8) (fun p=>⟨[(0,.str s),(3,grV 23 1 p.2.2.length),(4,.int .i64 p.1.length)],grH 23 p.2.2.length (bcA p.2.2)⟩) (fun p=>s=p.1 ++ p.2.1 ∧ p.2.2=qtB p.1) (fun p=>p.2.1.length) ([],s,[]) (by simp) (by simp [qtB]) ?_
  rintro ⟨pre,post,out⟩ ⟨e1,e2⟩ LQ hLQ
  simp only at e1 e2
  have hol:out.length ≤ 2 * pre.length:=by rw [e2]; exact qtB_len pre
  cases post with
  | nil =>
    simp only [List.append_nil] at e1
    subst e1
    have hnl:¬ ((s.length:Int) < (s.length:Int)):=by omega
    cases out with
    | nil=>simp -implicitDefEqProofs [← e2]
    | cons y out =>
      simp -implicitDefEqProofs [← e2]
  | cons c post =>
    have hlen:s.length=pre.length + (post.length + 1):=by rw [e1]; simp
    have hlt:(pre.length:Int) < (s.length:Int):=by omega
    have hlt':pre.length < s.length:=by omega
    have g:s[pre.length]? = some c:=by rw [e1]; exact get_mid rfl
    have g':s[pre.length]'hlt'=c:=by rw [List.getElem?_eq_getElem hlt'] at g; exact Option.some.inj g
    have ew:IntKind.i64.wrap ((pre.length:Int) + 1)=(pre.length:Int) + 1:=wrap64 (by omega) (by omega)
    have nx:qtB (pre ++ [c])=out ++ (if c=34 then [92,34] else [c]):=by
      rw [qtB_app,← e2]; simp only [qtB]
    by_cases hc:c=34
    · have hx:(c.toNat:Int)=34:=by rw [hc]; rfl
      rw [if_pos hc] at nx
      have go:=fun st=>hLQ (pre ++ [c],post,out ++ [92,34]) ⟨by simp [e1],nx.symm⟩ (by simp) st
      simp only at go
      cases out with
      | nil =>
        simp -implicitDefEqProofs [hlt,hlt',g,g',ew,hx]
        exact go _ (by simp)
      | cons y out =>
        simp only [List.length_cons] at hol
        have hk:List.take (out.length + 1) (bcA out ++ [AV.int .u8 92])=bcA out ++ [AV.int .u8 92]:=List.take_of_length_le (by simp)
        simp -implicitDefEqProofs [hlt,hlt',g,g',ew,hx,hk]
        refine ⟨by omega,by omega,go _ (by simp)⟩
    · rw [if_neg hc] at nx
      have hn:¬ (c.toNat:Int)=34:=fun e=>hc (UInt8.toNat_inj.1 (by simp; omega))
      have go:=fun st=>hLQ (pre ++ [c],post,out ++ [c]) ⟨by simp [e1],nx.symm⟩ (by simp) st
      simp only at go
      cases out with
      | nil =>
        simp -implicitDefEqProofs [hlt,hlt',g,g',ew,hn]
        exact go _ (by simp)
      | cons y out =>
        simp only [List.length_cons] at hol
        simp -implicitDefEqProofs [hlt,hlt',g,g',ew,hn]
        refine ⟨by omega,go _ (by simp)⟩
end Wax


namespace Wax
open Go (IntKind)

def spB (c:UInt8):Bool:=decide ((c.toNat:Int) ≤ 32) || tspL.contains (c.toNat:Int)
def adB (c:UInt8):Bool:=letN c.toNat || digN c.toNat || adrL.contains (c.toNat:Int)
def fmtV (s:L8):L8:=if s.any spB=true then 34 :: (qtB s ++ [34]) else s
def fmtP (s:L8):L8:=if s.all adB=true then s else fmtV s
def con_formatValue:List AV → Option AV
  | [.str s]=>if s.length < mid ∧ ascii s=true then some (.str (fmtV s)) else none
  | _=>none
set_option maxHeartbeats 4000000 in
set_option maxRecDepth 100000 in
theorem ok_formatValue (Γ:Gam) (h243:Γ.fn 243=con_tspecial) (h244:Γ.fn 244=con_zzQuotes):∀ args r,con_formatValue args=some r → runs Γ c_authres_formatValue args (fun v=>v=r):=by
  intro args r h
  simp only [con_formatValue] at h
  split at h <;> (try simp at h; done)
  rename_i s
  obtain ⟨⟨hs,ha⟩,rfl⟩:=ite_some h
  clear h
  have kq:con_zzQuotes [.str s]=some (.str (qtB s)):=if_pos hs
  have hql:=qtB_len s
  simp only [mid] at hs
  simp -implicitDefEqProofs [c_authres_formatValue]
  refine awp_loop2 (σ:=L8 × L8) (fun p=>⟨[(0,.str s),(3,.bool (p.1.any spB)),(8,.ref 8 0)],[(8,.sit s p.1.length)]⟩)
    (fun p=>s=p.1 ++ p.2) (fun p=>p.2.length) ([],s) (by simp) (by simp) ?_
  rintro ⟨pre,post⟩ hs1 LQ hLQ
  simp only at hs1
  cases post with
  | nil =>
    simp only [List.append_nil] at hs1
    subst hs1
    cases hc:s.any spB with
    | true =>
      simp -implicitDefEqProofs [b_authres_formatValue_1,t_authres_formatValue_2,hc,acall,h244,kq,fmtV]
      omega
    | false=>simp -implicitDefEqProofs [b_authres_formatValue_1,t_authres_formatValue_2,hc,fmtV]
  | cons x post =>
    subst hs1
    have hx:=(ascii_lt (by rw [ascii_app] at ha; simp only [Bool.and_eq_true] at ha; exact ha.2:ascii (x :: post)=true)).1
    have go:=fun st=>hLQ (pre ++ [x],post) (by simp) (by simp) st
    have ea:(pre ++ [x]).any spB=(pre.any spB || spB x):=by simp
    simp only [ea] at go
    have kt:con_tspecial [.int .i32 (x.toNat:Int)]=some (.bool (tspL.contains (x.toNat:Int))):=rfl
    by_cases h32:(x.toNat:Int) ≤ 32
    · have e:spB x=true:=by simp only [spB,h32,decide_true,Bool.true_or]
      simp only [e,Bool.or_true] at go
      simp -implicitDefEqProofs [b_authres_formatValue_1,decA hx,acall,h243,kt,h32]
      exact go _ (by simp)
    · have e:spB x=tspL.contains (x.toNat:Int):=by simp only [spB,h32,decide_false,Bool.false_or]
      rw [e] at go
      cases ht:tspL.contains (x.toNat:Int) with
      | true =>
        simp only [ht,Bool.or_true] at go kt
        simp -implicitDefEqProofs [b_authres_formatValue_1,decA hx,acall,h243,kt,h32]
        exact go _ (by simp)
      | false =>
        simp only [ht,Bool.or_false] at go kt
        simp -implicitDefEqProofs [b_authres_formatValue_1,decA hx,acall,h243,kt,h32]
        exact go _ (by simp)
def con_formatPvalue:List AV → Option AV
  | [.str s]=>if s.length < mid ∧ ascii s=true then some (.str (fmtP s)) else none
  | _=>none
set_option maxHeartbeats 4000000 in
set_option maxRecDepth 100000 in
theorem ok_formatPvalue (Γ:Gam) (h245:Γ.fn 245=con_addressOk) (h246:Γ.fn 246=con_zzIsLetter2) (h247:Γ.fn 247=con_zzIsDigit2) (h241:Γ.fn 241=con_formatValue):∀ args r,con_formatPvalue args=some r → runs Γ c_authres_formatPvalue args (fun v=>v=r):=by
  intro args r h
  simp only [con_formatPvalue] at h
  split at h <;> (try simp at h; done)
  rename_i s
  obtain ⟨⟨hs,ha⟩,rfl⟩:=ite_some h
  clear h
  have kq:con_formatValue [.str s]=some (.str (fmtV s)):=if_pos ⟨hs,ha⟩
  simp only [mid] at hs
  simp -implicitDefEqProofs [c_authres_formatPvalue]
  refine awp_loop2 (σ:=L8 × L8) (fun p=>⟨[(0,.str s),(3,.bool (p.1.all adB)),(8,.ref 8 0)],[(8,.sit s p.1.length)]⟩)
    (fun p=>s=p.1 ++ p.2) (fun p=>p.2.length) ([],s) (by simp) (by simp) ?_
  rintro ⟨pre,post⟩ hs1 LQ hLQ
  simp only at hs1
  cases post with
  | nil =>
    simp only [List.append_nil] at hs1
    subst hs1
    cases hc:s.all adB with
    | true=>simp -implicitDefEqProofs [b_authres_formatPvalue_1,t_authres_formatPvalue_2,hc,fmtP]
    | false=>simp -implicitDefEqProofs [b_authres_formatPvalue_1,t_authres_formatPvalue_2,hc,acall,h241,kq,fmtP]
  | cons x post =>
    subst hs1
    have hx:=(ascii_lt (by rw [ascii_app] at ha; simp only [Bool.and_eq_true] at ha; exact ha.2:ascii (x :: post)=true)).1
    have go:=fun st=>hLQ (pre ++ [x],post) (by simp) (by simp) st
    have ea:(pre ++ [x]).all adB=(pre.all adB && adB x):=by simp
    simp only [ea] at go
    have k1:con_addressOk [.int .i32 (x.toNat:Int)]=some (.bool (adrL.contains (x.toNat:Int))):=rfl
    have k2:con_zzIsLetter2 [.int .i32 (x.toNat:Int)]=some (.bool (letN (x.toNat:Int))):=rfl
    have k3:con_zzIsDigit2 [.int .i32 (x.toNat:Int)]=some (.bool (digN (x.toNat:Int))):=rfl
    cases h1:letN (x.toNat:Int) with
    | true =>
      have e:adB x=true:=by simp only [adB,h1,Bool.true_or]
      simp only [e,Bool.and_true] at go
      simp only [h1] at k2
      simp -implicitDefEqProofs [b_authres_formatPvalue_1,decA hx,acall,h245,k1,h246,k2]
      exact go _ (by simp)
    | false =>
      simp only [h1] at k2
      cases h2:digN (x.toNat:Int) with
      | true =>
        have e:adB x=true:=by simp only [adB,h1,h2,Bool.false_or,Bool.true_or]
        simp only [e,Bool.and_true] at go
        simp only [h2] at k3
        simp -implicitDefEqProofs [b_authres_formatPvalue_1,decA hx,acall,h245,k1,h246,k2,h247,k3]
        exact go _ (by simp)
      | false =>
        simp only [h2] at k3
        have e:adB x=adrL.contains (x.toNat:Int):=by simp only [adB,h1,h2,Bool.false_or]
        rw [e] at go
        cases h3:adrL.contains (x.toNat:Int) with
        | true =>
          simp only [h3,Bool.and_true] at go k1
          simp -implicitDefEqProofs [b_authres_formatPvalue_1,decA hx,acall,h245,k1,h246,k2,h247,k3]
          exact go _ (by simp)
        | false =>
          simp only [h3,Bool.and_false] at go k1
          simp -implicitDefEqProofs [b_authres_formatPvalue_1,decA hx,acall,h245,k1,h246,k2,h247,k3]
          exact go _ (by simp)
end Wax


namespace Wax
open Go Go.RowKit

theorem repSl_mk {T:Tab} {w:World} {F:Frz} {b:Nat} (hF:F b):∀ (l:List (List UInt8)) (o:Nat),(∀ (j:Nat) s,l[j]? = some s → w.cell? ⟨b,o + j,none⟩=some (.string ⟨s.toArray⟩)) → RepSl T w F 1 b o (strsA l)
  | [],_,_=>trivial
  | x :: r,o,h=>by
    simp only [strsA,List.map_cons,RepSl]
    refine ⟨trivial,⟨hF,_,by simpa using h 0 x rfl,by simp [Rep]⟩,?_⟩
    exact repSl_mk hF r (o + 1) fun j s hj=>by
      rw [show o + 1 + j=o + (j + 1) by omega]
      exact h (j + 1) s (by simpa using hj)

theorem owned_strs {T:Tab} {w w':World} {F:Frz} {e9:TypeId} {v':Value} {l:List (List UInt8)} (ho:w'.ownsRow w.heap.size e9 1 v' l.length (l.map fun s=>Value.string ⟨s.toArray⟩)) (hn:v' ≠ .slice none 0 0) :
    Rep T w' (fun b=>F b ∨ (w.heap.size ≤ b ∧ b < w'.heap.size)) noRho (.sl 1 (strsA l)) v':=by
  have ho':=ho
  obtain ⟨_,hx⟩:=ho
  rcases hx with ⟨he,_⟩ | ⟨g,cap,cur,rfl,hg,hh,hcap,_,_,_⟩
  · exact absurd he hn
  · simp only [Rep]
    refine .inl ⟨g,0,cap,by simp,by simpa using hcap,?_⟩
    have hgl:g < w'.heap.size:=by
      rcases Nat.lt_or_ge g w'.heap.size with h | h
      · exact h
      · rw [Array.getElem?_eq_none h] at hh; simp at hh
    refine repSl_mk (.inr ⟨hg,hgl⟩) l 0 fun j s hj=>?_
    have:=ho'.cells (g:=g) rfl j (.string ⟨s.toArray⟩) (by rw [List.getElem?_map,hj]; rfl)
    have e:((⟨g,0,none⟩:Addr).add j)=⟨g,0 + j,none⟩:=by
      cases j <;> simp [Addr.add]
    rw [e] at this
    exact this

end Wax


namespace Wax
open Go Go.RowKit Go.Proofs Go.Sort

def SortSays (P:Program) (f:FuncId):Prop :=
  (∀ (p:Option Addr) (cap:Nat) (w:World),Calls P f #[.slice p 0 cap] w fun e w'=>e=.returned (.tuple #[]) ∧ w'=w) ∧
  ∀ (blk off cap:Nat) (ss:List (List UInt8)) (w:World),Holds encStr w blk off ss.toArray → blk < w.heap.size → ss.length < 4611686018427387904 →
    Calls P f #[.slice (some ⟨blk,off,none⟩) ss.length cap] w fun e w'=>e=.returned (.tuple #[]) ∧ ∃ n os,w'=grow (putRow encStr (Sort.ahead w n) blk off (ss.mergeSort fun x y=>decide (x ≤ y)).toArray) os

def con_Sort:List AV → List (Nat × AObj) → Option (AV × List (Nat × AObj))
  | [.msl 0 1 0 n],[(0,.cells cs)]=>match asStrs cs with
    | some l=>if l.length=n ∧ n < 4611686018427387904 then some (.tup [],[(0,.cells (strsA (sortB l)))]) else none
    | none=>none
  | _,_=>none

theorem repL_strs2 {T:Tab} {w:World} {F:Frz} {ρ:Rho}:∀ {l:List (List UInt8)} {vs:List Value},RepL T w F ρ (strsA l) vs → vs=l.map encStr
  | [],[],_=>rfl
  | s :: l,v :: vs,h=>by
    simp only [strsA,List.map_cons,RepL] at h
    obtain ⟨h1,h2⟩:=h
    simp only [Rep] at h1
    rw [List.map_cons,h1,← repL_strs2 (l:=l) h2]
  | [],_ :: _,h=>by simp [strsA,RepL] at h
  | _ :: _,[],h=>by simp [strsA,RepL] at h
theorem strs2_repL {T:Tab} {w:World} {F:Frz} {ρ:Rho}:∀ {l:List (List UInt8)},RepL T w F ρ (strsA l) (l.map encStr)
  | []=>by simp [strsA,RepL]
  | s :: l=>by
    simp only [strsA,List.map_cons,RepL]
    exact ⟨by simp only [Rep],strs2_repL (l:=l)⟩

theorem ok_SortS {P:Program} {T:Tab} {f:FuncId} (H:SortSays P f):∀ args hp q,con_Sort args hp=some q → OkS P T f args hp q.1 q.2:=by
  intro args hp q h w F ρ vs hF hG hid hH hx
  obtain ⟨H0,H1⟩:=H
  simp only [con_Sort] at h
  split at h <;> (try simp at h; done)
  rename_i n cs
  split at h <;> (try simp at h; done)
  rename_i l hl
  rw [asStrs_spec hl] at hH
  split at h <;> (try simp at h; done)
  rename_i hc
  obtain ⟨rfl,hlen⟩:=hc
  simp only [Option.some.injEq] at h
  subst h
  match vs,hx with
  | [v],hx =>
  simp only [RepL,and_true] at hx
  simp only [Rep] at hx
  obtain ⟨b,o,x,cap,c,e,fz,hρ,rfl,hcap,hbk,hsh⟩:=hx
  obtain ⟨b',o',hρ',hb,hnF,pre,us,post,e',f',hb2,hpo,hr,hnf⟩:=hH.obj 0 _ rfl
  rw [hρ] at hρ'
  simp only [Option.some.injEq,Prod.mk.injEq] at hρ'
  obtain ⟨rfl,rfl⟩:=hρ'
  have hus:=repL_strs2 hr
  subst hus
  have hsame:BelX (fun b=>∃ id o,ρ id=some (b,o)) w.heap.size w w:=BelX.refl _ _ _
  cases hl0:l with
  | nil =>
    subst hl0
    refine (H0 _ _ w).mono ?_
    rintro r w' ⟨rfl,rfl⟩
    refine ⟨_,F,ρ,rfl,hsame,fun _ h=>h,fun _ h=>.inl h,hF,?_,fun _ p h=>.inr h,fun id b o h1 h2=>by rw [h2] at h1; simp at h1,?_⟩
    · have:sortB []=[]:=by simp [sortB]
      rw [this]
      exact hH
    · exact ⟨#[],rfl,by simp [RepL]⟩
  | cons y ys =>
    rw [← hl0]
    have hn:0 < l.length:=by rw [hl0]; simp
    have hx:x=o:=by
      rcases hsh with h | h
      · omega
      · omega
    subst hx
    have hsz:(sortB l).length=l.length:=by simp [sortB]
    have hpl:(pre ++ (l.map encStr ++ post)).length=x + l.length + post.length:=by simp [hpo]; omega
    have hold:Holds encStr w b x l.toArray:=by
      intro j hj
      simp only [List.size_toArray] at hj
      refine ⟨?_,hnf.1 (x + j) (by omega)⟩
      simp only [World.cell?,hb2,Option.isSome_none,Bool.false_eq_true,if_false,List.getElem?_toArray]
      rw [← hpo,List.getElem?_append_right (by omega),Nat.add_sub_cancel_left,List.getElem?_append_left (by simpa using hj),List.getElem?_map,List.getElem?_eq_getElem hj]
      simp [hj]
    refine (H1 b x cap l w hold hb hlen).mono ?_
    rintro r w' ⟨rfl,m,os,rfl⟩
    have hsa:(l.mergeSort fun x y=>decide (x ≤ y))=sortB l:=rfl
    rw [hsa]
    have hheap:∀ k,k < w.heap.size → (grow (putRow encStr (Sort.ahead w m) b x (sortB l).toArray) os).heap[k]? = if b=k then some (.cells (pre ++ ((sortB l).map encStr ++ post)).toArray e' f') else w.heap[k]? := by
      intro k hk
      rw [heap_grow_old _ _ (by simpa [Sort.ahead] using hk)]
      simp only [putRow,mapBlock,Sort.ahead,Array.getElem?_modify]
      by_cases hbk:b=k
      · subst hbk
        simp only [if_true,hb2,Option.map_some,onCells,Option.some.injEq,Obj.cells.injEq,and_true]
        apply Array.ext_getElem?
        intro j
        simp only [putCells,Array.getElem?_mapIdx,List.size_toArray,hsz,List.getElem?_toArray]
        by_cases h1:j < x
        · rw [List.getElem?_append_left (by omega),List.getElem?_append_left (by omega)]
          cases pre[j]? with
          | none=>rfl
          | some y=>rw [Option.map_some,if_neg (by omega)]
        · have a1:∀ z:List Value,(pre ++ z)[j]? = z[j - x]? := fun z=>by rw [List.getElem?_append_right (by omega),hpo]
          by_cases h2:j < x + l.length
          · have a2:∀ z:List Value,z.length=l.length → (z ++ post)[j - x]? = z[j - x]? := fun z hz=>List.getElem?_append_left (by omega)
            rw [a1,a1,a2 _ (by simp),a2 _ (by simp [hsz]),List.getElem?_map,List.getElem?_map,List.getElem?_eq_getElem (by omega),List.getElem?_eq_getElem (by omega)]
            simp only [Option.map_some]
            rw [if_pos ⟨by omega,h2⟩]
            have hjj:j - x < (sortB l).length:=by omega
            simp [hjj]
          · have a3:∀ z:List Value,z.length=l.length → (z ++ post)[j - x]? = post[j - x - l.length]? := fun z hz=>by rw [List.getElem?_append_right (by omega),hz]
            rw [a1,a1,a3 _ (by simp),a3 _ (by simp [hsz])]
            cases post[j - x - l.length]? with
            | none=>rfl
            | some y=>rw [Option.map_some,if_neg (by omega)]
      · simp [hbk]
    have hgs:(grow (putRow encStr (Sort.ahead w m) b x (sortB l).toArray) os).heap.size=w.heap.size + os.size:=by simp [Sort.ahead]
    generalize hw':grow (putRow encStr (Sort.ahead w m) b x (sortB l).toArray) os=w' at *
    have hbel:BelX (fun b=>∃ id o,ρ id=some (b,o)) w.heap.size w w':=by
      refine ⟨by rw [← hw']; rfl,by rw [← hw']; rfl,by rw [← hw']; rfl,by omega,fun k hk hB=>?_,fun k c1 e1 f1 hk h1=>?_⟩
      · rw [hheap k hk,if_neg (fun h=>hB ⟨0,x,by rw [← h]; exact hρ⟩)]
      · rw [hheap k hk]
        by_cases h:b=k
        · subst h
          rw [hb2] at h1
          injection h1 with h1
          injection h1 with h1 h2 h3
          rw [if_pos rfl]
          refine ⟨_,_,_,rfl,?_⟩
          rw [← h1]
          simp [hsz]
        · rw [if_neg h]
          exact ⟨c1,e1,f1,h1,Nat.le_refl _⟩
    refine ⟨_,F,ρ,rfl,hbel,fun _ h=>h,fun _ h=>.inl h,fun k hk=>by have:=hF k hk; omega,?_,fun _ p h=>.inr h,fun id b o h1 h2=>by rw [h2] at h1; simp at h1,?_⟩
    · refine ⟨fun id p hp=>?_,fun id y hy=>?_,hH.inj⟩
      · obtain ⟨z,hz⟩:=hH.dom id p hp
        simp only [hlk] at hz ⊢
        split at hz
        · exact ⟨_,if_pos (by assumption)⟩
        · simp at hz
      · simp only [hlk] at hy
        split at hy
        · rename_i h0
          simp only [Option.some.injEq] at hy
          subst hy
          have h0':id=0:=by omega
          subst h0'
          refine ⟨b,x,hρ,by omega,hnF,pre,(sortB l).map encStr,post,e',f',by rw [hheap b hb,if_pos rfl],hpo,strs2_repL,?_⟩
          have hlen2:(pre ++ ((sortB l).map encStr ++ post)).length=(pre ++ (l.map encStr ++ post)).length:=by simp [hsz]
          rw [hlen2]
          refine ⟨fun k hk=>?_,fun c1 e1 f1 h1=>?_⟩
          · have:=hnf.1 k hk
            simp only [World.frozen?,hb2] at this
            simp only [World.frozen?,hheap b hb,if_true]
            exact this
          · rw [hheap b hb,if_pos rfl] at h1
            injection h1 with h1
            injection h1 with _ _ h3
            subst h3
            exact hnf.2 _ _ _ hb2
        · simp at hy
    · exact ⟨#[],rfl,by simp [RepL]⟩
end Wax


namespace Wax
open Go (IntKind)

def tkC (m:L8) (c:UInt8):Bool:=tokB c || anyN c.toNat m
end Wax


namespace Wax
open Go (IntKind)

def kKeys:List L8:=[qReason,qAuth,qD,qI,qFrom,qSend,qIprev,qMail,qHelo]
theorem prOf_congr {m v:L8} {l l':List KVp} (hm:m ∈ aMeths) (ha:m ≠ sArc) (h:∀ k ∈ kKeys,lookP l k=lookP l' k) (hs:m=sSender → sidOf l=sidOf l'):prOf m v l=prOf m v l':=by
  have k1:=h qReason (by simp [kKeys])
  have k2:=h qAuth (by simp [kKeys])
  have k3:=h qD (by simp [kKeys])
  have k4:=h qI (by simp [kKeys])
  have k5:=h qFrom (by simp [kKeys])
  have k6:=h qSend (by simp [kKeys])
  have k7:=h qIprev (by simp [kKeys])
  have k8:=h qMail (by simp [kKeys])
  have k9:=h qHelo (by simp [kKeys])
  simp only [prOf,if_neg ha,k1,k2,k3,k4,k5,k6,k7,k8,k9]
  simp only [aMeths,List.mem_cons,List.not_mem_nil,or_false] at hm
  rcases hm with rfl | rfl | rfl | rfl | rfl | rfl | rfl | rfl <;> first | exact absurd rfl ha | rfl | (have hs:=hs rfl; simp only [hs]; rfl)

theorem sid_only {l:List KVp} {k:L8} (hk:headB k=true) (hin:k ∈ l.map (·.1)) (ho:∀ x ∈ l.map (·.1),x=k ∨ headB x=false):sidOf l=(k.drop 7,lookP l k):=by
  have hf:(sortB (l.map (·.1))).find? headB=some k:=by
    have hin':k ∈ sortB (l.map (·.1)):=by simpa [sortB] using hin
    have ho':∀ x ∈ sortB (l.map (·.1)),x=k ∨ headB x=false:=fun x hx=>ho x (by simpa [sortB] using hx)
    generalize sortB (l.map (·.1))=L at *
    cases hf:L.find? headB with
    | none =>
      have:=List.find?_eq_none.1 hf k hin'
      rw [hk] at this; simp at this
    | some y =>
      have h1:=List.find?_some hf
      rcases ho' y (List.mem_of_find?_eq_some hf) with rfl | h
      · rfl
      · rw [h] at h1; simp at h1
  simp only [sidOf,hf]
structure ResT.OkW (t:ResT):Prop where
  pre:allWs t.pre
  head:KvOk t.head
  ps:∀ p ∈ t.ps,(p.1 ≠ [] ∧ allWs p.1) ∧ KvOk p.2
theorem ResT.OkW.res {t:ResT} (h:t.OkW) {b:L8} (hb:allWs b) {x:PR} (hx:prOf (lowS t.head.1) (lowS t.head.2) (prmsOf ((t.ps.map (·.2)).map kvW) [])=.inr x):trimS (t.txt ++ b) ≠ [] ∧ resAOf (trimS (t.txt ++ b))=.inr (some x):=by
  have hw:wordsOf (t.txt ++ b)=kvW t.head :: (t.ps.map (·.2)).map kvW:=by
    have e:t.txt ++ b=t.pre ++ (kvW t.head ++ (flatW (t.ps.map fun p=>(p.1,kvW p.2)) ++ b)):=by simp [ResT.txt]
    rw [e,wordsOf_flat h.pre hb kvW_ne (gW_non (kvW_g h.head))]
    · simp
    · intro p hp
      obtain ⟨q,hq,rfl⟩:=List.mem_map.1 hp
      have:=h.ps q hq
      exact ⟨this.1,kvW_ne,gW_non (kvW_g this.2)⟩
  have hw2:=wordsOf_trim (t.txt ++ b)
  rw [hw] at hw2
  refine ⟨fun e=>?_,?_⟩
  · rw [e] at hw2; simp [wordsOf,wordsGo] at hw2
  · simp only [resAOf,hw2]
    rw [if_neg kvW_not_none,kvW_of h.head]
    simp only [hx]
theorem ResT.OkW.no {t:ResT} (h:t.OkW):noB 59 t.txt:=by
  refine noB_app (allWs_no h.pre) (noB_app (gW_no (kvW_g h.head)) ?_)
  intro x hx
  simp only [flatW,List.mem_flatMap,List.mem_map] at hx
  obtain ⟨_,⟨q,hq,rfl⟩,hx⟩:=hx
  have:=h.ps q hq
  rcases List.mem_append.1 hx with hx | hx
  · exact allWs_no this.1.2 x hx
  · exact gW_no (kvW_g this.2) x hx
theorem ResT.OkW.pl {t:ResT} (h:t.OkW):plain t.txt=true:=by
  refine plain_appB (allWs_plain h.pre) (plain_appB (gW_plain (kvW_g h.head)) ?_)
  simp only [plain,List.all_eq_true]
  intro x hx
  simp only [flatW,List.mem_flatMap,List.mem_map] at hx
  obtain ⟨_,⟨q,hq,rfl⟩,hx⟩:=hx
  have:=h.ps q hq
  have hp:plain (q.1 ++ kvW q.2)=true:=plain_appB (allWs_plain this.1.2) (gW_plain (kvW_g this.2))
  exact List.all_eq_true.1 hp x hx
end Wax


namespace Wax
open Go Go.ChangeShapes Go.WideShapes Go.RowKit

section
variable {P:Program} {T:Tab} {w:World} {H:Type} {enc:TypeId × Value → H}

theorem has_block {a:Addr} {e:TypeId} {n:Nat} {r:Reach} {base:Nat} (h:w.has P r base a e n):∃ o,a=⟨a.block,o,none⟩ ∧ a.block < w.heap.size:=by
  obtain ⟨_,h2,row,cells,h3,_⟩:=h
  refine ⟨a.off,?_,?_⟩
  · cases a; simp at h2; simp [h2]
  · rcases Nat.lt_or_ge a.block w.heap.size with h | h
    · exact h
    · simp [World.shape?,Array.getElem?_eq_none h] at h3

theorem okWide_place {t e:TypeId} {r:Reach} {base:Nat} {a:Addr} {len cap:Nat} (ht:P.underlying t=some (.slice e)) (h:Value.okWide P w r base t (.slice (some a) len cap)):∃ b o,a=⟨b,o,none⟩ ∧ b < w.heap.size:=by
  simp only [Value.okWide,ht,Cell.okWide,Cell.ok] at h
  obtain ⟨o,h1,h2⟩:=has_block h.2.2
  exact ⟨a.block,o,h1,h2⟩

end
theorem lkGl_mem:∀ {l:List (Nat × List AV)} {g:Nat} {cs:List AV},lkGl l g=some cs → (g,cs) ∈ l
  | [],_,_,h=>by simp [lkGl] at h
  | (i,v) :: r,g,cs,h=>by
    simp only [lkGl] at h
    split at h
    · rename_i e
      simp only [beq_iff_eq] at e
      simp only [Option.some.injEq] at h
      subst e; subst h; simp
    · exact List.mem_cons_of_mem _ (lkGl_mem h)

theorem GlobOk.of {T:Tab} {w:World} {F:Frz} (h:∀ p ∈ T.gl,RepAt T w F p.1 0 p.2 ∧ F p.1 ∧ ∃ vs q a,w.heap[p.1]? = some (.cells vs q a) ∧ vs.size=p.2.length):GlobOk T w F:=fun g cs hg=>h (g,cs) (lkGl_mem hg)

theorem var_heap {P:Program} {w:World} {n:String} {g:Nat} {cs:Array Value} (hg:P.globalNamed n=some g) (hv:w.var? P n=some cs):∃ q a,w.heap[g]? = some (.cells cs q a):=by
  simp only [World.var?,hg,Option.bind_some] at hv
  split at hv
  · rename_i cs' q a h
    injection hv with hv
    subst hv
    exact ⟨q,a,h⟩
  · simp at hv

theorem lt_of_heap {w:World} {g:Nat} {x:Obj} (h:w.heap[g]? = some x):g < w.heap.size:=by
  rcases Nat.lt_or_ge g w.heap.size with h' | h'
  · exact h'
  · rw [Array.getElem?_eq_none h'] at h; simp at h

theorem repAt_err {T:Tab} {P:Program} {w:World} {n:String} {g tp:Nat} {y:Value} (hg:P.globalNamed n=some g) (hv:w.var? P n=some #[.iface tp y]) (ht:lkN T.tys tp=some 3) :
    RepAt T w (fun b=>b < w.heap.size) g 0 [.ifc 3 .junk] ∧ g < w.heap.size ∧ ∃ vs q a,w.heap[g]? = some (.cells vs q a) ∧ vs.size=1:=by
  obtain ⟨q,a,h⟩:=var_heap hg hv
  refine ⟨?_,lt_of_heap h,_,q,a,h,rfl⟩
  simp only [RepAt,and_true]
  exact ⟨lt_of_heap h,_,by simpa using World.var?_cell hg hv 0,tp,y,rfl,ht,trivial⟩

theorem repAt_ints {T:Tab} {w:World} {F:Frz} {g:Nat} {k:IntKind} (hF:F g):∀ (zs:List Int) (o:Nat),(∀ j z,zs[j]? = some z → w.cell? ⟨g,o + j,none⟩=some (.int k z)) → RepAt T w F g o (zs.map (AV.int k))
  | [],_,_=>trivial
  | z :: r,o,h=>by
    simp only [List.map_cons,RepAt]
    refine ⟨⟨hF,_,by simpa using h 0 z rfl,by simp [Rep]⟩,?_⟩
    exact repAt_ints hF r (o + 1) fun j s hj=>by
      rw [show o + 1 + j=o + (j + 1) by omega]
      exact h (j + 1) s (by simpa using hj)

theorem repAt_tab {T:Tab} {P:Program} {w:World} {n:String} {g:Nat} {k:IntKind} {zs:List Int} (hg:P.globalNamed n=some g) (hv:Lib.TabIs P w n k zs) :
    RepAt T w (fun b=>b < w.heap.size) g 0 (zs.map (AV.int k)) ∧ g < w.heap.size ∧ ∃ vs q a,w.heap[g]? = some (.cells vs q a) ∧ vs.size=(zs.map (AV.int k)).length:=by
  have hv':w.var? P n=some (zs.map fun z=>Value.int k z).toArray:=hv
  obtain ⟨q,a,h⟩:=var_heap hg hv'
  refine ⟨repAt_ints (F:=fun b=>b < w.heap.size) (lt_of_heap h) zs 0 fun j z hj=>?_,lt_of_heap h,_,q,a,h,by simp⟩
  have hc:=World.var?_cell hg hv' j
  rw [Nat.zero_add,hc]
  simp [hj]

end Wax


namespace Wax
open Go Go.ChangeShapes Go.WideShapes Go.RowKit Go.Joins Go.Deep

section
variable {P:Program} {T:Tab} {w:World} {H:Type} {enc:TypeId × Value → H}

theorem repSl_pairs {F:Frz} {b:Nat} (hF:F b):∀ (l:List (List UInt8 × List UInt8)) (o:Nat),(∀ (j:Nat) p,l[j]? = some p → w.cell? ⟨b,o + j * 2,none⟩=some (.string ⟨p.1.toArray⟩) ∧ w.cell? ⟨b,o + j * 2 + 1,none⟩=some (.string ⟨p.2.toArray⟩)) → RepSl T w F 2 b o (pr2 l)
  | [],_,_=>trivial
  | p :: r,o,h=>by
    have h0:=h 0 p rfl
    simp only [Nat.zero_mul,Nat.add_zero] at h0
    simp only [pr2_cons,RepSl,RepAt,and_true]
    refine ⟨rfl,⟨⟨hF,_,h0.1,by simp [Rep]⟩,hF,_,h0.2,by simp [Rep]⟩,?_⟩
    exact repSl_pairs hF r (o + 2) fun j q hj=>by
      have:=h (j + 1) q (by simpa using hj)
      rwa [show o + (j + 1) * 2=o + 2 + j * 2 by omega] at this

def strOf:Value → List UInt8
  | .string s=>s.data.toList
  | _=>[]

end
end Wax


namespace Wax
open Go Go.ChangeShapes Go.WideShapes Go.RowKit Go.Joins Go.Deep

structure Bulk (H:Type) where
  B:DataW H → Nat
  A:List (DataW H) → Nat
  str:∀ b,B (.lit (.string b))=b.length + 1
  agg:∀ l,B (.agg l)=A l + 1
  slice:∀ e s,B (.slice e s)=A e + A s + 1
  nil:A []=0
  cons:∀ d l,A (d :: l)=B d + A l
theorem Bulk.range {H:Type} (K:Bulk H) (D:Nat → DataW H) (f:Nat → Nat):∀ (l:List Nat),(∀ i ∈ l,f i ≤ K.B (D i)) → (l.map f).sum ≤ K.A (l.map D)
  | [],_=>by simp
  | i :: l,h=>by
    rw [List.map_cons,List.map_cons,List.sum_cons,K.cons]
    have h1:=h i (by simp)
    have h2:=K.range D f l (fun j hj=>h j (by simp [hj]))
    omega
def kvSz (p:List UInt8 × List UInt8):Nat:=p.1.length + p.2.length
def AR.bulk (r:AR):Nat:=r.method.length + r.value.length + r.reason.length + r.domain.length + r.ident.length + r.fr.length + r.sender.length + r.ip.length + r.helo.length + r.auth.length + r.hkey.length + r.hval.length + r.remote.length + ((r.ps.getD []).map fun p=>kvSz p + 1).sum

section
variable {P:Program} {T:Tab} {w:World} {H:Type} {enc:TypeId × Value → H}

theorem addr_eta {a:Addr} (h:a.spot=none):a=⟨a.block,a.off,none⟩:=by cases a; simp_all
theorem cell_spot {a:Addr} {v:Value} (h:w.cell? a=some v):a.spot=none ∧ a.block < w.heap.size:=by
  unfold World.cell? at h
  split at h
  · rename_i c t f hh
    split at h
    · simp at h
    · rename_i hs
      refine ⟨by simpa using hs,?_⟩
      rcases Nat.lt_or_ge a.block w.heap.size with h1 | h1
      · exact h1
      · rw [Array.getElem?_eq_none h1] at hh; simp at hh
  · simp at h
theorem trod_pairs {t e:TypeId} {f0 f1:Field} {n:Nat} {v:Value} {y:DataW H × List MemPlace} (K:Bulk H) (ht:P.underlying t=some (.slice e)) (he:P.underlying e=some (.struct #[f0,f1]))
    (ce:P.cellsOf e=2) (o0:f0.offset=0) (o1:f1.offset=1) (c0:P.cellsOf f0.type=1) (c1:P.cellsOf f1.type=1) (s0:P.underlying f0.type=some .string) (s1:P.underlying f1.type=some .string)
    (h:DataW.trod enc P w 0 (fun _=>true) true n t [v]=some y) :
    ∃ x:Option (List (List UInt8 × List UInt8)),Rep T w (fun k=>k < w.heap.size) noRho (slP x) v ∧ (x.getD []).length < 9223372036854775808 ∧ ((x.getD []).map fun p=>kvSz p + 1).sum ≤ K.B y.1:=by
  rcases open_slice_pairs ht he ce o0 o1 c0 c1 h with ⟨hcs,rfl⟩ | ⟨a,len,cap,m,k,V0,V1,D0,D1,P0,P1,hcs,_,hl,hm,hmm,rfl,hcell⟩
  · simp at hcs
    subst hcs
    exact ⟨none,by simp [slP,Rep],by simp,by simp⟩
  · simp at hcs
    subst hcs
    simp only [if_true] at hmm
    have h1:cap ≤ 9223372036854775807:=hm
    by_cases h0:len=0
    · subst h0
      refine ⟨some [],?_,by simp,by simp⟩
      simp only [slP,pr2,List.map_nil,Rep]
      exact .inr ⟨trivial,a,cap,rfl⟩
    · obtain ⟨g0,_,_,_⟩:=hcell 0 (by omega)
      have ea:a.add (0 * 2)=a:=by simp [Addr.add]
      rw [ea] at g0
      obtain ⟨hs,hb⟩:=cell_spot g0
      rw [addr_eta hs] at hcell ⊢
      generalize a.block=b at *
      generalize a.off=o at *
      obtain ⟨l,hl'⟩:∃ l:List (List UInt8 × List UInt8),l=(List.range len).map fun i=>(strOf (V0 i),strOf (V1 i)):=⟨_,rfl⟩
      have hll:l.length=len:=by rw [hl']; simp
      refine ⟨some l,?_,by simp only [Option.getD_some]; omega,?_⟩
      · simp only [slP,Rep]
        refine .inl ⟨b,o,cap,?_,?_,?_⟩
        · simp [pr2,hll]
        · simp [pr2,hll]; exact hl
        · refine repSl_pairs (F:=fun k=>k < w.heap.size) hb l o ?_
          intro j p hj
          have hjl:j < len:=by
            rcases Nat.lt_or_ge j l.length with h | h
            · omega
            · simp [List.getElem?_eq_none h] at hj
          obtain ⟨g0,g1,r0,r1⟩:=hcell j (by omega)
          rw [addr_add] at g0
          have e1:((⟨b,o,none⟩:Addr).add (j * 2 + 1))=⟨b,o + (j * 2 + 1),none⟩:=addr_add _ _ _
          rw [e1,← Nat.add_assoc] at g1
          rw [hl',List.getElem?_map,List.getElem?_range hjl] at hj
          simp only [Option.map_some,Option.some.injEq] at hj
          subst hj
          rw [g0,g1]
          obtain ⟨t0,q0,_,_⟩:=DataW.trod_string s0 r0
          obtain ⟨t1,q1,_,_⟩:=DataW.trod_string s1 r1
          injection q0 with q0
          injection q1 with q1
          rw [q0,q1]
          exact ⟨rfl,rfl⟩
      · simp only [Option.getD_some]
        have hr:=K.range (fun i=>.agg [D0 i,D1 i]) (fun i=>kvSz (strOf (V0 i),strOf (V1 i)) + 1) (List.range len) (fun i hi=>by
          have hi':i < m:=by have:=List.mem_range.1 hi; omega
          obtain ⟨_,_,r0,r1⟩:=hcell i hi'
          obtain ⟨t0,q0,z0,_⟩:=DataW.trod_string s0 r0
          obtain ⟨t1,q1,z1,_⟩:=DataW.trod_string s1 r1
          injection q0 with q0
          injection q1 with q1
          injection z0 with z0
          injection z1 with z1
          rw [z0,z1,q0,q1,K.agg,K.cons,K.cons,K.nil,K.str,K.str]
          simp only [kvSz,strOf]
          omega)
        rw [K.slice]
        have:(l.map fun p=>kvSz p + 1)=(List.range len).map (fun i=>kvSz (strOf (V0 i),strOf (V1 i)) + 1):=by rw [hl',List.map_map]; rfl
        rw [this]
        omega

theorem list16 {α:Type} {l:List α} (h:l.length=16):∃ c0 c1 c2 c3 c4 c5 c6 c7 c8 c9 c10 c11 c12 c13 c14 c15,l=[c0,c1,c2,c3,c4,c5,c6,c7,c8,c9,c10,c11,c12,c13,c14,c15]:=by
  match l,h with
  | [c0,c1,c2,c3,c4,c5,c6,c7,c8,c9,c10,c11,c12,c13,c14,c15],_=>exact ⟨c0,c1,c2,c3,c4,c5,c6,c7,c8,c9,c10,c11,c12,c13,c14,c15,rfl⟩
def arFlds (ps:TypeId):List (Nat × Nat × Option TypeDesc):=[(0,1,some (.int .i64)),(1,1,some .string),(2,1,some .string),(3,1,some .string),(4,1,some .string),(5,1,some .string),(6,1,some .string),(7,1,some .string),(8,1,some .string),(9,1,some .string),(10,1,some .string),(11,1,some .string),(12,1,some .string),(13,1,some .string),(14,1,some (.int .i64)),(15,1,some (.slice ps))]

theorem trod_ar {e pt:TypeId} {f0 f1:Field} {fs:Array Field} {n:Nat} {cs:List Value} {y:DataW H × List MemPlace} (K:Bulk H) (he:P.underlying e=some (.struct fs)) (ce:P.cellsOf e=16)
    (hfs:(fs.toList.map fun f=>(f.offset,P.cellsOf f.type,P.underlying f.type))=arFlds pt) (hp:P.underlying pt=some (.struct #[f0,f1]))
    (cp:P.cellsOf pt=2) (o0:f0.offset=0) (o1:f1.offset=1) (c0:P.cellsOf f0.type=1) (c1:P.cellsOf f1.type=1) (s0:P.underlying f0.type=some .string) (s1:P.underlying f1.type=some .string)
    (h:DataW.trod enc P w 0 (fun _=>true) true n e cs=some y) :
    ∃ r:AR,RepL T w (fun k=>k < w.heap.size) noRho r.cells cs ∧ (r.ps.getD []).length < 9223372036854775808 ∧ r.bulk + 1 ≤ K.B y.1:=by
  obtain ⟨xs,k,_,rfl,hcl,hxl,hf⟩:=DataW.trod_struct he h
  rw [ce] at hcl
  obtain ⟨g⟩:=fs
  have hgl:g.length=16:=by have:=congrArg List.length hfs; simpa [arFlds] using this
  obtain ⟨a0,a1,a2,a3,a4,a5,a6,a7,a8,a9,a10,a11,a12,a13,a14,a15,rfl⟩:=list16 hgl
  obtain ⟨y0,y1,y2,y3,y4,y5,y6,y7,y8,y9,y10,y11,y12,y13,y14,y15,rfl⟩:=list16 (hxl.trans (by simp))
  obtain ⟨v0,v1,v2,v3,v4,v5,v6,v7,v8,v9,v10,v11,v12,v13,v14,v15,rfl⟩:=list16 hcl
  simp only [arFlds,List.map_cons,List.map_nil,List.cons.injEq,Prod.mk.injEq,and_true] at hfs
  obtain ⟨⟨p0,q0,u0⟩,⟨p1,q1,u1⟩,⟨p2,q2,u2⟩,⟨p3,q3,u3⟩,⟨p4,q4,u4⟩,⟨p5,q5,u5⟩,⟨p6,q6,u6⟩,⟨p7,q7,u7⟩,⟨p8,q8,u8⟩,⟨p9,q9,u9⟩,⟨p10,q10,u10⟩,⟨p11,q11,u11⟩,⟨p12,q12,u12⟩,⟨p13,q13,u13⟩,⟨p14,q14,u14⟩,p15,q15,u15⟩:=hfs
  have F:∀ (i:Nat) (f:Field) (v:Value) (z:DataW H × List MemPlace),[a0,a1,a2,a3,a4,a5,a6,a7,a8,a9,a10,a11,a12,a13,a14,a15][i]? = some f → f.offset=i → P.cellsOf f.type=1 → ([v0,v1,v2,v3,v4,v5,v6,v7,v8,v9,v10,v11,v12,v13,v14,v15].drop i).take 1=[v] → [y0,y1,y2,y3,y4,y5,y6,y7,y8,y9,y10,y11,y12,y13,y14,y15][i]? = some z → DataW.trod enc P w 0 (fun _=>true) true k f.type [v]=some z:=by
    intro i f v z h1 h2 h3 h4 h5
    have:=hf i f (by simpa using h1)
    rw [h2,h3,h4,h5] at this
    exact this
  obtain ⟨n0,e0,d0,_⟩:=DataW.trod_int u0 (F 0 a0 v0 y0 rfl p0 q0 rfl rfl)
  obtain ⟨t1,e1,d1,_⟩:=DataW.trod_string u1 (F 1 a1 v1 y1 rfl p1 q1 rfl rfl)
  obtain ⟨t2,e2,d2,_⟩:=DataW.trod_string u2 (F 2 a2 v2 y2 rfl p2 q2 rfl rfl)
  obtain ⟨t3,e3,d3,_⟩:=DataW.trod_string u3 (F 3 a3 v3 y3 rfl p3 q3 rfl rfl)
  obtain ⟨t4,e4,d4,_⟩:=DataW.trod_string u4 (F 4 a4 v4 y4 rfl p4 q4 rfl rfl)
  obtain ⟨t5,e5,d5,_⟩:=DataW.trod_string u5 (F 5 a5 v5 y5 rfl p5 q5 rfl rfl)
  obtain ⟨t6,e6,d6,_⟩:=DataW.trod_string u6 (F 6 a6 v6 y6 rfl p6 q6 rfl rfl)
  obtain ⟨t7,e7,d7,_⟩:=DataW.trod_string u7 (F 7 a7 v7 y7 rfl p7 q7 rfl rfl)
  obtain ⟨t8,e8,d8,_⟩:=DataW.trod_string u8 (F 8 a8 v8 y8 rfl p8 q8 rfl rfl)
  obtain ⟨t9,e9,d9,_⟩:=DataW.trod_string u9 (F 9 a9 v9 y9 rfl p9 q9 rfl rfl)
  obtain ⟨t10,e10,d10,_⟩:=DataW.trod_string u10 (F 10 a10 v10 y10 rfl p10 q10 rfl rfl)
  obtain ⟨t11,e11,d11,_⟩:=DataW.trod_string u11 (F 11 a11 v11 y11 rfl p11 q11 rfl rfl)
  obtain ⟨t12,e12,d12,_⟩:=DataW.trod_string u12 (F 12 a12 v12 y12 rfl p12 q12 rfl rfl)
  obtain ⟨t13,e13,d13,_⟩:=DataW.trod_string u13 (F 13 a13 v13 y13 rfl p13 q13 rfl rfl)
  obtain ⟨n14,e14,d14,_⟩:=DataW.trod_int u14 (F 14 a14 v14 y14 rfl p14 q14 rfl rfl)
  obtain ⟨x,rx,lx,bx⟩:=trod_pairs (T:=T) K u15 hp cp o0 o1 c0 c1 s0 s1 (F 15 a15 v15 y15 rfl p15 q15 rfl rfl)
  simp only [List.cons.injEq,and_true] at e0 e1 e2 e3 e4 e5 e6 e7 e8 e9 e10 e11 e12 e13 e14
  subst e0 e1 e2 e3 e4 e5 e6 e7 e8 e9 e10 e11 e12 e13 e14
  refine ⟨⟨n0,t1.data.toList,t2.data.toList,t3.data.toList,t4.data.toList,t5.data.toList,t6.data.toList,t7.data.toList,t8.data.toList,t9.data.toList,t10.data.toList,t11.data.toList,t12.data.toList,t13.data.toList,n14,x⟩,?_,lx,?_⟩
  · simp [AR.cells,RepL,Rep,rx]
  · rw [K.agg]
    simp only [List.map_cons,List.map_nil,K.cons,K.nil,d1,d2,d3,d4,d5,d6,d7,d8,d9,d10,d11,d12,d13,K.str]
    simp only [AR.bulk]
    omega

theorem repSl_ars {b:Nat} (hb:b < w.heap.size):∀ (l:List AR) (o:Nat),(∀ (j:Nat) r,l[j]? = some r → ∃ cs:List Value,(∀ k c,cs[k]? = some c → w.cell? ⟨b,o + j * 16 + k,none⟩=some c) ∧ RepL T w (fun k=>k < w.heap.size) noRho r.cells cs) → RepSl T w (fun k=>k < w.heap.size) 16 b o (arA l)
  | [],_,_=>trivial
  | r :: l,o,h=>by
    obtain ⟨cs,h1,h2⟩:=h 0 r rfl
    simp only [arA_cons,RepSl]
    refine ⟨rfl,?_,repSl_ars hb l (o + 16) fun j q hj=>?_⟩
    · have:=repAt_of (s:=fun x=>x) (T:=T) (w:=w) (F:=fun k=>k < w.heap.size) (ρ:=noRho) (G:=fun k=>k < w.heap.size) (b:=b) (cs:=r.cells) (us:=cs) (off:=o) (fun x v h=>h) hb (fun k c hk=>by
        have:=h1 k c hk
        simpa using this) h2
      simpa using this
    · obtain ⟨cs,h1,h2⟩:=h (j + 1) q (by simpa using hj)
      refine ⟨cs,fun k c hk=>?_,h2⟩
      have:=h1 k c hk
      rwa [show o + (j + 1) * 16 + k=o + 16 + j * 16 + k by omega] at this

theorem open_ars {t e pt:TypeId} {f0 f1:Field} {fs:Array Field} {base:Nat} {v:Value} {d:DataW H} {ps:List MemPlace} (K:Bulk H) (ht:P.underlying t=some (.slice e)) (he:P.underlying e=some (.struct fs)) (ce:P.cellsOf e=16)
    (hfs:(fs.toList.map fun f=>(f.offset,P.cellsOf f.type,P.underlying f.type))=arFlds pt) (hp:P.underlying pt=some (.struct #[f0,f1]))
    (cp:P.cellsOf pt=2) (o0:f0.offset=0) (o1:f1.offset=1) (c0:P.cellsOf f0.type=1) (c1:P.cellsOf f1.type=1) (s0:P.underlying f0.type=some .string) (s1:P.underlying f1.type=some .string)
    (hval:Value.okWide P w .any base t v) (h:DataW.Trod enc P w 0 (fun _=>true) true t v d ps) :
    ∃ (x:AV) (l:List AR),(x=.nilS ∧ l=[] ∨ x=.sl 16 (arA l)) ∧ Rep T w (fun k=>k < w.heap.size) noRho x v ∧ (l.length < 9223372036854775808 ∧ ∀ r ∈ l,(r.ps.getD []).length < 9223372036854775808) ∧ (l.map fun r=>r.bulk + 1).sum ≤ K.B d:=by
  obtain ⟨a0,len0,cap0,rfl⟩:=okWide_slice ht hval
  obtain ⟨fuel,hf⟩:=h
  rcases Go.Deep.open_slice ht hf with ⟨hcs,_⟩ | ⟨a,len,cap,m,n,D,Pl,hcs,_,hl,hm,hmm,hx,hcell⟩
  · simp [Value.cells] at hcs
    obtain ⟨rfl,rfl,rfl⟩:=hcs
    exact ⟨.nilS,[],.inl ⟨rfl,rfl⟩,by simp [Rep],by simp,by simp⟩
  · simp [Value.cells] at hcs
    obtain ⟨rfl,rfl,rfl⟩:=hcs
    obtain ⟨b,o,rfl,hb⟩:=okWide_place ht hval
    simp only [if_true] at hmm
    simp only [Prod.mk.injEq] at hx
    obtain ⟨rfl,_⟩:=hx
    have h1:cap0 ≤ 9223372036854775807:=hm
    have each:∀ i,i < m → ∃ r:AR,(∃ cs:List Value,(∀ k c,cs[k]? = some c → w.cell? ⟨b,o + i * 16 + k,none⟩=some c) ∧ RepL T w (fun k=>k < w.heap.size) noRho r.cells cs) ∧ (r.ps.getD []).length < 9223372036854775808 ∧ r.bulk + 1 ≤ K.B (D i):=by
      intro i hi
      obtain ⟨cs',g1,g2⟩:=hcell i hi
      rw [ce] at g1
      obtain ⟨_,hlen,hce⟩:=World.cells?_some g1
      obtain ⟨r,r1,r2,r3⟩:=trod_ar (T:=T) K he ce hfs hp cp o0 o1 c0 c1 s0 s1 g2
      refine ⟨r,⟨cs',fun k c hk=>?_,r1⟩,r2,r3⟩
      have hk':k < 16:=by
        rcases Nat.lt_or_ge k cs'.length with h | h
        · omega
        · simp [List.getElem?_eq_none h] at hk
      have:=hce k hk'
      rw [hk,addr_add,addr_add] at this
      exact this
    let f:Nat → AR:=fun i=>if h:i < m then Classical.choose (each i h) else ⟨0,[],[],[],[],[],[],[],[],[],[],[],[],[],0,none⟩
    have hfi:∀ i,i < m → (∃ cs:List Value,(∀ k c,cs[k]? = some c → w.cell? ⟨b,o + i * 16 + k,none⟩=some c) ∧ RepL T w (fun k=>k < w.heap.size) noRho (f i).cells cs) ∧ ((f i).ps.getD []).length < 9223372036854775808 ∧ (f i).bulk + 1 ≤ K.B (D i):=by
      intro i hi
      have e:f i=Classical.choose (each i hi):=dif_pos hi
      rw [e]; exact Classical.choose_spec (each i hi)
    obtain ⟨l,hl'⟩:∃ l:List AR,l=(List.range len0).map f:=⟨_,rfl⟩
    have hll:l.length=len0:=by rw [hl']; simp
    refine ⟨.sl 16 (arA l),l,.inr rfl,?_,⟨by omega,?_⟩,?_⟩
    · simp only [Rep]
      refine .inl ⟨b,o,cap0,?_,?_,?_⟩
      · simp [hll]
      · simp [hll]; exact hl
      · refine repSl_ars hb l o fun j r hj=>?_
        have hjl:j < len0:=by
          rcases Nat.lt_or_ge j l.length with h | h
          · omega
          · simp [List.getElem?_eq_none h] at hj
        rw [hl',List.getElem?_map,List.getElem?_range hjl] at hj
        simp only [Option.map_some,Option.some.injEq] at hj
        subst hj
        exact (hfi j (by omega)).1
    · intro r hr
      rw [hl'] at hr
      obtain ⟨i,hi,rfl⟩:=List.mem_map.1 hr
      exact (hfi i (by have:=List.mem_range.1 hi; omega)).2.1
    · have hr:=K.range D (fun i=>(f i).bulk + 1) (List.range len0) (fun i hi=>(hfi i (by have:=List.mem_range.1 hi; omega)).2.2)
      rw [K.slice]
      have e2:(l.map fun r=>r.bulk + 1).sum=((List.range len0).map fun i=>(f i).bulk + 1).sum:=by rw [hl',List.map_map]; rfl
      rw [e2]
      omega
end
end Wax


namespace Wax
open Go (IntKind)

def prmSz (l:List KVp):Nat:=(l.map fun p=>kvSz p + 4).sum
theorem prmSz_app (a b:List KVp):prmSz (a ++ b)=prmSz a + prmSz b:=by simp [prmSz]
theorem meth_len (r:AR):r.meth.length ≤ 10 + r.method.length:=by
  unfold AR.meth
  split
  · omega
  · generalize (r.kind - 1).toNat=q
    match q with
    | 0 | 1 | 2 | 3 | 4 | 5 | 6 | 7=>(simp [aMeths,sAuth,sDkim,sDomk,sIprev,sSender,sSpf,sDmarc,sArc]; try omega)
    | q + 8=>simp [aMeths,List.getD]
theorem sum4:∀ l:List KVp,(l.map fun p=>kvSz p + 4).sum ≤ 4 * (l.map fun p=>kvSz p + 1).sum
  | []=>by simp
  | p :: l=>by
    have:=sum4 l
    simp only [List.map_cons,List.sum_cons]; omega
theorem prm_len (r:AR):8 + r.meth.length + r.value.length + prmSz r.prm ≤ 100 + 4 * r.bulk:=by
  have h1:=meth_len r
  have h2:prmSz (rPs r.reason) ≤ 10 + r.reason.length:=by
    unfold rPs
    split
    · simp [prmSz]
    · simp [prmSz,kvSz,qReason]; omega
  have h3:prmSz (if r.kind=0 then r.ps.getD [] else r.props.map fun p=>(p.1 ++ 46 :: p.2.1,p.2.2)) ≤ 60 + (r.domain.length + r.ident.length + r.fr.length + r.sender.length + r.ip.length + r.helo.length + r.auth.length + r.hkey.length + r.hval.length) + 4 * ((r.ps.getD []).map fun p=>kvSz p + 1).sum:=by
    split
    · have:=sum4 (r.ps.getD [])
      simp only [prmSz]; omega
    · unfold AR.props
      repeat' split
      all_goals simp [prmSz,kvSz,tSmtp,tHeader,tPolicy,nAuth,nD,nI,nFrom,nSender,nIprev,nMail,nHelo]
      all_goals omega
  simp only [AR.prm,prmSz_app,AR.bulk]
  omega
theorem only_bulk (r:AR):r.only.bulk ≤ r.bulk:=by
  unfold AR.only
  repeat' split
  all_goals simp [AR.bulk,ar0]
  all_goals omega
theorem sum_only:∀ l:List AR,((l.map AR.only).map fun r=>100 + 4 * r.bulk).sum ≤ 104 * (l.map fun r=>r.bulk + 1).sum
  | []=>by simp
  | r :: l=>by
    have h1:=sum_only l
    have h2:=only_bulk r
    simp only [List.map_cons,List.sum_cons]
    omega
theorem slAR_or {x:AV} {l:List AR} (h:x=.nilS ∧ l=[] ∨ x=.sl 16 (arA l)):slAR x=some l:=by
  rcases h with ⟨rfl,rfl⟩ | rfl
  · rfl
  · simp [slAR,asARs_arA]
end Wax


namespace Wax
open Go (IntKind)

@[simp] theorem tr3_app {l m}:tr3 (l ++ m)=tr3 l ++ tr3 m:=by simp [tr3]

end Wax


namespace Wax
open Go (IntKind)

theorem ne_int {x c:UInt8} (h:¬ x=c):¬ (x.toNat:Int)=(c.toNat:Int):=fun e=>h (UInt8.toNat_inj.1 (by omega))
structure Inf where
  m:L8
  v:L8
  r:L8
  ps:List (L8 × L8 × L8)
end Wax


namespace Wax
open Go (IntKind)

@[simp] theorem trV3_atom (x:List (L8 × L8 × L8)):atom (tripV x)=true:=by cases x <;> rfl
@[simp] theorem trV3_ref (x:List (L8 × L8 × L8)):hasRef (tripV x)=false:=by cases x <;> simp [tripV,hasRef]
@[simp] theorem trV3_kill (x:List (L8 × L8 × L8)) (d:Nat):kill d (tripV x)=tripV x:=by cases x <;> simp [tripV]
@[simp] theorem trV3_snapW (x:List (L8 × L8 × L8)) (g:AV → AV):snapW g (tripV x)=tripV x:=by cases x <;> simp [tripV,snapW]
@[simp] theorem trV3_snap (x:List (L8 × L8 × L8)) (n:Nat) (hp:List (Nat × AObj)):snap (n + 1) hp (tripV x)=tripV x:=by cases x <;> simp [tripV]
@[simp] theorem trV3_cells (x:List (L8 × L8 × L8)):cells (tripV x)=[tripV x]:=by cases x <;> rfl
@[simp] theorem trV3_map (x:List (L8 × L8 × L8)) (g:Nat → Nat):mapId g (tripV x)=tripV x:=by cases x <;> rfl
@[simp] theorem trV3_refs (x:List (L8 × L8 × L8)):refs (tripV x)=[]:=by cases x <;> simp [tripV]
def Inf.cells (x:Inf):List AV:=[.str x.m,.str [],.str x.v,.str x.r,tripV x.ps]
@[simp] theorem ifcells_length {x:Inf}:x.cells.length=5:=rfl
@[simp] theorem atoms_ifcells {x:Inf}:atoms x.cells=true:=by simp [Inf.cells]
@[simp] theorem killL_ifcells {d:Nat} {x:Inf}:killL d x.cells=x.cells:=by simp [Inf.cells]
@[simp] theorem snap_ifcells {n:Nat} {hp:List (Nat × AObj)} {x:Inf}:x.cells.map (snap (n + 1) hp)=x.cells:=by simp [Inf.cells]
@[simp] theorem hasRefL_ifcells {x:Inf}:hasRefL x.cells=false:=by simp [Inf.cells,hasRefL]
@[simp] theorem refsL_ifcells {x:Inf}:refsL x.cells=[]:=by simp [Inf.cells]
@[simp] theorem snapWL_ifcells {g:AV → AV} {x:Inf}:snapWL g x.cells=x.cells:=by simp [Inf.cells]
def qrt:Nat:=274877906944
end Wax


namespace Wax
open Go Go.RowKit Go.Proofs

def noVal:Value → Option (DataW Nat × List MemPlace):=fun _=>some (.nil,[])

def SortedSays (P:Program) (T:Tab) (f g:FuncId):Prop :=
  (∀ h,lkN T.fns h=some 55 → h=g) ∧ ∃ e9 k:TypeId,P.underlying k=some .string ∧
  ∀ (Bm b nn:Nat) (D0:DataW Nat) (w:World),Bm < w.heap.size → w.cell? ⟨Bm,0,none⟩=some (.map (some b)) → w.ownsMap P k noVal b nn D0 → Maps.size D0 ≤ maxLen → Maps.size D0 * 16 ≤ 140737488355328 →
    Calls P f #[.func (.func g) #[] #[.pointer (some ⟨Bm,0,none⟩)]] w fun e w'=>∃ (v:Value) (ss:List (List UInt8)),e=.returned v ∧ ss.Perm (Go.strKeys D0) ∧
      w'.ownsRow w.heap.size e9 1 v ss.length ((ss.mergeSort (fun x y=>decide (x ≤ y))).map encStr) ∧ (v=.slice none 0 0 ↔ ss=[]) ∧ Below w.heap.size w w'

theorem repM_keyList {T:Tab} {w:World} {F:Frz}:∀ {es:List (List UInt8 × AV)} {l:List MapEntry},RepM T w F es l → l.map (·.key)=es.map fun p=>Value.string ⟨p.1.toArray⟩
  | [],[],_=>rfl
  | (k,c) :: r,e :: s,h=>by
    simp only [RepM] at h
    simp only [List.map_cons,h.1,repM_keyList h.2.2]
  | [],_ :: _,h=>by simp [RepM] at h
  | _ :: _,[],h=>by simp [RepM] at h

theorem ok_Sorted {P:Program} {T:Tab} {f g:FuncId} (H:SortedSays P T f g):∀ args r,con_Sorted args=some r → OkCall P T f args r:=by
  intro args r h w F vs hF _ hx
  obtain ⟨hinj,e9,k,hk,H⟩:=H
  simp only [con_Sorted] at h
  split at h <;> (try simp at h; done)
  rename_i es
  obtain ⟨⟨hlen,hkl⟩,rfl⟩:=ite_some h
  clear h
  simp only [half] at hlen
  match vs,hx with
  | [v],hx =>
    simp only [RepL,and_true] at hx
    simp only [Rep] at hx
    obtain ⟨f',vs',rfl,hf',hcap⟩:=hx
    obtain rfl:=hinj f' hf'
    obtain ⟨l⟩:=vs'
    match l,hcap with
    | [p],hcap =>
      simp only [RepL,and_true,Rep] at hcap
      obtain ⟨Bm,rfl,hat⟩:=hcap
      simp only [RepAt,and_true] at hat
      obtain ⟨hFB,x,hcell,hmp⟩:=hat
      simp only [Rep] at hmp
      obtain ⟨b,ents,clk,rfl,hFb,hheap,⟨el,hpe,hM⟩,hst⟩:=hmp
      have hBm:Bm < w.heap.size:=hF Bm hFB
      have hkeys:(ents.toList.map (·.key)).Perm (es.map fun p=>Value.string ⟨p.1.toArray⟩):=by
        rw [← repM_keyList hM]; exact (hpe.map _).symm
      have hsz:ents.size=es.length:=by
        have:=hkeys.length_eq
        simpa using this
      have hread:∀ x ∈ ents.toList,∃ s:List UInt8,x.key=.string ⟨s.toArray⟩ ∧ keyOf P k x.key=some (.string s):=by
        intro x hx
        have hm:x.key ∈ ents.toList.map (·.key):=List.mem_map_of_mem hx
        rw [hkeys.mem_iff,List.mem_map] at hm
        obtain ⟨q,hq,e⟩:=hm
        refine ⟨q.1,e.symm,?_⟩
        have hs:=hkl q hq
        simp only [half] at hs
        rw [← e]
        have hsz:(⟨q.1.toArray⟩:ByteArray).size=q.1.length:=by show q.1.toArray.size=_; simp
        have:=Go.WideMaps.keyOf_string_mk hk (s:=⟨q.1.toArray⟩) (by rw [hsz]; simp only [maxLen]; omega)
        simpa using this
      have hown:w.ownsMap P k noVal b ents.size (.map ((ents.toList.map (WideElems.rg P k noVal)).foldr DataW.insert [])):=by
        refine ⟨ents,clk,hheap,⟨by rw [hsz]; simp only [maxLen]; omega,hst,fun x hx=>?_⟩,Nat.le_refl _,rfl⟩
        obtain ⟨s,_,hs⟩:=hread x hx
        exact ⟨_,WideElems.rd_mk (val:=x.val) (born:=x.born) hs rfl⟩
      have hds:Maps.size (.map ((ents.toList.map (WideElems.rg P k noVal)).foldr DataW.insert []))=es.length:=by
        simp only [Maps.size]
        rw [(WideShapes.sorted_perm _).length_eq]
        simp [hsz]
      have hsk:(Go.strKeys (.map ((ents.toList.map (WideElems.rg P k noVal)).foldr DataW.insert []))).Perm (es.map (·.1)):=by
        simp only [Go.strKeys]
        refine ((WideShapes.sorted_perm _).map _).trans ?_
        have:((ents.toList.map (WideElems.rg P k noVal)).map (fun p=>Go.strOf p.1)).Perm (es.map (·.1)):=by
          rw [List.map_map]
          have e1:ents.toList.map ((fun p=>Go.strOf p.1) ∘ WideElems.rg P k noVal)=(ents.toList.map (·.key)).map (fun v=>match v with | .string s=>s.data.toList | _=>[]):=by
            rw [List.map_map]
            refine List.map_congr_left fun x hx=>?_
            obtain ⟨s,h1,h2⟩:=hread x hx
            have h3:=WideElems.rg_of (WideElems.rd_mk (R:=noVal) (val:=x.val) (born:=x.born) h2 rfl)
            simp only [Function.comp_apply]
            rw [show x=⟨x.key,x.val,x.born⟩ from rfl,h3,h1]
            rfl
          have e2:(es.map fun p=>Value.string ⟨p.1.toArray⟩).map (fun v=>match v with | .string s=>s.data.toList | _=>[])=es.map (·.1):=by
            rw [List.map_map]
            refine List.map_congr_left fun x _=>?_
            simp
          rw [e1,← e2]
          exact hkeys.map _
        exact this
      refine (H Bm b ents.size _ w hBm hcell hown (by rw [hds]; simp only [maxLen]; omega) (by rw [hds]; omega)).mono ?_
      rintro e w' ⟨v,ss,rfl,hp,ho,hn,hbl⟩
      have hperm:ss.Perm (es.map (·.1)):=hp.trans hsk
      have hms:ss.mergeSort (fun x y=>decide (x ≤ y))=sortB (es.map (·.1)):=Go.mergeSort_of_perm hperm
      rw [hms] at ho
      have hl:ss.length=(sortB (es.map (·.1))).length:=by rw [hperm.length_eq]; simp [sortB]
      rw [hl] at ho
      refine ⟨v,rfl,hbl,?_⟩
      by_cases he:es=[]
      · subst he
        have hss:ss=[]:=by simpa using hperm
        rw [hn.2 hss]
        simp [sortB,strV,Rep]
      · have hss:ss ≠ []:=fun e=>he (by rw [e] at hperm; simpa using hperm.symm)
        have hne:sortB (es.map (·.1)) ≠ []:=fun e=>by rw [e] at hl; exact hss (List.length_eq_zero_iff.1 hl)
        have:strV (sortB (es.map (·.1)))=.sl 1 (strsA (sortB (es.map (·.1)))):=by
          cases hq:sortB (es.map (·.1)) with
          | nil=>exact absurd hq hne
          | cons _ _=>rfl
        rw [this]
        exact owned_strs (e9:=e9) (l:=sortB (es.map (·.1))) ho (fun e=>hss (hn.1 e))

def lkOnly (l:List (Nat × Nat)) (n g:Nat):Bool:=l.all fun p=>p.2 != n || p.1 == g

theorem lkN_only {l:List (Nat × Nat)} {n g:Nat} (h:lkOnly l n g=true):∀ i,lkN l i=some n → i=g:=by
  intro i hi
  induction l with
  | nil=>simp [lkN] at hi
  | cons p r ih =>
    simp only [lkOnly,List.all_cons,Bool.and_eq_true,Bool.or_eq_true,bne_iff_ne,ne_eq,beq_iff_eq] at h
    obtain ⟨a,b⟩:=p
    simp only [lkN] at hi
    split at hi
    · rename_i e
      simp only [beq_iff_eq] at e
      simp only [Option.some.injEq] at hi
      rcases h.1 with h1 | h1
      · exact absurd hi h1
      · exact e ▸ h1
    · exact ih (by simpa [lkOnly] using h.2) hi
end Wax


