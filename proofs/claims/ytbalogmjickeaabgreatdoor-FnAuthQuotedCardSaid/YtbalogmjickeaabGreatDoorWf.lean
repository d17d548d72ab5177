/- The machine by which the functions are read, and what is proved of them (part 6): no premise. -/
import Derived.Lib.AtoiAll
import Derived.Lib.ConvBytes
import Derived.Calls
import Derived.Test.YtbalogmjickeaabGreatDoorWe
set_option linter.all false
namespace Wax
open Go (IntKind)

def strsA (l:List (List UInt8)):List AV:=l.map .str

def asStrs:List AV→Option (List (List UInt8))
  | []=>some []
  | .str s::r=>(asStrs r).map (s :: ·)
  | _::_=>none

theorem asStrs_spec:∀ {xs:List AV} {l:List (List UInt8)},asStrs xs=some l→xs=strsA l
  | [],l,h=>by simp [asStrs] at h; subst h; rfl
  | .str s::r,l,h=>by
    simp only [asStrs] at h
    cases hr:asStrs r with
    | none=>simp [hr] at h
    | some q=>simp [hr] at h; subst h; rw [asStrs_spec hr]; rfl
  | .junk::_,_,h=>by simp [asStrs] at h
  | .bool _::_,_,h=>by simp [asStrs] at h
  | .int _ _::_,_,h=>by simp [asStrs] at h
  | .nilI::_,_,h=>by simp [asStrs] at h
  | .nilP::_,_,h=>by simp [asStrs] at h
  | .nilF::_,_,h=>by simp [asStrs] at h
  | .nilM::_,_,h=>by simp [asStrs] at h
  | .nilS::_,_,h=>by simp [asStrs] at h
  | .sl _ _::_,_,h=>by simp [asStrs] at h
  | .ptr _::_,_,h=>by simp [asStrs] at h
  | .agg _::_,_,h=>by simp [asStrs] at h
  | .tup _::_,_,h=>by simp [asStrs] at h
  | .ifc _ _::_,_,h=>by simp [asStrs] at h
  | .fn _ _::_,_,h=>by simp [asStrs] at h
  | .mp _::_,_,h=>by simp [asStrs] at h
  | .ref _ _::_,_,h=>by simp [asStrs] at h
  | .msl _ _ _ _::_,_,h=>by simp [asStrs] at h
  | .mref _::_,_,h=>by simp [asStrs] at h

@[simp] theorem strsA_length {l:List (List UInt8)}:(strsA l).length=l.length:=by simp [strsA]
@[simp] theorem strsA_get {l:List (List UInt8)} {i:Nat}:(strsA l)[i]? = l[i]?.map .str:=by simp [strsA]
@[simp] theorem asStrs_strsA {l:List (List UInt8)}:asStrs (strsA l)=some l:=by induction l <;> simp_all [strsA,asStrs]

def slStrs:AV→Option (List (List UInt8))
  | .nilS=>some []
  | .sl es xs=>if es=1 then asStrs xs else none
  | _=>none

theorem trimL_length (s:List UInt8):(trimL s).length≤s.length:=by
  unfold trimL
  exact (List.dropWhile_sublist _).length_le
theorem trimR_length (s:List UInt8):(trimR s).length≤s.length:=by
  unfold trimR
  have:=(List.dropWhile_sublist (fun b:UInt8=>isWs b.toNat) (l:=s.reverse)).length_le
  simpa using this
theorem trimS_length (s:List UInt8):(trimS s).length≤s.length:=Nat.le_trans (trimR_length _) (trimL_length _)

end Wax


namespace Wax
open Go (IntKind)

def findAt (sub:List UInt8):List UInt8→Nat→Option Nat
  | [],n=>if sub=[] then some n else none
  | x::r,n=>if sub.isPrefixOf (x::r) then some n else findAt sub r (n+1)

def idxV (sub s:List UInt8):Int:=match findAt sub s 0 with | some n=>(n:Int) | none => -1

def con_zzIndex:List AV→Option AV
  | [.str s,.str sub]=>if s.length < big∧sub.length < big then some (.int .i64 (idxV sub s)) else none
  | _=>none

theorem isPrefixOf_take (sub:List UInt8) (s:List UInt8) (h:sub.length≤s.length):sub.isPrefixOf s=decide (s.take sub.length=sub):=by
  induction sub generalizing s with
  | nil=>simp
  | cons a r ih =>
    cases s with
    | nil=>simp at h
    | cons b s =>
      simp at h
      simp only [List.isPrefixOf,ih s h,List.length_cons,List.take_succ_cons]
      by_cases e:a=b
      · subst e; simp
      · have e':¬ b=a:=fun x=>e x.symm
        simp [e,e']

theorem isPrefixOf_long (sub:List UInt8) (s:List UInt8) (h:s.length < sub.length):sub.isPrefixOf s=false:=by
  induction sub generalizing s with
  | nil=>simp at h
  | cons a r ih =>
    cases s with
    | nil=>simp [List.isPrefixOf]
    | cons b s =>
      simp at h
      simp [List.isPrefixOf,ih s h]

theorem findAt_none (sub:List UInt8):∀ (s:List UInt8) (n:Nat),s.length < sub.length→findAt sub s n=none
  | [],n,h=>by
    have:sub ≠ []:=by intro e; subst e; simp at h
    simp [findAt,this]
  | x::r,n,h=>by
    simp only [findAt,isPrefixOf_long sub (x::r) h,Bool.false_eq_true,if_false]
    exact findAt_none sub r (n+1) (by simp at h; omega)

theorem findAt_one (c:UInt8):∀ (s:List UInt8) (n:Nat),findAt [c] s n=(cutAt c.toNat s).map fun p=>n+p.1.length
  | [],n=>by simp [findAt,cutAt]
  | x::r,n=>by
    simp only [findAt,cutAt,List.isPrefixOf,Bool.and_true]
    by_cases e:x=c
    · subst e; simp
    · have e1:¬ (x.toNat:Int)=(c.toNat:Int):=fun h=>e (UInt8.toNat_inj.1 (by omega))
      have e2:(c == x)=false:=by simp; exact fun h=>e h.symm
      simp only [e2,Bool.false_eq_true,if_false,if_neg e1,findAt_one c r (n+1),Option.map_map]
      congr 1; funext p; simp; omega

theorem cutAt_eq {c:Int}:∀ {s a b:List UInt8},cutAt c s=some (a,b)→∃ x:UInt8,(x.toNat:Int)=c∧s=a++x::b∧noB c a
  | [],a,b,h=>by simp [cutAt] at h
  | x::r,a,b,h=>by
    simp only [cutAt] at h
    split at h
    · rename_i e; simp at h; obtain ⟨rfl,rfl⟩:=h; exact ⟨x,e,by simp,by simp [noB]⟩
    · rename_i e
      cases hr:cutAt c r with
      | none=>simp [hr] at h
      | some p =>
        simp [hr] at h
        obtain ⟨rfl,rfl⟩:=h
        obtain ⟨y,h1,h2,h3⟩:=cutAt_eq (a:=p.1) (b:=p.2) hr
        refine ⟨y,h1,by rw [h2]; simp,?_⟩
        intro z hz
        simp at hz
        rcases hz with rfl | hz
        · exact e
        · exact h3 z hz

def con_zzCut:List AV→Option AV
  | [.str s,.str [c]]=>if s.length < big then some (cutV c.toNat s) else none
  | _=>none

end Wax


namespace Wax
open Go (IntKind)

def ascii (s:List UInt8):Bool:=s.all fun b=>decide (b.toNat < 128)

theorem ascii_cons {x:UInt8} {s:List UInt8}:ascii (x::s)=(decide (x.toNat < 128) && ascii s):=rfl
theorem ascii_app {s t:List UInt8}:ascii (s++t)=(ascii s && ascii t):=by simp [ascii]

def con_zzToLower:List AV→Option AV
  | [.str s]=>if s.length < mid∧ascii s=true then some (.str (lowS s)) else none
  | _=>none

end Wax


namespace Wax
open Go (IntKind)

def isSp (n:Int):Bool:=decide ((9≤n∧n≤13)∨n=32)

def con_zzIsSpace:List AV→Option AV
  | [.int .i32 n]=>if n < 128 then some (.bool (isSp n)) else none
  | _=>none

def wordsGo:List UInt8→List UInt8→List (List UInt8)
  | cur,[]=>if cur=[] then [] else [cur]
  | cur,x::r=>if isWs x.toNat then (if cur=[] then wordsGo [] r else cur::wordsGo [] r) else wordsGo (cur++[x]) r
def wordsOf (s:List UInt8):List (List UInt8):=wordsGo [] s

def plain (s:List UInt8):Bool:=s.all plainB

def con_zzTrimSpace:List AV→Option AV
  | [.str s]=>if s.length < mid∧plain s=true then some (.str (trimS s)) else none
  | _=>none

theorem plain_ascii {s:List UInt8} (h:plain s=true):ascii s=true:=by
  simp only [plain,ascii,List.all_eq_true] at h ⊢
  intro b hb
  have:=of_decide_eq_true (h b hb)
  exact decide_eq_true (by omega)

end Wax


namespace Wax
open Go (IntKind)

theorem decR_ascii {x:UInt8} {r:List UInt8} (h:x.toNat < 128):decR (x::r)=(x.toNat,1):=by
  have e:(⟨(x::r).toArray⟩:ByteArray).get! 0=x:=by
    show (x::r).toArray[0]! = x
    simp
  simp [decR,Go.Utf8.decode,e,h]

theorem plainB_lt {x:UInt8} (h:plainB x=true):x.toNat < 128:=by
  have:=of_decide_eq_true h
  omega

theorem isSp_ws {x:UInt8} (h:plainB x=true):isSp x.toNat=isWs x.toNat:=by
  have:=of_decide_eq_true h
  unfold isSp isWs
  apply decide_eq_decide.2
  omega

theorem plain_app {s t:List UInt8}:plain (s++t)=(plain s && plain t):=by simp [plain]

theorem trimR_ws {c:List UInt8} {x:UInt8} (h:isWs x.toNat=true):trimR (c++[x])=trimR c:=by simp [trimR,h]
theorem trimR_nw {c:List UInt8} {x:UInt8} (h:isWs x.toNat=false):trimR (c++[x])=c++[x]:=by simp [trimR,h]

theorem trimR_prefix (c:List UInt8):∃ t,c=trimR c++t:=by
  obtain ⟨t,ht⟩:=List.dropWhile_suffix (fun b:UInt8=>isWs b.toNat) (l:=c.reverse)
  refine ⟨t.reverse,?_⟩
  have:=congrArg List.reverse ht
  simpa [trimR] using this.symm

theorem trimL_app {a b:List UInt8} (ha:∀ x∈a,isWs x.toNat=true):trimL (a++b)=trimL b:=by
  induction a with
  | nil=>rfl
  | cons x r ih =>
    have h1:=ha x (by simp)
    simp only [trimL,List.cons_append,List.dropWhile_cons,h1,if_true]
    exact ih fun y hy=>ha y (by simp [hy])

theorem trimL_nw {b:List UInt8} (hb:∀ x r,b=x::r→isWs x.toNat=false):trimL b=b:=by
  cases b with
  | nil=>rfl
  | cons x r=>simp [trimL,hb x r rfl]

def toV (n:Nat) (a c:List UInt8):Int:=if c=[] then (n:Int) else (a.length:Int)+((trimR c).length:Int)

end Wax


namespace Wax
open Go (IntKind)

theorem awp_loop2 {σ:Type} {Γ:Gam} {Q:APost} {st:St} {live:List Nat} {c:SCode} (f:σ→St) (ok:σ→Prop) (m:σ→Nat) (s0:σ) (h0:norm live st=f s0) (hok:ok s0)
    (hr:∀ s,ok s→∀ LQ:St→Prop,(∀ s',ok s'→m s' < m s→∀ st,norm live st=f s'→LQ st)→awp Γ c (thenQ LQ Q) (f s)):awp Γ (.loop live c) Q st:=by
  refine awp_loop f ok m s0 h0 hok fun s hs=>hr s hs _ ?_
  intro s' h1 h2 st h3
  exact ⟨s',h3,h1,h2⟩

@[simp] theorem reach_nil {hp:List (Nat × AObj)} {n:Nat} {acc:List Nat}:reach hp n [] acc=acc:=by cases n <;> rfl
theorem reach_succ {hp:List (Nat × AObj)} {n i:Nat} {r acc:List Nat}:reach hp (n+1) (i::r) acc=if acc.contains i then reach hp n r acc else reach hp n (r++(match hlk hp i with | some o=>refsO o | none=>[])) (acc++[i]):=rfl

def grV (d es n:Nat):AV:=match n with | 0=>.nilS | n+1=>.msl d es 0 (n+1)
def grH (d n:Nat) (cs:List AV):List (Nat × AObj):=match n with | 0=>[] | _+1=>[(d,.cells cs)]
@[simp] theorem grV_zero {d es:Nat}:grV d es 0=.nilS:=rfl
@[simp] theorem grH_zero {d:Nat} {cs:List AV}:grH d 0 cs=[]:=rfl
@[simp] theorem grV_succ {d es n:Nat}:grV d es (n+1)=.msl d es 0 (n+1):=rfl
@[simp] theorem grH_succ {d n:Nat} {cs:List AV}:grH d (n+1) cs=[(d,.cells cs)]:=rfl

@[simp] theorem strsA_nil:strsA []=[]:=rfl
@[simp] theorem strsA_cons {x:List UInt8} {l:List (List UInt8)}:strsA (x::l)=.str x::strsA l:=rfl
@[simp] theorem strsA_app {l m:List (List UInt8)}:strsA (l++m)=strsA l++strsA m:=by simp [strsA]
@[simp] theorem atoms_strsA {l:List (List UInt8)}:atoms (strsA l)=true:=by induction l <;> simp_all
@[simp] theorem killL_strsA {d:Nat} {l:List (List UInt8)}:killL d (strsA l)=strsA l:=by induction l <;> simp_all
@[simp] theorem hasRefL_strsA {l:List (List UInt8)}:hasRefL (strsA l)=false:=by induction l <;> simp_all
@[simp] theorem refsL_strsA {l:List (List UInt8)}:refsL (strsA l)=[]:=by induction l <;> simp_all
@[simp] theorem mapIdL_strsA {g:Nat→Nat} {l:List (List UInt8)}:mapIdL g (strsA l)=strsA l:=by induction l <;> simp_all
@[simp] theorem hasRefL_bcA {l:List UInt8}:hasRefL (bcA l)=false:=by induction l <;> simp_all
@[simp] theorem refsL_bcA {l:List UInt8}:refsL (bcA l)=[]:=by induction l <;> simp_all
@[simp] theorem mapIdL_bcA {g:Nat→Nat} {l:List UInt8}:mapIdL g (bcA l)=bcA l:=by induction l <;> simp_all
@[simp] theorem strsA_drop {l:List (List UInt8)} {i:Nat}:(strsA l).drop i=strsA (l.drop i):=by simp [strsA,List.map_drop]
@[simp] theorem strsA_take {l:List (List UInt8)} {i:Nat}:(strsA l).take i=strsA (l.take i):=by simp [strsA,List.map_take]
@[simp] theorem strsA_set {l:List (List UInt8)} {i:Nat} {x:List UInt8}:(strsA l).set i (.str x)=strsA (l.set i x):=by simp [strsA,List.map_set]
@[simp] theorem snapWL_strsA {g:AV→AV} {l:List (List UInt8)}:snapWL g (strsA l)=strsA l:=by induction l <;> simp_all
@[simp] theorem snapWL_bcA {g:AV→AV} {l:List UInt8}:snapWL g (bcA l)=bcA l:=by induction l <;> simp_all
@[simp] theorem map_snap_strsA {n:Nat} {hp:List (Nat × AObj)} {l:List (List UInt8)}:(strsA l).map (snap (n+1) hp)=strsA l:=by induction l <;> simp_all [snap]
@[simp] theorem map_snap_bcA {n:Nat} {hp:List (Nat × AObj)} {l:List UInt8}:(bcA l).map (snap (n+1) hp)=bcA l:=by induction l <;> simp_all [snap]

@[simp] theorem refsL_app {a b:List AV}:refsL (a++b)=refsL a++refsL b:=by induction a <;> simp_all
@[simp] theorem mapIdL_app {g:Nat→Nat} {a b:List AV}:mapIdL g (a++b)=mapIdL g a++mapIdL g b:=by induction a <;> simp_all
@[simp] theorem hasRefL_appB {a b:List AV}:hasRefL (a++b)=(hasRefL a || hasRefL b):=by induction a <;> simp_all [Bool.or_assoc]
@[simp] theorem snapWL_app {g:AV→AV} {a b:List AV}:snapWL g (a++b)=snapWL g a++snapWL g b:=by induction a <;> simp_all
@[simp] theorem map_snapW_strsA {g:AV→AV} {l:List (List UInt8)}:(strsA l).map (snapW g)=strsA l:=by induction l <;> simp_all
@[simp] theorem map_snapW_bcA {g:AV→AV} {l:List UInt8}:(bcA l).map (snapW g)=bcA l:=by induction l <;> simp_all
@[simp high] theorem aload_ref {hp:List (Nat × AObj)} {id off:Nat}:aload hp none (.ref id off)=(oCells (hlk hp id)).bind fun cs=>cs[off]?.bind fun c=>if atom c=true then some c else none:=by
  simp only [aload]
  cases hlk hp id with
  | none=>rfl
  | some o=>cases o <;> simp only [oCells,Option.bind_some,loadC_drop] <;> rfl
theorem get_mid {α:Type} {a b:List α} {x:α} {n:Nat} (h:a.length=n):(a++x::b)[n]? = some x:=by
  subst h; rw [List.getElem?_append_right (Nat.le_refl _)]; simp
theorem set_mid {α:Type} {a b:List α} {x y:α} {n:Nat} (h:a.length=n):(a++x::b).set n y=a++y::b:=by
  subst h; simp
@[simp] theorem spliceL_more {cs:List AV} {i:Nat} {x y:AV} {r:List AV}:spliceL cs i (x::y::r)=spliceL (cs.set i x) (i+1) (y::r):=rfl
@[simp] theorem killL_repl {d n:Nat} {v:AV}:killL d (List.replicate n v)=List.replicate n (kill d v):=by induction n <;> simp_all [List.replicate_succ]
@[simp] theorem refsL_repl {n:Nat} {v:AV} (h:refs v=[]):refsL (List.replicate n v)=[]:=by induction n <;> simp_all [List.replicate_succ]
@[simp] theorem mapIdL_repl {g:Nat→Nat} {n:Nat} {v:AV}:mapIdL g (List.replicate n v)=List.replicate n (mapId g v):=by induction n <;> simp_all [List.replicate_succ]
@[simp] theorem atoms_repl {n:Nat} {v:AV} (h:atom v=true):atoms (List.replicate n v)=true:=by induction n <;> simp_all [List.replicate_succ]
theorem xor_neg1 (n:Int):IntKind.i64.wrap ((BitVec.ofInt 64 (-1) ^^^ BitVec.ofInt 64 n).toNat:Int)=IntKind.i64.wrap (-n - 1):=by
  have e:BitVec.ofInt 64 (-1) ^^^ BitVec.ofInt 64 n = ~~~ BitVec.ofInt 64 n:=by
    have:BitVec.ofInt 64 (-1)=BitVec.allOnes 64:=by decide
    rw [this,BitVec.allOnes_xor]
  rw [e,BitVec.toNat_not,BitVec.toNat_ofInt,IntKind.wrap_i64,IntKind.wrap_i64]
  omega
@[simp high] theorem aun_xor64 {n:Int}:aun .xor (.int .i64 n)=some (.int .i64 (IntKind.i64.wrap (-n - 1))):=by
  have:=xor_neg1 n
  show some (AV.int .i64 (IntKind.i64.wrap ((BitVec.ofInt 64 (-1) ^^^ BitVec.ofInt 64 n).toNat:Int)))=_
  rw [this]
@[simp high] theorem aun_not {b:Bool}:aun .not (.bool b)=some (.bool (!b)):=rfl
@[simp high] theorem aun_neg {k:IntKind} {n:Int}:aun .neg (.int k n)=some (.int k (k.wrap (0 - n))):=rfl

section
variable {n:Nat} {hp:List (Nat × AObj)}
@[simp] theorem snap_junk:snap (n+1) hp .junk=.junk:=rfl
@[simp] theorem snap_bool {b}:snap (n+1) hp (.bool b)=.bool b:=rfl
@[simp] theorem snap_int {k m}:snap (n+1) hp (.int k m)=.int k m:=rfl
@[simp] theorem snap_str {s}:snap (n+1) hp (.str s)=.str s:=rfl
@[simp] theorem snap_nilI:snap (n+1) hp .nilI=.nilI:=rfl
@[simp] theorem snap_nilP:snap (n+1) hp .nilP=.nilP:=rfl
@[simp] theorem snap_nilF:snap (n+1) hp .nilF=.nilF:=rfl
@[simp] theorem snap_nilM:snap (n+1) hp .nilM=.nilM:=rfl
@[simp] theorem snap_nilS:snap (n+1) hp .nilS=.nilS:=rfl
@[simp] theorem snap_sl {e xs}:snap (n+1) hp (.sl e xs)=.sl e xs:=rfl
@[simp] theorem snap_ptr {cs}:snap (n+1) hp (.ptr cs)=.ptr cs:=rfl
@[simp] theorem snap_bx {cs}:snap (n+1) hp (.bx cs)=.bx cs:=rfl
@[simp] theorem snap_mp {es}:snap (n+1) hp (.mp es)=.mp es:=rfl
@[simp] theorem snap_ifc {t v}:snap (n+1) hp (.ifc t v)=.ifc t (snap (n+1) hp v):=rfl
theorem snapWL_map {g:AV→AV}:∀ l:List AV,snapWL g l=l.map (snapW g)
  | []=>rfl
  | x::r=>by simp [snapWL,snapWL_map r]
@[simp] theorem snap_agg {cs}:snap (n+1) hp (.agg cs)=.agg (cs.map (snap (n+1) hp)):=by
  show AV.agg (snapWL _ cs)=_
  rw [snapWL_map]; rfl
@[simp] theorem snap_tup {cs}:snap (n+1) hp (.tup cs)=.tup (cs.map (snap (n+1) hp)):=by
  show AV.tup (snapWL _ cs)=_
  rw [snapWL_map]; rfl
@[simp] theorem snap_fn {f cs}:snap (n+1) hp (.fn f cs)=.fn f (cs.map (snap (n+1) hp)):=by
  show AV.fn f (snapWL _ cs)=_
  rw [snapWL_map]; rfl
@[simp] theorem snap_ref {id off}:snap (n+1) hp (.ref id off)=match oCells (hlk hp id) with | some cs=>.ptr ((cs.drop off).map (snap n hp)) | none=>.junk:=by
  show resolveA (snap n hp) hp (.ref id off)=_
  simp only [resolveA]
  cases hlk hp id with
  | none=>rfl
  | some o=>cases o <;> rfl
@[simp] theorem snap_msl {id es off m}:snap (n+1) hp (.msl id es off m)=match oCells (hlk hp id) with | some cs=>if off+m * es≤cs.length∧atoms cs=true∧0 < es then .sl es (elems es m ((cs.drop off).map (snap n hp))) else .junk | none=>.junk:=by
  show resolveA (snap n hp) hp (.msl id es off m)=_
  simp only [resolveA]
  cases hlk hp id with
  | none=>rfl
  | some o=>cases o <;> rfl
@[simp] theorem snap_mref {id}:snap (n+1) hp (.mref id)=match oMp (hlk hp id) with | some es=>.mp es | none=>.junk:=by
  show resolveA (snap n hp) hp (.mref id)=_
  simp only [resolveA]
  cases hlk hp id with
  | none=>rfl
  | some o=>cases o <;> rfl
end
end Wax


namespace Wax
open Go (IntKind)

def splitB (b:UInt8):List UInt8→List (List UInt8)
  | []=>[[]]
  | x::r=>if x=b then []::splitB b r else match splitB b r with
    | []=>[[x]]
    | h::t=>(x::h)::t

theorem splitB_ne (b:UInt8) (s:List UInt8):splitB b s ≠ []:=by
  cases s with
  | nil=>simp [splitB]
  | cons x r=>simp only [splitB]; split; simp; split <;> simp

theorem splitB_cut (b:UInt8):∀ (s:List UInt8),splitB b s=match cutAt b.toNat s with | none=>[s] | some (a,c)=>a::splitB b c
  | []=>rfl
  | x::r=>by
    have ih:=splitB_cut b r
    simp only [splitB,cutAt]
    by_cases e:x=b
    · subst e; simp
    · have e1:¬ (x.toNat:Int)=(b.toNat:Int):=fun h=>e (UInt8.toNat_inj.1 (by omega))
      rw [if_neg e,if_neg e1,ih]
      cases cutAt b.toNat r with
      | none=>rfl
      | some p=>rfl

theorem splitB_length (b:UInt8):∀ (s:List UInt8),(splitB b s).length≤s.length+1
  | []=>by simp [splitB]
  | x::r=>by
    have ih:=splitB_length b r
    simp only [splitB]
    split
    · simp; omega
    · split
      · simp
      · rename_i h t e; rw [e] at ih; simp at ih ⊢; omega

theorem splitB_mem_length (b:UInt8):∀ (s p:List UInt8),p∈splitB b s→p.length≤s.length
  | [],p,h=>by simp [splitB] at h; subst h; simp
  | x::r,p,h=>by
    have ih:=splitB_mem_length b r
    simp only [splitB] at h
    split at h
    · rcases List.mem_cons.1 h with e | h
      · subst e; simp
      · have:=ih p h; simp; omega
    · split at h
      · simp at h; subst h; simp
      · rename_i hd t e
        rcases List.mem_cons.1 h with e' | h
        · subst e'
          have:=ih hd (by rw [e]; simp); simp; omega
        · have:=ih p (by rw [e]; simp [h]); simp; omega

def con_zzSplit:List AV→List (Nat × AObj)→Option (AV × List (Nat × AObj))
  | [.str s,.str [b]],[]=>if s.length < mid then some (.msl 0 1 0 (splitB b s).length,[(0,.cells (strsA (splitB b s)))]) else none
  | _,_=>none

end Wax


namespace Wax
open Go (IntKind)

theorem decA {x:UInt8} {r:List UInt8} (h:x.toNat < 128):decR (x::r)=(x.toNat,1):=by
  have e:(⟨(x::r).toArray⟩:ByteArray).get! 0=x:=by
    show (x::r).toArray[0]! = x
    simp
  simp [decR,Go.Utf8.decode,e,h]

theorem ascii_lt {x:UInt8} {s:List UInt8} (h:ascii (x::s)=true):x.toNat < 128∧ascii s=true:=by
  rw [ascii_cons] at h; simpa using h

end Wax


namespace Wax
open Go (IntKind)

theorem slStrs_cases {v:AV} {l:List (List UInt8)} (h:slStrs v=some l):(v=.nilS∧l=[])∨v=.sl 1 (strsA l):=by
  cases v <;> simp [slStrs] at h
  · left; exact ⟨rfl,h⟩
  · right; obtain ⟨e,h⟩:=h; rw [asStrs_spec h,e]

end Wax


namespace Wax
open Go (IntKind)

theorem cutAt_le {c:Int} {s:List UInt8} {p:List UInt8 × List UInt8} (h:cutAt c s=some p):p.1.length+p.2.length < s.length∧∃ x,s=p.1++x::p.2:=by
  obtain ⟨a,b⟩:=p
  obtain ⟨x,hx1,hx2,_⟩:=cutAt_eq h
  subst hx2
  simp

attribute [local simp] lowS_cons lowS_nil lowS_app
@[simp] theorem lowS_len {l:List UInt8}:(lowS l).length=l.length:=by simp [lowS]

end Wax


namespace Wax
open Go (IntKind)

theorem slf_alen {u:AV} {l:List (List UInt8)} (h:slStrs u=some l) (hp:List (Nat × AObj)):alen hp 1 u=some l.length:=by
  rcases slStrs_cases h with ⟨rfl,rfl⟩ | rfl <;> simp
theorem slf_ref {u:AV} {l:List (List UInt8)} (h:slStrs u=some l):hasRef u=false:=by
  rcases slStrs_cases h with ⟨rfl,rfl⟩ | rfl <;> simp
theorem slf_ne {u:AV} {l:List (List UInt8)} (h:slStrs u=some l) (hl:l ≠ []):u=.sl 1 (strsA l):=by
  rcases slStrs_cases h with ⟨rfl,rfl⟩ | rfl
  · exact absurd rfl hl
  · rfl

theorem plain_sub {s t:List UInt8} (h:∀ x∈t,x∈s) (hs:plain s=true):plain t=true:=by
  simp only [plain,List.all_eq_true] at hs ⊢
  exact fun x hx=>hs x (h x hx)

theorem trimS_sub {t:List UInt8}:∀ x∈trimS t,x∈t:=by
  intro x hx
  simp only [trimS,trimR,trimL,List.mem_reverse] at hx
  have:=(List.dropWhile_suffix _).mem hx
  rw [List.mem_reverse] at this
  exact (List.dropWhile_suffix _).mem this

end Wax


namespace Wax
open Go (IntKind)

def pr2 (l:List (List UInt8 × List UInt8)):List AV:=l.map fun p=>.agg [.str p.1,.str p.2]
def pc2 (l:List (List UInt8 × List UInt8)):List AV:=l.flatMap fun p=>[.str p.1,.str p.2]
@[simp] theorem pr2_nil:pr2 []=[]:=rfl
@[simp] theorem pr2_cons {x l}:pr2 (x::l)=.agg [.str x.1,.str x.2]::pr2 l:=rfl
@[simp] theorem pr2_app {l m}:pr2 (l++m)=pr2 l++pr2 m:=by simp [pr2]
@[simp] theorem pr2_length {l}:(pr2 l).length=l.length:=by simp [pr2]
@[simp] theorem pc2_nil:pc2 []=[]:=rfl
@[simp] theorem pc2_cons {x:List UInt8 × List UInt8} {l}:pc2 (x::l)=.str x.1::.str x.2::pc2 l:=rfl
@[simp] theorem pc2_app {l m}:pc2 (l++m)=pc2 l++pc2 m:=by simp [pc2]
@[simp] theorem pc2_length {l:List (List UInt8 × List UInt8)}:(pc2 l).length=l.length * 2:=by induction l <;> simp_all; omega
@[simp] theorem atoms_pc2 {l}:atoms (pc2 l)=true:=by induction l <;> simp_all
@[simp] theorem killL_pc2 {d l}:killL d (pc2 l)=pc2 l:=by induction l <;> simp_all
@[simp] theorem map_snap_pc2 {n:Nat} {hp:List (Nat × AObj)} {l}:(pc2 l).map (snap (n+1) hp)=pc2 l:=by induction l <;> simp_all
@[simp] theorem snapWL_pc2 {g:AV→AV} {l}:snapWL g (pc2 l)=pc2 l:=by induction l <;> simp_all
@[simp] theorem group_pc2:∀ {l:List (List UInt8 × List UInt8)},group 2 l.length (pc2 l)=pr2 l
  | []=>rfl
  | x::l=>by simp [group,group_pc2 (l:=l)]

def pairV (l:List (List UInt8 × List UInt8)):AV:=match l with | []=>.nilS | _=>.sl 2 (pr2 l)
def asPairs:List AV→Option (List (List UInt8 × List UInt8))
  | []=>some []
  | .agg [.str a,.str b]::r=>(asPairs r).map ((a,b) :: ·)
  | _::_=>none
def slPairs:AV→Option (List (List UInt8 × List UInt8))
  | .nilS=>some []
  | .sl es xs=>if es=2 then asPairs xs else none
  | _=>none
theorem asPairs_pr2:∀ l,asPairs (pr2 l)=some l
  | []=>rfl
  | x::l=>by simp [asPairs,asPairs_pr2 l]
theorem asPairs_spec:∀ {xs l},asPairs xs=some l→xs=pr2 l
  | [],l,h=>by simp [asPairs] at h; subst h; rfl
  | v::r,l,h=>by
    unfold asPairs at h
    split at h
    · simp at h; rename_i e; simp at e
    · rename_i a b r' e
      simp at e; obtain ⟨rfl,rfl⟩:=e
      cases hr:asPairs r with
      | none=>rw [hr] at h; simp at h
      | some l'=>rw [hr] at h; simp at h; subst h; rw [asPairs_spec hr]; rfl
    · simp at h
theorem slPairs_cases {v:AV} {l} (h:slPairs v=some l):(v=.nilS∧l=[])∨v=.sl 2 (pr2 l):=by
  cases v <;> simp [slPairs] at h
  · left; exact ⟨rfl,h⟩
  · right; obtain ⟨e,h⟩:=h; rw [asPairs_spec h,e]
end Wax


namespace Wax
open Go (IntKind)

theorem slp_alen {u:AV} {l} (h:slPairs u=some l) (hp:List (Nat × AObj)):alen hp 1 u=some l.length:=by
  rcases slPairs_cases h with ⟨rfl,rfl⟩ | rfl <;> simp
theorem slp_ne {u:AV} {l} (h:slPairs u=some l) (hl:l ≠ []):u=.sl 2 (pr2 l):=by
  rcases slPairs_cases h with ⟨rfl,rfl⟩ | rfl
  · exact absurd rfl hl
  · rfl
@[simp] theorem pr2_get {l:List (List UInt8 × List UInt8)} {i:Nat}:(pr2 l)[i]? = l[i]?.map fun p=>AV.agg [.str p.1,.str p.2]:=by simp [pr2]

def half:Nat:=549755813888

end Wax


namespace Wax
open Go (IntKind)

def cutS (s:List UInt8) (p:Nat × Nat):List UInt8:=(s.take p.2).drop p.1

structure FF (s pre post:List UInt8) (sp:List (Nat × Nat)) (cur:List UInt8) (v:Int):Prop where
  cut:s=pre++post
  words:wordsOf s=sp.map (cutS s)++wordsGo cur post
  none:cur=[]→v < 0 ∧ -1099511627777 < v
  some:cur ≠ []→∃ p,pre=p++cur∧v=p.length
  ok:∀ p∈sp,p.1≤p.2∧p.2≤s.length
  len:sp.length≤pre.length

theorem FF.on {s pre post:List UInt8} {sp:List (Nat × Nat)} {cur:List UInt8} {v:Int} {x:UInt8} (h:FF s pre (x::post) sp cur v) (hw:isWs x.toNat=false) (hc:cur ≠ []):FF s (pre++[x]) post sp (cur++[x]) v:=by
  refine ⟨by rw [h.cut]; simp,?_,fun hn=>by simp at hn,fun _=>?_,h.ok,by have:=h.len; simp; omega⟩
  · have:=h.words
    simpa [wordsGo,hw] using this
  · obtain ⟨p,hp,hv⟩:=h.some hc
    exact ⟨p,by rw [hp]; simp,hv⟩

end Wax


namespace Wax
open Go (IntKind)

def con_errorsNew:List AV→Option AV
  | [.str s]=>some (.ifc 3 (.ptr [.str s]))
  | _=>none

theorem ok_errorsNew (Γ:Gam):∀ args r,con_errorsNew args=some r→runs Γ c_errors_New args (fun v=>v=r):=by
  intro args r h
  simp only [con_errorsNew] at h
  split at h <;> (try simp at h; done)
  injection h with h; subst h
  simp [c_errors_New]

def msgBad:List UInt8:=[100,107,105,109,58,32,109,97,108,102,111,114,109,101,100,32,104,101,97,100,101,114,32,112,97,114,97,109,115]
def msgTwice:List UInt8:=[100,107,105,109,58,32,100,117,112,108,105,99,97,116,101,32,116,97,103,32,110,97,109,101]

def pmA (l:List (List UInt8 × List UInt8)):List (List UInt8 × AV):=l.map fun p=>(p.1,.str p.2)
def hasK (k:List UInt8) (l:List (List UInt8 × List UInt8)):Bool:=l.any fun p=>decide (k=p.1)
def prm:List (List UInt8)→List (List UInt8 × List UInt8)→List (List UInt8 × List UInt8) × Option (List UInt8)
  | [],acc=>(acc,none)
  | p::r,acc=>match cutAt 61 p with
    | none=>if trimS p=[] then prm r acc else (acc,some msgBad)
    | some q=>if hasK (trimS q.1) acc=true then (acc,some msgTwice) else prm r (acc++[(trimS q.1,trimS q.2)])

theorem splitB_sub (b:UInt8):∀ (s p:List UInt8),p∈splitB b s→∀ y∈p,y∈s
  | [],p,h,y,hy=>by simp [splitB] at h; subst h; exact hy
  | x::r,p,h,y,hy=>by
    have ih:=splitB_sub b r
    simp only [splitB] at h
    split at h
    · rcases List.mem_cons.1 h with e | h
      · subst e; simp at hy
      · exact List.mem_cons_of_mem _ (ih p h y hy)
    · split at h
      · simp at h; subst h; simp at hy; subst hy; simp
      · rename_i hd t e
        rcases List.mem_cons.1 h with e' | h
        · subst e'
          rcases List.mem_cons.1 hy with e2 | hy
          · subst e2; simp
          · exact List.mem_cons_of_mem _ (ih hd (by rw [e]; simp) y hy)
        · exact List.mem_cons_of_mem _ (ih p (by rw [e]; simp [h]) y hy)
theorem splitB_plain (b:UInt8) (s p:List UInt8) (hs:plain s=true) (h:p∈splitB b s):plain p=true:=plain_sub (splitB_sub b s p h) hs

end Wax


namespace Wax
open Go (IntKind)

def nonWs (s:List UInt8):Prop:=∀ x∈s,isWs x.toNat=false
def allWs (s:List UInt8):Prop:=∀ x∈s,isWs x.toNat=true

theorem wordsGo_ws:∀ {b:List UInt8} (s:List UInt8),allWs b→wordsGo [] (b++s)=wordsGo [] s
  | [],s,_=>rfl
  | x::r,s,h=>by
    have h1:=h x (by simp)
    simp only [List.cons_append,wordsGo,h1,if_true]
    exact wordsGo_ws s fun y hy=>h y (by simp [hy])

theorem wordsGo_word:∀ {w:List UInt8} (cur s:List UInt8),nonWs w→wordsGo cur (w++s)=wordsGo (cur++w) s
  | [],cur,s,_=>by simp
  | x::r,cur,s,h=>by
    have h1:=h x (by simp)
    simp only [List.cons_append,wordsGo,h1,Bool.false_eq_true,if_false]
    rw [wordsGo_word _ s fun y hy=>h y (by simp [hy])]
    simp

theorem wordsGo_end {b cur s:List UInt8} (hc:cur ≠ []) (hb:b ≠ []) (hw:allWs b):wordsGo cur (b++s)=cur::wordsGo [] (b++s):=by
  cases b with
  | nil=>exact absurd rfl hb
  | cons x r =>
    have h1:=hw x (by simp)
    simp only [List.cons_append,wordsGo,h1,if_true,if_neg hc]

theorem trimS_word {n b:List UInt8} (hn:nonWs n) (hne:n ≠ []) (hb:allWs b):trimS (n++b)=n:=by
  have h1:trimL (n++b)=n++b:=by
    cases n with
    | nil=>exact absurd rfl hne
    | cons x r=>simp [trimL,hn x (by simp)]
  rw [trimS,h1,trimR,List.reverse_append,List.dropWhile_append_of_pos (by intro x hx; exact hb x (by simpa using hx))]
  have h2:n.reverse.dropWhile (fun b=>isWs b.toNat)=n.reverse:=by
    cases hr:n.reverse with
    | nil=>rfl
    | cons x r =>
      have:x∈n:=by rw [← List.mem_reverse,hr]; simp
      simp [hn x this]
  rw [h2,List.reverse_reverse]

theorem cutAt_noB {c:UInt8} {n r:List UInt8} (h:noB c.toNat n):cutAt c.toNat (n++c::r)=some (n,r):=by
  rw [cutAt_app _ _ _ h]; simp [cutAt]

end Wax


namespace Wax
open Go (IntKind)

abbrev L8:=List UInt8
abbrev KVp:=List UInt8 × List UInt8

def tokStop:L8:=[40,41,60,62,64,44,59,58,92,34,47,91,93,63,61]
def tokB (c:UInt8):Bool:=decide (32 < c.toNat) && decide (c.toNat < 127) && !tokStop.contains c
def mTok (s:L8):Bool:=s.all tokB && decide (s ≠ [])
def kwB (c:UInt8):Bool:=decide ((97≤c.toNat∧c.toNat≤122)∨(65≤c.toNat∧c.toNat≤90)∨(48≤c.toNat∧c.toNat≤57)∨c.toNat=45)
def mKw (s:L8):Bool:=s.all kwB && decide (s ≠ []) && decide (s.head? ≠ some 45) && decide (s.getLast? ≠ some 45)
def mDom (s:L8):Bool:=(splitB 46 s).all (fun p=>mKw p && decide (p.length≤63)) && decide (s.length≤253)
def digB (c:UInt8):Bool:=decide (48≤c.toNat∧c.toNat≤57)
def numW (n:Int) (s:L8):Int:=s.foldl (fun n c=>IntKind.i64.wrap (IntKind.i64.wrap (10 * n)+((c.toNat:Int) - 48))) n
def mNum (s:L8) (most:Int):Int × Bool:=if s.all digB=true then (numW 0 s,decide (s ≠ []) && decide ((s.length:Int)≤most)) else (0,false)

def sNone:L8:=[110,111,110,101]
def sQuar:L8:=[113,117,97,114,97,110,116,105,110,101]
def sReject:L8:=[114,101,106,101,99,116]
def polB (s:L8):Bool:=decide (s=sNone∨s=sQuar∨s=sReject)
def sMailto:L8:=[109,97,105,108,116,111,58]
def sKmgt:L8:=[107,109,103,116]
def s01ds:L8:=[48,49,100,115]
def sAfrf:L8:=[97,102,114,102]

def addrB (s:L8):Bool:=match cutAt 64 s with
  | some p=>mTok p.1 && mDom p.2
  | none=>false
def sizeOff (s:L8):L8:=match s.getLast? with
  | some c=>if sKmgt.contains c then s.dropLast else s
  | none=>s
def muri (s:L8):Bool:=decide (8≤s.length) && decide (s.take 7=sMailto) && (match cutAt 33 (s.drop 7) with
  | some p=>(mNum (sizeOff p.2) 9).2 && addrB p.1
  | none=>addrB (s.drop 7))

def kAdkim:L8:=[97,100,107,105,109]
def kAspf:L8:=[97,115,112,102]
def kFo:L8:=[102,111]
def kPct:L8:=[112,99,116]
def kRf:L8:=[114,102]
def kRi:L8:=[114,105]
def kRua:L8:=[114,117,97]
def kRuf:L8:=[114,117,102]
def kSp:L8:=[115,112]
def kP:L8:=[112]
def kV:L8:=[118]
def sDM:L8:=[68,77,65,82,67,49]
def sR:L8:=[114]
def sS:L8:=[115]

structure MR where
  adkim:L8
  aspf:L8
  fo:Int
  p:L8
  pct:Int
  has:Bool
  rf:Option (List L8)
  ri:Int
  rua:Option (List L8)
  ruf:Option (List L8)
  sp:L8
  deriving DecidableEq

def slO:Option (List L8)→AV
  | none=>.nilS
  | some l=>.sl 1 (strsA l)
def MR.cells (r:MR):List AV:=[.str r.adkim,.str r.aspf,.int .i64 r.fo,.str r.p,.int .i64 r.pct,.bool r.has,slO r.rf,.int .i64 r.ri,slO r.rua,slO r.ruf,.str r.sp]
def mr0:MR:=⟨[],[],0,[],0,false,none,0,none,none,[]⟩

def alignB (s:L8):Bool:=decide (s=sR∨s=sS)
def orI (x y:Int):Int:=IntKind.i64.wrap ((BitVec.ofInt 64 x ||| BitVec.ofInt 64 y).toNat:Int)
def foBit:L8→Int
  | [c]=>if c=48 then 1 else if c=49 then 2 else if c=100 then 4 else 8
  | _=>0
def foOk (s:L8):Bool:=match s with | [c]=>s01ds.contains c | _=>false
def foOf (l:List L8):Int:=l.foldl (fun n x=>orI n (foBit x)) 0
def mlist (b:UInt8) (right:L8→Bool) (s:L8):Option (List L8):=if (splitB b s).all right=true then some (splitB b s) else none

def mOk (t:KVp):Bool :=
  if t.1=kAdkim then alignB t.2 else if t.1=kAspf then alignB t.2 else if t.1=kP then polB t.2 else if t.1=kSp then polB t.2
  else if t.1=kFo then (mlist 58 foOk t.2).isSome
  else if t.1=kPct then (mNum t.2 3).2 && decide ((mNum t.2 3).1≤100)
  else if t.1=kRf then (mlist 58 (fun s=>decide (s=sAfrf)) t.2).isSome
  else if t.1=kRi then (mNum t.2 10).2 && decide (0 < (mNum t.2 10).1) && decide ((mNum t.2 10).1 < 4294967296)
  else if t.1=kRua then (mlist 44 muri t.2).isSome
  else if t.1=kRuf then (mlist 44 muri t.2).isSome
  else true

def mPut (r:MR) (t:KVp):MR :=
  if t.1=kAdkim then { r with adkim:=t.2 } else if t.1=kAspf then { r with aspf:=t.2 } else if t.1=kP then { r with p:=t.2 } else if t.1=kSp then { r with sp:=t.2 }
  else if t.1=kFo then { r with fo:=foOf ((mlist 58 foOk t.2).getD []) }
  else if t.1=kPct then { r with pct:=(mNum t.2 3).1,has:=true }
  else if t.1=kRf then { r with rf:=mlist 58 (fun s=>decide (s=sAfrf)) t.2 }
  else if t.1=kRi then { r with ri:=IntKind.i64.wrap ((mNum t.2 10).1 * 1000000000) }
  else if t.1=kRua then { r with rua:=mlist 44 muri t.2 }
  else if t.1=kRuf then { r with ruf:=mlist 44 muri t.2 }
  else r

def mKnown:List L8:=[kP,kAdkim,kAspf,kFo,kPct,kRf,kRi,kRua,kRuf,kSp]
def mSameAt (k:L8) (a b:MR):Bool :=
  if k=kAdkim then decide (a.adkim=b.adkim) else if k=kAspf then decide (a.aspf=b.aspf) else if k=kP then decide (a.p=b.p) else if k=kSp then decide (a.sp=b.sp)
  else if k=kFo then decide (a.fo=b.fo) else if k=kPct then a.has && decide (a.pct=b.pct) else if k=kRf then decide (a.rf.getD []=b.rf.getD []) else if k=kRi then decide (a.ri=b.ri)
  else if k=kRua then decide (a.rua.getD []=b.rua.getD []) else if k=kRuf then decide (a.ruf.getD []=b.ruf.getD []) else true
def mHas (r:MR) (l:List KVp):Bool:=l.all fun t=>mSameAt t.1 r (mPut mr0 t)
def psetL:List KVp→L8→L8→List KVp
  | [],k,v=>[(k,v)]
  | (i,u)::r,k,v=>if k=i then (k,v)::r else (i,u)::psetL r k v
theorem mset_pmA:∀ (l:List KVp) (k v:L8),mset (pmA l) k (.str v)=pmA (psetL l k v)
  | [],_,_=>rfl
  | (i,u)::r,k,v=>by
    have ih:=mset_pmA r k v
    simp only [pmA,List.map_cons,mset,psetL] at ih ⊢
    by_cases h:k=i
    · simp [h]
    · simp only [if_neg h,List.map_cons,ih]
theorem psetL_new:∀ {l:List KVp} {k v:L8},hasK k l=false→psetL l k v=l++[(k,v)]
  | [],_,_,_=>rfl
  | (i,u)::r,k,v,h=>by
    simp only [hasK,List.any_cons,Bool.or_eq_false_iff,decide_eq_false_iff_not] at h
    simp only [psetL,if_neg h.1,List.cons_append]
    rw [psetL_new (l:=r) h.2]

structure DR where
  dk:L8
  sp:L8
  fo:Int
  p:L8
  pct:Option Int
  rf:Option (List L8)
  ri:Int
  rua:Option (List L8)
  ruf:Option (List L8)
  sub:L8

def recM (r:DR):MR:=⟨r.dk,r.sp,r.fo,r.p,r.pct.getD 0,r.pct.isSome,if r.rf.getD []=[] then none else r.rf,IntKind.i64.wrap (r.ri * 1000000000),r.rua,r.ruf,r.sub⟩

def fobit2 (s:L8):Option Int:=if trimS s=[48] then some 1 else if trimS s=[49] then some 2 else if trimS s=[100] then some 4 else if trimS s=[115] then some 8 else none
def fo2:Int→List L8→Option Int
  | n,[]=>some n
  | n,x::r=>match fobit2 x with
    | some b=>fo2 (orI n b) r
    | none=>none
def uris (s:L8):List L8:=(splitB 44 s).map trimS
end Wax


namespace Wax
open Go (IntKind)

theorem ar_ok_zzIndex (Γ:Gam):∀ args r,con_zzIndex args=some r→runs Γ c_authres_zzIndex args (fun v=>v=r):=by
  intro args r h
  simp only [con_zzIndex] at h
  split at h <;> (try simp at h; done)
  rename_i s sub
  obtain ⟨⟨hs,hb⟩,rfl⟩:=ite_some h
  clear h
  simp only [big] at hs hb
  simp [c_authres_zzIndex]
  refine awp_loop (σ:=List UInt8 × List UInt8) (fun p=>⟨[(0,.str s),(1,.str sub),(5,.int .i64 p.1.length)],[]⟩) (fun p=>s=p.1++p.2∧findAt sub s 0=findAt sub p.2 p.1.length) (fun p=>p.2.length) ([],s) (by simp) (by simp) ?_
  rintro ⟨pre,post⟩ ⟨hs1,hs2⟩
  simp only at hs1 hs2
  subst hs1
  simp at hs
  simp (disch:=omega) [wrap64]
  refine ⟨fun hle=>?_,fun hlt=>?_⟩
  · have et:((pre.length:Int)+(sub.length:Int)).toNat=pre.length+sub.length:=by omega
    have e:List.drop pre.length (List.take (pre.length+sub.length) (pre++post))=post.take sub.length:=by
      rw [List.take_length_add_append,List.drop_left]
    rw [et,e]
    refine ⟨⟨by omega,hle⟩,fun h=>?_,fun h=>?_⟩
    · rw [idxV,hs2]
      cases post with
      | nil =>
        have:sub=[]:=by cases sub <;> simp at hle ⊢
        simp [findAt,this]
      | cons x post=>simp only [findAt,isPrefixOf_take sub (x::post) hle,h,decide_true,if_true]
    · cases post with
      | nil =>
        have:sub=[]:=by cases sub <;> simp at hle ⊢
        subst this; simp at h
      | cons x post =>
        refine ⟨(pre++[x],post),by simp,⟨by simp,?_⟩,by simp⟩
        rw [hs2]
        simp only [findAt,isPrefixOf_take sub (x::post) hle,h,decide_false,Bool.false_eq_true,if_false]
        simp
  · rw [idxV,hs2,findAt_none sub post _ (by omega)]


theorem ar_ok_zzCut (Γ:Gam) (h22:Γ.fn 169=con_zzIndex):∀ args r,con_zzCut args=some r→runs Γ c_authres_zzCut args (fun v=>v=r):=by
  intro args r h
  simp only [con_zzCut] at h
  split at h <;> (try simp at h; done)
  rename_i s c
  obtain ⟨hs,rfl⟩:=ite_some h
  clear h
  simp [c_authres_zzCut]
  have h1:1 < big:=by decide
  simp [acall,h22,con_zzIndex,hs,h1]
  simp only [big] at hs
  simp only [idxV,findAt_one]
  cases hc:cutAt c.toNat s with
  | none=>simp [cutV,hc]
  | some p =>
    obtain ⟨a,b⟩:=p
    obtain ⟨x,hx1,hx2,hx3⟩:=cutAt_eq hc
    subst hx2
    simp at hs
    simp (disch:=omega) [cutV,hc,wrap64]
    have e2:((a.length:Int)+1).toNat=a.length+1:=by omega
    omega

theorem ar_ok_zzSplit (Γ:Gam) (h22:Γ.fn 169=con_zzIndex):∀ args hp q,con_zzSplit args hp=some q→runsS Γ c_authres_zzSplit args hp (fun v=>v=some q):=by
  intro args hp q h
  simp only [con_zzSplit] at h
  split at h <;> (try simp at h; done)
  rename_i s b
  obtain ⟨hs,rfl⟩:=ite_some h
  clear h
  simp only [mid] at hs
  have h1:1 < big:=by decide
  simp [c_authres_zzSplit,t_authres_zzSplit_4]
  refine awp_loop2 (σ:=List (List UInt8) × List UInt8) (fun p=>⟨[(0,.str p.2),(1,.str [b]),(5,grV 51 1 p.1.length)],grH 51 p.1.length (strsA p.1)⟩)
    (fun p=>splitB b s=p.1++splitB b p.2∧p.1.length+p.2.length≤s.length) (fun p=>p.2.length) ([],s) (by simp) (by simp) ?_
  rintro ⟨done,cur⟩ ⟨hs1,hs2⟩ LQ hLQ
  simp only at hs1 hs2
  have hcb:cur.length < big:=by simp only [big]; omega
  simp [b_authres_zzSplit_3,acall,h22,con_zzIndex,hcb,h1]
  simp only [idxV,findAt_one]
  rw [splitB_cut b cur] at hs1
  cases hc:cutAt b.toNat cur with
  | none =>
    simp only [hc] at hs1
    rw [hs1]
    cases done with
    | nil=>simp [reach_succ]
    | cons d0 dr =>
      simp [reach_succ]
      simp at hs2
      omega
  | some p =>
    obtain ⟨a,c⟩:=p
    simp only [hc] at hs1
    obtain ⟨x,hx1,hx2,hx3⟩:=cutAt_eq hc
    subst hx2
    simp at hs2
    have fin:∀ st,norm [0,1,5] st=⟨[(0,.str c),(1,.str [b]),(5,grV 51 1 (done++[a]).length)],grH 51 (done++[a]).length (strsA (done++[a]))⟩→LQ st:=by
      intro st hst
      exact hLQ (done++[a],c) ⟨by simpa using hs1,by simp; omega⟩ (by simp; omega) st hst
    have e2:((a.length:Int)+1).toNat=a.length+1:=by omega
    cases done with
    | nil =>
      simp (disch:=omega) [wrap64]
      refine ⟨by omega,by omega,⟨by omega,by omega⟩,fin _ ?_⟩
      simp
    | cons d0 dr =>
      simp at hs2
      simp (disch:=omega) [wrap64]
      refine ⟨by omega,by omega,by omega,⟨by omega,by omega⟩,fin _ ?_⟩
      simp

theorem ar_ok_zzIsSpace (Γ:Gam):∀ args r,con_zzIsSpace args=some r→runs Γ c_authres_zzIsSpace args (fun v=>v=r):=by
  intro args r h
  simp only [con_zzIsSpace] at h
  split at h <;> (try simp at h; done)
  rename_i n
  obtain ⟨hn,rfl⟩:=ite_some h
  clear h
  have f1:¬ n=133:=by omega
  have f2:¬ n=160:=by omega
  have f3:¬ n=5760:=by omega
  have f4:¬ 8192≤n:=by omega
  have f5:¬ n=8232:=by omega
  have f6:¬ n=8233:=by omega
  have f7:¬ n=8239:=by omega
  have f8:¬ n=8287:=by omega
  have f9:¬ n=12288:=by omega
  have key:∀ b:Bool,((9≤n∧n≤13)∨n=32 ↔ b=true)→b=isSp n:=by
    intro b hb; unfold isSp; cases b <;> simp at hb ⊢ <;> omega
  by_cases h1:9≤n <;> by_cases h2:n≤13 <;> by_cases h3:n=32 <;>
    simp [c_authres_zzIsSpace,f1,f2,f3,f4,f5,f6,f7,f8,f9,h1,h2,h3] <;> first | rfl | exact decide_eq_true (by omega) | exact decide_eq_false (by omega)

theorem ar_trim_inner (Γ:Gam) (Q:APost) (S:List UInt8) (x:UInt8) (i n:Nat) (f t:Int) (hn:S.length=n) (hi:S[i]? = some x) (hx:x.toNat < 128) (hb:n < 1099511627776) (hib:i < 1099511627776)
    (h:Q (.exit 4) ⟨[(0,.str S),(3,.int .i64 f),(4,.int .i64 t),(7,.int .i64 i),(8,.int .i64 1),(54,.bool false)],[]⟩) :
    awp Γ b_authres_zzTrimSpace_2 Q ⟨[(0,.str S),(3,.int .i64 f),(4,.int .i64 t),(7,.int .i64 i),(8,.int .i64 1)],[]⟩:=by
  have e192:¬ (192:Int)≤(x.toNat:Int):=by omega
  have ew:IntKind.i64.wrap ((i:Int)+1)=(i:Int)+1:=wrap64 (by omega) (by omega)
  simp only [b_authres_zzTrimSpace_2,awp_seq]
  refine awp_region_to ⟨[(0,.str S),(3,.int .i64 f),(4,.int .i64 t),(7,.int .i64 i),(8,.int .i64 1),(54,.bool false)],[]⟩ ?_ ?_
  · by_cases hlast:(i:Int)+1 < (n:Int)
    · have h1:((i:Int)+1 < (n:Int))=True:=eq_true hlast
      simp (maxSteps:=1000000) [ew,hn,hi,e192,h1]
    · have h1:((i:Int)+1 < (n:Int))=False:=eq_false hlast
      simp (maxSteps:=1000000) [ew,hn,h1]
  · simpa using h

theorem ar_ok_zzToLower (Γ:Gam):∀ args r,con_zzToLower args=some r→runs Γ c_authres_zzToLower args (fun v=>v=r):=by
  intro args r h
  simp only [con_zzToLower] at h
  split at h <;> (try simp at h; done)
  rename_i s
  obtain ⟨⟨hs,ha⟩,rfl⟩:=ite_some h
  clear h
  simp only [mid] at hs
  simp [c_authres_zzToLower,b_authres_zzToLower_1,t_authres_zzToLower_2]
  refine awp_loop (σ:=List UInt8 × List UInt8 × Nat) (fun p=>⟨[(0,.str s),(3,outV p.2.2 (lowS p.1)),(4,.int .i64 p.1.length)],outH p.2.2 (lowS p.1)⟩)
    (fun p=>s=p.1++p.2.1∧(p.2.2=18∨p.2.2=31)) (fun p=>p.2.1.length) ([],s,18) (by simp) (by simp) ?_
  rintro ⟨pre,post,d⟩ ⟨hs1,hd⟩
  simp only at hs1 hd
  subst hs1
  cases post with
  | nil =>
    by_cases ho:pre=[]
    · subst ho; simp
    · have hne:lowS pre ≠ []:=by intro e; apply ho; simpa [lowS] using e
      have e:List.take pre.length (lowS pre)=lowS pre:=List.take_of_length_le (by simp)
      simp [outV_ne hne,outH_ne hne,e]
  | cons x post =>
    simp at hs
    have hx:x.toNat < 128:=by
      have:=(by simpa [ascii_app,ascii_cons] using ha:ascii pre=true∧x.toNat < 128∧ascii post=true)
      exact this.2.1
    have hl:=lowB_toNat x
    have step:∀ (n:Int) d',n=(lowB x).toNat→(d'=18∨d'=31) →
        loopQ [0,3,4] (fun p:List UInt8 × List UInt8 × Nat=>⟨[(0,.str (pre++x::post)),(3,outV p.2.2 (lowS p.1)),(4,.int .i64 p.1.length)],outH p.2.2 (lowS p.1)⟩)
          (fun p=>pre++x::post=p.1++p.2.1∧(p.2.2=18∨p.2.2=31)) (fun p=>p.2.1.length) (pre,x::post,d)
          ⟨[(0,.str (pre++x::post)),(3,.msl d' 1 0 (pre.length+1)),(4,.int .i64 (IntKind.i64.wrap (pre.length+1)))],[(d',.cells (bcA (lowS pre)++[.int .u8 n]))]⟩:=by
      intro n d' hn h1
      subst hn
      refine ⟨(pre++[x],post,d'),?_,⟨by simp,h1⟩,by simp⟩
      have e1:outV d' (lowS (pre++[x]))=.msl d' 1 0 (pre.length+1):=by rw [outV_ne (by simp)]; simp
      have e2:outH d' (lowS (pre++[x]))=[(d',.cells (bcA (lowS pre)++[.int .u8 (lowB x).toNat]))]:=by rw [outH_ne (by simp)]; simp
      simp (disch:=omega) only [e1,e2]
      simp (disch:=omega) [wrap64]
    generalize hl2:loopQ [0,3,4] (fun p:List UInt8 × List UInt8 × Nat=>(⟨[(0,.str (pre++x::post)),(3,outV p.2.2 (lowS p.1)),(4,.int .i64 p.1.length)],outH p.2.2 (lowS p.1)⟩:St))
          (fun p=>pre++x::post=p.1++p.2.1∧(p.2.2=18∨p.2.2=31)) (fun p=>p.2.1.length) (pre,x::post,d)=LQ at step ⊢
    clear hl2
    by_cases hlow:65≤(x.toNat:Int)∧(x.toNat:Int)≤90
    · obtain ⟨l1,l2⟩:=hlow
      rw [if_pos ⟨l1,l2⟩] at hl
      have w1:IntKind.u8.wrap ((x.toNat:Int)+97)=(x.toNat:Int)+97:=Go.IntWalk.u8_in _ ⟨by omega,by omega⟩
      have w2:IntKind.u8.wrap ((x.toNat:Int)+97 - 65)=(x.toNat:Int)+97 - 65:=Go.IntWalk.u8_in _ ⟨by omega,by omega⟩
      have st:=step ((x.toNat:Int)+97 - 65) 31 (by omega) (.inr rfl)
      have tk:List.take pre.length (lowS pre)=lowS pre:=List.take_of_length_le (by simp)
      by_cases ho:pre=[]
      · subst ho
        simp [w1,w2,l1,l2]
        simpa using st
      · have hne:lowS pre ≠ []:=by intro e; apply ho; simpa [lowS] using e
        rcases hd with rfl | rfl
        · simp [outV_ne hne,outH_ne hne,w1,w2,l1,l2,tk]
          exact ⟨fun _=>⟨by omega,st⟩,by omega⟩
        · simp [outV_ne hne,outH_ne hne,w1,w2,l1,l2,tk]
          exact ⟨fun _=>⟨by omega,st⟩,by omega⟩
    · rw [if_neg hlow] at hl
      have st:=step (x.toNat:Int) 18 (by omega) (.inl rfl)
      have tk:List.take pre.length (lowS pre)=lowS pre:=List.take_of_length_le (by simp)
      have hx226:¬ x=226:=by intro e; subst e; simp at hx
      have et:((pre.length:Int)+3).toNat=pre.length+3:=by omega
      have e3:List.drop pre.length (List.take (pre.length+3) (pre++x::post))=x::post.take 2:=by
        rw [List.take_length_add_append,List.drop_left]; rfl
      have ew:((pre.length:Int)+((post.length:Int)+1) - (pre.length:Int))=(post.length:Int)+1:=by omega
      have hcase:(¬ 65≤(x.toNat:Int))∨((65≤(x.toNat:Int))∧¬ (x.toNat:Int)≤90):=by omega
      have ewr:IntKind.i64.wrap ((pre.length:Int)+1)=(pre.length:Int)+1:=wrap64 (by omega) (by omega)
      rw [ewr] at st
      by_cases ho:pre=[]
      · subst ho
        simp at st e3
        rcases hcase with l1 | ⟨l1,l2⟩
        · simp [l1]
          simp (disch:=omega) [wrap64,l1,hx226,e3]
          exact ⟨fun h=>⟨h,st⟩,fun _=>st⟩
        · simp [l1,l2]
          simp (disch:=omega) [wrap64,l1,l2,hx226,e3]
          exact ⟨fun h=>⟨h,st⟩,fun _=>st⟩
      · have hne:lowS pre ≠ []:=by intro e; apply ho; simpa [lowS] using e
        rcases hcase with l1 | ⟨l1,l2⟩
        · rcases hd with rfl | rfl
          · simp [outV_ne hne,outH_ne hne,l1]
            simp (disch:=omega) [tk,wrap64,l1,hx226,et,e3,ew]
            exact ⟨fun _=>⟨fun h=>⟨⟨by omega,h⟩,by omega,st⟩,fun _=>⟨by omega,st⟩⟩,by omega⟩
          · simp [outV_ne hne,outH_ne hne,l1]
            simp (disch:=omega) [tk,wrap64,l1,hx226,et,e3,ew]
            exact ⟨fun _=>⟨fun h=>⟨⟨by omega,h⟩,by omega,st⟩,fun _=>⟨by omega,st⟩⟩,by omega⟩
        · rcases hd with rfl | rfl
          · simp [outV_ne hne,outH_ne hne,l1,l2]
            simp (disch:=omega) [tk,wrap64,l1,l2,hx226,et,e3,ew]
            exact ⟨fun _=>⟨fun h=>⟨⟨by omega,h⟩,by omega,st⟩,fun _=>⟨by omega,st⟩⟩,by omega⟩
          · simp [outV_ne hne,outH_ne hne,l1,l2]
            simp (disch:=omega) [tk,wrap64,l1,l2,hx226,et,e3,ew]
            exact ⟨fun _=>⟨fun h=>⟨⟨by omega,h⟩,by omega,st⟩,fun _=>⟨by omega,st⟩⟩,by omega⟩

theorem ar_trim_loop2 (Γ:Gam) (h23:Γ.fn 165=con_zzIsSpace) (a b:List UInt8) (hp:plain (a++b)=true) (hs:(a++b).length < 1099511627776) (ha:∀ x∈a,isWs x.toNat=true) (hb:∀ x r,b=x::r→isWs x.toNat=false) :
    awp Γ (.loop [0,3,4,7] b_authres_zzTrimSpace_4) (blockQ 2 (thenQ (awp Γ t_authres_zzTrimSpace_5 (finQ [.t 2] fun v=>v=.str (trimS (a++b)))) (finQ [.t 2] fun v=>v=.str (trimS (a++b)))))
      ⟨[(0,.str (a++b)),(3,.int .i64 a.length),(4,.int .i64 (a++b).length),(7,.int .i64 a.length)],[]⟩:=by
  have htrim:trimS (a++b)=trimR b:=by rw [trimS,trimL_app ha,trimL_nw hb]
  rw [htrim]
  refine awp_loop (σ:=List UInt8 × List UInt8) (fun p=>⟨[(0,.str (a++b)),(3,.int .i64 a.length),(4,.int .i64 (toV (a++b).length a p.1)),(7,.int .i64 (a.length+p.1.length))],[]⟩)
    (fun p=>b=p.1++p.2) (fun p=>p.2.length) ([],b) (by simp [toV]) (by simp) ?_
  rintro ⟨c,d⟩ hcd
  simp only at hcd
  subst hcd
  simp at hs
  cases d with
  | nil =>
    simp [b_authres_zzTrimSpace_4,t_authres_zzTrimSpace_5]
    refine ⟨fun h=>?_,fun h=>?_⟩
    · have:c=[]:=List.length_eq_zero_iff.1 (by omega)
      subst this; simp [trimR]
    · have hc:c ≠ []:=by intro e; subst e; simp at h
      obtain ⟨t,ht⟩:=trimR_prefix c
      have hl:(trimR c).length≤c.length:=trimR_length c
      have e1:toV (a.length+c.length) a c=(a.length:Int)+((trimR c).length:Int):=if_neg hc
      have e2:((a.length:Int)+((trimR c).length:Int)).toNat=a.length+(trimR c).length:=by omega
      rw [e1,e2]
      refine ⟨⟨by omega,by omega⟩,?_⟩
      rw [List.take_length_add_append,List.drop_left]
      generalize trimR c=q at ht ⊢
      subst ht; simp
  | cons x d =>
    have hpx:plainB x=true:=by
      have h1:(plain a && (plain c && plain (x::d)))=true:=by rw [← plain_app,← plain_app]; exact hp
      simp only [Bool.and_eq_true,plain,List.all_cons] at h1
      exact h1.2.2.1
    have hx:=plainB_lt hpx
    have hx2:(x.toNat:Int) < 128:=by omega
    have step:∀ v:Int,v=toV (a++(c++x::d)).length a (c++[x])→loopQ [0,3,4,7] (fun p:List UInt8 × List UInt8=>⟨[(0,.str (a++(c++x::d))),(3,.int .i64 a.length),(4,.int .i64 (toV (a++(c++x::d)).length a p.1)),(7,.int .i64 (a.length+p.1.length))],[]⟩)
        (fun p=>c++x::d=p.1++p.2) (fun p=>p.2.length) (c,x::d)
        ⟨[(0,.str (a++(c++x::d))),(3,.int .i64 a.length),(4,.int .i64 v),(7,.int .i64 (a.length+c.length+1))],[]⟩:=by
      intro v hv
      subst hv
      refine ⟨(c++[x],d),?_,by simp,by simp⟩
      have:((a.length:Int)+c.length+1)=(a.length:Int)+((c++[x]).length:Int):=by simp; omega
      rw [this]
      simp
    generalize hl:loopQ [0,3,4,7] (fun p:List UInt8 × List UInt8=>(⟨[(0,.str (a++(c++x::d))),(3,.int .i64 a.length),(4,.int .i64 (toV (a++(c++x::d)).length a p.1)),(7,.int .i64 (a.length+p.1.length))],[]⟩:St))
        (fun p=>c++x::d=p.1++p.2) (fun p=>p.2.length) (c,x::d)=LQ at step ⊢
    clear hl
    simp at hs
    have hget:(a++(c++x::d))[a.length+c.length]? = some x:=by
      rw [← List.append_assoc,List.getElem?_append_right (by simp)]; simp
    simp [b_authres_zzTrimSpace_4]
    refine ⟨fun _=>?_,fun h=>by omega⟩
    refine awp_loop (σ:=Unit) (fun _=>⟨[(0,.str (a++(c++x::d))),(3,.int .i64 a.length),(4,.int .i64 (toV (a.length+(c.length+(d.length+1))) a c)),(7,.int .i64 (a.length+c.length)),(8,.int .i64 1)],[]⟩) (fun _=>True) (fun _=>0) () (by simp) trivial ?_
    intro _ _
    have en:((a.length:Int)+(c.length:Int))=((a.length+c.length:Nat):Int):=by omega
    have ew:IntKind.i64.wrap ((a.length:Int)+c.length+1)=(a.length:Int)+c.length+1:=wrap64 (by omega) (by omega)
    rw [en]
    refine ar_trim_inner Γ _ (a++(c++x::d)) x (a.length+c.length) (a.length+(c.length+(d.length+1))) _ _ (by simp) hget hx (by omega) (by omega) ?_
    rw [← en]
    have en2:((a.length:Int)+(c.length:Int)).toNat=a.length+c.length:=by omega
    have en3:((a.length:Int)+(c.length:Int)+1).toNat=a.length+c.length+1:=by omega
    have esl:List.drop (a.length+c.length) (List.take (a.length+c.length+1) (a++(c++x::d)))=[x]:=by
      rw [← List.append_assoc,show a.length+c.length=(a++c).length by simp,List.take_length_add_append,List.drop_left]; rfl
    have erun:runesF 1 [x]=[x.toNat]:=by simp [runesF,decR_ascii hx]
    simp [t_authres_zzTrimSpace_3,ew,en2,en3,esl,erun,rcA,acall,h23,con_zzIsSpace,hx2]
    refine ⟨⟨by omega,by omega,by omega⟩,fun hw=>step _ ?_,fun hw=>step _ ?_⟩
    · rw [isSp_ws hpx] at hw
      simp [toV,trimR_nw hw]
      try omega
    · rw [isSp_ws hpx] at hw
      have hc:c ≠ []:=by
        intro e; subst e
        rw [hb x d rfl] at hw; simp at hw
      simp [toV,hc,trimR_ws hw]

theorem ar_ok_zzTrimSpace (Γ:Gam) (h23:Γ.fn 165=con_zzIsSpace):∀ args r,con_zzTrimSpace args=some r→runs Γ c_authres_zzTrimSpace args (fun v=>v=r):=by
  intro args r h
  simp only [con_zzTrimSpace] at h
  split at h <;> (try simp at h; done)
  rename_i s
  obtain ⟨⟨hs,hp⟩,rfl⟩:=ite_some h
  clear h
  simp only [mid] at hs
  simp [c_authres_zzTrimSpace]
  refine awp_loop (σ:=List UInt8 × List UInt8) (fun p=>⟨[(0,.str s),(3,.int .i64 s.length),(4,.int .i64 s.length),(16,.ref 16 0)],[(16,.sit s p.1.length)]⟩)
    (fun p=>s=p.1++p.2∧∀ x∈p.1,isWs x.toNat=true) (fun p=>p.2.length) ([],s) (by simp) (by simp) ?_
  rintro ⟨a,b⟩ ⟨hs1,ha⟩
  simp only at hs1 ha
  cases b with
  | nil =>
    simp at hs1
    subst hs1
    simp [b_authres_zzTrimSpace_1,t_authres_zzTrimSpace_6]
    have:=ar_trim_loop2 Γ h23 s [] (by simpa using hp) (by simpa using hs) ha (by simp)
    simpa using this
  | cons x b =>
    subst hs1
    have hpx:plainB x=true∧plain b=true:=by
      have:(plain a && plain (x::b))=true:=by rw [← plain_app]; exact hp
      simp only [Bool.and_eq_true] at this
      have h2:=this.2
      simp only [plain,List.all_cons,Bool.and_eq_true] at h2
      exact h2
    have e1:List.drop a.length (a++x::b)=x::b:=by simp
    have hx:=plainB_lt hpx.1
    have hx2:(x.toNat:Int) < 128:=by omega
    simp [b_authres_zzTrimSpace_1,t_authres_zzTrimSpace_6,e1,decR_ascii hx,acall,h23,con_zzIsSpace,hx2]
    refine ⟨fun hw=>?_,fun hw=>?_⟩
    · have:=ar_trim_loop2 Γ h23 a (x::b) hp hs ha (fun y r e=>by injection e with e1 e2; subst e1; rw [← isSp_ws hpx.1]; exact hw)
      simpa using this
    · refine ⟨(a++[x],b),by simp,⟨by simp,?_⟩,by simp⟩
      intro y hy
      simp at hy
      rcases hy with hy | rfl
      · exact ha y hy
      · rw [← isSp_ws hpx.1]; exact hw

end Wax


namespace Wax
open Go (IntKind)

def strV (l:List (List UInt8)):AV:=match l with | []=>.nilS | _=>.sl 1 (strsA l)
theorem slStrs_strV {l:List (List UInt8)}:slStrs (strV l)=some l:=by
  cases l <;> simp [strV,slStrs,← strsA_cons]

end Wax


namespace Wax
open Go (IntKind)

def sortB (l:List (List UInt8)):List (List UInt8):=l.mergeSort (fun x y=>decide (x≤y))

def con_Keys:List AV→Option AV
  | [.mp es]=>some (.fn 55 [.bx [.mp es]])
  | _=>none

theorem ok_Keys (Γ:Gam):∀ args r,con_Keys args=some r→runs Γ c_maps_Keys args (fun v=>v=r):=by
  intro args r h
  simp only [con_Keys] at h
  split at h <;> (try simp at h; done)
  injection h with h; subst h
  simp [c_maps_Keys]

def con_Sorted:List AV→Option AV
  | [.fn 55 [.bx [.mp es]]]=>if es.length < half∧(∀ q∈es,q.1.length < half) then some (strV (sortB (es.map (·.1)))) else none
  | _=>none

def lookP:List (List UInt8 × List UInt8)→List UInt8→List UInt8
  | [],_=>[]
  | (i,v)::r,k=>if k=i then v else lookP r k
theorem lookA_pmA:∀ (l:List (List UInt8 × List UInt8)) (k:List UInt8),lookA (pmA l) k (.str []) false=.str (lookP l k)
  | [],k=>rfl
  | (i,v)::r,k=>by
    have:=lookA_pmA r k
    by_cases h:k=i <;> simp [pmA,lookA,mfind,lookP,h] at this ⊢
    exact this

def sortP (acc:List (List UInt8 × List UInt8)):List (List UInt8 × List UInt8):=(sortB (acc.map (·.1))).map fun k=>(k,lookP acc k)

end Wax


namespace Wax
open Go (IntKind)

theorem pl_cons {x:UInt8} {s:L8}:plain (x::s)=(plainB x && plain s):=rfl

def wordsV (l:List L8):AV:=match l with | []=>.nilS | _=>.sl 1 (strsA l)
def con_zzFields:List AV→Option AV
  | [.str s]=>if s.length < mid∧plain s=true then some (wordsV (wordsOf s)) else none
  | _=>none

def fromV (pre cur:L8):Int:=if cur=[] then -1 else (pre.length:Int)

set_option maxHeartbeats 1000000 in
theorem ok_zzFields (Γ:Gam) (h165:Γ.fn 165=con_zzIsSpace):∀ args r,con_zzFields args=some r→runs Γ c_authres_zzFields args (fun v=>v=r):=by
  intro args r h
  simp only [con_zzFields] at h
  split at h <;> (try simp at h; done)
  rename_i s
  obtain ⟨⟨hs,hp⟩,rfl⟩:=ite_some h
  clear h
  simp only [mid] at hs
  simp -implicitDefEqProofs [c_authres_zzFields]
  refine awp_loop2 (σ:=List L8 × L8 × L8 × L8) (fun p=>⟨[(0,.str s),(3,grV 24 1 p.1.length),(4,.int .i64 (fromV p.2.1 p.2.2.1)),(8,.ref 8 0)],grH 24 p.1.length (strsA p.1)++[(8,.sit s (p.2.1.length+p.2.2.1.length))]⟩)
    (fun p=>s=p.2.1++(p.2.2.1++p.2.2.2)∧wordsOf s=p.1++wordsGo p.2.2.1 p.2.2.2∧p.1.length≤p.2.1.length) (fun p=>p.2.2.2.length) ([],[],[],s) (by simp [fromV]) (by simp [wordsOf]) ?_
  rintro ⟨outs,pre,cur,post⟩ ⟨e1,e2,e3⟩ LQ hLQ
  simp only at e1 e2 e3
  have hlen:s.length=pre.length+(cur.length+post.length):=by rw [e1]; simp
  cases post with
  | nil =>
    simp only [List.append_nil,wordsGo] at e1 e2
    simp only [List.length_nil,Nat.add_zero] at hlen
    rw [e2]
    by_cases hc:cur=[]
    · subst hc
      cases outs with
      | nil=>simp -implicitDefEqProofs [b_authres_zzFields_1,t_authres_zzFields_2,hlen,fromV,wordsV]
      | cons o outs=>simp -implicitDefEqProofs [b_authres_zzFields_1,t_authres_zzFields_2,hlen,fromV,wordsV]
    · have ed:s.drop pre.length=cur:=by rw [e1,List.drop_left' rfl]
      have hf:fromV pre cur=(pre.length:Int):=if_neg hc
      have hle:(pre.length:Int)≤(s.length:Int):=by omega
      cases outs with
      | nil =>
        simp -implicitDefEqProofs [b_authres_zzFields_1,t_authres_zzFields_2,hlen,hf,hc,wordsV,ed]
        try omega
      | cons o outs =>
        simp at e3
        simp -implicitDefEqProofs [b_authres_zzFields_1,t_authres_zzFields_2,hlen,hf,hc,wordsV,ed]
        exact ⟨by omega,List.take_of_length_le (by simp)⟩
  | cons x post =>
    have hpx:plainB x=true:=by
      rw [e1,plain_app,plain_app,pl_cons] at hp
      simp only [Bool.and_eq_true] at hp
      exact hp.2.2.1
    have hx:=plainB_lt hpx
    have hx2:(x.toNat:Int) < 128:=by omega
    have hpos:pre.length+cur.length < s.length:=by rw [hlen]; simp
    have hdr:s.drop (pre.length+cur.length)=x::post:=by
      rw [e1,← List.append_assoc,show pre.length+cur.length=(pre++cur).length by simp,List.drop_left' rfl]
    have hd:decR (x::post)=(x.toNat,1):=decR_ascii hx
    have hsp:=isSp_ws hpx
    simp only [List.length_cons] at hlen
    cases hw:isWs x.toNat with
    | false =>
      rw [hw] at hsp
      have e2':wordsOf s=outs++wordsGo (cur++[x]) post:=by rw [e2]; simp [wordsGo,hw]
      have f:∀ st,norm [0,3,4,8] st=⟨[(0,.str s),(3,grV 24 1 outs.length),(4,.int .i64 (pre.length:Int)),(8,.ref 8 0)],grH 24 outs.length (strsA outs)++[(8,.sit s (pre.length+(cur.length+1)))]⟩→LQ st:=by
        intro st hst
        refine hLQ (outs,pre,cur++[x],post) ⟨by rw [e1]; simp,e2',e3⟩ (by simp) st ?_
        rw [hst]; simp [fromV]
      by_cases hc:cur=[]
      · subst hc
        have hf:fromV pre ([]:L8) = -1:=if_pos rfl
        simp only [List.length_nil,Nat.add_zero] at hpos hdr
        cases outs with
        | nil =>
          simp -implicitDefEqProofs [b_authres_zzFields_1,hpos,hdr,hd,acall,h165,con_zzIsSpace,hx2,hsp,hf]
          exact f _ (by simp)
        | cons o outs =>
          simp -implicitDefEqProofs [b_authres_zzFields_1,hpos,hdr,hd,acall,h165,con_zzIsSpace,hx2,hsp,hf]
          exact f _ (by simp)
      · have hf:fromV pre cur=(pre.length:Int):=if_neg hc
        have hng:¬ ((pre.length:Int) < 0):=by omega
        cases outs with
        | nil =>
          simp -implicitDefEqProofs [b_authres_zzFields_1,hpos,hdr,hd,acall,h165,con_zzIsSpace,hx2,hsp,hf,hng]
          exact f _ (by simp [Nat.add_assoc])
        | cons o outs =>
          simp -implicitDefEqProofs [b_authres_zzFields_1,hpos,hdr,hd,acall,h165,con_zzIsSpace,hx2,hsp,hf,hng]
          exact f _ (by simp [Nat.add_assoc])
    | true =>
      rw [hw] at hsp
      by_cases hc:cur=[]
      · subst hc
        have hf:fromV pre ([]:L8) = -1:=if_pos rfl
        simp only [List.length_nil,Nat.add_zero] at hpos hdr
        have e2':wordsOf s=outs++wordsGo [] post:=by rw [e2]; simp [wordsGo,hw]
        have f:∀ st,norm [0,3,4,8] st=⟨[(0,.str s),(3,grV 24 1 outs.length),(4,.int .i64 (-1)),(8,.ref 8 0)],grH 24 outs.length (strsA outs)++[(8,.sit s (pre.length+1))]⟩→LQ st:=by
          intro st hst
          refine hLQ (outs,pre++[x],[],post) ⟨by rw [e1]; simp,e2',by simp; omega⟩ (by simp) st ?_
          rw [hst]; simp [fromV]
        cases outs with
        | nil =>
          simp -implicitDefEqProofs [b_authres_zzFields_1,hpos,hdr,hd,acall,h165,con_zzIsSpace,hx2,hsp,hf]
          exact f _ (by simp)
        | cons o outs =>
          simp -implicitDefEqProofs [b_authres_zzFields_1,hpos,hdr,hd,acall,h165,con_zzIsSpace,hx2,hsp,hf]
          exact f _ (by simp)
      · have hf:fromV pre cur=(pre.length:Int):=if_neg hc
        have hcl:0 < cur.length:=List.length_pos_iff.2 hc
        have e2':wordsOf s=(outs++[cur])++wordsGo [] post:=by rw [e2]; simp [wordsGo,hw,hc]
        have et:List.drop pre.length (List.take (pre.length+cur.length) s)=cur:=by
          rw [e1,← List.append_assoc,show pre.length+cur.length=(pre++cur).length by simp,List.take_left' rfl,List.drop_left' rfl]
        have f:∀ st,norm [0,3,4,8] st=⟨[(0,.str s),(3,.msl 24 1 0 (outs.length+1)),(4,.int .i64 (-1)),(8,.ref 8 0)],[(24,.cells (strsA outs++[.str cur])),(8,.sit s (pre.length+cur.length+1))]⟩→LQ st:=by
          intro st hst
          refine hLQ (outs++[cur],pre++cur++[x],[],post) ⟨by rw [e1]; simp,e2',by simp; omega⟩ (by simp) st ?_
          rw [hst]; simp [fromV,Nat.add_assoc]
        have en1:((pre.length:Int)+(cur.length:Int)).toNat=pre.length+cur.length:=by omega
        cases outs with
        | nil =>
          simp -implicitDefEqProofs [b_authres_zzFields_1,hpos,hdr,hd,acall,h165,con_zzIsSpace,hx2,hsp,hf,et,en1]
          refine ⟨?_,f _ ?_⟩
          · omega
          · simp
        | cons o outs =>
          simp at e3
          simp -implicitDefEqProofs [b_authres_zzFields_1,hpos,hdr,hd,acall,h165,con_zzIsSpace,hx2,hsp,hf,et,en1]
          refine ⟨?_,?_,f _ ?_⟩
          · omega
          · omega
          · simp

def arMsg:L8:=[109,115,103,97,117,116,104,58,32,109,97,108,102,111,114,109,101,100,32,97,117,116,104,101,110,116,105,99,97,116,105,111,110,32,109,101,116,104,111,100,32,97,110,100,32,118,97,108,117,101]
def kvOf (s:L8):Option KVp:=(cutAt 61 s).map fun p=>(lowS (trimS p.1),trimS p.2)
def kvV:Option KVp→AV
  | some p=>.tup [.str p.1,.str p.2,.nilI]
  | none=>.tup [.str [],.str [],.ifc 3 (.ptr [.str arMsg])]
def con_parseParam:List AV→Option AV
  | [.str s]=>if s.length < mid∧plain s=true then some (kvV (kvOf s)) else none
  | _=>none

theorem ar_trimS_mem {s:L8} {x:UInt8} (h:x∈trimS s):x∈s:=by
  simp only [trimS,trimR,trimL,List.mem_reverse] at h
  have h1:=(List.dropWhile_sublist _).mem h
  exact (List.dropWhile_sublist _).mem (List.mem_reverse.1 h1)

theorem ok_parseParam (Γ:Gam) (h174:Γ.fn 174=con_zzCut) (h50:Γ.fn 50=con_errorsNew) (h163:Γ.fn 163=con_zzTrimSpace) (h172:Γ.fn 172=con_zzToLower) :
    ∀ args r,con_parseParam args=some r→runs Γ c_authres_parseParam args (fun v=>v=r):=by
  intro args r h
  simp only [con_parseParam] at h
  split at h <;> (try simp at h; done)
  rename_i s
  obtain ⟨⟨hs,hp⟩,rfl⟩:=ite_some h
  clear h
  have e1:s.length < big:=by simp only [mid,big] at *; omega
  have k1:con_zzCut [.str s,.str [61]]=some (cutV 61 s):=if_pos e1
  cases hc:cutAt 61 s with
  | none =>
    simp -implicitDefEqProofs [c_authres_parseParam,acall,h174,k1,cutV,hc,h50,con_errorsNew,kvOf,kvV,arMsg]
  | some p =>
    obtain ⟨x,hx1,hx2,hx3⟩:=cutAt_eq hc
    have m1:∀ y∈p.1,y∈s:=fun y hy=>by rw [hx2]; simp [hy]
    have m2:∀ y∈p.2,y∈s:=fun y hy=>by rw [hx2]; simp [hy]
    have l1:p.1.length < s.length∧p.2.length < s.length:=by rw [hx2]; simp; omega
    have t1:=trimS_length p.1
    have k2:con_zzTrimSpace [.str p.1]=some (.str (trimS p.1)):=if_pos ⟨by omega,plain_sub m1 hp⟩
    have k3:con_zzTrimSpace [.str p.2]=some (.str (trimS p.2)):=if_pos ⟨by omega,plain_sub m2 hp⟩
    have k4:con_zzToLower [.str (trimS p.1)]=some (.str (lowS (trimS p.1))):=if_pos ⟨by omega,plain_ascii (plain_sub (fun y hy=>m1 y (ar_trimS_mem hy)) hp)⟩
    simp -implicitDefEqProofs [c_authres_parseParam,acall,h174,k1,cutV,hc,h163,k2,k3,h172,k4,kvOf,kvV]

def wsAt:L8→Nat→Option Nat
  | [],_=>none
  | x::r,n=>if isWs x.toNat then some n else wsAt r (n+1)
def wsV (s:L8):Int:=match wsAt s 0 with | some n=>(n:Int) | none => -1
def con_indexFunc:List AV→Option AV
  | [.str s,.fn 165 [],.bool true]=>if s.length < mid∧plain s=true then some (.int .i64 (wsV s)) else none
  | _=>none
def con_IndexFunc:List AV→Option AV
  | [.str s,.fn 165 []]=>if s.length < mid∧plain s=true then some (.int .i64 (wsV s)) else none
  | _=>none

theorem ok_indexFunc (Γ:Gam) (h165:Γ.fn 165=con_zzIsSpace):∀ args r,con_indexFunc args=some r→runs Γ c_strings_indexFunc args (fun v=>v=r):=by
  intro args r h
  simp only [con_indexFunc] at h
  split at h <;> (try simp at h; done)
  rename_i s
  obtain ⟨⟨hs,hp⟩,rfl⟩:=ite_some h
  clear h
  simp only [mid] at hs
  simp -implicitDefEqProofs [c_strings_indexFunc]
  refine awp_loop2 (σ:=L8 × L8) (fun p=>⟨[(1,.fn 165 []),(2,.bool true),(10,.ref 10 0)],[(10,.sit s p.1.length)]⟩)
    (fun p=>s=p.1++p.2∧wsAt s 0=wsAt p.2 p.1.length) (fun p=>p.2.length) ([],s) (by simp) (by simp) ?_
  rintro ⟨pre,post⟩ ⟨e1,e2⟩ LQ hLQ
  simp only at e1 e2
  cases post with
  | nil =>
    have hlen:s.length=pre.length:=by rw [e1]; simp
    simp -implicitDefEqProofs [hlen,wsV,e2,wsAt]
  | cons x post =>
    have hpx:plainB x=true:=by
      rw [e1,plain_app,pl_cons] at hp
      simp only [Bool.and_eq_true] at hp
      exact hp.2.1
    have hx:=plainB_lt hpx
    have hx2:(x.toNat:Int) < 128:=by omega
    have hlen:s.length=pre.length+(post.length+1):=by rw [e1]; simp
    have hpos:pre.length < s.length:=by omega
    have hdr:s.drop pre.length=x::post:=by rw [e1,List.drop_left' rfl]
    have hd:decR (x::post)=(x.toNat,1):=decR_ascii hx
    have hsp:=isSp_ws hpx
    cases hw:isWs x.toNat with
    | true =>
      rw [hw] at hsp
      simp -implicitDefEqProofs [hpos,hdr,hd,acall,h165,con_zzIsSpace,hx2,hsp,wsV,e2,wsAt,hw,leafEq]
    | false =>
      rw [hw] at hsp
      simp -implicitDefEqProofs [hpos,hdr,hd,acall,h165,con_zzIsSpace,hx2,hsp,leafEq]
      exact hLQ (pre++[x],post) ⟨by rw [e1]; simp,by rw [e2]; simp [wsAt,hw]⟩ (by simp) _ (by simp)
theorem ok_IndexFunc (Γ:Gam) (h197:Γ.fn 197=con_indexFunc):∀ args r,con_IndexFunc args=some r→runs Γ c_strings_IndexFunc args (fun v=>v=r):=by
  intro args r h
  simp only [con_IndexFunc] at h
  split at h <;> (try simp at h; done)
  rename_i s
  obtain ⟨hs,rfl⟩:=ite_some h
  clear h
  have k:con_indexFunc [.str s,.fn 165 [],.bool true]=some (.int .i64 (wsV s)):=if_pos hs
  simp -implicitDefEqProofs [c_strings_IndexFunc,acall,h197,k]
end Wax


namespace Wax
open Go Go.RowKit

def badAt (x:Lib.NumEnd Int):Prop:=(∀ v,x ≠ .ok v)∧x ≠ .range
theorem badAt_eq {x y:Lib.NumEnd Int} (h:badAt x) (hy:badAt y:=by exact ⟨fun v h=>(by cases h),fun h=>(by cases h)⟩):x=y:=by
  cases x <;> cases y <;> first | rfl | exact absurd rfl (h.1 _) | exact absurd rfl h.2 | exact absurd rfl (hy.1 _) | exact absurd rfl hy.2

def AtoiSays (P:Program) (T:Tab) (f:FuncId):Prop :=
  ∃ (e5 tE:TypeId) (gS gR:Nat),lkN T.tys tE=some 4∧lkGl T.gl gS=some [.ifc 3 .junk]∧lkGl T.gl gR=some [.ifc 3 .junk] ∧
  (∀ (s:ByteArray) (_:s.size≤9223372036854775806) (v:Int) (_:Lib.atoiAll s.data.toList=.ok v) (w:World),
    Calls P f #[.string s] w fun e w'=>e=.returned (.tuple #[.int .i64 v,.nilIface])∧(w'=w∨∃ t,w'=Lib.bytesWorld w e5 t)) ∧
  (∀ (s:ByteArray) (_:s.size≤281474976710656) (_:badAt (Lib.atoiAll s.data.toList)) (ev:Value) (w:World) (_:w.cell? ⟨gS,0,none⟩=some ev) (_:ev=.nilIface∨∃ te pe,ev=.iface te pe),
    Calls P f #[.string s] w fun e w'=>∃ y,e=.returned (.tuple #[.int .i64 0,.iface tE y])∧Below w.heap.size w w') ∧
  (∀ (s:ByteArray) (_:s.size≤281474976710656) (_:Lib.atoiAll s.data.toList=.range) (ev:Value) (w:World) (_:w.cell? ⟨gR,0,none⟩=some ev) (_:ev=.nilIface∨∃ te pe,ev=.iface te pe),
    Calls P f #[.string s] w fun e w'=>∃ y,e=.returned (.tuple #[.int .i64 (Lib.atoiSat s.data.toList),.iface tE y])∧Below w.heap.size w w')

def atoiV (s:List UInt8):AV:=match Lib.atoiAll s with
  | .ok v=>.tup [.int .i64 v,.nilI]
  | .range=>.tup [.int .i64 (Lib.atoiSat s),.ifc 4 .junk]
  | _=>.tup [.int .i64 0,.ifc 4 .junk]

def con_Atoi:List AV→Option AV
  | [.str s]=>if s.length < mid then some (atoiV s) else none
  | _=>none

theorem globErr2 {T:Tab} {w:World} {F:Frz} {g:Nat} (hgl:GlobOk T w F) (hg:lkGl T.gl g=some [.ifc 3 .junk]):∃ ev,w.cell? ⟨g,0,none⟩=some ev∧(ev=.nilIface∨∃ te pe,ev=.iface te pe):=by
  have h:=(hgl g _ hg).1
  simp only [RepAt,Rep,and_true] at h
  obtain ⟨_,x,hx,t,y,rfl,_⟩:=h
  exact ⟨_,hx,.inr ⟨t,y,rfl⟩⟩

theorem below_bytesW2 (w:World) (e:TypeId) (s:ByteArray):Below w.heap.size w (Lib.bytesWorld w e s) :=
  ⟨rfl,rfl,rfl,by rw [Lib.bytesWorld_size]; omega,fun j hj=>Lib.bytesWorld_at_old w e s j hj⟩

theorem ok_Atoi {P:Program} {T:Tab} {f:FuncId} (H:AtoiSays P T f):∀ args r,con_Atoi args=some r→OkCall P T f args r:=by
  intro args r h w F vs hF hgl hx
  obtain ⟨e5,tE,gS,gR,ht,hgS,hgR,H1,H2,H3⟩:=H
  simp only [con_Atoi] at h
  split at h <;> (try simp at h; done)
  rename_i s
  obtain ⟨hlen,rfl⟩:=ite_some h
  clear h
  simp only [mid] at hlen
  match vs,hx with
  | [v1],hx =>
    simp only [RepL,and_true,Rep] at hx
    subst hx
    have hsz:(⟨s.toArray⟩:ByteArray).size=s.length:=by show s.toArray.size=_; simp
    have he:Lib.atoiAll (⟨s.toArray⟩:ByteArray).data.toList=Lib.atoiAll s:=rfl
    have he2:Lib.atoiSat (⟨s.toArray⟩:ByteArray).data.toList=Lib.atoiSat s:=rfl
    have bad:∀ (n:Int) e w',(∃ y,e=Ending.returned (.tuple #[.int .i64 n,.iface tE y])∧Below w.heap.size w w')→∃ v,e=.returned v∧Below w.heap.size w w'∧Rep T w' (fun b=>F b∨(w.heap.size≤b∧b < w'.heap.size)) noRho (.tup [.int .i64 n,.ifc 4 .junk]) v:=by
      rintro n e w' ⟨y,rfl,hb⟩
      refine ⟨_,rfl,hb,_,rfl,?_⟩
      simp only [RepL,Rep,and_true,true_and]
      exact ⟨tE,y,rfl,ht⟩
    simp only [atoiV]
    cases hq:Lib.atoiAll s with
    | ok v =>
      refine (H1 _ (by omega) v (by rw [he,hq]) w).mono ?_
      rintro e w' ⟨rfl,hw⟩
      refine ⟨_,rfl,?_,?_⟩
      · rcases hw with rfl | ⟨t,rfl⟩
        · exact Below.refl _ _
        · exact below_bytesW2 _ _ _
      · exact ⟨_,rfl,by simp [RepL,Rep]⟩
    | range =>
      obtain ⟨ev,h1,h2⟩:=globErr2 hgl hgR
      exact (H3 _ (by omega) (by rw [he,hq]) ev w h1 h2).mono (bad _ · ·)
    | _ =>
      obtain ⟨ev,h1,h2⟩:=globErr2 hgl hgS
      exact (H2 _ (by omega) (by rw [he,hq]; exact ⟨fun v h=>(by cases h),fun h=>(by cases h)⟩) ev w h1 h2).mono (bad _ · ·)
end Wax


namespace Wax

abbrev KV:=List UInt8 × List UInt8

theorem lookP_mem:∀ {l:List KV} {k v},(l.map (·.1)).Nodup→(k,v)∈l→lookP l k=v
  | [],k,v,_,h=>by simp at h
  | (i,u)::r,k,v,hn,h=>by
    simp only [List.map_cons,List.nodup_cons] at hn
    rcases List.mem_cons.1 h with h | h
    · simp at h; obtain ⟨rfl,rfl⟩:=h; simp [lookP]
    · have:¬ k=i:=fun e=>hn.1 (by rw [← e]; exact List.mem_map.2 ⟨_,h,rfl⟩)
      simp only [lookP,if_neg this]
      exact lookP_mem hn.2 h

end Wax


namespace Wax
open Go (IntKind)

theorem dm_ok_zzIndex (Γ:Gam):∀ args r,con_zzIndex args=some r→runs Γ c_dmarc_zzIndex args (fun v=>v=r):=by
  intro args r h
  simp only [con_zzIndex] at h
  split at h <;> (try simp at h; done)
  rename_i s sub
  obtain ⟨⟨hs,hb⟩,rfl⟩:=ite_some h
  clear h
  simp only [big] at hs hb
  simp [c_dmarc_zzIndex]
  refine awp_loop (σ:=List UInt8 × List UInt8) (fun p=>⟨[(0,.str s),(1,.str sub),(5,.int .i64 p.1.length)],[]⟩) (fun p=>s=p.1++p.2∧findAt sub s 0=findAt sub p.2 p.1.length) (fun p=>p.2.length) ([],s) (by simp) (by simp) ?_
  rintro ⟨pre,post⟩ ⟨hs1,hs2⟩
  simp only at hs1 hs2
  subst hs1
  simp at hs
  simp (disch:=omega) [wrap64]
  refine ⟨fun hle=>?_,fun hlt=>?_⟩
  · have et:((pre.length:Int)+(sub.length:Int)).toNat=pre.length+sub.length:=by omega
    have e:List.drop pre.length (List.take (pre.length+sub.length) (pre++post))=post.take sub.length:=by
      rw [List.take_length_add_append,List.drop_left]
    rw [et,e]
    refine ⟨⟨by omega,hle⟩,fun h=>?_,fun h=>?_⟩
    · rw [idxV,hs2]
      cases post with
      | nil =>
        have:sub=[]:=by cases sub <;> simp at hle ⊢
        simp [findAt,this]
      | cons x post=>simp only [findAt,isPrefixOf_take sub (x::post) hle,h,decide_true,if_true]
    · cases post with
      | nil =>
        have:sub=[]:=by cases sub <;> simp at hle ⊢
        subst this; simp at h
      | cons x post =>
        refine ⟨(pre++[x],post),by simp,⟨by simp,?_⟩,by simp⟩
        rw [hs2]
        simp only [findAt,isPrefixOf_take sub (x::post) hle,h,decide_false,Bool.false_eq_true,if_false]
        simp
  · rw [idxV,hs2,findAt_none sub post _ (by omega)]


theorem dm_ok_zzSplit (Γ:Gam) (h22:Γ.fn 161=con_zzIndex):∀ args hp q,con_zzSplit args hp=some q→runsS Γ c_dmarc_zzSplit args hp (fun v=>v=some q):=by
  intro args hp q h
  simp only [con_zzSplit] at h
  split at h <;> (try simp at h; done)
  rename_i s b
  obtain ⟨hs,rfl⟩:=ite_some h
  clear h
  simp only [mid] at hs
  have h1:1 < big:=by decide
  simp [c_dmarc_zzSplit,t_dmarc_zzSplit_4]
  refine awp_loop2 (σ:=List (List UInt8) × List UInt8) (fun p=>⟨[(0,.str p.2),(1,.str [b]),(5,grV 51 1 p.1.length)],grH 51 p.1.length (strsA p.1)⟩)
    (fun p=>splitB b s=p.1++splitB b p.2∧p.1.length+p.2.length≤s.length) (fun p=>p.2.length) ([],s) (by simp) (by simp) ?_
  rintro ⟨done,cur⟩ ⟨hs1,hs2⟩ LQ hLQ
  simp only at hs1 hs2
  have hcb:cur.length < big:=by simp only [big]; omega
  simp [b_dmarc_zzSplit_3,acall,h22,con_zzIndex,hcb,h1]
  simp only [idxV,findAt_one]
  rw [splitB_cut b cur] at hs1
  cases hc:cutAt b.toNat cur with
  | none =>
    simp only [hc] at hs1
    rw [hs1]
    cases done with
    | nil=>simp [reach_succ]
    | cons d0 dr =>
      simp [reach_succ]
      simp at hs2
      omega
  | some p =>
    obtain ⟨a,c⟩:=p
    simp only [hc] at hs1
    obtain ⟨x,hx1,hx2,hx3⟩:=cutAt_eq hc
    subst hx2
    simp at hs2
    have fin:∀ st,norm [0,1,5] st=⟨[(0,.str c),(1,.str [b]),(5,grV 51 1 (done++[a]).length)],grH 51 (done++[a]).length (strsA (done++[a]))⟩→LQ st:=by
      intro st hst
      exact hLQ (done++[a],c) ⟨by simpa using hs1,by simp; omega⟩ (by simp; omega) st hst
    have e2:((a.length:Int)+1).toNat=a.length+1:=by omega
    cases done with
    | nil =>
      simp (disch:=omega) [wrap64]
      refine ⟨by omega,by omega,⟨by omega,by omega⟩,fin _ ?_⟩
      simp
    | cons d0 dr =>
      simp at hs2
      simp (disch:=omega) [wrap64]
      refine ⟨by omega,by omega,by omega,⟨by omega,by omega⟩,fin _ ?_⟩
      simp

theorem dm_ok_zzIsSpace (Γ:Gam):∀ args r,con_zzIsSpace args=some r→runs Γ c_dmarc_zzIsSpace args (fun v=>v=r):=by
  intro args r h
  simp only [con_zzIsSpace] at h
  split at h <;> (try simp at h; done)
  rename_i n
  obtain ⟨hn,rfl⟩:=ite_some h
  clear h
  have f1:¬ n=133:=by omega
  have f2:¬ n=160:=by omega
  have f3:¬ n=5760:=by omega
  have f4:¬ 8192≤n:=by omega
  have f5:¬ n=8232:=by omega
  have f6:¬ n=8233:=by omega
  have f7:¬ n=8239:=by omega
  have f8:¬ n=8287:=by omega
  have f9:¬ n=12288:=by omega
  have key:∀ b:Bool,((9≤n∧n≤13)∨n=32 ↔ b=true)→b=isSp n:=by
    intro b hb; unfold isSp; cases b <;> simp at hb ⊢ <;> omega
  by_cases h1:9≤n <;> by_cases h2:n≤13 <;> by_cases h3:n=32 <;>
    simp [c_dmarc_zzIsSpace,f1,f2,f3,f4,f5,f6,f7,f8,f9,h1,h2,h3] <;> first | rfl | exact decide_eq_true (by omega) | exact decide_eq_false (by omega)

theorem dm_trim_inner (Γ:Gam) (Q:APost) (S:List UInt8) (x:UInt8) (i n:Nat) (f t:Int) (hn:S.length=n) (hi:S[i]? = some x) (hx:x.toNat < 128) (hb:n < 1099511627776) (hib:i < 1099511627776)
    (h:Q (.exit 4) ⟨[(0,.str S),(3,.int .i64 f),(4,.int .i64 t),(7,.int .i64 i),(8,.int .i64 1),(54,.bool false)],[]⟩) :
    awp Γ b_dmarc_zzTrimSpace_2 Q ⟨[(0,.str S),(3,.int .i64 f),(4,.int .i64 t),(7,.int .i64 i),(8,.int .i64 1)],[]⟩:=by
  have e192:¬ (192:Int)≤(x.toNat:Int):=by omega
  have ew:IntKind.i64.wrap ((i:Int)+1)=(i:Int)+1:=wrap64 (by omega) (by omega)
  simp only [b_dmarc_zzTrimSpace_2,awp_seq]
  refine awp_region_to ⟨[(0,.str S),(3,.int .i64 f),(4,.int .i64 t),(7,.int .i64 i),(8,.int .i64 1),(54,.bool false)],[]⟩ ?_ ?_
  · by_cases hlast:(i:Int)+1 < (n:Int)
    · have h1:((i:Int)+1 < (n:Int))=True:=eq_true hlast
      simp (maxSteps:=1000000) [ew,hn,hi,e192,h1]
    · have h1:((i:Int)+1 < (n:Int))=False:=eq_false hlast
      simp (maxSteps:=1000000) [ew,hn,h1]
  · simpa using h

theorem dm_trim_loop2 (Γ:Gam) (h23:Γ.fn 168=con_zzIsSpace) (a b:List UInt8) (hp:plain (a++b)=true) (hs:(a++b).length < 1099511627776) (ha:∀ x∈a,isWs x.toNat=true) (hb:∀ x r,b=x::r→isWs x.toNat=false) :
    awp Γ (.loop [0,3,4,7] b_dmarc_zzTrimSpace_4) (blockQ 2 (thenQ (awp Γ t_dmarc_zzTrimSpace_5 (finQ [.t 2] fun v=>v=.str (trimS (a++b)))) (finQ [.t 2] fun v=>v=.str (trimS (a++b)))))
      ⟨[(0,.str (a++b)),(3,.int .i64 a.length),(4,.int .i64 (a++b).length),(7,.int .i64 a.length)],[]⟩:=by
  have htrim:trimS (a++b)=trimR b:=by rw [trimS,trimL_app ha,trimL_nw hb]
  rw [htrim]
  refine awp_loop (σ:=List UInt8 × List UInt8) (fun p=>⟨[(0,.str (a++b)),(3,.int .i64 a.length),(4,.int .i64 (toV (a++b).length a p.1)),(7,.int .i64 (a.length+p.1.length))],[]⟩)
    (fun p=>b=p.1++p.2) (fun p=>p.2.length) ([],b) (by simp [toV]) (by simp) ?_
  rintro ⟨c,d⟩ hcd
  simp only at hcd
  subst hcd
  simp at hs
  cases d with
  | nil =>
    simp [b_dmarc_zzTrimSpace_4,t_dmarc_zzTrimSpace_5]
    refine ⟨fun h=>?_,fun h=>?_⟩
    · have:c=[]:=List.length_eq_zero_iff.1 (by omega)
      subst this; simp [trimR]
    · have hc:c ≠ []:=by intro e; subst e; simp at h
      obtain ⟨t,ht⟩:=trimR_prefix c
      have hl:(trimR c).length≤c.length:=trimR_length c
      have e1:toV (a.length+c.length) a c=(a.length:Int)+((trimR c).length:Int):=if_neg hc
      have e2:((a.length:Int)+((trimR c).length:Int)).toNat=a.length+(trimR c).length:=by omega
      rw [e1,e2]
      refine ⟨⟨by omega,by omega⟩,?_⟩
      rw [List.take_length_add_append,List.drop_left]
      generalize trimR c=q at ht ⊢
      subst ht; simp
  | cons x d =>
    have hpx:plainB x=true:=by
      have h1:(plain a && (plain c && plain (x::d)))=true:=by rw [← plain_app,← plain_app]; exact hp
      simp only [Bool.and_eq_true,plain,List.all_cons] at h1
      exact h1.2.2.1
    have hx:=plainB_lt hpx
    have hx2:(x.toNat:Int) < 128:=by omega
    have step:∀ v:Int,v=toV (a++(c++x::d)).length a (c++[x])→loopQ [0,3,4,7] (fun p:List UInt8 × List UInt8=>⟨[(0,.str (a++(c++x::d))),(3,.int .i64 a.length),(4,.int .i64 (toV (a++(c++x::d)).length a p.1)),(7,.int .i64 (a.length+p.1.length))],[]⟩)
        (fun p=>c++x::d=p.1++p.2) (fun p=>p.2.length) (c,x::d)
        ⟨[(0,.str (a++(c++x::d))),(3,.int .i64 a.length),(4,.int .i64 v),(7,.int .i64 (a.length+c.length+1))],[]⟩:=by
      intro v hv
      subst hv
      refine ⟨(c++[x],d),?_,by simp,by simp⟩
      have:((a.length:Int)+c.length+1)=(a.length:Int)+((c++[x]).length:Int):=by simp; omega
      rw [this]
      simp
    generalize hl:loopQ [0,3,4,7] (fun p:List UInt8 × List UInt8=>(⟨[(0,.str (a++(c++x::d))),(3,.int .i64 a.length),(4,.int .i64 (toV (a++(c++x::d)).length a p.1)),(7,.int .i64 (a.length+p.1.length))],[]⟩:St))
        (fun p=>c++x::d=p.1++p.2) (fun p=>p.2.length) (c,x::d)=LQ at step ⊢
    clear hl
    simp at hs
    have hget:(a++(c++x::d))[a.length+c.length]? = some x:=by
      rw [← List.append_assoc,List.getElem?_append_right (by simp)]; simp
    simp [b_dmarc_zzTrimSpace_4]
    refine ⟨fun _=>?_,fun h=>by omega⟩
    refine awp_loop (σ:=Unit) (fun _=>⟨[(0,.str (a++(c++x::d))),(3,.int .i64 a.length),(4,.int .i64 (toV (a.length+(c.length+(d.length+1))) a c)),(7,.int .i64 (a.length+c.length)),(8,.int .i64 1)],[]⟩) (fun _=>True) (fun _=>0) () (by simp) trivial ?_
    intro _ _
    have en:((a.length:Int)+(c.length:Int))=((a.length+c.length:Nat):Int):=by omega
    have ew:IntKind.i64.wrap ((a.length:Int)+c.length+1)=(a.length:Int)+c.length+1:=wrap64 (by omega) (by omega)
    rw [en]
    refine dm_trim_inner Γ _ (a++(c++x::d)) x (a.length+c.length) (a.length+(c.length+(d.length+1))) _ _ (by simp) hget hx (by omega) (by omega) ?_
    rw [← en]
    have en2:((a.length:Int)+(c.length:Int)).toNat=a.length+c.length:=by omega
    have en3:((a.length:Int)+(c.length:Int)+1).toNat=a.length+c.length+1:=by omega
    have esl:List.drop (a.length+c.length) (List.take (a.length+c.length+1) (a++(c++x::d)))=[x]:=by
      rw [← List.append_assoc,show a.length+c.length=(a++c).length by simp,List.take_length_add_append,List.drop_left]; rfl
    have erun:runesF 1 [x]=[x.toNat]:=by simp [runesF,decR_ascii hx]
    simp [t_dmarc_zzTrimSpace_3,ew,en2,en3,esl,erun,rcA,acall,h23,con_zzIsSpace,hx2]
    refine ⟨⟨by omega,by omega,by omega⟩,fun hw=>step _ ?_,fun hw=>step _ ?_⟩
    · rw [isSp_ws hpx] at hw
      simp [toV,trimR_nw hw]
      try omega
    · rw [isSp_ws hpx] at hw
      have hc:c ≠ []:=by
        intro e; subst e
        rw [hb x d rfl] at hw; simp at hw
      simp [toV,hc,trimR_ws hw]

theorem dm_ok_zzTrimSpace (Γ:Gam) (h23:Γ.fn 168=con_zzIsSpace):∀ args r,con_zzTrimSpace args=some r→runs Γ c_dmarc_zzTrimSpace args (fun v=>v=r):=by
  intro args r h
  simp only [con_zzTrimSpace] at h
  split at h <;> (try simp at h; done)
  rename_i s
  obtain ⟨⟨hs,hp⟩,rfl⟩:=ite_some h
  clear h
  simp only [mid] at hs
  simp [c_dmarc_zzTrimSpace]
  refine awp_loop (σ:=List UInt8 × List UInt8) (fun p=>⟨[(0,.str s),(3,.int .i64 s.length),(4,.int .i64 s.length),(16,.ref 16 0)],[(16,.sit s p.1.length)]⟩)
    (fun p=>s=p.1++p.2∧∀ x∈p.1,isWs x.toNat=true) (fun p=>p.2.length) ([],s) (by simp) (by simp) ?_
  rintro ⟨a,b⟩ ⟨hs1,ha⟩
  simp only at hs1 ha
  cases b with
  | nil =>
    simp at hs1
    subst hs1
    simp [b_dmarc_zzTrimSpace_1,t_dmarc_zzTrimSpace_6]
    have:=dm_trim_loop2 Γ h23 s [] (by simpa using hp) (by simpa using hs) ha (by simp)
    simpa using this
  | cons x b =>
    subst hs1
    have hpx:plainB x=true∧plain b=true:=by
      have:(plain a && plain (x::b))=true:=by rw [← plain_app]; exact hp
      simp only [Bool.and_eq_true] at this
      have h2:=this.2
      simp only [plain,List.all_cons,Bool.and_eq_true] at h2
      exact h2
    have e1:List.drop a.length (a++x::b)=x::b:=by simp
    have hx:=plainB_lt hpx.1
    have hx2:(x.toNat:Int) < 128:=by omega
    simp [b_dmarc_zzTrimSpace_1,t_dmarc_zzTrimSpace_6,e1,decR_ascii hx,acall,h23,con_zzIsSpace,hx2]
    refine ⟨fun hw=>?_,fun hw=>?_⟩
    · have:=dm_trim_loop2 Γ h23 a (x::b) hp hs ha (fun y r e=>by injection e with e1 e2; subst e1; rw [← isSp_ws hpx.1]; exact hw)
      simpa using this
    · refine ⟨(a++[x],b),by simp,⟨by simp,?_⟩,by simp⟩
      intro y hy
      simp at hy
      rcases hy with hy | rfl
      · exact ha y hy
      · rw [← isSp_ws hpx.1]; exact hw

def cutTwo (c:Int) (s:List UInt8):List (List UInt8):=match cutAt c s with | none=>[s] | some p=>[p.1,p.2]

def con_dmCut2:List AV→Option AV
  | [.str s,.int .u8 c]=>if s.length < mid then some (.sl 1 (strsA (cutTwo c s))) else none
  | _=>none

theorem dm_ok_zzCut2 (Γ:Gam):∀ args r,con_dmCut2 args=some r→runs Γ c_dmarc_zzCut2 args (fun v=>v=r):=by
  intro args r h
  simp only [con_dmCut2] at h
  split at h <;> (try simp at h; done)
  rename_i s c
  obtain ⟨hs,rfl⟩:=ite_some h
  clear h
  simp only [mid] at hs
  simp -implicitDefEqProofs [c_dmarc_zzCut2]
  refine awp_loop2 (σ:=List UInt8 × List UInt8) (fun p=>⟨[(0,.str s),(1,.int .u8 c),(5,.int .i64 p.1.length)],[]⟩) (fun p=>s=p.1++p.2∧noB c p.1) (fun p=>p.2.length) ([],s) (by simp) (by simp [noB]) ?_
  rintro ⟨pre,post⟩ ⟨hs1,hs2⟩ LQ hLQ
  simp only at hs1 hs2
  subst hs1
  cases post with
  | nil =>
    have e:cutAt c pre=none:=by have:=cutAt_app c pre [] hs2; simpa [cutAt] using this
    simp -implicitDefEqProofs [b_dmarc_zzCut2_1,t_dmarc_zzCut2_2,cutTwo,e]
  | cons x post =>
    simp at hs
    have ew:IntKind.i64.wrap ((pre.length:Int)+1)=(pre.length:Int)+1:=wrap64 (by omega) (by omega)
    have hlt:(pre.length:Int) < (pre.length:Int)+((post.length:Int)+1):=by omega
    by_cases he:(x.toNat:Int)=c
    · have e1:(0:Int)≤(pre.length:Int)+1∧(pre.length:Int)+1≤(pre.length:Int)+((post.length:Int)+1):=by omega
      have e2:((pre.length:Int)+1).toNat=pre.length+1:=by omega
      simp -implicitDefEqProofs [b_dmarc_zzCut2_1,ew,cutTwo,cutAt_app _ _ _ hs2,cutAt,e1,e2,he]
      omega
    · simp -implicitDefEqProofs [b_dmarc_zzCut2_1,ew,he,hlt]
      refine hLQ (pre++[x],post) ⟨by simp,?_⟩ (by simp) _ (by simp)
      intro y hy
      simp at hy
      rcases hy with hy | rfl
      · exact hs2 y hy
      · exact he

end Wax


namespace Wax
open Go (IntKind)

def d64:List UInt8:=[65,66,67,68,69,70,71,72,73,74,75,76,77,78,79,80,81,82,83,84,85,86,87,88,89,90,97,98,99,100,101,102,103,104,105,106,107,108,109,110,111,112,113,114,115,116,117,118,119,120,121,122,48,49,50,51,52,53,54,55,56,57,43,47]
def scanV (c:UInt8):List UInt8→Int→Int→Int
  | [],_,v=>v
  | x::r,k,v=>scanV c r (k+1) (if x=c then k else v)

def v64 (c:UInt8):Int:=scanV c d64 0 (-1)
end Wax


namespace Wax
open Go (IntKind)

def findP:List (List UInt8 × List UInt8)→List UInt8→Option (List UInt8)
  | [],_=>none
  | (i,v)::r,k=>if i=k then some v else findP r k

def valV:Option (List UInt8)→AV
  | some v=>.tup [.str v,.bool true]
  | none=>.tup [.str [],.bool false]

end Wax


namespace Wax
open Go (IntKind)

def eN (m:L8):AV:=.ifc 3 (.ptr [.str m])
def mBad:L8:=[100,109,97,114,99,58,32,109,97,108,102,111,114,109,101,100,32,112,97,114,97,109,115]

def prdV (x:List KVp × Bool):AV:=.tup [.mp (pmA x.1),if x.2 then .nilI else eN mBad]
def prd2:List L8→List KVp→List KVp × Bool
  | [],acc=>(acc,true)
  | p::r,acc=>match cutAt 61 p with
    | none=>if trimS p=[] then prd2 r acc else (acc,false)
    | some q=>prd2 r (psetL acc (trimS q.1) (trimS q.2))
def con_dmParams:List AV→Option AV
  | [.str s]=>if s.length < mid∧plain s=true then some (prdV (prd2 (splitB 59 s) [])) else none
  | _=>none

set_option maxRecDepth 100000 in
theorem ok_dmParams (Γ:Gam) (s154:Γ.st 154=con_zzSplit) (h159:Γ.fn 159=con_dmCut2) (h160:Γ.fn 160=con_zzTrimSpace) (h50:Γ.fn 50=con_errorsNew):∀ args r,con_dmParams args=some r→runs Γ c_dmarc_parseParams args (fun v=>v=r):=by
  intro args r h
  simp only [con_dmParams] at h
  split at h <;> (try simp at h; done)
  rename_i s
  obtain ⟨⟨hs,hp⟩,rfl⟩:=ite_some h
  clear h
  have hsp:con_zzSplit [.str s,.str [59]] []=some (.msl 0 1 0 (splitB 59 s).length,[(0,.cells (strsA (splitB 59 s)))]):=if_pos hs
  have hl:=splitB_length 59 s
  have hml:=splitB_mem_length 59 s
  have hmp:=fun p=>splitB_plain 59 s p hp
  simp -implicitDefEqProofs [c_dmarc_parseParams,acallS,s154,hsp]
  clear hsp
  generalize splitB 59 s=L at *
  have hs':=hs
  simp only [mid] at hs'
  refine awp_loop2 (σ:=List L8 × List L8 × List KVp) (fun p=>⟨[(5,.mref 11),(12,.msl 10 1 0 L.length),(13,.int .i64 L.length),(14,.int .i64 p.1.length)],[(11,.mp (pmA p.2.2)),(10,.cells (strsA L))]⟩)
    (fun p=>L=p.1++p.2.1∧prd2 L []=prd2 p.2.1 p.2.2) (fun p=>p.2.1.length) ([],L,[]) ?_ (by simp) ?_
  · simp [pmA]
  rintro ⟨pre,post,acc⟩ ⟨e1,e2⟩ LQ hLQ
  simp only at e1 e2
  cases post with
  | nil =>
    simp at e1
    rw [e2]
    simp -implicitDefEqProofs [b_dmarc_parseParams_1,t_dmarc_parseParams_2,e1,prd2,prdV]
  | cons x post =>
    have hxm:x∈L:=by rw [e1]; simp
    have hxl:=hml x hxm
    have hxp:=hmp x hxm
    have hlen:L.length=pre.length+post.length+1:=by rw [e1]; simp; omega
    have hlt:pre.length < L.length:=by omega
    have g2:List.drop pre.length L=x::post:=by rw [e1]; simp
    have g3:L[pre.length]? = some x:=by rw [e1]; exact get_mid rfl
    have ew:IntKind.i64.wrap ((pre.length:Int)+1)=(pre.length:Int)+1:=wrap64 (by omega) (by omega)
    have hlt':(pre.length:Int) < (L.length:Int):=by omega
    have k159:con_dmCut2 [.str x,.int .u8 61]=some (.sl 1 (strsA (cutTwo 61 x))):=by
      simp only [con_dmCut2]; exact if_pos (by omega)
    have k160:∀ t:L8,t.length≤s.length→plain t=true→con_zzTrimSpace [.str t]=some (.str (trimS t)):=by
      intro t ht hpt
      simp only [con_zzTrimSpace]; exact if_pos ⟨by omega,hpt⟩
    have fin:∀ acc',prd2 (x::post) acc=prd2 post acc'→∀ st,norm [5,12,13,14] st=⟨[(5,.mref 11),(12,.msl 10 1 0 L.length),(13,.int .i64 L.length),(14,.int .i64 ((pre.length:Int)+1))],[(11,.mp (pmA acc')),(10,.cells (strsA L))]⟩→LQ st:=by
      intro acc' he st hst
      exact hLQ (pre++[x],post,acc') ⟨by rw [e1]; simp,by rw [e2,he]⟩ (by simp) st (by simpa using hst)
    cases hc:cutAt 61 x with
    | none =>
      have kx:=k160 x hxl hxp
      by_cases ht:trimS x=[]
      · have f1:=fin acc (by simp [prd2,hc,ht])
        simp -implicitDefEqProofs [b_dmarc_parseParams_1,hlt,hlt',g2,g3,acall,h159,k159,cutTwo,hc,h160,kx,ht,ew]
        exact f1 _ (by simp)
      · rw [e2]
        simp -implicitDefEqProofs [b_dmarc_parseParams_1,hlt,hlt',g2,g3,acall,h159,k159,cutTwo,hc,h160,kx,ht,h50,con_errorsNew,prd2,prdV,mBad,eN]
    | some q =>
      obtain ⟨hql,y,hy⟩:=cutAt_le hc
      have hxp':=hxp
      rw [hy,plain_app] at hxp'
      simp only [Bool.and_eq_true] at hxp'
      have hp2:plain q.2=true:=by
        have:=hxp'.2
        simp only [plain,List.all_cons,Bool.and_eq_true] at this
        exact this.2
      have kk:=k160 q.1 (by omega) hxp'.1
      have kv:=k160 q.2 (by omega) hp2
      have f1:=fin (psetL acc (trimS q.1) (trimS q.2)) (by simp [prd2,hc])
      simp -implicitDefEqProofs [b_dmarc_parseParams_1,hlt,hlt',g2,g3,acall,h159,k159,cutTwo,hc,h160,kk,kv,mset_pmA,ew]
      exact f1 _ (by simp)

def mPol:L8:=[100,109,97,114,99,58,32,105,110,118,97,108,105,100,32,112,111,108,105,99,121,32,102,111,114,32,112,97,114,97,109,101,116,101,114,32]
def mAlign:L8:=[100,109,97,114,99,58,32,105,110,118,97,108,105,100,32,97,108,105,103,110,109,101,110,116,32,109,111,100,101,32,102,111,114,32,112,97,114,97,109,101,116,101,114,32]

def con_dmPolicy:List AV→Option AV
  | [.str s,.str p]=>if p.length < mid then some (if polB s=true then .tup [.str s,.nilI] else .tup [.str [],eN (mPol++p)]) else none
  | _=>none
theorem ok_dmPolicy (Γ:Gam) (h50:Γ.fn 50=con_errorsNew):∀ args r,con_dmPolicy args=some r→runs Γ c_dmarc_parsePolicy args (fun v=>v=r):=by
  intro args r h
  simp only [con_dmPolicy] at h
  split at h <;> (try simp at h; done)
  rename_i s p
  obtain ⟨hp,rfl⟩:=ite_some h
  clear h
  simp only [mid] at hp
  have hp2:36+p.length < 4611686018427387904:=by omega
  by_cases h1:s=sNone
  · subst h1
    simp -implicitDefEqProofs [c_dmarc_parsePolicy,sNone,polB]
  · by_cases h2:s=sQuar
    · subst h2
      simp -implicitDefEqProofs [c_dmarc_parsePolicy,sNone,sQuar,polB]
    · by_cases h3:s=sReject
      · subst h3
        simp -implicitDefEqProofs [c_dmarc_parsePolicy,sNone,sQuar,sReject,polB]
      · have e:polB s=false:=by simp [polB,h1,h2,h3]
        simp only [sNone,sQuar,sReject] at h1 h2 h3
        simp -implicitDefEqProofs [c_dmarc_parsePolicy,h1,h2,h3,e,hp2,acall,h50,con_errorsNew,eN,mPol]
        try omega

def con_dmAlign:List AV→Option AV
  | [.str s,.str p]=>if p.length < mid then some (if alignB s=true then .tup [.str s,.nilI] else .tup [.str [],eN (mAlign++p)]) else none
  | _=>none
theorem ok_dmAlign (Γ:Gam) (h50:Γ.fn 50=con_errorsNew):∀ args r,con_dmAlign args=some r→runs Γ c_dmarc_parseAlignmentMode args (fun v=>v=r):=by
  intro args r h
  simp only [con_dmAlign] at h
  split at h <;> (try simp at h; done)
  rename_i s p
  obtain ⟨hp,rfl⟩:=ite_some h
  clear h
  simp only [mid] at hp
  by_cases h1:s=sR
  · subst h1
    simp -implicitDefEqProofs [c_dmarc_parseAlignmentMode,sR,alignB]
  · by_cases h2:s=sS
    · subst h2
      simp -implicitDefEqProofs [c_dmarc_parseAlignmentMode,sR,sS,alignB]
    · have e:alignB s=false:=by simp [alignB,h1,h2]
      simp only [sR,sS] at h1 h2
      simp -implicitDefEqProofs [c_dmarc_parseAlignmentMode,h1,h2,e,acall,h50,con_errorsNew,eN,mAlign]
      try omega

def mFo:L8:=[100,109,97,114,99,58,32,105,110,118,97,108,105,100,32,102,97,105,108,117,114,101,32,111,112,116,105,111,110,32,105,110,32,112,97,114,97,109,101,116,101,114,32,39,102,111,39]
def foV (s:L8):AV:=match fo2 0 (splitB 58 s) with
  | some n=>.tup [.int .i64 n,.nilI]
  | none=>.tup [.int .i64 0,eN mFo]
def con_dmFo:List AV→Option AV
  | [.str s]=>if s.length < mid∧plain s=true then some (foV s) else none
  | _=>none

set_option maxHeartbeats 1000000 in
theorem ok_dmFo (Γ:Gam) (s154:Γ.st 154=con_zzSplit) (h160:Γ.fn 160=con_zzTrimSpace) (h50:Γ.fn 50=con_errorsNew):∀ args r,con_dmFo args=some r→runs Γ c_dmarc_parseFailureOptions args (fun v=>v=r):=by
  intro args r h
  simp only [con_dmFo] at h
  split at h <;> (try simp at h; done)
  rename_i s
  obtain ⟨⟨hs,hp⟩,rfl⟩:=ite_some h
  clear h
  have hsp:con_zzSplit [.str s,.str [58]] []=some (.msl 0 1 0 (splitB 58 s).length,[(0,.cells (strsA (splitB 58 s)))]):=if_pos hs
  have hl:=splitB_length 58 s
  have hml:=splitB_mem_length 58 s
  have hmp:=fun p=>splitB_plain 58 s p hp
  simp only [foV]
  simp -implicitDefEqProofs [c_dmarc_parseFailureOptions,acallS,s154,hsp]
  clear hsp
  generalize splitB 58 s=L at *
  simp only [mid] at hs
  refine awp_loop2 (σ:=List L8 × List L8 × Int) (fun p=>⟨[(5,.int .i64 p.2.2),(10,.msl 9 1 0 L.length),(11,.int .i64 L.length),(12,.int .i64 p.1.length)],[(9,.cells (strsA L))]⟩)
    (fun p=>L=p.1++p.2.1∧fo2 0 L=fo2 p.2.2 p.2.1) (fun p=>p.2.1.length) ([],L,0) ?_ (by simp) ?_
  · simp
  rintro ⟨pre,post,n⟩ ⟨e1,e2⟩ LQ hLQ
  simp only at e1 e2
  cases post with
  | nil =>
    simp at e1
    rw [e2]
    simp -implicitDefEqProofs [b_dmarc_parseFailureOptions_1,t_dmarc_parseFailureOptions_2,e1,fo2]
  | cons x post =>
    have hxm:x∈L:=by rw [e1]; simp
    have hxl:=hml x hxm
    have hxp:=hmp x hxm
    have hlen:L.length=pre.length+post.length+1:=by rw [e1]; simp; omega
    have hlt':(pre.length:Int) < (L.length:Int):=by omega
    have hlt:pre.length < L.length:=by omega
    have g2:List.drop pre.length L=x::post:=by rw [e1]; simp
    have g3:L[pre.length]? = some x:=by rw [e1]; exact get_mid rfl
    have ew:IntKind.i64.wrap ((pre.length:Int)+1)=(pre.length:Int)+1:=wrap64 (by omega) (by omega)
    have k160:con_zzTrimSpace [.str x]=some (.str (trimS x)):=if_pos ⟨by simp only [mid]; omega,hxp⟩
    have fin:∀ m,fo2 n (x::post)=fo2 m post→∀ st,norm [5,10,11,12] st=⟨[(5,.int .i64 m),(10,.msl 9 1 0 L.length),(11,.int .i64 L.length),(12,.int .i64 ((pre.length:Int)+1))],[(9,.cells (strsA L))]⟩→LQ st:=by
      intro m he st hst
      exact hLQ (pre++[x],post,m) ⟨by rw [e1]; simp,by rw [e2,he]⟩ (by simp) st (by simpa using hst)
    generalize ht:trimS x=tx at *
    by_cases c1:tx=[48]
    · have f:=fin (orI n 1) (by simp [fo2,fobit2,ht,c1])
      simp -implicitDefEqProofs [b_dmarc_parseFailureOptions_1,hlt,hlt',g2,g3,acall,h160,k160,ew,c1]
      exact f _ (by simp [orI]; rfl)
    · by_cases c2:tx=[49]
      · have f:=fin (orI n 2) (by simp [fo2,fobit2,ht,c2])
        simp -implicitDefEqProofs [b_dmarc_parseFailureOptions_1,hlt,hlt',g2,g3,acall,h160,k160,ew,c2]
        exact f _ (by simp [orI]; rfl)
      · by_cases c3:tx=[100]
        · have f:=fin (orI n 4) (by simp [fo2,fobit2,ht,c3])
          simp -implicitDefEqProofs [b_dmarc_parseFailureOptions_1,hlt,hlt',g2,g3,acall,h160,k160,ew,c3]
          exact f _ (by simp [orI]; rfl)
        · by_cases c4:tx=[115]
          · have f:=fin (orI n 8) (by simp [fo2,fobit2,ht,c4])
            simp -implicitDefEqProofs [b_dmarc_parseFailureOptions_1,hlt,hlt',g2,g3,acall,h160,k160,ew,c4]
            exact f _ (by simp [orI]; rfl)
          · have e3:fo2 0 L=none:=by rw [e2]; simp [fo2,fobit2,ht,c1,c2,c3,c4]
            rw [e3]
            simp -implicitDefEqProofs [b_dmarc_parseFailureOptions_1,hlt,hlt',g2,g3,acall,h160,k160,c1,c2,c3,c4,h50,con_errorsNew,eN,mFo]

def con_dmURIs:List AV→Option AV
  | [.str s]=>if s.length < mid∧plain s=true then some (.sl 1 (strsA (uris s))) else none
  | _=>none

theorem ok_dmURIs (Γ:Gam) (s154:Γ.st 154=con_zzSplit) (h160:Γ.fn 160=con_zzTrimSpace):∀ args r,con_dmURIs args=some r→runs Γ c_dmarc_parseURIList args (fun v=>v=r):=by
  intro args r h
  simp only [con_dmURIs] at h
  split at h <;> (try simp at h; done)
  rename_i s
  obtain ⟨⟨hs,hp⟩,rfl⟩:=ite_some h
  clear h
  have hsp:con_zzSplit [.str s,.str [44]] []=some (.msl 0 1 0 (splitB 44 s).length,[(0,.cells (strsA (splitB 44 s)))]):=if_pos hs
  have hl:=splitB_length 44 s
  have hml:=splitB_mem_length 44 s
  have hmp:=fun p=>splitB_plain 44 s p hp
  simp only [uris]
  simp -implicitDefEqProofs [c_dmarc_parseURIList,acallS,s154,hsp]
  clear hsp
  generalize splitB 44 s=L at *
  simp only [mid] at hs
  refine awp_loop2 (σ:=List L8 × List L8) (fun p=>⟨[(3,.msl 7 1 0 L.length),(8,.msl 7 1 0 L.length),(9,.int .i64 L.length),(10,.int .i64 p.1.length)],[(7,.cells (strsA (p.1.map trimS++p.2)))]⟩)
    (fun p=>L=p.1++p.2) (fun p=>p.2.length) ([],L) ?_ (by simp) ?_
  · simp
  rintro ⟨pre,post⟩ e1 LQ hLQ
  simp only at e1
  cases post with
  | nil =>
    simp at e1
    simp -implicitDefEqProofs [b_dmarc_parseURIList_1,t_dmarc_parseURIList_2,e1,snap,resolveA,List.take_of_length_le]
  | cons x post =>
    have hxm:x∈L:=by rw [e1]; simp
    have hxl:=hml x hxm
    have hxp:=hmp x hxm
    have hlen:L.length=pre.length+post.length+1:=by rw [e1]; simp; omega
    have hlt':(pre.length:Int) < (L.length:Int):=by omega
    have hlt:pre.length < L.length:=by omega
    have ew:IntKind.i64.wrap ((pre.length:Int)+1)=(pre.length:Int)+1:=wrap64 (by omega) (by omega)
    have k160:con_zzTrimSpace [.str x]=some (.str (trimS x)):=if_pos ⟨by simp only [mid]; omega,hxp⟩
    simp (disch:=first | omega | simp) [b_dmarc_parseURIList_1,hlt,hlt',acall,h160,k160,ew,get_mid,set_mid]
    refine hLQ (pre++[x],post) (by simp [e1]) (by simp) _ ?_
    simp
end Wax


namespace Wax
open Go (IntKind)

def anyN (n:Int) (s:L8):Bool:=s.any fun b=>decide ((b.toNat:Int)=n)

def con_MailAny:List AV→Option AV
  | [.int .u8 n,.str s]=>if s.length < big then some (.bool (anyN n s)) else none
  | _=>none

theorem ok_MailAny (Γ:Gam):∀ args r,con_MailAny args=some r→runs Γ c_spec_MailAny args (fun v=>v=r):=by
  intro args r h
  simp only [con_MailAny] at h
  split at h <;> (try simp at h; done)
  rename_i n s
  obtain ⟨hs,rfl⟩:=ite_some h
  clear h
  simp only [big] at hs
  simp -implicitDefEqProofs [c_spec_MailAny]
  refine awp_loop2 (σ:=L8 × L8) (fun p=>⟨[(0,.int .u8 n),(1,.str s),(5,.int .i64 p.1.length)],[]⟩) (fun p=>s=p.1++p.2∧anyN n p.1=false) (fun p=>p.2.length) ([],s) (by simp) (by simp [anyN]) ?_
  rintro ⟨pre,post⟩ ⟨e1,e2⟩ LQ hLQ
  simp only at e1 e2
  subst e1
  cases post with
  | nil=>simp -implicitDefEqProofs [b_spec_MailAny_1,t_spec_MailAny_2,e2]
  | cons x post =>
    simp at hs
    have hlt:(pre.length:Int) < (pre.length:Int)+((post.length:Int)+1):=by omega
    have ew:IntKind.i64.wrap ((pre.length:Int)+1)=(pre.length:Int)+1:=wrap64 (by omega) (by omega)
    by_cases h:(x.toNat:Int)=n
    · simp -implicitDefEqProofs [b_spec_MailAny_1,hlt,h,anyN]
    · simp -implicitDefEqProofs [b_spec_MailAny_1,hlt,h,ew]
      exact hLQ (pre++[x],post) ⟨by simp,by simp only [anyN,List.any_append,Bool.or_eq_false_iff] at e2 ⊢; exact ⟨e2,by simp [h]⟩⟩ (by simp) _ (by simp)

theorem kwB_true {x:UInt8} (h:(97≤(x.toNat:Int)∧(x.toNat:Int)≤122)∨(65≤(x.toNat:Int)∧(x.toNat:Int)≤90)∨(48≤(x.toNat:Int)∧(x.toNat:Int)≤57)∨(x.toNat:Int)=45):kwB x=true:=decide_eq_true (by omega)
theorem kwB_false {x:UInt8} (h:¬ ((97≤(x.toNat:Int)∧(x.toNat:Int)≤122)∨(65≤(x.toNat:Int)∧(x.toNat:Int)≤90)∨(48≤(x.toNat:Int)∧(x.toNat:Int)≤57)∨(x.toNat:Int)=45)):kwB x=false:=decide_eq_false (by omega)

def con_MailKeyword:List AV→Option AV
  | [.str s]=>if s.length < big then some (.bool (mKw s)) else none
  | _=>none

theorem mKw_bad {pre post:L8} {x:UInt8} (h:kwB x=false):mKw (pre++x::post)=false:=by simp [mKw,h]

theorem ok_MailKeyword (Γ:Gam):∀ args r,con_MailKeyword args=some r→runs Γ c_spec_MailKeyword args (fun v=>v=r):=by
  intro args r h
  simp only [con_MailKeyword] at h
  split at h <;> (try simp at h; done)
  rename_i s
  obtain ⟨hs,rfl⟩:=ite_some h
  clear h
  simp only [big] at hs
  simp -implicitDefEqProofs [c_spec_MailKeyword]
  refine awp_loop2 (σ:=L8 × L8) (fun p=>⟨[(0,.str s),(3,.int .i64 p.1.length)],[]⟩) (fun p=>s=p.1++p.2∧p.1.all kwB=true) (fun p=>p.2.length) ([],s) (by simp) (by simp) ?_
  rintro ⟨pre,post⟩ ⟨e1,e2⟩ LQ hLQ
  simp only at e1 e2
  subst e1
  cases post with
  | nil =>
    simp at hs
    cases pre with
    | nil=>simp -implicitDefEqProofs [b_spec_MailKeyword_1,t_spec_MailKeyword_2,mKw]
    | cons a pre =>
      simp at hs
      have ew:IntKind.i64.wrap (pre.length:Int)=pre.length:=wrap64 (by omega) (by omega)
      obtain ⟨z,hz⟩:∃ z,(a::pre)[pre.length]? = some z:=⟨(a::pre)[pre.length]'(by simp),by simp⟩
      have hl:(a::pre).getLast? = some z:=by rw [List.getLast?_eq_getElem?]; simpa using hz
      have eI:∀ c:UInt8,((c.toNat:Int)=45) ↔ c=45:=by
        intro c; rw [← UInt8.toNat_inj]; simp; omega
      have hk:mKw (a::pre)=(decide (¬ a=45) && decide (¬ z=45)):=by
        simp only [mKw,e2,hl]; simp
      simp only [List.append_nil]
      rw [hk]
      by_cases ha:a=45
      · subst ha
        simp -implicitDefEqProofs [b_spec_MailKeyword_1,t_spec_MailKeyword_2]
      · have ha':¬ ((a.toNat:Int)=45):=by rw [eI]; exact ha
        simp -implicitDefEqProofs [b_spec_MailKeyword_1,t_spec_MailKeyword_2,ha,ha',ew,hz,eI]
        rw [List.getElem?_eq_getElem (by simp)] at hz
        injection hz with hz
        rw [hz]
  | cons x post =>
    simp at hs
    have hlt:(pre.length:Int) < (pre.length:Int)+((post.length:Int)+1):=by omega
    have ew:IntKind.i64.wrap ((pre.length:Int)+1)=(pre.length:Int)+1:=wrap64 (by omega) (by omega)
    have good:kwB x=true→LQ ⟨[(0,.str (pre++x::post)),(3,.int .i64 ((pre.length:Int)+1))],[]⟩:=fun h =>
      hLQ (pre++[x],post) ⟨by simp,by simp only [List.all_append,e2,List.all_cons,h]; rfl⟩ (by simp) _ (by simp)
    simp -implicitDefEqProofs [b_spec_MailKeyword_1,hlt,ew]
    repeat' (first | apply And.intro | intro _)
    all_goals first | exact good (kwB_true (by omega)) | exact mKw_bad (kwB_false (by omega))

set_option maxRecDepth 100000 in
theorem tokB_eq {x:UInt8}:tokB x=(decide (32 < (x.toNat:Int)) && decide ((x.toNat:Int) < 127) && !anyN x.toNat tokStop):=by
  have e:anyN x.toNat tokStop=tokStop.contains x:=by
    rw [Bool.eq_iff_iff]
    simp only [anyN,List.any_eq_true,decide_eq_true_eq,List.contains_eq_mem]
    constructor
    · rintro ⟨y,hy,h⟩
      have:y=x:=UInt8.toNat_inj.1 (by omega)
      exact this ▸ hy
    · intro h; exact ⟨x,h,rfl⟩
  rw [tokB,e]
  congr 2
  · congr 1; rw [eq_iff_iff]; omega
  · congr 1; rw [eq_iff_iff]; omega

def con_MailToken:List AV→Option AV
  | [.str s]=>if s.length < big then some (.bool (mTok s)) else none
  | _=>none

set_option maxRecDepth 1000000 in
theorem ok_MailToken (Γ:Gam) (h100:Γ.fn 100=con_MailAny):∀ args r,con_MailToken args=some r→runs Γ c_spec_MailToken args (fun v=>v=r):=by
  intro args r h
  simp only [con_MailToken] at h
  split at h <;> (try simp at h; done)
  rename_i s
  obtain ⟨hs,rfl⟩:=ite_some h
  clear h
  simp only [big] at hs
  have k:∀ c:UInt8,con_MailAny [.int .u8 c.toNat,.str [40,41,60,62,64,44,59,58,92,34,47,91,93,63,61]]=some (.bool (anyN c.toNat tokStop)):=by
    intro c
    simp only [con_MailAny]
    exact if_pos (by simp [big])
  simp -implicitDefEqProofs [c_spec_MailToken]
  refine awp_loop2 (σ:=L8 × L8) (fun p=>⟨[(0,.str s),(3,.int .i64 p.1.length)],[]⟩) (fun p=>s=p.1++p.2∧p.1.all tokB=true) (fun p=>p.2.length) ([],s) (by simp) (by simp) ?_
  rintro ⟨pre,post⟩ ⟨e1,e2⟩ LQ hLQ
  simp only at e1 e2
  subst e1
  cases post with
  | nil=>simp -implicitDefEqProofs [b_spec_MailToken_1,t_spec_MailToken_2,mTok,e2]
  | cons x post =>
    simp at hs
    have hlt:(pre.length:Int) < (pre.length:Int)+((post.length:Int)+1):=by omega
    have ew:IntKind.i64.wrap ((pre.length:Int)+1)=(pre.length:Int)+1:=wrap64 (by omega) (by omega)
    have good:tokB x=true→LQ ⟨[(0,.str (pre++x::post)),(3,.int .i64 ((pre.length:Int)+1))],[]⟩:=fun h =>
      hLQ (pre++[x],post) ⟨by simp,by simp only [List.all_append,e2,List.all_cons,h]; rfl⟩ (by simp) _ (by simp)
    have bad:tokB x=false→mTok (pre++x::post)=false:=by intro h; simp [mTok,h]
    rw [tokB_eq] at good bad
    by_cases h1:(x.toNat:Int)≤32
    · have h1':¬ (32 < (x.toNat:Int)):=by omega
      have b:=bad (by simp [h1'])
      simp -implicitDefEqProofs [b_spec_MailToken_1,hlt,ew,h1,b]
    · have h1':32 < (x.toNat:Int):=by omega
      by_cases h2:127≤(x.toNat:Int)
      · have h2':¬ ((x.toNat:Int) < 127):=by omega
        have b:=bad (by simp [h2'])
        simp -implicitDefEqProofs [b_spec_MailToken_1,hlt,ew,h1,h2,b]
      · have h2':(x.toNat:Int) < 127:=by omega
        cases h3:anyN x.toNat tokStop with
        | true =>
          have b:=bad (by simp [h3])
          simp -implicitDefEqProofs [b_spec_MailToken_1,hlt,ew,h1,h2,acall,h100,k,h3,b]
        | false =>
          have g:=good (by simp [h3,h1',h2'])
          simp -implicitDefEqProofs [b_spec_MailToken_1,hlt,ew,h1,h2,acall,h100,k,h3,g]

end Wax


namespace Wax
open Go (IntKind)

def con_MailLower:List AV→Option AV
  | [.str s]=>if s.length < big then some (.str (lowS s)) else none
  | _=>none

theorem ok_MailLower (Γ:Gam):∀ args r,con_MailLower args=some r→runs Γ c_spec_MailLower args (fun v=>v=r):=by
  intro args r h
  simp only [con_MailLower] at h
  split at h <;> (try simp at h; done)
  rename_i s
  obtain ⟨hs,rfl⟩:=ite_some h
  clear h
  simp only [big] at hs
  simp -implicitDefEqProofs [c_spec_MailLower,hs]
  refine awp_loop2 (σ:=L8 × L8) (fun p=>⟨[(3,.msl 7 1 0 s.length),(8,.msl 7 1 0 s.length),(9,.int .i64 s.length),(10,.int .i64 p.1.length)],[(7,.cells (bcA (lowS p.1++p.2)))]⟩) (fun p=>s=p.1++p.2) (fun p=>p.2.length) ([],s) (by simp) (by simp) ?_
  rintro ⟨pre,post⟩ e1 LQ hLQ
  simp only at e1
  subst e1
  cases post with
  | nil =>
    have e:List.take pre.length (lowS pre)=lowS pre:=List.take_of_length_le (by simp)
    simp -implicitDefEqProofs [b_spec_MailLower_1,t_spec_MailLower_2,e]
  | cons x post =>
    simp at hs
    have hlt:(pre.length:Int) < (pre.length:Int)+((post.length:Int)+1):=by omega
    have ew:IntKind.i64.wrap ((pre.length:Int)+1)=(pre.length:Int)+1:=wrap64 (by omega) (by omega)
    have hx:=lowB_toNat x
    have fin:∀ n:Int,n=(lowB x).toNat→LQ ⟨[(3,.msl 7 1 0 (pre.length+(post.length+1))),(8,.msl 7 1 0 (pre.length+(post.length+1))),(9,.int .i64 ((pre.length:Int)+((post.length:Int)+1))),(10,.int .i64 ((pre.length:Int)+1))],[(7,.cells (bcA (lowS pre)++.int .u8 n::bcA post))]⟩:=by
      intro n hn
      refine hLQ (pre++[x],post) (by simp) (by simp) _ ?_
      subst hn
      simp
    by_cases h:65≤(x.toNat:Int)∧(x.toNat:Int)≤90
    · rw [if_pos h] at hx
      have eu:IntKind.u8.wrap ((x.toNat:Int)+32)=(x.toNat:Int)+32:=Go.IntWalk.u8_in _ ⟨by omega,by omega⟩
      have f:=fin ((x.toNat:Int)+32) hx.symm
      simp -implicitDefEqProofs [b_spec_MailLower_1,hlt,ew,h.1,h.2,eu]
      simpa using f
    · rw [if_neg h] at hx
      have f:=fin (x.toNat:Int) hx.symm
      by_cases h1:65≤(x.toNat:Int)
      · have h2:¬ ((x.toNat:Int)≤90):=fun g=>h ⟨h1,g⟩
        simp -implicitDefEqProofs [b_spec_MailLower_1,hlt,ew,h1,h2]
        simpa using f
      · simp -implicitDefEqProofs [b_spec_MailLower_1,hlt,ew,h1]
        simpa using f

def con_MailHalves:List AV→Option AV
  | [.str s,.int .u8 c]=>if s.length < big then some (cutV c s) else none
  | _=>none

theorem ok_MailHalves (Γ:Gam):∀ args r,con_MailHalves args=some r→runs Γ c_spec_MailHalves args (fun v=>v=r):=by
  intro args r h
  simp only [con_MailHalves] at h
  split at h <;> (try simp at h; done)
  rename_i s c
  obtain ⟨hs,rfl⟩:=ite_some h
  clear h
  simp only [big] at hs
  simp -implicitDefEqProofs [c_spec_MailHalves]
  refine awp_loop2 (σ:=L8 × L8) (fun p=>⟨[(0,.str s),(1,.int .u8 c),(7,.int .i64 p.1.length)],[]⟩) (fun p=>s=p.1++p.2∧noB c p.1) (fun p=>p.2.length) ([],s) (by simp) (by simp [noB]) ?_
  rintro ⟨pre,post⟩ ⟨e1,e2⟩ LQ hLQ
  simp only at e1 e2
  subst e1
  cases post with
  | nil =>
    have e:cutAt c pre=none:=by have:=cutAt_app c pre [] e2; simpa [cutAt] using this
    simp -implicitDefEqProofs [b_spec_MailHalves_1,t_spec_MailHalves_2,cutV,e]
  | cons x post =>
    simp at hs
    have hlt:(pre.length:Int) < (pre.length:Int)+((post.length:Int)+1):=by omega
    have ew:IntKind.i64.wrap ((pre.length:Int)+1)=(pre.length:Int)+1:=wrap64 (by omega) (by omega)
    by_cases h:(x.toNat:Int)=c
    · have g1:(0:Int)≤(pre.length:Int)+1∧(pre.length:Int)+1≤(pre.length:Int)+((post.length:Int)+1):=by omega
      have g2:((pre.length:Int)+1).toNat=pre.length+1:=by omega
      simp -implicitDefEqProofs [b_spec_MailHalves_1,hlt,h,ew,cutV,cutAt_app _ _ _ e2,cutAt,g1,g2]
    · simp -implicitDefEqProofs [b_spec_MailHalves_1,hlt,h,ew]
      refine hLQ (pre++[x],post) ⟨by simp,?_⟩ (by simp) _ (by simp)
      intro y hy
      simp at hy
      rcases hy with hy | rfl
      · exact e2 y hy
      · exact h

theorem splitB_app {b:UInt8} {cur post:L8} (h:noB b.toNat cur):splitB b (cur++b::post)=cur::splitB b post:=by
  rw [splitB_cut,cutAt_noB h]
theorem splitB_only {b:UInt8} {cur:L8} (h:noB b.toNat cur):splitB b cur=[cur]:=by
  have e:cutAt b.toNat cur=none:=by have:=cutAt_app b.toNat cur [] h; simpa [cutAt] using this
  rw [splitB_cut,e]

def SplitAt (b:UInt8) (s:L8) (outs:List L8) (fr i:Int):Prop :=
  (∃ p cur post,s=p++(cur++post)∧fr=(p.length:Int)∧i=(p.length:Int)+(cur.length:Int)∧noB b.toNat cur∧outs.length≤p.length∧splitB b s=outs++splitB b (cur++post)) ∨
  (i=(s.length:Int)+1∧splitB b s=outs)

theorem noB_snoc {c:Int} {cur:L8} {x:UInt8} (h:noB c cur) (hx:(x.toNat:Int) ≠ c):noB c (cur++[x]):=by
  intro y hy
  simp at hy
  rcases hy with hy | rfl
  · exact h y hy
  · exact hx

end Wax


namespace Wax
open Go (IntKind)

def labB (p:L8):Bool:=mKw p && decide (p.length≤63)
theorem mDom_eq (s:L8):mDom s=((splitB 46 s).all labB && decide (s.length≤253)):=rfl

def con_MailDomain:List AV→Option AV
  | [.str s]=>if s.length < mid then some (.bool (mDom s)) else none
  | _=>none

set_option maxHeartbeats 1000000 in
theorem ok_MailDomain (Γ:Gam) (h99:Γ.fn 99=con_MailKeyword):∀ args r,con_MailDomain args=some r→runs Γ c_spec_MailDomain args (fun v=>v=r):=by
  intro args r h
  simp only [con_MailDomain] at h
  split at h <;> (try simp at h; done)
  rename_i s
  obtain ⟨hs,rfl⟩:=ite_some h
  clear h
  simp only [mid] at hs
  rw [mDom_eq]
  simp -implicitDefEqProofs [c_spec_MailDomain]
  refine awp_loop2 (σ:=List L8 × Int × Int) (fun p=>⟨[(0,.str s),(3,.int .i64 p.2.1),(4,.int .i64 p.2.2)],[]⟩)
    (fun p=>SplitAt 46 s p.1 p.2.1 p.2.2∧p.1.all labB=true) (fun p=>((s.length:Int)+1 - p.2.2).toNat) ([],0,0) (by simp) ⟨.inl ⟨[],[],s,by simp [noB]⟩,rfl⟩ ?_
  rintro ⟨outs,fr,i⟩ ⟨hS,hA⟩ LQ hLQ
  simp only at hS hA
  rcases hS with ⟨p,cur,post,g1,rfl,rfl,g2,g3,g4⟩ | ⟨rfl,g4⟩
  · have hlen:s.length=p.length+(cur.length+post.length):=by rw [g1]; simp
    have hle:(p.length:Int)+(cur.length:Int)≤(s.length:Int):=by omega
    have ew:IntKind.i64.wrap ((p.length:Int)+(cur.length:Int)+1)=(p.length:Int)+(cur.length:Int)+1:=wrap64 (by omega) (by omega)
    have ew2:IntKind.i64.wrap ((p.length:Int)+(cur.length:Int) - (p.length:Int))=(cur.length:Int):=by rw [wrap64 (by omega) (by omega)]; omega
    have hcut:List.drop p.length (List.take (p.length+cur.length) s)=cur:=by
      rw [g1,← List.append_assoc,show p.length+cur.length=(p++cur).length by simp,List.take_left' rfl,List.drop_left' rfl]
    have e1:((p.length:Int)+(cur.length:Int)).toNat=p.length+cur.length:=by omega
    have hb0:(p.length:Int)≤(p.length:Int)+(cur.length:Int):=by omega
    have hb1:(0:Int)≤(p.length:Int)+(cur.length:Int):=by omega
    have k99:con_MailKeyword [.str cur]=some (.bool (mKw cur)):=if_pos (by simp only [big]; omega)
    cases post with
    | nil =>
      have hq:(p.length:Int)+(cur.length:Int)=(s.length:Int):=by simp at hlen; omega
      have hd:decide ((p.length:Int)+(cur.length:Int)=(s.length:Int))=true:=decide_eq_true hq
      simp only [List.append_nil] at g4
      rw [splitB_only (b:=46) g2] at g4
      have bad:labB cur=false→((splitB 46 s).all labB && decide (s.length≤253))=false:=by intro h; rw [g4]; simp [h]
      have fin:labB cur=true→LQ ⟨[(0,.str s),(3,.int .i64 ((p.length:Int)+(cur.length:Int)+1)),(4,.int .i64 ((p.length:Int)+(cur.length:Int)+1))],[]⟩:=by
        intro h
        exact hLQ (outs++[cur],(p.length:Int)+(cur.length:Int)+1,(p.length:Int)+(cur.length:Int)+1) ⟨.inr ⟨by simp only; omega,g4⟩,by simp only [List.all_append,hA,List.all_cons,h]; rfl⟩ (by simp only; omega) _ (by simp)
      cases hk:mKw cur with
      | false =>
        have b:=bad (by simp [labB,hk])
        simp -implicitDefEqProofs [b_spec_MailDomain_1,hle,hd,ew,e1,hcut,hb0,hb1,acall,h99,k99,hk,b]
      | true =>
        by_cases h63:(63:Int) < (cur.length:Int)
        · have b:=bad (by simp [labB,hk]; omega)
          simp -implicitDefEqProofs [b_spec_MailDomain_1,hle,hd,ew,ew2,e1,hcut,hb0,hb1,acall,h99,k99,hk,b,h63]
        · have f:=fin (by simp [labB,hk]; omega)
          simp -implicitDefEqProofs [b_spec_MailDomain_1,hle,hd,ew,ew2,e1,hcut,hb0,hb1,acall,h99,k99,hk,h63,f]
    | cons x post =>
      simp at hlen
      have hd:decide ((p.length:Int)+(cur.length:Int)=(s.length:Int))=false:=decide_eq_false (by omega)
      have gx:s[p.length+cur.length]? = some x:=by rw [g1,← List.append_assoc]; exact get_mid (by simp)
      by_cases hx:(x.toNat:Int)=46
      · have hxb:x=46:=UInt8.toNat_inj.1 (by simp; omega)
        subst hxb
        rw [splitB_app (b:=46) g2] at g4
        have bad:labB cur=false→((splitB 46 s).all labB && decide (s.length≤253))=false:=by intro h; rw [g4]; simp [h]
        have fin:labB cur=true→LQ ⟨[(0,.str s),(3,.int .i64 ((p.length:Int)+(cur.length:Int)+1)),(4,.int .i64 ((p.length:Int)+(cur.length:Int)+1))],[]⟩:=by
          intro h
          exact hLQ (outs++[cur],(p.length:Int)+(cur.length:Int)+1,(p.length:Int)+(cur.length:Int)+1) ⟨.inl ⟨p++cur++[46],[],post,by rw [g1]; simp,by simp; omega,by simp; omega,by simp [noB],by simp; omega,by rw [g4]; simp⟩,by simp only [List.all_append,hA,List.all_cons,h]; rfl⟩ (by simp only; omega) _ (by simp)
        cases hk:mKw cur with
        | false =>
          have b:=bad (by simp [labB,hk])
          simp -implicitDefEqProofs [b_spec_MailDomain_1,hle,hd,ew,e1,hcut,hb0,hb1,gx,acall,h99,k99,hk,b]
        | true =>
          by_cases h63:(63:Int) < (cur.length:Int)
          · have b:=bad (by simp [labB,hk]; omega)
            simp -implicitDefEqProofs [b_spec_MailDomain_1,hle,hd,ew,ew2,e1,hcut,hb0,hb1,gx,acall,h99,k99,hk,b,h63]
          · have f:=fin (by simp [labB,hk]; omega)
            simp -implicitDefEqProofs [b_spec_MailDomain_1,hle,hd,ew,ew2,e1,hcut,hb0,hb1,gx,acall,h99,k99,hk,h63,f]
      · have f:LQ ⟨[(0,.str s),(3,.int .i64 (p.length:Int)),(4,.int .i64 ((p.length:Int)+(cur.length:Int)+1))],[]⟩ :=
          hLQ (outs,(p.length:Int),(p.length:Int)+(cur.length:Int)+1) ⟨.inl ⟨p,cur++[x],post,by rw [g1]; simp,rfl,by simp; omega,noB_snoc g2 hx,g3,by rw [g4]; simp⟩,hA⟩ (by simp only; omega) _ (by simp)
        simp -implicitDefEqProofs [b_spec_MailDomain_1,hle,hd,ew,e1,hb0,hb1,gx,hx,f]
  · have hnle:¬ ((s.length:Int)+1≤(s.length:Int)):=by omega
    rw [g4,hA]
    simp -implicitDefEqProofs [b_spec_MailDomain_1,t_spec_MailDomain_2,hnle]
    omega

theorem cutAt_lens {c:Int} {s:L8} {p:L8 × L8} (h:cutAt c s=some p):p.1.length < s.length∧p.2.length < s.length:=by
  have:=(cutAt_le h).1
  omega

def mSpace (n:Nat):L8:=([[],[],[32],[32,32],[9],[32,9]]:List L8).getD (n % 6) []
def blB (b:UInt8):Bool:=decide ((b.toNat:Int)=32∨(b.toNat:Int)=9)
end Wax


namespace Wax
open Go (IntKind)

def asO:AV→Option (Option (List L8))
  | .nilS=>some none
  | .sl es xs=>if es=1 then (asStrs xs).map some else none
  | _=>none
theorem asO_slO (x:Option (List L8)):asO (slO x)=some x:=by cases x <;> simp [slO,asO]
theorem asO_spec {v:AV} {x:Option (List L8)} (h:asO v=some x):v=slO x:=by
  cases v <;> simp [asO] at h
  · subst h; rfl
  · obtain ⟨rfl,l,h1,rfl⟩:=h
    rw [asStrs_spec h1]; rfl

@[simp] theorem slO_atom (x:Option (List L8)):atom (slO x)=true:=by cases x <;> rfl
@[simp] theorem slO_ref (x:Option (List L8)):hasRef (slO x)=false:=by cases x <;> rfl
@[simp] theorem slO_refs (x:Option (List L8)):refs (slO x)=[]:=by cases x <;> rfl
@[simp] theorem slO_map (x:Option (List L8)) (g:Nat→Nat):mapId g (slO x)=slO x:=by cases x <;> rfl
@[simp] theorem slO_kill (x:Option (List L8)) (d:Nat):kill d (slO x)=slO x:=by cases x <;> rfl
@[simp] theorem slO_snapW (x:Option (List L8)) (g:AV→AV):snapW g (slO x)=slO x:=by cases x <;> rfl
@[simp] theorem slO_snap (x:Option (List L8)) (n:Nat) (hp:List (Nat × AObj)):snap (n+1) hp (slO x)=slO x:=by cases x <;> rfl
@[simp] theorem slO_cells (x:Option (List L8)):cells (slO x)=[slO x]:=by cases x <;> rfl
@[simp] theorem slO_pure (x:Option (List L8)):pureV (slO x)=true:=by cases x <;> rfl
@[simp] theorem slO_none:slO none=.nilS:=rfl
@[simp] theorem slO_flat (x:List L8):slO (some x)=.sl 1 (strsA x):=rfl
where
  foFrom3 (c:UInt8) (n:Int):Int:=let m:=if c=100 then orI n 4 else n; if c=115 then orI m 8 else m
  foFrom2 (c:UInt8) (n:Int):Int:=let m:=if c=49 then orI n 2 else n; foFrom3 c m
  foFrom1 (c:UInt8) (n:Int):Int:=let m:=if c=48 then orI n 1 else n; foFrom2 c m

end Wax


namespace Wax
open Go (IntKind)

theorem lk_rmFi (ds:List Nat) (i:Nat):∀ fr:List (Nat × AV),lk (rmF ds fr) i=if ds.contains i=true then .junk else lk fr i
  | []=>by simp [rmF,lk]
  | (j,v)::r=>by
    have ih:=lk_rmFi ds i r
    simp only [rmF]
    by_cases hj:ds.contains j=true
    · rw [if_pos hj,ih]
      by_cases hi:ds.contains i=true
      · rw [if_pos hi,if_pos hi]
      · rw [if_neg hi,if_neg hi]
        have:j ≠ i:=fun e=>hi (e ▸ hj)
        simp [lk,this]
    · rw [if_neg hj]
      by_cases e:j=i
      · subst e; simp only [lk,if_true,if_neg hj]
      · simp only [lk,if_neg e,ih]

theorem lookA_two:∀ (l:List KVp) (k:L8),lookA (pmA l) k (.str []) true=valV (findP l k)
  | [],k=>rfl
  | (i,v)::r,k=>by
    have ih:=lookA_two r k
    by_cases h:k=i
    · simp [pmA,lookA,mfind,findP,h,valV]
    · have h':¬ i=k:=fun e=>h e.symm
      simp only [pmA,List.map_cons,lookA,mfind,findP,if_neg h,if_neg h'] at ih ⊢
      exact ih
theorem lookA_one:∀ (l:List KVp) (k:L8),lookA (pmA l) k (.str []) false=.str ((findP l k).getD [])
  | [],k=>rfl
  | (i,v)::r,k=>by
    have ih:=lookA_one r k
    by_cases h:k=i
    · simp [pmA,lookA,mfind,findP,h]
    · have h':¬ i=k:=fun e=>h e.symm
      simp only [pmA,List.map_cons,lookA,mfind,findP,if_neg h,if_neg h'] at ih ⊢
      exact ih

def pctA:Option Int→AV
  | none=>.nilP
  | some n=>.ptr [.int .i64 n]
@[simp] theorem pctA_atom (x:Option Int):atom (pctA x)=true:=by cases x <;> rfl
@[simp] theorem pctA_ref (x:Option Int):hasRef (pctA x)=false:=by cases x <;> rfl
@[simp] theorem pctA_refs (x:Option Int):refs (pctA x)=[]:=by cases x <;> rfl
@[simp] theorem pctA_kill (x:Option Int) (d:Nat):kill d (pctA x)=pctA x:=by cases x <;> rfl
@[simp] theorem pctA_snapW (x:Option Int) (g:AV→AV):snapW g (pctA x)=pctA x:=by cases x <;> rfl
@[simp] theorem pctA_snap (x:Option Int) (n:Nat) (hp:List (Nat × AObj)):snap (n+1) hp (pctA x)=pctA x:=by cases x <;> rfl
@[simp] theorem pctA_some (n:Int):pctA (some n)=.ptr [.int .i64 n]:=rfl
@[simp] theorem pctA_none:pctA none=.nilP:=rfl

def DR.cells (r:DR):List AV:=[.str r.dk,.str r.sp,.int .i64 r.fo,.str r.p,pctA r.pct,slO r.rf,.int .i64 r.ri,slO r.rua,slO r.ruf,.str r.sub]
def dr0:DR:=⟨[],[],0,[],none,none,0,none,none,[]⟩

def mPct:L8:=[100,109,97,114,99,58,32,105,110,118,97,108,105,100,32,112,97,114,97,109,101,116,101,114,32,39,112,99,116,39]
def mPct2:L8:=mPct++[58,32,118,97,108,117,101,32,111,117,116,32,111,102,32,98,111,117,110,100,115]
def mRf:L8:=[100,109,97,114,99,58,32,105,110,118,97,108,105,100,32,112,97,114,97,109,101,116,101,114,32,39,114,102,39]
def mRi:L8:=[100,109,97,114,99,58,32,105,110,118,97,108,105,100,32,112,97,114,97,109,101,116,101,114,32,39,114,105,39]
def mRi2:L8:=mRi++[58,32,110,101,103,97,116,105,118,101,32,111,114,32,122,101,114,111,32,100,117,114,97,116,105,111,110]
def mNoP:L8:=[100,109,97,114,99,58,32,114,101,99,111,114,100,32,105,115,32,109,105,115,115,105,110,103,32,97,32,39,112,39,32,112,97,114,97,109,101,116,101,114]

section
variable (acc:List KVp)
def mdSp (r:DR):AV ⊕ DR:=match findP acc kSp with
  | none=>.inr r
  | some v=>if polB v=true then .inr { r with sub:=v } else .inl (eN (mPol++kSp))
def mdRuf (r:DR):AV ⊕ DR:=mdSp acc (match findP acc kRuf with | none=>r | some v=>{ r with ruf:=some (uris v) })
def mdRua (r:DR):AV ⊕ DR:=mdRuf acc (match findP acc kRua with | none=>r | some v=>{ r with rua:=some (uris v) })
def mdRi (r:DR):AV ⊕ DR:=match findP acc kRi with
  | none=>mdRua acc r
  | some v=>match Go.Lib.atoiAll v with
    | .ok n=>if n≤0 then .inl (eN mRi2) else mdRua acc { r with ri:=n }
    | _=>.inl (eN mRi)
def mdRf (r:DR):AV ⊕ DR:=match findP acc kRf with
  | none=>mdRi acc r
  | some v=>if (splitB 58 v).all (fun s=>decide (s=sAfrf))=true then mdRi acc { r with rf:=some (splitB 58 v) } else .inl (eN mRf)
def mdPct (r:DR):AV ⊕ DR:=match findP acc kPct with
  | none=>mdRf acc r
  | some v=>match Go.Lib.atoiAll v with
    | .ok n=>if n < 0∨100 < n then .inl (eN mPct2) else mdRf acc { r with pct:=some n }
    | _=>.inl (eN mPct)
def mdFo (r:DR):AV ⊕ DR:=match findP acc kFo with
  | none=>mdPct acc r
  | some v=>match fo2 0 (splitB 58 v) with
    | some n=>mdPct acc { r with fo:=n }
    | none=>.inl (eN mFo)
def mdAspf (r:DR):AV ⊕ DR:=match findP acc kAspf with
  | none=>mdFo acc { r with sp:=sR }
  | some v=>if alignB v=true then mdFo acc { r with sp:=v } else .inl (eN (mAlign++kAspf))
def mdAdkim (r:DR):AV ⊕ DR:=match findP acc kAdkim with
  | none=>mdAspf acc { r with dk:=sR }
  | some v=>if alignB v=true then mdAspf acc { r with dk:=v } else .inl (eN (mAlign++kAdkim))
def mdAll:AV ⊕ DR:=if (findP acc kV).getD []=sDM then (match findP acc kP with
  | none=>.inl (eN mNoP)
  | some v=>if polB v=true then mdAdkim acc { dr0 with p:=v } else .inl (eN (mPol++kP))) else .inl (.ifc 3 .junk)
end

def mdV:AV ⊕ DR→AV
  | .inl e=>.tup [.nilP,e]
  | .inr r=>.tup [.ptr r.cells,.nilI]

abbrev mdQ (x:AV ⊕ DR):APost:=finQ [.t 2,.t 3] fun v=>v=mdV x

def valsOk (acc:List KVp):Prop:=∀ q∈acc,q.2.length < mid∧plain q.2=true
theorem findP_in:∀ {l:List KVp} {k v:L8},findP l k=some v→(k,v)∈l
  | [],_,_,h=>by simp [findP] at h
  | (i,u)::r,k,v,h=>by
    simp only [findP] at h
    split at h
    · rename_i e; simp at h; subst e; subst h; simp
    · exact List.mem_cons_of_mem _ (findP_in h)

section
variable {Γ:Gam} (h150:Γ.fn 150=con_dmPolicy) (h151:Γ.fn 151=con_dmAlign) (h152:Γ.fn 152=con_dmFo) (h153:Γ.fn 153=con_Atoi) (s154:Γ.st 154=con_zzSplit) (h155:Γ.fn 155=con_dmURIs) (h50:Γ.fn 50=con_errorsNew)

theorem valV_tup {x:Option L8} {a b:AV} (h:valV x=.tup [a,b]):(∀ g,snapW g a=a)∧(∀ g,snapW g b=b)∧(∀ d,kill d a=a)∧∀ d,kill d b=b:=by
  cases x <;> simp [valV] at h <;> obtain ⟨rfl,rfl⟩:=h <;> exact ⟨fun _=>rfl,fun _=>rfl,fun _=>rfl,fun _=>rfl⟩
@[simp] theorem drc_kill (r:DR) (d:Nat):killL d r.cells=r.cells:=by simp [DR.cells]
@[simp] theorem drc_snapW (r:DR) (g:AV→AV):snapWL g r.cells=r.cells:=by simp [DR.cells]
@[simp] theorem drc_ref (r:DR):hasRefL r.cells=false:=by simp [DR.cells]

theorem pd_4 (r:DR) (ex:List (Nat × AV)) (h6:lk ex 6=.ref 46 0):awp Γ f_dmarc_Parse_4 (mdQ (.inr r)) ⟨ex,[(46,.cells r.cells)]⟩:=by
  simp -implicitDefEqProofs [f_dmarc_Parse_4,h6,mdV,DR.cells]

theorem pol_con {v p:L8} (hp:p.length < mid):con_dmPolicy [.str v,.str p]=some (if polB v=true then .tup [.str v,.nilI] else .tup [.str [],eN (mPol++p)]):=if_pos hp
theorem align_con {v p:L8} (hp:p.length < mid):con_dmAlign [.str v,.str p]=some (if alignB v=true then .tup [.str v,.nilI] else .tup [.str [],eN (mAlign++p)]):=if_pos hp

include h150
theorem pd_5 (acc:List KVp) (r:DR) (ex:List (Nat × AV)) (h4:lk ex 4=.mp (pmA acc)) (h6:lk ex 6=.ref 46 0):awp Γ f_dmarc_Parse_5 (mdQ (mdSp acc r)) ⟨ex,[(46,.cells r.cells)]⟩:=by
  have hk:=lookA_two acc [115,112]
  simp only [mdSp,kSp]
  cases hf:findP acc [115,112] with
  | none =>
    rw [hf] at hk
    simp only
    have e:=fun ex h=>pd_4 (Γ:=Γ) r ex h
    simp -implicitDefEqProofs [f_dmarc_Parse_5,lk_rmFi,h4,h6,hk,valV]
    refine e _ ?_
    simp [lk_rmFi,h4,h6]
  | some v =>
    rw [hf] at hk
    have k:=pol_con (v:=v) (p:=[115,112]) (by decide)
    simp only
    cases hp:polB v with
    | false =>
      rw [hp] at k
      simp -implicitDefEqProofs [f_dmarc_Parse_5,lk_rmFi,h4,h6,hk,valV,acall,h150,k,eN,DR.cells,mdV]
    | true =>
      rw [hp] at k
      simp only [if_true]
      have e:=fun ex h=>pd_4 (Γ:=Γ) { r with sub:=v } ex h
      simp only [DR.cells] at e
      simp -implicitDefEqProofs [f_dmarc_Parse_5,lk_rmFi,h4,h6,hk,valV,acall,h150,k,DR.cells]
      refine e _ ?_
      simp [lk_rmFi,h4,h6]

include h155
theorem pd_6 (acc:List KVp) (ha:valsOk acc) (r:DR) (ex:List (Nat × AV)) (h4:lk ex 4=.mp (pmA acc)) (h6:lk ex 6=.ref 46 0):awp Γ f_dmarc_Parse_6 (mdQ (mdRuf acc r)) ⟨ex,[(46,.cells r.cells)]⟩:=by
  have hk:=lookA_two acc [114,117,102]
  simp only [mdRuf,kRuf]
  cases hf:findP acc [114,117,102] with
  | none =>
    rw [hf] at hk
    simp only
    have e:=fun ex h h'=>pd_5 (Γ:=Γ) h150 acc r ex h h'
    simp -implicitDefEqProofs [f_dmarc_Parse_6,lk_rmFi,h4,h6,hk,valV]
    refine e _ ?_ ?_ <;> simp [lk_rmFi,h4,h6]
  | some v =>
    rw [hf] at hk
    have hv:=ha _ (findP_in hf)
    have k:con_dmURIs [.str v]=some (.sl 1 (strsA (uris v))):=if_pos hv
    simp only
    have e:=fun ex h h'=>pd_5 (Γ:=Γ) h150 acc { r with ruf:=some (uris v) } ex h h'
    simp only [DR.cells] at e
    simp -implicitDefEqProofs [f_dmarc_Parse_6,lk_rmFi,h4,h6,hk,valV,acall,h155,k,DR.cells]
    refine e _ ?_ ?_ <;> simp [lk_rmFi,h4,h6]

theorem pd_7 (acc:List KVp) (ha:valsOk acc) (r:DR) (ex:List (Nat × AV)) (h4:lk ex 4=.mp (pmA acc)) (h6:lk ex 6=.ref 46 0):awp Γ f_dmarc_Parse_7 (mdQ (mdRua acc r)) ⟨ex,[(46,.cells r.cells)]⟩:=by
  have hk:=lookA_two acc [114,117,97]
  simp only [mdRua,kRua]
  cases hf:findP acc [114,117,97] with
  | none =>
    rw [hf] at hk
    simp only
    have e:=fun ex h h'=>pd_6 (Γ:=Γ) h150 h155 acc ha r ex h h'
    simp -implicitDefEqProofs [f_dmarc_Parse_7,lk_rmFi,h4,h6,hk,valV]
    refine e _ ?_ ?_ <;> simp [lk_rmFi,h4,h6]
  | some v =>
    rw [hf] at hk
    have hv:=ha _ (findP_in hf)
    have k:con_dmURIs [.str v]=some (.sl 1 (strsA (uris v))):=if_pos hv
    simp only
    have e:=fun ex h h'=>pd_6 (Γ:=Γ) h150 h155 acc ha { r with rua:=some (uris v) } ex h h'
    simp only [DR.cells] at e
    simp -implicitDefEqProofs [f_dmarc_Parse_7,lk_rmFi,h4,h6,hk,valV,acall,h155,k,DR.cells]
    refine e _ ?_ ?_ <;> simp [lk_rmFi,h4,h6]

include h153 h50
theorem pd_3 (acc:List KVp) (ha:valsOk acc) (r:DR) (a b:AV) (hab:valV (findP acc kRi)=.tup [a,b]) :
    awp Γ f_dmarc_Parse_3 (thenQ (awp Γ f_dmarc_Parse_7 (mdQ (mdRi acc r))) (mdQ (mdRi acc r))) ⟨[(4,.mp (pmA acc)),(6,.ref 46 0),(24,a),(25,b)],[(46,.cells r.cells)]⟩:=by
  simp only [mdRi]
  cases hf:findP acc kRi with
  | none =>
    rw [hf] at hab
    simp [valV] at hab
    obtain ⟨rfl,rfl⟩:=hab
    simp only
    simp -implicitDefEqProofs [f_dmarc_Parse_3]
    exact pd_7 h150 h155 acc ha r _ rfl rfl
  | some v =>
    rw [hf] at hab
    simp [valV] at hab
    obtain ⟨rfl,rfl⟩:=hab
    have hv:=ha _ (findP_in hf)
    have k:con_Atoi [.str v]=some (atoiV v):=if_pos hv.1
    simp only [atoiV] at k
    simp only
    cases hq:Go.Lib.atoiAll v with
    | ok n =>
      rw [hq] at k
      simp only at k ⊢
      by_cases hn:n≤0
      · rw [if_pos hn]
        simp -implicitDefEqProofs [f_dmarc_Parse_3,acall,h153,k,hn,h50,con_errorsNew,mdV,eN,mRi2,mRi]
      · rw [if_neg hn]
        have e:=pd_7 (Γ:=Γ) h150 h155 acc ha { r with ri:=n } [(4,.mp (pmA acc)),(6,.ref 46 0)] rfl rfl
        simp only [DR.cells] at e
        simp -implicitDefEqProofs [f_dmarc_Parse_3,acall,h153,k,hn,DR.cells]
        exact e
    | range =>
      rw [hq] at k
      simp only at k ⊢
      simp -implicitDefEqProofs [f_dmarc_Parse_3,acall,h153,k,h50,con_errorsNew,mdV,eN,mRi]
    | _ =>
      rw [hq] at k
      simp only at k ⊢
      simp -implicitDefEqProofs [f_dmarc_Parse_3,acall,h153,k,h50,con_errorsNew,mdV,eN,mRi]

theorem pd_8 (acc:List KVp) (ha:valsOk acc) (r:DR) (ex:List (Nat × AV)) (h4:lk ex 4=.mp (pmA acc)) (h6:lk ex 6=.ref 46 0):awp Γ f_dmarc_Parse_8 (mdQ (mdRi acc r)) ⟨ex,[(46,.cells r.cells)]⟩:=by
  have hk:=lookA_two acc [114,105]
  obtain ⟨a,b,hab⟩:∃ a b,valV (findP acc kRi)=.tup [a,b]:=by cases findP acc kRi <;> exact ⟨_,_,rfl⟩
  have hab':=hab
  rw [kRi] at hab'
  rw [hab'] at hk
  obtain ⟨_,_,ha2,hb2⟩:=valV_tup hab
  simp -implicitDefEqProofs [f_dmarc_Parse_8,lk_rmFi,h4,h6,hk,ha2,hb2]
  exact pd_3 h150 h153 h155 h50 acc ha r a b hab

theorem pd_8b (acc:List KVp) (ha:valsOk acc) (r:DR) (L:List L8) (ex:List (Nat × AV)) (h4:lk ex 4=.mp (pmA acc)) (h6:lk ex 6=.ref 46 0) :
    awp Γ f_dmarc_Parse_8 (mdQ (mdRi acc { r with rf:=some L })) ⟨ex,[(158,.cells (strsA L)),(154,.cells (strsA L)),(46,.cells [.str r.dk,.str r.sp,.int .i64 r.fo,.str r.p,pctA r.pct,.msl 158 1 0 L.length,.int .i64 r.ri,slO r.rua,slO r.ruf,.str r.sub])]⟩:=by
  have hk:=lookA_two acc [114,105]
  obtain ⟨a,b,hab⟩:∃ a b,valV (findP acc kRi)=.tup [a,b]:=by cases findP acc kRi <;> exact ⟨_,_,rfl⟩
  have hab':=hab
  rw [kRi] at hab'
  obtain ⟨ha1,hb1,ha2,hb2⟩:=valV_tup hab
  rw [hab'] at hk
  have e:=pd_3 h150 h153 h155 h50 acc ha { r with rf:=some L } a b hab
  simp only [DR.cells] at e
  simp -implicitDefEqProofs [f_dmarc_Parse_8,lk_rmFi,h4,h6,hk,ha1,hb1,ha2,hb2,List.take_of_length_le]
  exact e

include s154
theorem pd_2 (acc:List KVp) (ha:valsOk acc) (r:DR) (a b:AV) (hab:valV (findP acc kRf)=.tup [a,b]) :
    awp Γ f_dmarc_Parse_2 (thenQ (awp Γ f_dmarc_Parse_8 (mdQ (mdRf acc r))) (mdQ (mdRf acc r))) ⟨[(4,.mp (pmA acc)),(6,.ref 46 0),(19,a),(20,b)],[(46,.cells r.cells)]⟩:=by
  simp only [mdRf]
  cases hf:findP acc kRf with
  | none =>
    rw [hf] at hab
    simp [valV] at hab
    obtain ⟨rfl,rfl⟩:=hab
    simp only
    simp -implicitDefEqProofs [f_dmarc_Parse_2]
    exact pd_8 h150 h153 h155 h50 acc ha r _ rfl rfl
  | some v =>
    rw [hf] at hab
    simp [valV] at hab
    obtain ⟨rfl,rfl⟩:=hab
    have hv:=ha _ (findP_in hf)
    simp only at hv
    have hsp:con_zzSplit [.str v,.str [58]] []=some (.msl 0 1 0 (splitB 58 v).length,[(0,.cells (strsA (splitB 58 v)))]):=if_pos hv.1
    have hl:=splitB_length 58 v
    have hv1:=hv.1
    simp only [mid] at hv1
    simp only
    generalize splitB 58 v=L at *
    have hL1:L.all (fun s=>decide (s=sAfrf))=true→(if L.all (fun s=>decide (s=sAfrf))=true then mdRi acc { r with rf:=some L } else .inl (eN mRf))=mdRi acc { r with rf:=some L }:=fun h=>if_pos h
    have hL2:L.all (fun s=>decide (s=sAfrf))=false→(if L.all (fun s=>decide (s=sAfrf))=true then mdRi acc { r with rf:=some L } else .inl (eN mRf))=.inl (eN mRf):=fun h=>by rw [h]; rfl
    generalize (if L.all (fun s=>decide (s=sAfrf))=true then mdRi acc { r with rf:=some L } else .inl (eN mRf))=X at *
    have hbound:((L.length:Int).toNat+1) * 17 < 35184372088832∧(L.length:Int).toNat < 35184372088832:=by omega
    simp -implicitDefEqProofs [f_dmarc_Parse_2,acallS,s154,hsp,DR.cells]
    refine ⟨by omega,?_⟩
    refine awp_loop2 (σ:=List L8 × List L8) (fun p=>⟨[(4,.mp (pmA acc)),(6,.ref 46 0),(161,.msl 154 1 0 L.length),(162,.int .i64 L.length),(163,.int .i64 p.1.length)],[(158,.cells (strsA p.1++List.replicate p.2.length (.str []))),(154,.cells (strsA L)),(46,.cells [.str r.dk,.str r.sp,.int .i64 r.fo,.str r.p,pctA r.pct,.msl 158 1 0 L.length,.int .i64 r.ri,slO r.rua,slO r.ruf,.str r.sub])]⟩)
      (fun p=>L=p.1++p.2∧p.1.all (fun s=>decide (s=sAfrf))=true) (fun p=>p.2.length) ([],L) ?_ (by simp) ?_
    · simp
    rintro ⟨pre,post⟩ ⟨e1,e2⟩ LQ hLQ
    simp only at e1 e2
    cases post with
    | nil =>
      simp only [List.append_nil] at e1
      subst e1
      rw [hL1 e2]
      have e:=fun ex h h'=>pd_8b (Γ:=Γ) h150 h153 h155 h50 acc ha r L ex h h'
      simp -implicitDefEqProofs [b_dmarc_Parse_1]
      refine e _ ?_ ?_ <;> simp
    | cons x post =>
      have hlen:L.length=pre.length+(post.length+1):=by rw [e1]; simp
      have hlt':(pre.length:Int) < (L.length:Int):=by omega
      have hlt:pre.length < L.length:=by omega
      have g3:L[pre.length]? = some x:=by rw [e1]; exact get_mid rfl
      have ew:IntKind.i64.wrap ((pre.length:Int)+1)=(pre.length:Int)+1:=wrap64 (by omega) (by omega)
      by_cases hx:x=sAfrf
      · subst hx
        have hb:pre.length < pre.length+(post.length+1):=by omega
        have fin:∀ st,norm [4,6,161,162,163] st=⟨[(4,.mp (pmA acc)),(6,.ref 46 0),(161,.msl 154 1 0 L.length),(162,.int .i64 L.length),(163,.int .i64 ((pre.length:Int)+1))],[(158,.cells (strsA pre++(.str sAfrf::List.replicate post.length (.str [])))),(154,.cells (strsA L)),(46,.cells [.str r.dk,.str r.sp,.int .i64 r.fo,.str r.p,pctA r.pct,.msl 158 1 0 L.length,.int .i64 r.ri,slO r.rua,slO r.ruf,.str r.sub])]⟩→LQ st:=by
          intro st hst
          refine hLQ (pre++[sAfrf],post) ⟨by rw [e1]; simp,by simp [e2]⟩ (by simp) st ?_
          rw [hst]; simp
        have gdrop:L.drop pre.length=sAfrf::post:=by rw [e1]; simp
        simp only [sAfrf] at g3 fin gdrop
        simp -implicitDefEqProofs [b_dmarc_Parse_1,hlt,hlt',g3,gdrop,ew,List.replicate_succ]
        exact fin _ (by simp)
      · have hf2:L.all (fun s=>decide (s=sAfrf))=false:=by rw [e1]; simp [hx]
        rw [hL2 hf2]
        have gdrop:L.drop pre.length=x::post:=by rw [e1]; simp
        simp only [sAfrf] at hx
        simp -implicitDefEqProofs [b_dmarc_Parse_1,hlt,hlt',g3,gdrop,hx,acall,h50,con_errorsNew,mdV,eN,mRf]
end
end Wax


namespace Wax
open Go (IntKind)

def sArc:L8:=[97,114,99]
def sAuth:L8:=[97,117,116,104]
def sDkim:L8:=[100,107,105,109]
def sDomk:L8:=[100,111,109,97,105,110,107,101,121,115]
def sIprev:L8:=[105,112,114,101,118]
def sSender:L8:=[115,101,110,100,101,114,45,105,100]
def sSpf:L8:=[115,112,102]
def sDmarc:L8:=[100,109,97,114,99]
def sNone0:L8:=[110,111,110,101]
def qReason:L8:=[114,101,97,115,111,110]
def qAuth:L8:=[115,109,116,112,46,97,117,116,104]
def qD:L8:=[104,101,97,100,101,114,46,100]
def qI:L8:=[104,101,97,100,101,114,46,105]
def qFrom:L8:=[104,101,97,100,101,114,46,102,114,111,109]
def qSend:L8:=[104,101,97,100,101,114,46,115,101,110,100,101,114]
def qIprev:L8:=[112,111,108,105,99,121,46,105,112,114,101,118]
def qHead:L8:=[104,101,97,100,101,114,46]
def qMail:L8:=[115,109,116,112,46,109,97,105,108,102,114,111,109]
def qHelo:L8:=[115,109,116,112,46,104,101,108,111]
def qOld:L8:=[104,101,97,100,101,114,46,111,108,100,101,115,116,45,112,97,115,115]
def qRem:L8:=[115,109,116,112,46,114,101,109,111,116,101,45,105,112]
def mArc1:L8:=[105,110,118,97,108,105,100,32,104,101,97,100,101,114,46,111,108,100,101,115,116,45,112,97,115,115,32,112,97,114,97,109]
def mArc2:L8:=[105,110,118,97,108,105,100,32,104,101,97,100,101,114,46,111,108,100,101,115,116,45,112,97,115,115,32,112,97,114,97,109,58,32,109,117,115,116,32,98,101,32,62,61,32,49]

def asPm:List (L8 × AV)→Option (List KVp)
  | []=>some []
  | (k,.str v)::r=>(asPm r).map ((k,v) :: ·)
  | _::_=>none
theorem asPm_pmA:∀ l:List KVp,asPm (pmA l)=some l
  | []=>rfl
  | (k,v)::r=>by
    have:=asPm_pmA r
    simp only [pmA,List.map_cons,asPm] at this ⊢
    rw [this]; rfl
theorem asPm_spec:∀ {es:List (L8 × AV)} {l:List KVp},asPm es=some l→es=pmA l
  | [],l,h=>by simp [asPm] at h; subst h; rfl
  | (k,v)::r,l,h=>by
    cases v <;> simp [asPm] at h
    obtain ⟨q,h1,rfl⟩:=h
    rw [asPm_spec h1]; rfl
def con_pAuth:List AV→List (Nat × AObj)→Option (AV × List (Nat × AObj))
  | [.ref 0 0,.str v,.mref 1],[(0,.cells [.str _,.str _,.str _]),(1,.mp es)]=>match asPm es with
    | some l=>some (.nilI,[(0,.cells [.str v,.str (lookP l qReason),.str (lookP l qAuth)]),(1,.mp (pmA l))])
    | none=>none
  | _,_=>none
theorem ok_pAuth (Γ:Gam):∀ args hp q,con_pAuth args hp=some q→runsS Γ c_authres_AuthResult_parse args hp (fun v=>v=some q):=by
  intro args hp q h
  simp only [con_pAuth] at h
  split at h <;> (try simp at h; done)
  split at h <;> (try simp at h; done)
  rename_i l hl
  injection h with h; subst h
  rw [asPm_spec hl]
  simp -implicitDefEqProofs [c_authres_AuthResult_parse,lookA_pmA,reach_succ,qAuth,qReason]

def con_pDKIM:List AV→List (Nat × AObj)→Option (AV × List (Nat × AObj))
  | [.ref 0 0,.str v,.mref 1],[(0,.cells [.str _,.str _,.str _,.str _]),(1,.mp es)]=>match asPm es with
    | some l=>some (.nilI,[(0,.cells [.str v,.str (lookP l qReason),.str (lookP l qD),.str (lookP l qI)]),(1,.mp (pmA l))])
    | none=>none
  | _,_=>none
theorem ok_pDKIM (Γ:Gam):∀ args hp q,con_pDKIM args hp=some q→runsS Γ c_authres_DKIMResult_parse args hp (fun v=>v=some q):=by
  intro args hp q h
  simp only [con_pDKIM] at h
  split at h <;> (try simp at h; done)
  split at h <;> (try simp at h; done)
  rename_i l hl
  injection h with h; subst h
  rw [asPm_spec hl]
  simp -implicitDefEqProofs [c_authres_DKIMResult_parse,lookA_pmA,reach_succ,qD,qI,qReason]

def con_pDomk:List AV→List (Nat × AObj)→Option (AV × List (Nat × AObj))
  | [.ref 0 0,.str v,.mref 1],[(0,.cells [.str _,.str _,.str _,.str _,.str _]),(1,.mp es)]=>match asPm es with
    | some l=>some (.nilI,[(0,.cells [.str v,.str (lookP l qReason),.str (lookP l qD),.str (lookP l qFrom),.str (lookP l qSend)]),(1,.mp (pmA l))])
    | none=>none
  | _,_=>none
theorem ok_pDomk (Γ:Gam):∀ args hp q,con_pDomk args hp=some q→runsS Γ c_authres_DomainKeysResult_parse args hp (fun v=>v=some q):=by
  intro args hp q h
  simp only [con_pDomk] at h
  split at h <;> (try simp at h; done)
  split at h <;> (try simp at h; done)
  rename_i l hl
  injection h with h; subst h
  rw [asPm_spec hl]
  simp -implicitDefEqProofs [c_authres_DomainKeysResult_parse,lookA_pmA,reach_succ,qD,qFrom,qReason,qSend]

def con_pIprev:List AV→List (Nat × AObj)→Option (AV × List (Nat × AObj))
  | [.ref 0 0,.str v,.mref 1],[(0,.cells [.str _,.str _,.str _]),(1,.mp es)]=>match asPm es with
    | some l=>some (.nilI,[(0,.cells [.str v,.str (lookP l qReason),.str (lookP l qIprev)]),(1,.mp (pmA l))])
    | none=>none
  | _,_=>none
theorem ok_pIprev (Γ:Gam):∀ args hp q,con_pIprev args hp=some q→runsS Γ c_authres_IPRevResult_parse args hp (fun v=>v=some q):=by
  intro args hp q h
  simp only [con_pIprev] at h
  split at h <;> (try simp at h; done)
  split at h <;> (try simp at h; done)
  rename_i l hl
  injection h with h; subst h
  rw [asPm_spec hl]
  simp -implicitDefEqProofs [c_authres_IPRevResult_parse,lookA_pmA,reach_succ,qIprev,qReason]

def con_pSpf:List AV→List (Nat × AObj)→Option (AV × List (Nat × AObj))
  | [.ref 0 0,.str v,.mref 1],[(0,.cells [.str _,.str _,.str _,.str _]),(1,.mp es)]=>match asPm es with
    | some l=>some (.nilI,[(0,.cells [.str v,.str (lookP l qReason),.str (lookP l qMail),.str (lookP l qHelo)]),(1,.mp (pmA l))])
    | none=>none
  | _,_=>none
theorem ok_pSpf (Γ:Gam):∀ args hp q,con_pSpf args hp=some q→runsS Γ c_authres_SPFResult_parse args hp (fun v=>v=some q):=by
  intro args hp q h
  simp only [con_pSpf] at h
  split at h <;> (try simp at h; done)
  split at h <;> (try simp at h; done)
  rename_i l hl
  injection h with h; subst h
  rw [asPm_spec hl]
  simp -implicitDefEqProofs [c_authres_SPFResult_parse,lookA_pmA,reach_succ,qHelo,qMail,qReason]

def con_pDmarc:List AV→List (Nat × AObj)→Option (AV × List (Nat × AObj))
  | [.ref 0 0,.str v,.mref 1],[(0,.cells [.str _,.str _,.str _]),(1,.mp es)]=>match asPm es with
    | some l=>some (.nilI,[(0,.cells [.str v,.str (lookP l qReason),.str (lookP l qFrom)]),(1,.mp (pmA l))])
    | none=>none
  | _,_=>none
theorem ok_pDmarc (Γ:Gam):∀ args hp q,con_pDmarc args hp=some q→runsS Γ c_authres_DMARCResult_parse args hp (fun v=>v=some q):=by
  intro args hp q h
  simp only [con_pDmarc] at h
  split at h <;> (try simp at h; done)
  split at h <;> (try simp at h; done)
  rename_i l hl
  injection h with h; subst h
  rw [asPm_spec hl]
  simp -implicitDefEqProofs [c_authres_DMARCResult_parse,lookA_pmA,reach_succ,qFrom,qReason]

def con_nArc:List AV→List (Nat × AObj)→Option (AV × List (Nat × AObj))
  | [],[]=>some (.ifc 7 (.ref 0 0),[(0,.cells [.str [],.str [],.int .i64 0])])
  | _,_=>none
theorem ok_nArc (Γ:Gam):∀ args hp q,con_nArc args hp=some q→runsS Γ c_authres_newResults_1 args hp (fun v=>v=some q):=by
  intro args hp q h
  simp only [con_nArc] at h
  split at h <;> (try simp at h; done)
  injection h with h; subst h
  simp -implicitDefEqProofs [c_authres_newResults_1,reach_succ]

def con_nAuth:List AV→List (Nat × AObj)→Option (AV × List (Nat × AObj))
  | [],[]=>some (.ifc 8 (.ref 0 0),[(0,.cells [.str [],.str [],.str []])])
  | _,_=>none
theorem ok_nAuth (Γ:Gam):∀ args hp q,con_nAuth args hp=some q→runsS Γ c_authres_newResults_2 args hp (fun v=>v=some q):=by
  intro args hp q h
  simp only [con_nAuth] at h
  split at h <;> (try simp at h; done)
  injection h with h; subst h
  simp -implicitDefEqProofs [c_authres_newResults_2,reach_succ]

def con_nDKIM:List AV→List (Nat × AObj)→Option (AV × List (Nat × AObj))
  | [],[]=>some (.ifc 9 (.ref 0 0),[(0,.cells [.str [],.str [],.str [],.str []])])
  | _,_=>none
theorem ok_nDKIM (Γ:Gam):∀ args hp q,con_nDKIM args hp=some q→runsS Γ c_authres_newResults_3 args hp (fun v=>v=some q):=by
  intro args hp q h
  simp only [con_nDKIM] at h
  split at h <;> (try simp at h; done)
  injection h with h; subst h
  simp -implicitDefEqProofs [c_authres_newResults_3,reach_succ]

def con_nDomk:List AV→List (Nat × AObj)→Option (AV × List (Nat × AObj))
  | [],[]=>some (.ifc 10 (.ref 0 0),[(0,.cells [.str [],.str [],.str [],.str [],.str []])])
  | _,_=>none
theorem ok_nDomk (Γ:Gam):∀ args hp q,con_nDomk args hp=some q→runsS Γ c_authres_newResults_4 args hp (fun v=>v=some q):=by
  intro args hp q h
  simp only [con_nDomk] at h
  split at h <;> (try simp at h; done)
  injection h with h; subst h
  simp -implicitDefEqProofs [c_authres_newResults_4,reach_succ]

def con_nIprev:List AV→List (Nat × AObj)→Option (AV × List (Nat × AObj))
  | [],[]=>some (.ifc 11 (.ref 0 0),[(0,.cells [.str [],.str [],.str []])])
  | _,_=>none
theorem ok_nIprev (Γ:Gam):∀ args hp q,con_nIprev args hp=some q→runsS Γ c_authres_newResults_5 args hp (fun v=>v=some q):=by
  intro args hp q h
  simp only [con_nIprev] at h
  split at h <;> (try simp at h; done)
  injection h with h; subst h
  simp -implicitDefEqProofs [c_authres_newResults_5,reach_succ]

def con_nSender:List AV→List (Nat × AObj)→Option (AV × List (Nat × AObj))
  | [],[]=>some (.ifc 12 (.ref 0 0),[(0,.cells [.str [],.str [],.str [],.str []])])
  | _,_=>none
theorem ok_nSender (Γ:Gam):∀ args hp q,con_nSender args hp=some q→runsS Γ c_authres_newResults_6 args hp (fun v=>v=some q):=by
  intro args hp q h
  simp only [con_nSender] at h
  split at h <;> (try simp at h; done)
  injection h with h; subst h
  simp -implicitDefEqProofs [c_authres_newResults_6,reach_succ]

def con_nSpf:List AV→List (Nat × AObj)→Option (AV × List (Nat × AObj))
  | [],[]=>some (.ifc 13 (.ref 0 0),[(0,.cells [.str [],.str [],.str [],.str []])])
  | _,_=>none
theorem ok_nSpf (Γ:Gam):∀ args hp q,con_nSpf args hp=some q→runsS Γ c_authres_newResults_7 args hp (fun v=>v=some q):=by
  intro args hp q h
  simp only [con_nSpf] at h
  split at h <;> (try simp at h; done)
  injection h with h; subst h
  simp -implicitDefEqProofs [c_authres_newResults_7,reach_succ]

def con_nDmarc:List AV→List (Nat × AObj)→Option (AV × List (Nat × AObj))
  | [],[]=>some (.ifc 14 (.ref 0 0),[(0,.cells [.str [],.str [],.str []])])
  | _,_=>none
theorem ok_nDmarc (Γ:Gam):∀ args hp q,con_nDmarc args hp=some q→runsS Γ c_authres_newResults_8 args hp (fun v=>v=some q):=by
  intro args hp q h
  simp only [con_nDmarc] at h
  split at h <;> (try simp at h; done)
  injection h with h; subst h
  simp -implicitDefEqProofs [c_authres_newResults_8,reach_succ]

def con_pGen:List AV→List (Nat × AObj)→Option (AV × List (Nat × AObj))
  | [.ref 0 0,.str v,.mref 1],[(0,.cells [.str m,.str _,.mref 1]),(1,.mp es)]=>some (.nilI,[(0,.cells [.str m,.str v,.mref 1]),(1,.mp es)])
  | _,_=>none
theorem ok_pGen (Γ:Gam):∀ args hp q,con_pGen args hp=some q→runsS Γ c_authres_GenericResult_parse args hp (fun v=>v=some q):=by
  intro args hp q h
  simp only [con_pGen] at h
  split at h <;> (try simp at h; done)
  injection h with h; subst h
  simp -implicitDefEqProofs [c_authres_GenericResult_parse,reach_succ]

def arcOf (l:List KVp):L8 ⊕ Int:=match findP l qOld with
  | none=>.inr 0
  | some s=>match Go.Lib.atoiAll s with
    | .ok v=>if v≤0 then .inl mArc2 else .inr v
    | _=>.inl mArc1
theorem lookA_findP (l:List KVp) (k:L8):lookA (pmA l) k (.str []) true=match findP l k with | some v=>.tup [.str v,.bool true] | none=>.tup [.str [],.bool false]:=by
  induction l with
  | nil=>rfl
  | cons t r ih =>
    obtain ⟨i,v⟩:=t
    by_cases h:k=i
    · simp [pmA,lookA,mfind,findP,h]
    · have h2:¬ i=k:=fun e=>h e.symm
      simp only [pmA,lookA,List.map_cons,mfind,findP,if_neg h,if_neg h2] at ih ⊢
      exact ih
def con_pArc:List AV→List (Nat × AObj)→Option (AV × List (Nat × AObj))
  | [.ref 0 0,.str v,.mref 1],[(0,.cells [.str a,.str b,.int .i64 c]),(1,.mp es)]=>match asPm es with
    | some l=>if ∀ q∈l,q.2.length < mid then some (match arcOf l with
      | .inr n=>(.nilI,[(0,.cells [.str v,.str (lookP l qRem),.int .i64 n]),(1,.mp (pmA l))])
      | .inl m=>(.ifc 3 (.ptr [.str m]),[(0,.cells [.str a,.str b,.int .i64 c]),(1,.mp (pmA l))])) else none
    | none=>none
  | _,_=>none
set_option maxHeartbeats 1000000 in
theorem ok_pArc (Γ:Gam) (h153:Γ.fn 153=con_Atoi) (h50:Γ.fn 50=con_errorsNew):∀ args hp q,con_pArc args hp=some q→runsS Γ c_authres_ARCResult_parse args hp (fun v=>v=some q):=by
  intro args hp q h
  simp only [con_pArc] at h
  split at h <;> (try simp at h; done)
  rename_i v a b c es
  split at h <;> (try simp at h; done)
  rename_i l hl
  obtain ⟨hb,rfl⟩:=ite_some h
  clear h
  rw [asPm_spec hl]
  have e:=lookA_findP l qOld
  have eR:=lookA_pmA l qRem
  simp only [qOld] at e
  simp only [qRem] at eR
  cases hf:findP l qOld with
  | none =>
    have hf':=hf
    simp only [qOld] at hf'
    rw [hf'] at e
    simp -implicitDefEqProofs [c_authres_ARCResult_parse,e,eR,reach_succ,arcOf,hf,qRem]
  | some s =>
    have hs:s.length < mid:=hb _ (findP_in hf)
    have hf':=hf
    simp only [qOld] at hf'
    rw [hf'] at e
    have k:con_Atoi [.str s]=some (atoiV s):=if_pos hs
    have bad:atoiV s=.tup [.int .i64 0,.ifc 4 .junk]∨(∃ z,atoiV s=.tup [.int .i64 z,.ifc 4 .junk])→arcOf l=.inl mArc1→runsS Γ c_authres_ARCResult_parse [.ref 0 0,.str v,.mref 1] [(0,.cells [.str a,.str b,.int .i64 c]),(1,.mp (pmA l))] (fun v=>v=some (.ifc 3 (.ptr [.str mArc1]),[(0,.cells [.str a,.str b,.int .i64 c]),(1,.mp (pmA l))])):=by
      intro h1 h2
      obtain ⟨z,hz⟩:∃ z,atoiV s=.tup [.int .i64 z,.ifc 4 .junk]:=by
        rcases h1 with h1 | h1
        · exact ⟨0,h1⟩
        · exact h1
      rw [hz] at k
      simp -implicitDefEqProofs [c_authres_ARCResult_parse,e,acall,h153,k,h50,con_errorsNew,reach_succ,mArc1]
    cases ha:Go.Lib.atoiAll s with
    | ok n =>
      have ez:atoiV s=.tup [.int .i64 n,.nilI]:=by simp only [atoiV,ha]
      rw [ez] at k
      by_cases hn:n≤0
      · have ea:arcOf l=.inl mArc2:=by simp [arcOf,hf,ha,hn]
        rw [ea]
        simp -implicitDefEqProofs [c_authres_ARCResult_parse,e,acall,h153,k,h50,con_errorsNew,reach_succ,mArc2,hn]
      · have ea:arcOf l=.inr n:=by simp [arcOf,hf,ha,hn]
        rw [ea]
        simp -implicitDefEqProofs [c_authres_ARCResult_parse,e,eR,acall,h153,k,h50,con_errorsNew,reach_succ,hn,qRem]
    | range =>
      have ea:arcOf l=.inl mArc1:=by simp [arcOf,hf,ha]
      rw [ea]
      exact bad (.inr ⟨Go.Lib.atoiSat s,by simp only [atoiV,ha]⟩) ea
    | _ =>
      have ea:arcOf l=.inl mArc1:=by simp [arcOf,hf,ha]
      rw [ea]
      exact bad (.inl (by simp only [atoiV,ha])) ea
end Wax

namespace Wax
open Go (IntKind)

inductive PR where
  | arc (v ip:L8) (o:Int)
  | auth (v r a:L8)
  | dkim (v r d i:L8)
  | domk (v r d f s:L8)
  | iprev (v r i:L8)
  | sender (v r k x:L8)
  | spf (v r f h:L8)
  | dmarc (v r f:L8)
  | gen (m v:L8) (ps:List KVp)

def PR.av:PR→AV
  | .arc v ip o=>.ifc 7 (.ptr [.str v,.str ip,.int .i64 o])
  | .auth v r a=>.ifc 8 (.ptr [.str v,.str r,.str a])
  | .dkim v r d i=>.ifc 9 (.ptr [.str v,.str r,.str d,.str i])
  | .domk v r d f s=>.ifc 10 (.ptr [.str v,.str r,.str d,.str f,.str s])
  | .iprev v r i=>.ifc 11 (.ptr [.str v,.str r,.str i])
  | .sender v r k x=>.ifc 12 (.ptr [.str v,.str r,.str k,.str x])
  | .spf v r f h=>.ifc 13 (.ptr [.str v,.str r,.str f,.str h])
  | .dmarc v r f=>.ifc 14 (.ptr [.str v,.str r,.str f])
  | .gen m v ps=>.ifc 15 (.ptr [.str m,.str v,.mp (pmA ps)])

def con_newResults:List AV→Option AV
  | [.str m]=>some (if m=sArc then .tup [.fn 175 [],.bool true] else if m=sAuth then .tup [.fn 176 [],.bool true] else if m=sDkim then .tup [.fn 177 [],.bool true]
      else if m=sDomk then .tup [.fn 178 [],.bool true] else if m=sIprev then .tup [.fn 179 [],.bool true] else if m=sSender then .tup [.fn 180 [],.bool true]
      else if m=sSpf then .tup [.fn 181 [],.bool true] else if m=sDmarc then .tup [.fn 182 [],.bool true] else .tup [.nilF,.bool false])
  | _=>none

theorem ok_newResults (Γ:Gam):∀ args r,con_newResults args=some r→runs Γ c_authres_newResults args (fun v=>v=r):=by
  intro args r h
  simp only [con_newResults] at h
  split at h <;> (try simp at h; done)
  rename_i m
  injection h with h; subst h
  simp only [sArc,sAuth,sDkim,sDomk,sIprev,sSender,sSpf,sDmarc]
  by_cases h1:m=[97,114,99]
  · subst h1; simp -implicitDefEqProofs [c_authres_newResults]
  by_cases h2:m=[97,117,116,104]
  · subst h2; simp -implicitDefEqProofs [c_authres_newResults]
  by_cases h3:m=[100,107,105,109]
  · subst h3; simp -implicitDefEqProofs [c_authres_newResults]
  by_cases h4:m=[100,111,109,97,105,110,107,101,121,115]
  · subst h4; simp -implicitDefEqProofs [c_authres_newResults]
  by_cases h5:m=[105,112,114,101,118]
  · subst h5; simp -implicitDefEqProofs [c_authres_newResults]
  by_cases h6:m=[115,101,110,100,101,114,45,105,100]
  · subst h6; simp -implicitDefEqProofs [c_authres_newResults]
  by_cases h7:m=[115,112,102]
  · subst h7; simp -implicitDefEqProofs [c_authres_newResults]
  by_cases h8:m=[100,109,97,114,99]
  · subst h8; simp -implicitDefEqProofs [c_authres_newResults]
  simp -implicitDefEqProofs [c_authres_newResults,h1,h2,h3,h4,h5,h6,h7,h8]

def headB (k:L8):Bool:=qHead.isPrefixOf k
def sidOf (l:List KVp):L8 × L8:=match (sortB (l.map (·.1))).find? headB with
  | some k=>(k.drop 7,lookP l k)
  | none=>([],[])

def prOf (m v:L8) (l:List KVp):L8 ⊕ PR :=
  if m=sArc then (match arcOf l with | .inl e=>.inl e | .inr n=>.inr (.arc v (lookP l qRem) n))
  else if m=sAuth then .inr (.auth v (lookP l qReason) (lookP l qAuth))
  else if m=sDkim then .inr (.dkim v (lookP l qReason) (lookP l qD) (lookP l qI))
  else if m=sDomk then .inr (.domk v (lookP l qReason) (lookP l qD) (lookP l qFrom) (lookP l qSend))
  else if m=sIprev then .inr (.iprev v (lookP l qReason) (lookP l qIprev))
  else if m=sSender then .inr (.sender v (lookP l qReason) (sidOf l).1 (sidOf l).2)
  else if m=sSpf then .inr (.spf v (lookP l qReason) (lookP l qMail) (lookP l qHelo))
  else if m=sDmarc then .inr (.dmarc v (lookP l qReason) (lookP l qFrom))
  else .inr (.gen m v l)

def prmsOf:List L8→List KVp→List KVp
  | [],acc=>acc
  | w::r,acc=>match kvOf w with
    | some p=>prmsOf r (psetL acc p.1 p.2)
    | none=>prmsOf r acc

def resAOf (s:L8):L8 ⊕ Option PR:=match wordsOf s with
  | []=>.inr none
  | w::r=>if w=sNone0 then .inr none else match kvOf w with
    | none=>.inl arMsg
    | some p=>match prOf p.1 (lowS p.2) (prmsOf r []) with
      | .inl e=>.inl e
      | .inr x=>.inr (some x)

def resAE (s:L8):AV:=match wordsOf s with
  | []=>.nilI
  | w::_=>if w=sNone0 then .nilI else match kvOf w with
    | none=>.nilI
    | some _=>.ifc 7 (.ptr [.str [],.str [],.int .i64 0])
def resAV (s:L8):AV:=match resAOf s with
  | .inl e=>.tup [resAE s,.ifc 3 (.ptr [.str e])]
  | .inr none=>.tup [.nilI,.nilI]
  | .inr (some x)=>.tup [x.av,.nilI]

def con_parseResult:List AV→Option AV
  | [.str s]=>if s.length < half∧plain s=true then some (resAV s) else none
  | _=>none
end Wax


namespace Wax
open Go (IntKind)

def con_HasPrefix:List AV→Option AV
  | [.str s,.str p]=>if s.length < big∧p.length < big then some (.bool (decide (p.length≤s.length) && decide (s.take p.length=p))) else none
  | _=>none
theorem ok_HasPrefix0 (Γ:Gam):∀ args r,con_HasPrefix args=some r→runs Γ c_stringslite_HasPrefix args (fun v=>v=r):=by
  intro args r h
  simp only [con_HasPrefix] at h
  split at h <;> (try simp at h; done)
  rename_i s p
  obtain ⟨⟨h1,h2⟩,rfl⟩:=ite_some h
  clear h
  by_cases hl:(p.length:Int)≤(s.length:Int)
  · have hl':p.length≤s.length:=by omega
    simp -implicitDefEqProofs [c_stringslite_HasPrefix,hl,hl']
  · have hl':¬ p.length≤s.length:=by omega
    simp -implicitDefEqProofs [c_stringslite_HasPrefix,hl,hl']
theorem ok_HasPrefix (Γ:Gam) (h198:Γ.fn 198=con_HasPrefix):∀ args r,con_HasPrefix args=some r→runs Γ c_strings_HasPrefix args (fun v=>v=r):=by
  intro args r h
  have h':=h
  simp only [con_HasPrefix] at h
  split at h <;> (try simp at h; done)
  rename_i s p
  obtain ⟨h1,rfl⟩:=ite_some h
  simp -implicitDefEqProofs [c_strings_HasPrefix,acall,h198,h']
def con_TrimPrefix:List AV→Option AV
  | [.str s,.str p]=>if s.length < big∧p.length < big then some (.str (if p.length≤s.length∧s.take p.length=p then s.drop p.length else s)) else none
  | _=>none
theorem ok_TrimPrefix0 (Γ:Gam) (h198:Γ.fn 198=con_HasPrefix):∀ args r,con_TrimPrefix args=some r→runs Γ c_stringslite_TrimPrefix args (fun v=>v=r):=by
  intro args r h
  simp only [con_TrimPrefix] at h
  split at h <;> (try simp at h; done)
  rename_i s p
  obtain ⟨h1,rfl⟩:=ite_some h
  have k:con_HasPrefix [.str s,.str p]=some (.bool (decide (p.length≤s.length) && decide (s.take p.length=p))):=if_pos h1
  by_cases hl:p.length≤s.length
  · by_cases ht:s.take p.length=p
    · simp [hl,ht] at k
      have hl2:(p.length:Int)≤(s.length:Int):=by omega
      simp -implicitDefEqProofs [c_stringslite_TrimPrefix,acall,h198,k,hl,ht,hl2]
    · simp [hl,ht] at k
      simp -implicitDefEqProofs [c_stringslite_TrimPrefix,acall,h198,k,hl,ht]
  · simp [hl] at k
    simp -implicitDefEqProofs [c_stringslite_TrimPrefix,acall,h198,k,hl]
theorem ok_TrimPrefix (Γ:Gam) (h199:Γ.fn 199=con_TrimPrefix):∀ args r,con_TrimPrefix args=some r→runs Γ c_strings_TrimPrefix args (fun v=>v=r):=by
  intro args r h
  have h':=h
  simp only [con_TrimPrefix] at h
  split at h <;> (try simp at h; done)
  rename_i s p
  obtain ⟨h1,rfl⟩:=ite_some h
  simp -implicitDefEqProofs [c_strings_TrimPrefix,acall,h199,h']

theorem headB_iff {k:L8}:headB k=(decide (7≤k.length) && decide (k.take 7=qHead)):=by
  have e:qHead.length=7:=rfl
  unfold headB
  by_cases h:7≤k.length
  · rw [isPrefixOf_take qHead k (by rw [e]; exact h),e]; simp [h]
  · rw [isPrefixOf_long qHead k (by rw [e]; omega)]; simp [h]

def con_pSender:List AV→List (Nat × AObj)→Option (AV × List (Nat × AObj))
  | [.ref 0 0,.str v,.mref 1],[(0,.cells [.str _,.str _,.str [],.str []]),(1,.mp es)]=>match asPm es with
    | some l=>if l.length < half∧∀ q∈l,q.1.length < half then some (.nilI,[(0,.cells [.str v,.str (lookP l qReason),.str (sidOf l).1,.str (sidOf l).2])]) else none
    | none=>none
  | _,_=>none

set_option maxHeartbeats 1000000 in
theorem ok_pSender (Γ:Gam) (h48:Γ.fn 48=con_Keys) (h49:Γ.fn 49=con_Sorted) (h158:Γ.fn 158=con_HasPrefix) (h192:Γ.fn 192=con_TrimPrefix) :
    ∀ args hp q,con_pSender args hp=some q→runsS Γ c_authres_SenderIDResult_parse args hp (fun v=>v=some q):=by
  intro args hp q h
  simp only [con_pSender] at h
  split at h <;> (try simp at h; done)
  rename_i v a b es
  split at h <;> (try simp at h; done)
  rename_i l hl
  obtain ⟨⟨hb1,hb2⟩,rfl⟩:=ite_some h
  clear h
  rw [asPm_spec hl]
  have eR:=lookA_pmA l qReason
  simp only [qReason] at eR
  have k49:con_Sorted [.fn 55 [.bx [.mp (pmA l)]]]=some (strV (sortB (l.map (·.1)))):=by
    have e1:(pmA l).map (·.1)=l.map (·.1):=by simp [pmA,Function.comp_def]
    simp only [con_Sorted,e1]
    refine if_pos ⟨by simpa [pmA] using hb1,fun q hq=>?_⟩
    simp only [pmA,List.mem_map] at hq
    obtain ⟨z,hz,rfl⟩:=hq
    exact hb2 z hz
  have hkl:∀ k∈sortB (l.map (·.1)),k.length < half:=by
    intro k hk
    have:k∈l.map (·.1):=by simpa [sortB] using hk
    obtain ⟨z,hz,rfl⟩:=List.mem_map.1 this
    exact hb2 z hz
  have hsl:(sortB (l.map (·.1))).length < half:=by simpa [sortB] using hb1
  have hp1:=slf_ref (slStrs_strV (l:=sortB (l.map (·.1))))
  have hp2:=slf_alen (slStrs_strV (l:=sortB (l.map (·.1))))
  have hsv:=slStrs_strV (l:=sortB (l.map (·.1)))
  simp -implicitDefEqProofs [-alen,c_authres_SenderIDResult_parse,eR,reach_succ,acall,h48,con_Keys,h49,k49,hp1,hp2]
  simp only [sidOf]
  generalize sortB (l.map (·.1))=ks at *
  simp only [half] at hsl
  refine awp_loop2 (σ:=List L8 × List L8) (fun p=>⟨[(0,.ref 1000000 0),(2,.mp (pmA l)),(20,strV ks),(21,.int .i64 ks.length),(22,.int .i64 p.1.length)],[(1000000,.cells [.str v,.str (lookP l qReason),(.str []),(.str [])])]⟩)
    (fun p=>ks=p.1++p.2∧∀ k∈p.1,headB k=false) (fun p=>p.2.length) ([],ks) ?_ (by simp) ?_
  · simp [qReason]
  rintro ⟨pre,post⟩ ⟨hs1,hs2⟩ LQ hLQ
  simp only at hs1 hs2
  cases post with
  | nil =>
    simp only [List.append_nil] at hs1
    subst hs1
    have hn:List.find? headB ks=none:=List.find?_eq_none.2 fun k hk=>by simp [hs2 k hk]
    have hnl:¬ ((ks.length:Int) < (ks.length:Int)):=by omega
    simp -implicitDefEqProofs [-alen,hn,reach_succ,qReason]
  | cons x post =>
    have hu:=slf_ne hsv (by rw [hs1]; simp)
    rw [hu] at hLQ ⊢
    have hlen:ks.length=pre.length+(post.length+1):=by rw [hs1]; simp
    have hlt:(pre.length:Int) < (ks.length:Int):=by omega
    have hlt2:pre.length < ks.length:=by omega
    have g2:(strsA ks)[pre.length]? = some (.str x):=by rw [hs1]; simp only [strsA_app,strsA_cons]; exact get_mid (by simp)
    have g3:ks[pre.length]? = some x:=by rw [hs1]; exact get_mid rfl
    have hxl:=hkl x (by rw [hs1]; simp)
    have ew:IntKind.i64.wrap ((pre.length:Int)+1)=(pre.length:Int)+1:=wrap64 (by omega) (by omega)
    have hxb:x.length < big∧([104,101,97,100,101,114,46]:L8).length < big:=by simp only [half,big] at *; simp; omega
    have k1:con_HasPrefix [.str x,.str [104,101,97,100,101,114,46]]=some (.bool (headB x)):=by
      rw [headB_iff]; exact if_pos hxb
    cases hh:headB x with
    | false =>
      rw [hh] at k1
      simp -implicitDefEqProofs [-alen,hlt,g2,g3,acall,h158,k1,ew,qReason]
      refine hLQ (pre++[x],post) ⟨by rw [hs1]; simp,fun k hk=>?_⟩ (by simp) _ ?_
      · rcases List.mem_append.1 hk with hk | hk
        · exact hs2 k hk
        · simp at hk; rw [hk]; exact hh
      · simp [qReason]
    | true =>
      rw [hh] at k1
      have hf:List.find? headB ks=some x:=by
        rw [hs1,List.find?_append]
        have:List.find? headB pre=none:=List.find?_eq_none.2 fun k hk=>by simp [hs2 k hk]
        simp [this,hh]
      have hp:=hh
      rw [headB_iff] at hp
      simp only [Bool.and_eq_true,decide_eq_true_eq] at hp
      have k2:con_TrimPrefix [.str x,.str [104,101,97,100,101,114,46]]=some (.str (x.drop 7)):=by
        simp only [con_TrimPrefix]
        rw [if_pos hxb,if_pos]
        · rfl
        · exact hp
      simp -implicitDefEqProofs [-alen,hlt,g2,g3,acall,h158,k1,h192,k2,lookA_pmA,hf,reach_succ,qReason]
end Wax


namespace Wax
open Go (IntKind)

def nP:String := "given.example/pub-waxseal/pub/msgauth/authres.parse"
structure ArG (Γ:Gam):Prop where
  m7:Γ.mth 7 nP=some 195
  m8:Γ.mth 8 nP=some 187
  m9:Γ.mth 9 nP=some 188
  m10:Γ.mth 10 nP=some 189
  m11:Γ.mth 11 nP=some 190
  m12:Γ.mth 12 nP=some 191
  m13:Γ.mth 13 nP=some 193
  m14:Γ.mth 14 nP=some 194
  m15:Γ.mth 15 nP=some 196
  s175:Γ.st 175=con_nArc
  s176:Γ.st 176=con_nAuth
  s177:Γ.st 177=con_nDKIM
  s178:Γ.st 178=con_nDomk
  s179:Γ.st 179=con_nIprev
  s180:Γ.st 180=con_nSender
  s181:Γ.st 181=con_nSpf
  s182:Γ.st 182=con_nDmarc
  s187:Γ.st 187=con_pAuth
  s188:Γ.st 188=con_pDKIM
  s189:Γ.st 189=con_pDomk
  s190:Γ.st 190=con_pIprev
  s191:Γ.st 191=con_pSender
  s193:Γ.st 193=con_pSpf
  s194:Γ.st 194=con_pDmarc
  s195:Γ.st 195=con_pArc
  s196:Γ.st 196=con_pGen

def PsOk (l:List KVp):Prop:=l.length < half∧(∀ q∈l,q.1.length < half)∧∀ q∈l,q.2.length < mid

def prAV (m v:L8) (l:List KVp):AV:=match prOf m v l with
  | .inl e=>.tup [.ifc 7 (.ptr [.str [],.str [],.int .i64 0]),.ifc 3 (.ptr [.str e])]
  | .inr x=>.tup [x.av,.nilI]

set_option maxHeartbeats 2000000 in
theorem pr_tail (Γ:Gam) (h173:Γ.fn 173=con_newResults) (G:ArG Γ) (m v:L8) (l:List KVp) (hl:PsOk l) (x4 x11 x47:AV) :
    awp Γ t_authres_parseResult_2 (finQ [.t 2,.t 3] fun r=>r=prAV m v l) ⟨[(4,x4),(8,.str m),(9,.str v),(10,.mref 43),(11,x11),(47,x47)],[(43,.mp (pmA l))]⟩:=by
  obtain ⟨hb1,hb2,hb3⟩:=hl
  have eP : "given.example/pub-waxseal/pub/msgauth/authres.parse" = nP:=rfl
  simp only [prAV,prOf]
  have za:=asPm_pmA l
  by_cases h1:m=sArc
  · have z:con_newResults [.str m]=some (.tup [.fn 175 [],.bool true]):=by simp only [con_newResults]; rw [if_pos h1]
    rw [if_pos h1]
    clear h1
    cases ha:arcOf l with
    | inl e =>
      have zp:con_pArc [.ref 0 0,.str v,.mref 1] [(0,.cells [.str [],.str [],.int .i64 0]),(1,.mp (pmA l))]=some (.ifc 3 (.ptr [.str e]),[(0,.cells [.str [],.str [],.int .i64 0]),(1,.mp (pmA l))]):=by
        simp only [con_pArc,za]; rw [if_pos hb3,ha]
      simp -implicitDefEqProofs [t_authres_parseResult_2,acall,h173,z,acallS,G.s175,con_nArc,reach_succ,eP,G.m7,G.s195,zp]
    | inr n =>
      have zp:con_pArc [.ref 0 0,.str v,.mref 1] [(0,.cells [.str [],.str [],.int .i64 0]),(1,.mp (pmA l))]=some (.nilI,[(0,.cells [.str v,.str (lookP l qRem),.int .i64 n]),(1,.mp (pmA l))]):=by
        simp only [con_pArc,za]; rw [if_pos hb3,ha]
      simp -implicitDefEqProofs [t_authres_parseResult_2,acall,h173,z,acallS,G.s175,con_nArc,reach_succ,eP,G.m7,G.s195,zp,PR.av]
  by_cases h2:m=sAuth
  · have z:con_newResults [.str m]=some (.tup [.fn 176 [],.bool true]):=by simp only [con_newResults]; rw [if_neg h1,if_pos h2]
    rw [if_neg h1,if_pos h2]
    clear h2
    have zp:con_pAuth [.ref 0 0,.str v,.mref 1] [(0,.cells [.str [],.str [],.str []]),(1,.mp (pmA l))]=some (.nilI,[(0,.cells [.str v,.str (lookP l qReason),.str (lookP l qAuth)]),(1,.mp (pmA l))]):=by
      simp only [con_pAuth,za]
    simp -implicitDefEqProofs [t_authres_parseResult_2,acall,h173,z,acallS,G.s176,con_nAuth,reach_succ,eP,G.m8,G.s187,zp,PR.av]
  by_cases h3:m=sDkim
  · have z:con_newResults [.str m]=some (.tup [.fn 177 [],.bool true]):=by simp only [con_newResults]; rw [if_neg h1,if_neg h2,if_pos h3]
    rw [if_neg h1,if_neg h2,if_pos h3]
    clear h3
    have zp:con_pDKIM [.ref 0 0,.str v,.mref 1] [(0,.cells [.str [],.str [],.str [],.str []]),(1,.mp (pmA l))]=some (.nilI,[(0,.cells [.str v,.str (lookP l qReason),.str (lookP l qD),.str (lookP l qI)]),(1,.mp (pmA l))]):=by
      simp only [con_pDKIM,za]
    simp -implicitDefEqProofs [t_authres_parseResult_2,acall,h173,z,acallS,G.s177,con_nDKIM,reach_succ,eP,G.m9,G.s188,zp,PR.av]
  by_cases h4:m=sDomk
  · have z:con_newResults [.str m]=some (.tup [.fn 178 [],.bool true]):=by simp only [con_newResults]; rw [if_neg h1,if_neg h2,if_neg h3,if_pos h4]
    rw [if_neg h1,if_neg h2,if_neg h3,if_pos h4]
    clear h4
    have zp:con_pDomk [.ref 0 0,.str v,.mref 1] [(0,.cells [.str [],.str [],.str [],.str [],.str []]),(1,.mp (pmA l))]=some (.nilI,[(0,.cells [.str v,.str (lookP l qReason),.str (lookP l qD),.str (lookP l qFrom),.str (lookP l qSend)]),(1,.mp (pmA l))]):=by
      simp only [con_pDomk,za]
    simp -implicitDefEqProofs [t_authres_parseResult_2,acall,h173,z,acallS,G.s178,con_nDomk,reach_succ,eP,G.m10,G.s189,zp,PR.av]
  by_cases h5:m=sIprev
  · have z:con_newResults [.str m]=some (.tup [.fn 179 [],.bool true]):=by simp only [con_newResults]; rw [if_neg h1,if_neg h2,if_neg h3,if_neg h4,if_pos h5]
    rw [if_neg h1,if_neg h2,if_neg h3,if_neg h4,if_pos h5]
    clear h5
    have zp:con_pIprev [.ref 0 0,.str v,.mref 1] [(0,.cells [.str [],.str [],.str []]),(1,.mp (pmA l))]=some (.nilI,[(0,.cells [.str v,.str (lookP l qReason),.str (lookP l qIprev)]),(1,.mp (pmA l))]):=by
      simp only [con_pIprev,za]
    simp -implicitDefEqProofs [t_authres_parseResult_2,acall,h173,z,acallS,G.s179,con_nIprev,reach_succ,eP,G.m11,G.s190,zp,PR.av]
  by_cases h6:m=sSender
  · have z:con_newResults [.str m]=some (.tup [.fn 180 [],.bool true]):=by simp only [con_newResults]; rw [if_neg h1,if_neg h2,if_neg h3,if_neg h4,if_neg h5,if_pos h6]
    rw [if_neg h1,if_neg h2,if_neg h3,if_neg h4,if_neg h5,if_pos h6]
    clear h6
    have zp:con_pSender [.ref 0 0,.str v,.mref 1] [(0,.cells [.str [],.str [],.str [],.str []]),(1,.mp (pmA l))]=some (.nilI,[(0,.cells [.str v,.str (lookP l qReason),.str (sidOf l).1,.str (sidOf l).2])]):=by
      simp only [con_pSender,za]; rw [if_pos ⟨hb1,hb2⟩]
    simp -implicitDefEqProofs [t_authres_parseResult_2,acall,h173,z,acallS,G.s180,con_nSender,reach_succ,eP,G.m12,G.s191,zp,PR.av]
  by_cases h7:m=sSpf
  · have z:con_newResults [.str m]=some (.tup [.fn 181 [],.bool true]):=by simp only [con_newResults]; rw [if_neg h1,if_neg h2,if_neg h3,if_neg h4,if_neg h5,if_neg h6,if_pos h7]
    rw [if_neg h1,if_neg h2,if_neg h3,if_neg h4,if_neg h5,if_neg h6,if_pos h7]
    clear h7
    have zp:con_pSpf [.ref 0 0,.str v,.mref 1] [(0,.cells [.str [],.str [],.str [],.str []]),(1,.mp (pmA l))]=some (.nilI,[(0,.cells [.str v,.str (lookP l qReason),.str (lookP l qMail),.str (lookP l qHelo)]),(1,.mp (pmA l))]):=by
      simp only [con_pSpf,za]
    simp -implicitDefEqProofs [t_authres_parseResult_2,acall,h173,z,acallS,G.s181,con_nSpf,reach_succ,eP,G.m13,G.s193,zp,PR.av]
  by_cases h8:m=sDmarc
  · have z:con_newResults [.str m]=some (.tup [.fn 182 [],.bool true]):=by simp only [con_newResults]; rw [if_neg h1,if_neg h2,if_neg h3,if_neg h4,if_neg h5,if_neg h6,if_neg h7,if_pos h8]
    rw [if_neg h1,if_neg h2,if_neg h3,if_neg h4,if_neg h5,if_neg h6,if_neg h7,if_pos h8]
    clear h8
    have zp:con_pDmarc [.ref 0 0,.str v,.mref 1] [(0,.cells [.str [],.str [],.str []]),(1,.mp (pmA l))]=some (.nilI,[(0,.cells [.str v,.str (lookP l qReason),.str (lookP l qFrom)]),(1,.mp (pmA l))]):=by
      simp only [con_pDmarc,za]
    simp -implicitDefEqProofs [t_authres_parseResult_2,acall,h173,z,acallS,G.s182,con_nDmarc,reach_succ,eP,G.m14,G.s194,zp,PR.av]
  have z:con_newResults [.str m]=some (.tup [.nilF,.bool false]):=by simp only [con_newResults]; rw [if_neg h1,if_neg h2,if_neg h3,if_neg h4,if_neg h5,if_neg h6,if_neg h7,if_neg h8]
  rw [if_neg h1,if_neg h2,if_neg h3,if_neg h4,if_neg h5,if_neg h6,if_neg h7,if_neg h8]
  have zp:con_pGen [.ref 0 0,.str v,.mref 1] [(0,.cells [.str m,.str v,.mref 1]),(1,.mp (pmA l))]=some (.nilI,[(0,.cells [.str m,.str v,.mref 1]),(1,.mp (pmA l))]):=rfl
  simp -implicitDefEqProofs [t_authres_parseResult_2,acall,h173,z,acallS,reach_succ,eP,G.m15,G.s196,zp,PR.av]
end Wax


namespace Wax
open Go (IntKind)

theorem wordsGo_bnd:∀ (s cur:L8),(wordsGo cur s).length≤s.length+cur.length∧∀ w∈wordsGo cur s,w ≠ []∧w.length≤s.length+cur.length∧∀ x∈w,x∈cur∨x∈s
  | [],cur=>by
    simp only [wordsGo]
    split
    · simp
    · rename_i h
      have:=List.length_pos_iff.2 h
      refine ⟨by simp; omega,fun w hw=>?_⟩
      simp at hw; subst hw
      exact ⟨h,by simp,fun x hx=>.inl hx⟩
  | x::r,cur=>by
    simp only [wordsGo]
    split
    · split
      · obtain ⟨h1,h2⟩:=wordsGo_bnd r []
        refine ⟨by simp at h1 ⊢; omega,fun w hw=>?_⟩
        obtain ⟨a,b,c⟩:=h2 w hw
        refine ⟨a,by simp at b ⊢; omega,fun y hy=>?_⟩
        rcases c y hy with h | h
        · simp at h
        · exact .inr (by simp [h])
      · rename_i h
        have hp:=List.length_pos_iff.2 h
        obtain ⟨h1,h2⟩:=wordsGo_bnd r []
        refine ⟨by simp at h1 ⊢; omega,fun w hw=>?_⟩
        rcases List.mem_cons.1 hw with rfl | hw
        · exact ⟨h,by simp,fun x hx=>.inl hx⟩
        · obtain ⟨a,b,c⟩:=h2 w hw
          refine ⟨a,by simp at b ⊢; omega,fun y hy=>?_⟩
          rcases c y hy with h | h
          · simp at h
          · exact .inr (by simp [h])
    · obtain ⟨h1,h2⟩:=wordsGo_bnd r (cur++[x])
      refine ⟨by simp at h1 ⊢; omega,fun w hw=>?_⟩
      obtain ⟨a,b,c⟩:=h2 w hw
      refine ⟨a,by simp at b ⊢; omega,fun y hy=>?_⟩
      rcases c y hy with h | h
      · rcases List.mem_append.1 h with h | h
        · exact .inl h
        · exact .inr (by rw [List.mem_singleton.1 h]; simp)
      · exact .inr (by simp [h])
theorem wordsOf_bnd (s:L8):(wordsOf s).length≤s.length∧∀ w∈wordsOf s,w ≠ []∧w.length≤s.length∧∀ x∈w,x∈s:=by
  obtain ⟨h1,h2⟩:=wordsGo_bnd s []
  refine ⟨by simpa [wordsOf] using h1,fun w hw=>?_⟩
  obtain ⟨a,b,c⟩:=h2 w hw
  exact ⟨a,by simpa using b,fun x hx=>(c x hx).resolve_left (by simp)⟩

theorem psetL_bnd:∀ (l:List KVp) (k v:L8),(psetL l k v).length≤l.length+1∧∀ q∈psetL l k v,q=(k,v)∨q∈l
  | [],k,v=>by simp [psetL]
  | (i,u)::r,k,v=>by
    obtain ⟨h1,h2⟩:=psetL_bnd r k v
    simp only [psetL]
    split
    · refine ⟨by simp,fun q hq=>?_⟩
      rcases List.mem_cons.1 hq with h | h
      · exact .inl h
      · exact .inr (by simp [h])
    · refine ⟨by simp; omega,fun q hq=>?_⟩
      rcases List.mem_cons.1 hq with h | h
      · exact .inr (by simp [h])
      · rcases h2 q h with h | h
        · exact .inl h
        · exact .inr (by simp [h])

theorem kvOf_bnd {w:L8} {p:KVp} (h:kvOf w=some p):p.1.length < w.length∧p.2.length < w.length:=by
  simp only [kvOf,Option.map_eq_some_iff] at h
  obtain ⟨q,hq,rfl⟩:=h
  have l:=cutAt_lens hq
  have t1:=trimS_length q.1
  have t2:=trimS_length q.2
  simp; omega

theorem prmsOf_bnd (n:Nat):∀ (ws:List L8) (acc:List KVp),(∀ w∈ws,w.length≤n)→(∀ q∈acc,q.1.length < n∧q.2.length < n)→(prmsOf ws acc).length≤acc.length+ws.length∧∀ q∈prmsOf ws acc,q.1.length < n∧q.2.length < n
  | [],acc,_,h2=>⟨by simp [prmsOf],h2⟩
  | w::ws,acc,h1,h2=>by
    simp only [prmsOf]
    cases hk:kvOf w with
    | none =>
      obtain ⟨a,b⟩:=prmsOf_bnd n ws acc (fun w hw=>h1 w (by simp [hw])) h2
      exact ⟨by simp; omega,b⟩
    | some p =>
      have hw:=h1 w (by simp)
      have hb:=kvOf_bnd hk
      obtain ⟨c,d⟩:=psetL_bnd acc p.1 p.2
      obtain ⟨a,b⟩:=prmsOf_bnd n ws (psetL acc p.1 p.2) (fun w hw=>h1 w (by simp [hw])) (fun q hq=>by
        rcases d q hq with rfl | h
        · simp; omega
        · exact h2 q h)
      exact ⟨by simp; omega,b⟩

theorem resAV_eq (s:L8):resAV s=match wordsOf s with
  | []=>.tup [.nilI,.nilI]
  | w::r=>if w=sNone0 then .tup [.nilI,.nilI] else match kvOf w with
    | none=>.tup [.nilI,.ifc 3 (.ptr [.str arMsg])]
    | some p=>prAV p.1 (lowS p.2) (prmsOf r []):=by
  simp only [resAV,resAOf,resAE,prAV]
  cases wordsOf s with
  | nil=>rfl
  | cons w r =>
    by_cases h:w=sNone0
    · simp only [if_pos h]
    · simp only [if_neg h]
      cases kvOf w with
      | none=>rfl
      | some p =>
        simp only
        cases prOf p.1 (lowS p.2) (prmsOf r []) <;> rfl

set_option maxHeartbeats 1000000 in
theorem ok_parseResult (Γ:Gam) (h170:Γ.fn 170=con_zzFields) (h171:Γ.fn 171=con_parseParam) (h172:Γ.fn 172=con_zzToLower) (h173:Γ.fn 173=con_newResults) (G:ArG Γ) :
    ∀ args r,con_parseResult args=some r→runs Γ c_authres_parseResult args (fun v=>v=r):=by
  intro args r h
  simp only [con_parseResult] at h
  split at h <;> (try simp at h; done)
  rename_i s
  obtain ⟨⟨hs,hp⟩,rfl⟩:=ite_some h
  clear h
  simp only [half] at hs
  have k170:con_zzFields [.str s]=some (wordsV (wordsOf s)):=if_pos ⟨by simp only [mid]; omega,hp⟩
  obtain ⟨hwl,hwm⟩:=wordsOf_bnd s
  rw [resAV_eq]
  generalize wordsOf s=ws at *
  cases ws with
  | nil =>
    simp -implicitDefEqProofs [c_authres_parseResult,acall,h170,k170,wordsV]
  | cons w ws =>
    have kw:∀ u∈w::ws,con_parseParam [.str u]=some (kvV (kvOf u)):=fun u hu=>if_pos ⟨by have:=(hwm u hu).2.1; simp only [mid]; omega,plain_sub (hwm u hu).2.2 hp⟩
    have kw0:=kw w (by simp)
    have hne:¬ ((ws.length:Int)+1=0):=by omega
    by_cases hn:w=sNone0
    · subst hn
      simp -implicitDefEqProofs [c_authres_parseResult,acall,h170,k170,wordsV,hne]
      simp [sNone0]
    · have hn':¬ w=[110,111,110,101]:=hn
      simp only [if_neg hn]
      cases hk:kvOf w with
      | none =>
        rw [hk] at kw0
        simp -implicitDefEqProofs [c_authres_parseResult,acall,h170,k170,wordsV,hne,hn',h171,kw0,kvV]
      | some p =>
        rw [hk] at kw0
        have hpb:=kvOf_bnd hk
        have hwb:=(hwm w (by simp)).2.1
        have k172:con_zzToLower [.str p.2]=some (.str (lowS p.2)):=by
          refine if_pos ⟨by simp only [mid]; omega,?_⟩
          refine plain_ascii (plain_sub (fun x hx=>?_) hp)
          simp only [kvOf,Option.map_eq_some_iff] at hk
          obtain ⟨q,hq,rfl⟩:=hk
          obtain ⟨c,hc1,hc2,hc3⟩:=cutAt_eq hq
          exact (hwm w (by simp)).2.2 x (by rw [hc2]; simp [ar_trimS_mem hx])
        simp only
        have hfin:=prmsOf_bnd s.length ws [] (fun u hu=>(hwm u (by simp [hu])).2.1) (by simp)
        have hok:PsOk (prmsOf ws []):=⟨by have:=hfin.1; simp at this hwl; simp only [half]; omega,fun q hq=>by have:=(hfin.2 q hq).1; simp only [half]; omega,fun q hq=>by have:=(hfin.2 q hq).2; simp only [mid]; omega⟩
        generalize hF:prmsOf ws []=F at *
        have T:=pr_tail Γ h173 G p.1 (lowS p.2) F hok
        generalize prAV p.1 (lowS p.2) F=R at *
        simp -implicitDefEqProofs [c_authres_parseResult,acall,h170,k170,wordsV,hne,hn',h171,kw0,kvV,h172,k172]
        refine awp_loop2 (σ:=List L8 × List L8 × List KVp) (fun q=>⟨[(4,.sl 1 (strsA (w::ws))),(8,.str p.1),(9,.str (lowS p.2)),(10,.mref 43),(11,.int .i64 ((q.1.length:Int)+1))],[(43,.mp (pmA q.2.2))]⟩)
          (fun q=>ws=q.1++q.2.1∧prmsOf q.2.1 q.2.2=F) (fun q=>q.2.1.length) ([],ws,[]) ?_ ⟨by simp,hF⟩ ?_
        · simp [pmA]
        rintro ⟨pre,post,acc⟩ ⟨e1,e2⟩ LQ hLQ
        simp only at e1 e2
        cases post with
        | nil =>
          simp only [List.append_nil] at e1
          simp only [prmsOf] at e2
          subst e1; subst e2
          have t:=T (.sl 1 (.str w::strsA ws)) (.int .i64 ((ws.length:Int)+1)) (.bool false)
          simp -implicitDefEqProofs [b_authres_parseResult_1]
          exact t
        | cons u post =>
          have ku:=kw u (by rw [e1]; simp)
          have hlen:ws.length=pre.length+(post.length+1):=by rw [e1]; simp
          have hlt:(pre.length:Int)+1 < (ws.length:Int)+1:=by omega
          have hnn:¬ ((pre.length:Int)+1 < 0):=by omega
          have et:((pre.length:Int)+1).toNat=pre.length+1:=by omega
          have g:ws[pre.length]? = some u:=by rw [e1]; exact get_mid rfl
          have ew:IntKind.i64.wrap ((pre.length:Int)+1+1)=(pre.length:Int)+1+1:=wrap64 (by simp at hwl; omega) (by simp at hwl; omega)
          have hle:(0:Int)≤(pre.length:Int)+1:=by omega
          cases hku:kvOf u with
          | none =>
            rw [hku] at ku
            simp -implicitDefEqProofs [b_authres_parseResult_1,hlt,et,g,hle,acall,h171,ku,kvV,ew]
            refine hLQ (pre++[u],post,acc) ⟨by rw [e1]; simp,by rw [← e2]; simp only [prmsOf,hku]⟩ (by simp) _ ?_
            simp
          | some z =>
            rw [hku] at ku
            simp -implicitDefEqProofs [b_authres_parseResult_1,hlt,et,g,hle,acall,h171,ku,kvV,ew,mset_pmA]
            refine hLQ (pre++[u],post,psetL acc z.1 z.2) ⟨by rw [e1]; simp,by rw [← e2]; simp only [prmsOf,hku]⟩ (by simp) _ ?_
            simp

theorem fl_ok_parseResult (Γ:Gam) (h170:Γ.fn 170=con_zzFields) (h171:Γ.fn 171=con_parseParam) (h172:Γ.fn 172=con_zzToLower) (h173:Γ.fn 173=con_newResults) (s175:Γ.st 175=con_nArc) (s176:Γ.st 176=con_nAuth) (s177:Γ.st 177=con_nDKIM) (s178:Γ.st 178=con_nDomk) (s179:Γ.st 179=con_nIprev) (s180:Γ.st 180=con_nSender) (s181:Γ.st 181=con_nSpf) (s182:Γ.st 182=con_nDmarc) (s187:Γ.st 187=con_pAuth) (s188:Γ.st 188=con_pDKIM) (s189:Γ.st 189=con_pDomk) (s190:Γ.st 190=con_pIprev) (s191:Γ.st 191=con_pSender) (s193:Γ.st 193=con_pSpf) (s194:Γ.st 194=con_pDmarc) (s195:Γ.st 195=con_pArc) (s196:Γ.st 196=con_pGen) (m7:Γ.mth 7 "given.example/pub-waxseal/pub/msgauth/authres.parse" = some 195) (m8:Γ.mth 8 "given.example/pub-waxseal/pub/msgauth/authres.parse" = some 187) (m9:Γ.mth 9 "given.example/pub-waxseal/pub/msgauth/authres.parse" = some 188) (m10:Γ.mth 10 "given.example/pub-waxseal/pub/msgauth/authres.parse" = some 189) (m11:Γ.mth 11 "given.example/pub-waxseal/pub/msgauth/authres.parse" = some 190) (m12:Γ.mth 12 "given.example/pub-waxseal/pub/msgauth/authres.parse" = some 191) (m13:Γ.mth 13 "given.example/pub-waxseal/pub/msgauth/authres.parse" = some 193) (m14:Γ.mth 14 "given.example/pub-waxseal/pub/msgauth/authres.parse" = some 194) (m15:Γ.mth 15 "given.example/pub-waxseal/pub/msgauth/authres.parse" = some 196) :
    ∀ args r,con_parseResult args=some r→runs Γ c_authres_parseResult args (fun v=>v=r) :=
  ok_parseResult Γ h170 h171 h172 h173 ⟨m7,m8,m9,m10,m11,m12,m13,m14,m15,s175,s176,s177,s178,s179,s180,s181,s182,s187,s188,s189,s190,s191,s193,s194,s195,s196⟩
end Wax


namespace Wax
open Go (IntKind)

def slP:Option (List KVp)→AV
  | none=>.nilS
  | some l=>.sl 2 (pr2 l)
@[simp] theorem slP_atom (x:Option (List KVp)):atom (slP x)=true:=by cases x <;> rfl
@[simp] theorem slP_ref (x:Option (List KVp)):hasRef (slP x)=false:=by cases x <;> rfl
@[simp] theorem slP_refs (x:Option (List KVp)):refs (slP x)=[]:=by cases x <;> rfl
@[simp] theorem slP_map (x:Option (List KVp)) (g:Nat→Nat):mapId g (slP x)=slP x:=by cases x <;> rfl
@[simp] theorem slP_kill (x:Option (List KVp)) (d:Nat):kill d (slP x)=slP x:=by cases x <;> rfl
@[simp] theorem slP_snapW (x:Option (List KVp)) (g:AV→AV):snapW g (slP x)=slP x:=by cases x <;> rfl
@[simp] theorem slP_snap (x:Option (List KVp)) (n:Nat) (hp:List (Nat × AObj)):snap (n+1) hp (slP x)=slP x:=by cases x <;> rfl
@[simp] theorem slP_cells (x:Option (List KVp)):cells (slP x)=[slP x]:=by cases x <;> rfl
@[simp] theorem slP_pure (x:Option (List KVp)):pureV (slP x)=true:=by cases x <;> rfl
theorem slP_pairs (x:Option (List KVp)):slPairs (slP x)=some (x.getD []):=by cases x <;> simp [slP,slPairs,asPairs_pr2]
theorem slP_alen (x:Option (List KVp)) (hp:List (Nat × AObj)):alen hp 1 (slP x)=some (x.getD []).length:=by cases x <;> simp [slP,alen]
def asP:AV→Option (Option (List KVp))
  | .nilS=>some none
  | .sl es xs=>if es=2 then (asPairs xs).map some else none
  | _=>none
theorem asP_slP (x:Option (List KVp)):asP (slP x)=some x:=by cases x <;> simp [slP,asP,asPairs_pr2]
theorem asP_spec {v:AV} {x:Option (List KVp)} (h:asP v=some x):v=slP x:=by
  cases v <;> simp [asP] at h
  · subst h; rfl
  · obtain ⟨rfl,l,h1,rfl⟩:=h
    rw [asPairs_spec h1]; rfl
def nilO {α:Type} (l:List α):Option (List α):=match l with | []=>none | _=>some l
theorem pairV_slP (l:List KVp):pairV l=slP (nilO l):=by cases l <;> rfl
structure AR where
  kind:Int
  method:L8
  value:L8
  reason:L8
  domain:L8
  ident:L8
  fr:L8
  sender:L8
  ip:L8
  helo:L8
  auth:L8
  hkey:L8
  hval:L8
  remote:L8
  oldest:Int
  ps:Option (List KVp)
  deriving DecidableEq

def AR.cells (r:AR):List AV:=[.int .i64 r.kind,.str r.method,.str r.value,.str r.reason,.str r.domain,.str r.ident,.str r.fr,.str r.sender,.str r.ip,.str r.helo,.str r.auth,.str r.hkey,.str r.hval,.str r.remote,.int .i64 r.oldest,slP r.ps]
def ar0:AR:=⟨0,[],[],[],[],[],[],[],[],[],[],[],[],[],0,none⟩
def asAR:List AV→Option AR
  | [.int .i64 k,.str m,.str v,.str r,.str d,.str i,.str f,.str s,.str ip,.str h,.str a,.str hk,.str hv,.str re,.int .i64 o,p]=>(asP p).map fun q=>⟨k,m,v,r,d,i,f,s,ip,h,a,hk,hv,re,o,q⟩
  | _=>none
theorem asAR_cells (r:AR):asAR r.cells=some r:=by simp [AR.cells,asAR,asP_slP]
theorem asAR_spec {cs:List AV} {r:AR} (h:asAR cs=some r):cs=r.cells:=by
  unfold asAR at h
  split at h
  · simp only [Option.map_eq_some_iff] at h
    obtain ⟨q,hq,rfl⟩:=h
    rw [asP_spec hq]; rfl
  · simp at h

def arA (l:List AR):List AV:=l.map fun r=>.agg r.cells
def arC (l:List AR):List AV:=l.flatMap AR.cells
@[simp] theorem arA_nil:arA []=[]:=rfl
@[simp] theorem arA_cons {x:AR} {l}:arA (x::l)=.agg x.cells::arA l:=rfl
@[simp] theorem arA_app {l m}:arA (l++m)=arA l++arA m:=by simp [arA]
@[simp] theorem arA_length {l}:(arA l).length=l.length:=by simp [arA]
@[simp] theorem ar_cells_length {r:AR}:r.cells.length=16:=rfl
@[simp] theorem arC_nil:arC []=[]:=rfl
@[simp] theorem arC_cons {x:AR} {l}:arC (x::l)=x.cells++arC l:=rfl
@[simp] theorem arC_app {l m}:arC (l++m)=arC l++arC m:=by simp [arC]
@[simp] theorem arC_length {l:List AR}:(arC l).length=l.length * 16:=by induction l <;> simp_all; omega
@[simp] theorem atoms_arcells {r:AR}:atoms r.cells=true:=by simp [AR.cells]
@[simp] theorem atoms_appB {a b:List AV}:atoms (a++b)=(atoms a && atoms b):=by induction a <;> simp_all [Bool.and_assoc]
@[simp] theorem atoms_arC {l:List AR}:atoms (arC l)=true:=by induction l <;> simp_all
@[simp] theorem killL_appB {d:Nat} {a b:List AV}:killL d (a++b)=killL d a++killL d b:=by induction a <;> simp_all
@[simp] theorem killL_arcells {d:Nat} {r:AR}:killL d r.cells=r.cells:=by simp [AR.cells]
@[simp] theorem killL_arC {d:Nat} {l:List AR}:killL d (arC l)=arC l:=by induction l <;> simp_all
@[simp] theorem snap_arcells {n:Nat} {hp:List (Nat × AObj)} {r:AR}:r.cells.map (snap (n+1) hp)=r.cells:=by simp [AR.cells]
@[simp] theorem map_snap_arC {n:Nat} {hp:List (Nat × AObj)} {l:List AR}:(arC l).map (snap (n+1) hp)=arC l:=by induction l <;> simp_all
@[simp] theorem hasRefL_arcells {r:AR}:hasRefL r.cells=false:=by simp [AR.cells]
@[simp] theorem hasRefL_arA {l:List AR}:hasRefL (arA l)=false:=by induction l <;> simp_all
@[simp] theorem refsL_arcells {r:AR}:refsL r.cells=[]:=by simp [AR.cells]
@[simp] theorem refsL_arC {l:List AR}:refsL (arC l)=[]:=by induction l <;> simp_all
@[simp] theorem snapWL_arcells {g:AV→AV} {r:AR}:snapWL g r.cells=r.cells:=by simp [AR.cells]
@[simp] theorem snapWL_arC {g:AV→AV} {l:List AR}:snapWL g (arC l)=arC l:=by induction l <;> simp_all
@[simp] theorem group_arC:∀ {l:List AR},group 16 l.length (arC l)=arA l
  | []=>rfl
  | x::l=>by
    have h1:(x.cells++arC l).take 16=x.cells:=List.take_left' rfl
    have h2:(x.cells++arC l).drop 16=arC l:=List.drop_left' rfl
    simp only [List.length_cons,group,arC_cons,h1,h2,arA_cons,group_arC (l:=l)]

def PR.ar:PR→AR
  | .arc v ip o=>{ ar0 with kind:=8,value:=v,remote:=ip,oldest:=o }
  | .auth v r a=>{ ar0 with kind:=1,value:=v,reason:=r,auth:=a }
  | .dkim v r d i=>{ ar0 with kind:=2,value:=v,reason:=r,domain:=d,ident:=i }
  | .domk v r d f s=>{ ar0 with kind:=3,value:=v,reason:=r,domain:=d,fr:=f,sender:=s }
  | .iprev v r i=>{ ar0 with kind:=4,value:=v,reason:=r,ip:=i }
  | .sender v r k x=>{ ar0 with kind:=5,value:=v,reason:=r,hkey:=k,hval:=x }
  | .spf v r f h=>{ ar0 with kind:=6,value:=v,reason:=r,fr:=f,helo:=h }
  | .dmarc v r f=>{ ar0 with kind:=7,value:=v,reason:=r,fr:=f }
  | .gen m v ps=>{ ar0 with kind:=0,method:=m,value:=v,ps:=nilO (sortP ps) }

def asPR:AV→Option PR
  | .ifc 7 (.ptr [.str v,.str ip,.int .i64 o])=>some (.arc v ip o)
  | .ifc 8 (.ptr [.str v,.str r,.str a])=>some (.auth v r a)
  | .ifc 9 (.ptr [.str v,.str r,.str d,.str i])=>some (.dkim v r d i)
  | .ifc 10 (.ptr [.str v,.str r,.str d,.str f,.str s])=>some (.domk v r d f s)
  | .ifc 11 (.ptr [.str v,.str r,.str i])=>some (.iprev v r i)
  | .ifc 12 (.ptr [.str v,.str r,.str k,.str x])=>some (.sender v r k x)
  | .ifc 13 (.ptr [.str v,.str r,.str f,.str h])=>some (.spf v r f h)
  | .ifc 14 (.ptr [.str v,.str r,.str f])=>some (.dmarc v r f)
  | .ifc 15 (.ptr [.str m,.str v,.mp es])=>(asPm es).map fun l=>.gen m v l
  | _=>none
theorem asPR_av (x:PR):asPR x.av=some x:=by cases x <;> simp [PR.av,asPR,asPm_pmA]
theorem asPR_spec {v:AV} {x:PR} (h:asPR v=some x):v=x.av:=by
  unfold asPR at h
  split at h <;> try (simp at h; subst h; rfl)
  · simp at h
    obtain ⟨l,h1,rfl⟩:=h
    rw [asPm_spec h1]; rfl
  · simp at h
def PR.ok:PR→Prop
  | .gen _ _ l=>PsOk l
  | _=>True

def con_paramsOf:List AV→Option AV
  | [.mp es]=>match asPm es with
    | some l=>if l.length < half∧∀ q∈l,q.1.length < half then some (pairV (sortP l)) else none
    | none=>none
  | _=>none

set_option maxHeartbeats 1000000 in
theorem ok_paramsOf (Γ:Gam) (h48:Γ.fn 48=con_Keys) (h49:Γ.fn 49=con_Sorted):∀ args r,con_paramsOf args=some r→runs Γ c_impl_paramsOf args (fun v=>v=r):=by
  intro args r h
  simp only [con_paramsOf] at h
  split at h <;> (try simp at h; done)
  rename_i es
  split at h <;> (try simp at h; done)
  rename_i l hl
  obtain ⟨⟨hb1,hb2⟩,rfl⟩:=ite_some h
  clear h
  rw [asPm_spec hl]
  have k49:con_Sorted [.fn 55 [.bx [.mp (pmA l)]]]=some (strV (sortB (l.map (·.1)))):=by
    have e1:(pmA l).map (·.1)=l.map (·.1):=by simp [pmA,Function.comp_def]
    simp only [con_Sorted,e1]
    refine if_pos ⟨by simpa [pmA] using hb1,fun q hq=>?_⟩
    simp only [pmA,List.mem_map] at hq
    obtain ⟨z,hz,rfl⟩:=hq
    exact hb2 z hz
  have hsl:(sortB (l.map (·.1))).length < half:=by simpa [sortB] using hb1
  have hp1:=slf_ref (slStrs_strV (l:=sortB (l.map (·.1))))
  have hp2:=slf_alen (slStrs_strV (l:=sortB (l.map (·.1))))
  have hsv:=slStrs_strV (l:=sortB (l.map (·.1)))
  have hsl':=hsl
  simp only [half] at hsl'
  simp -implicitDefEqProofs [-alen,c_impl_paramsOf,acall,h48,con_Keys,h49,k49,hp1,hp2]
  rw [sortP]
  generalize sortB (l.map (·.1))=ks at *
  refine awp_loop2 (σ:=List L8 × List L8) (fun p=>⟨[(0,.mp (pmA l)),(3,grV 21 2 p.1.length),(8,strV ks),(9,.int .i64 ks.length),(10,.int .i64 p.1.length)],grH 21 p.1.length (pc2 (p.1.map fun k=>(k,lookP l k)))⟩)
    (fun p=>ks=p.1++p.2) (fun p=>p.2.length) ([],ks) (by simp) (by simp) ?_
  rintro ⟨pre,post⟩ hs1 LQ hLQ
  simp only at hs1
  subst hs1
  cases post with
  | nil =>
    cases pre with
    | nil=>simp [pairV]
    | cons x pre =>
      have hg:=group_pc2 (l:=(x::pre).map fun k=>(k,lookP l k))
      simp at hg
      simp [pairV,hg]
      omega
  | cons x post =>
    have hu:=slf_ne hsv (by simp)
    rw [hu] at hLQ ⊢
    simp at hsl'
    have hlt:(pre.length:Int) < (pre.length:Int)+((post.length:Int)+1):=by omega
    have g2:∀ (q:List AV) (z:AV),(strsA pre++z::q)[pre.length]? = some z:=fun q z=>get_mid (by simp)
    have fin:∀ st,norm [0,3,8,9,10] st=⟨[(0,.mp (pmA l)),(3,.msl 21 2 0 (pre.length+1)),(8,.sl 1 (strsA (pre++x::post))),(9,.int .i64 ((pre.length:Int)+((post.length:Int)+1))),(10,.int .i64 ((pre.length:Int)+1))],[(21,.cells (pc2 (pre.map fun k=>(k,lookP l k))++[.str x,.str (lookP l x)]))]⟩→LQ st:=by
      intro st hst
      exact hLQ (pre++[x],post) (by simp) (by simp) st (by simpa using hst)
    cases pre with
    | nil =>
      have ew0:IntKind.i64.wrap 1=1:=rfl
      simp [ew0,g2,lookA_pmA]
      exact fin _ (by simp)
    | cons y pre =>
      simp at hsl'
      have ew1:IntKind.i64.wrap ((pre.length:Int)+1+1)=(pre.length:Int)+1+1:=wrap64 (by omega) (by omega)
      have tk:List.take ((pre.length+1) * 2) (AV.str y::AV.str (lookP l y)::pc2 (pre.map fun k=>(k,lookP l k)))=AV.str y::AV.str (lookP l y)::pc2 (pre.map fun k=>(k,lookP l k)):=List.take_of_length_le (by simp; omega)
      simp [ew1,g2,tk,lookA_pmA]
      refine ⟨fun _=>⟨by omega,⟨by omega,by omega⟩,fin _ (by simp; omega)⟩,fun h=>by omega⟩

def con_resultOf:List AV→Option AV
  | [v]=>match asPR v with
    | some (.gen m v l)=>if l.length < half∧∀ q∈l,q.1.length < half then some (.agg (PR.gen m v l).ar.cells) else none
    | some x=>some (.agg x.ar.cells)
    | none=>none
  | _=>none

set_option maxHeartbeats 1000000 in
theorem ok_resultOf (Γ:Gam) (h167:Γ.fn 167=con_paramsOf):∀ args r,con_resultOf args=some r→runs Γ c_impl_resultOf args (fun v=>v=r):=by
  intro args r h
  simp only [con_resultOf] at h
  split at h <;> (try simp at h; done)
  rename_i u
  split at h <;> (try simp at h; done)
  · rename_i m v l hu
    obtain ⟨hb,rfl⟩:=ite_some h
    rw [asPR_spec hu]
    have k:con_paramsOf [.mp (pmA l)]=some (pairV (sortP l)):=by
      simp only [con_paramsOf,asPm_pmA]; exact if_pos hb
    rw [pairV_slP] at k
    have cu:=slP_cells (nilO (sortP l))
    simp only [cells] at cu
    simp -implicitDefEqProofs [c_impl_resultOf,PR.av,acall,h167,k,PR.ar,ar0,AR.cells,cu]
  · rename_i x _ hu
    injection h with h; subst h
    rw [asPR_spec hu]
    cases x with
    | gen m v l=>rename_i hx; exact absurd rfl (hx m v l)
    | arc=>simp -implicitDefEqProofs [c_impl_resultOf,PR.av,PR.ar,ar0,AR.cells,slP]
    | auth=>simp -implicitDefEqProofs [c_impl_resultOf,PR.av,PR.ar,ar0,AR.cells,slP]
    | dkim=>simp -implicitDefEqProofs [c_impl_resultOf,PR.av,PR.ar,ar0,AR.cells,slP]
    | domk=>simp -implicitDefEqProofs [c_impl_resultOf,PR.av,PR.ar,ar0,AR.cells,slP]
    | iprev=>simp -implicitDefEqProofs [c_impl_resultOf,PR.av,PR.ar,ar0,AR.cells,slP]
    | sender=>simp -implicitDefEqProofs [c_impl_resultOf,PR.av,PR.ar,ar0,AR.cells,slP]
    | spf=>simp -implicitDefEqProofs [c_impl_resultOf,PR.av,PR.ar,ar0,AR.cells,slP]
    | dmarc=>simp -implicitDefEqProofs [c_impl_resultOf,PR.av,PR.ar,ar0,AR.cells,slP]
end Wax


namespace Wax
open Go (IntKind)

section
variable {Γ:Gam} (h149:Γ.fn 149=con_dmParams) (h150:Γ.fn 150=con_dmPolicy) (h151:Γ.fn 151=con_dmAlign) (h152:Γ.fn 152=con_dmFo) (h153:Γ.fn 153=con_Atoi) (s154:Γ.st 154=con_zzSplit) (h155:Γ.fn 155=con_dmURIs) (h50:Γ.fn 50=con_errorsNew)
include h150 h153 s154 h155 h50

theorem pd_9 (acc:List KVp) (ha:valsOk acc) (r:DR) (ex:List (Nat × AV)) (h4:lk ex 4=.mp (pmA acc)) (h6:lk ex 6=.ref 46 0):awp Γ f_dmarc_Parse_9 (mdQ (mdRf acc r)) ⟨ex,[(46,.cells r.cells)]⟩:=by
  have hk:=lookA_two acc [114,102]
  obtain ⟨a,b,hab⟩:∃ a b,valV (findP acc kRf)=.tup [a,b]:=by cases findP acc kRf <;> exact ⟨_,_,rfl⟩
  have hab':=hab
  rw [kRf] at hab'
  rw [hab'] at hk
  obtain ⟨_,_,ha2,hb2⟩:=valV_tup hab
  simp -implicitDefEqProofs [f_dmarc_Parse_9,lk_rmFi,h4,h6,hk,ha2,hb2]
  exact pd_2 h150 h153 s154 h155 h50 acc ha r a b hab

theorem pd_9b (acc:List KVp) (ha:valsOk acc) (r:DR) (n:Int) (ex:List (Nat × AV)) (h4:lk ex 4=.mp (pmA acc)) (h6:lk ex 6=.ref 46 0) :
    awp Γ f_dmarc_Parse_9 (mdQ (mdRf acc { r with pct:=some n })) ⟨ex,[(17,.cells [.int .i64 n]),(46,.cells [.str r.dk,.str r.sp,.int .i64 r.fo,.str r.p,.ref 17 0,slO r.rf,.int .i64 r.ri,slO r.rua,slO r.ruf,.str r.sub])]⟩:=by
  have hk:=lookA_two acc [114,102]
  obtain ⟨a,b,hab⟩:∃ a b,valV (findP acc kRf)=.tup [a,b]:=by cases findP acc kRf <;> exact ⟨_,_,rfl⟩
  have hab':=hab
  rw [kRf] at hab'
  rw [hab'] at hk
  obtain ⟨ha1,hb1,ha2,hb2⟩:=valV_tup hab
  have e:=pd_2 h150 h153 s154 h155 h50 acc ha { r with pct:=some n } a b hab
  simp only [DR.cells] at e
  simp -implicitDefEqProofs [f_dmarc_Parse_9,lk_rmFi,h4,h6,hk,ha1,hb1,ha2,hb2]
  exact e

theorem pd_10 (acc:List KVp) (ha:valsOk acc) (r:DR) (ex:List (Nat × AV)) (h4:lk ex 4=.mp (pmA acc)) (h6:lk ex 6=.ref 46 0):awp Γ f_dmarc_Parse_10 (mdQ (mdPct acc r)) ⟨ex,[(46,.cells r.cells)]⟩:=by
  have hk:=lookA_two acc [112,99,116]
  simp only [mdPct,kPct]
  cases hf:findP acc [112,99,116] with
  | none =>
    rw [hf] at hk
    simp only
    have e:=fun ex h h'=>pd_9 (Γ:=Γ) h150 h153 s154 h155 h50 acc ha r ex h h'
    simp -implicitDefEqProofs [f_dmarc_Parse_10,lk_rmFi,h4,h6,hk,valV]
    refine e _ ?_ ?_ <;> simp [lk_rmFi,h4,h6]
  | some v =>
    rw [hf] at hk
    have hv:=ha _ (findP_in hf)
    have k:con_Atoi [.str v]=some (atoiV v):=if_pos hv.1
    simp only [atoiV] at k
    simp only
    cases hq:Go.Lib.atoiAll v with
    | ok n =>
      rw [hq] at k
      simp only at k ⊢
      by_cases h1:n < 0
      · rw [if_pos (.inl h1)]
        simp -implicitDefEqProofs [f_dmarc_Parse_10,lk_rmFi,h4,h6,hk,valV,acall,h153,k,h1,h50,con_errorsNew,mdV,eN,mPct2,mPct,DR.cells]
      · by_cases h2:100 < n
        · rw [if_pos (.inr h2)]
          simp -implicitDefEqProofs [f_dmarc_Parse_10,lk_rmFi,h4,h6,hk,valV,acall,h153,k,h1,h2,h50,con_errorsNew,mdV,eN,mPct2,mPct,DR.cells]
        · rw [if_neg (by omega)]
          have e:=fun ex h h'=>pd_9b (Γ:=Γ) h150 h153 s154 h155 h50 acc ha r n ex h h'
          simp -implicitDefEqProofs [f_dmarc_Parse_10,lk_rmFi,h4,h6,hk,valV,acall,h153,k,h1,h2,DR.cells]
          refine e _ ?_ ?_ <;> simp [lk_rmFi,h4,h6]
    | range =>
      rw [hq] at k
      simp only at k ⊢
      simp -implicitDefEqProofs [f_dmarc_Parse_10,lk_rmFi,h4,h6,hk,valV,acall,h153,k,h50,con_errorsNew,mdV,eN,mPct,DR.cells]
    | _ =>
      rw [hq] at k
      simp only at k ⊢
      simp -implicitDefEqProofs [f_dmarc_Parse_10,lk_rmFi,h4,h6,hk,valV,acall,h153,k,h50,con_errorsNew,mdV,eN,mPct,DR.cells]

include h152
theorem pd_11 (acc:List KVp) (ha:valsOk acc) (r:DR) (ex:List (Nat × AV)) (h4:lk ex 4=.mp (pmA acc)) (h6:lk ex 6=.ref 46 0):awp Γ f_dmarc_Parse_11 (mdQ (mdFo acc r)) ⟨ex,[(46,.cells r.cells)]⟩:=by
  have hk:=lookA_two acc [102,111]
  simp only [mdFo,kFo]
  cases hf:findP acc [102,111] with
  | none =>
    rw [hf] at hk
    simp only
    have e:=fun ex h h'=>pd_10 (Γ:=Γ) h150 h153 s154 h155 h50 acc ha r ex h h'
    simp -implicitDefEqProofs [f_dmarc_Parse_11,lk_rmFi,h4,h6,hk,valV]
    refine e _ ?_ ?_ <;> simp [lk_rmFi,h4,h6]
  | some v =>
    rw [hf] at hk
    have hv:=ha _ (findP_in hf)
    have k:con_dmFo [.str v]=some (foV v):=if_pos hv
    simp only [foV] at k
    simp only
    cases hq:fo2 0 (splitB 58 v) with
    | some n =>
      rw [hq] at k
      simp only at k ⊢
      have e:=fun ex h h'=>pd_10 (Γ:=Γ) h150 h153 s154 h155 h50 acc ha { r with fo:=n } ex h h'
      simp only [DR.cells] at e
      simp -implicitDefEqProofs [f_dmarc_Parse_11,lk_rmFi,h4,h6,hk,valV,acall,h152,k,DR.cells]
      refine e _ ?_ ?_ <;> simp [lk_rmFi,h4,h6]
    | none =>
      rw [hq] at k
      simp only at k ⊢
      simp -implicitDefEqProofs [f_dmarc_Parse_11,lk_rmFi,h4,h6,hk,valV,acall,h152,k,mdV,eN,DR.cells]

include h151
theorem pd_12 (acc:List KVp) (ha:valsOk acc) (r:DR) (ex:List (Nat × AV)) (h4:lk ex 4=.mp (pmA acc)) (h6:lk ex 6=.ref 46 0):awp Γ f_dmarc_Parse_12 (mdQ (mdAspf acc r)) ⟨ex,[(46,.cells r.cells)]⟩:=by
  have hk:=lookA_two acc [97,115,112,102]
  simp only [mdAspf,kAspf]
  cases hf:findP acc [97,115,112,102] with
  | none =>
    rw [hf] at hk
    simp only
    have e:=fun ex h h'=>pd_11 (Γ:=Γ) h150 h152 h153 s154 h155 h50 acc ha { r with sp:=sR } ex h h'
    simp only [DR.cells,sR] at e
    simp -implicitDefEqProofs [f_dmarc_Parse_12,lk_rmFi,h4,h6,hk,valV,DR.cells]
    refine e _ ?_ ?_ <;> simp [lk_rmFi,h4,h6]
  | some v =>
    rw [hf] at hk
    have k:=align_con (v:=v) (p:=[97,115,112,102]) (by decide)
    simp only
    cases hp:alignB v with
    | false =>
      rw [hp] at k
      simp -implicitDefEqProofs [f_dmarc_Parse_12,lk_rmFi,h4,h6,hk,valV,acall,h151,k,eN,DR.cells,mdV]
    | true =>
      rw [hp] at k
      simp only [if_true]
      have e:=fun ex h h'=>pd_11 (Γ:=Γ) h150 h152 h153 s154 h155 h50 acc ha { r with sp:=v } ex h h'
      simp only [DR.cells] at e
      simp -implicitDefEqProofs [f_dmarc_Parse_12,lk_rmFi,h4,h6,hk,valV,acall,h151,k,DR.cells]
      refine e _ ?_ ?_ <;> simp [lk_rmFi,h4,h6]

theorem pd_13 (acc:List KVp) (ha:valsOk acc) (r:DR) (ex:List (Nat × AV)) (h4:lk ex 4=.mp (pmA acc)) (h6:lk ex 6=.ref 46 0):awp Γ f_dmarc_Parse_13 (mdQ (mdAdkim acc r)) ⟨ex,[(46,.cells r.cells)]⟩:=by
  have hk:=lookA_two acc [97,100,107,105,109]
  simp only [mdAdkim,kAdkim]
  cases hf:findP acc [97,100,107,105,109] with
  | none =>
    rw [hf] at hk
    simp only
    have e:=fun ex h h'=>pd_12 (Γ:=Γ) h150 h151 h152 h153 s154 h155 h50 acc ha { r with dk:=sR } ex h h'
    simp only [DR.cells,sR] at e
    simp -implicitDefEqProofs [f_dmarc_Parse_13,lk_rmFi,h4,h6,hk,valV,DR.cells]
    refine e _ ?_ ?_ <;> simp [lk_rmFi,h4,h6]
  | some v =>
    rw [hf] at hk
    have k:=align_con (v:=v) (p:=[97,100,107,105,109]) (by decide)
    simp only
    cases hp:alignB v with
    | false =>
      rw [hp] at k
      simp -implicitDefEqProofs [f_dmarc_Parse_13,lk_rmFi,h4,h6,hk,valV,acall,h151,k,eN,DR.cells,mdV]
    | true =>
      rw [hp] at k
      simp only [if_true]
      have e:=fun ex h h'=>pd_12 (Γ:=Γ) h150 h151 h152 h153 s154 h155 h50 acc ha { r with dk:=v } ex h h'
      simp only [DR.cells] at e
      simp -implicitDefEqProofs [f_dmarc_Parse_13,lk_rmFi,h4,h6,hk,valV,acall,h151,k,DR.cells]
      refine e _ ?_ ?_ <;> simp [lk_rmFi,h4,h6]
end

def mdText (s:L8):AV ⊕ DR:=if (prd2 (splitB 59 s) []).2=true then mdAll (prd2 (splitB 59 s) []).1 else .inl (eN mBad)

theorem psetL_vals {l:List KVp} {k v:L8} (h:valsOk l) (hv:v.length < mid∧plain v=true):valsOk (psetL l k v):=by
  induction l with
  | nil=>intro q hq; simp [psetL] at hq; subst hq; exact hv
  | cons p r ih =>
    obtain ⟨i,u⟩:=p
    have hr:valsOk r:=fun q hq=>h q (by simp [hq])
    intro q hq
    simp only [psetL] at hq
    split at hq
    · rcases List.mem_cons.1 hq with rfl | hq
      · exact hv
      · exact h q (by simp [hq])
    · rcases List.mem_cons.1 hq with rfl | hq
      · exact h _ (by simp)
      · exact ih hr q hq

theorem trimS_plain {s:L8} (h:plain s=true):plain (trimS s)=true:=plain_sub (fun x hx=>trimS_sub x hx) h

theorem prd2_vals (n:Nat) (hn:n < mid):∀ (L:List L8) (acc:List KVp),(∀ p∈L,p.length≤n∧plain p=true)→valsOk acc→valsOk (prd2 L acc).1
  | [],acc,_,h=>h
  | p::r,acc,hL,h=>by
    have hr:∀ p∈r,p.length≤n∧plain p=true:=fun q hq=>hL q (by simp [hq])
    obtain ⟨hpl,hpp⟩:=hL p (by simp)
    simp only [prd2]
    cases hc:cutAt 61 p with
    | none =>
      simp only
      by_cases ht:trimS p=[]
      · rw [if_pos ht]; exact prd2_vals n hn r acc hr h
      · rw [if_neg ht]; exact h
    | some q =>
      obtain ⟨hql,y,hy⟩:=cutAt_le hc
      rw [hy,plain_app] at hpp
      simp only [Bool.and_eq_true] at hpp
      have hp2:plain q.2=true:=by
        have:=hpp.2
        simp only [plain,List.all_cons,Bool.and_eq_true] at this
        exact this.2
      have:=trimS_length q.2
      exact prd2_vals n hn r _ hr (psetL_vals h ⟨by omega,trimS_plain hp2⟩)

def con_dmParse:List AV→Option AV
  | [.str s]=>if s.length < mid∧plain s=true then some (mdV (mdText s)) else none
  | _=>none

set_option maxHeartbeats 1000000 in
theorem ok_dmParse (Γ:Gam) (h149:Γ.fn 149=con_dmParams) (h150:Γ.fn 150=con_dmPolicy) (h151:Γ.fn 151=con_dmAlign) (h152:Γ.fn 152=con_dmFo) (h153:Γ.fn 153=con_Atoi) (s154:Γ.st 154=con_zzSplit) (h155:Γ.fn 155=con_dmURIs) (h50:Γ.fn 50=con_errorsNew) :
    ∀ args r,con_dmParse args=some r→runs Γ c_dmarc_Parse args (fun v=>v=r):=by
  intro args r h
  simp only [con_dmParse] at h
  split at h <;> (try simp at h; done)
  rename_i s
  obtain ⟨hs,rfl⟩:=ite_some h
  clear h
  have k149:con_dmParams [.str s]=some (prdV (prd2 (splitB 59 s) [])):=if_pos hs
  have ha:=prd2_vals s.length hs.1 (splitB 59 s) [] (fun p hp=>⟨splitB_mem_length 59 s p hp,splitB_plain 59 s p hs.2 hp⟩) (fun q hq=>by simp at hq)
  simp only [mdText]
  generalize prd2 (splitB 59 s) []=x at *
  obtain ⟨acc,ok⟩:=x
  cases ok with
  | false=>simp -implicitDefEqProofs [c_dmarc_Parse,acall,h149,k149,prdV,eN,mdV]
  | true =>
    simp only [prdV] at k149
    simp only at ha
    have hk1:=lookA_one acc [118]
    have hk2:=lookA_two acc [112]
    by_cases hv:(findP acc kV).getD []=sDM
    · have hv':(findP acc [118]).getD []=[68,77,65,82,67,49]:=hv
      rw [hv'] at hk1
      have hm:mdAll acc=(match findP acc [112] with
        | none=>.inl (eN mNoP)
        | some v=>if polB v=true then mdAdkim acc { dr0 with p:=v } else .inl (eN (mPol++kP))):=if_pos hv
      rw [if_pos rfl,hm]
      cases hf:findP acc [112] with
      | none =>
        rw [hf] at hk2
        simp -implicitDefEqProofs [c_dmarc_Parse,acall,h149,k149,hk1,hk2,valV,h50,con_errorsNew,eN,mNoP,mdV]
      | some v =>
        rw [hf] at hk2
        have k:=pol_con (v:=v) (p:=[112]) (by decide)
        simp only
        cases hp:polB v with
        | false =>
          rw [hp] at k
          simp -implicitDefEqProofs [c_dmarc_Parse,acall,h149,k149,hk1,hk2,valV,h150,k,eN,mdV,mPol,kP]
        | true =>
          rw [hp] at k
          have e:=fun ex h h'=>pd_13 (Γ:=Γ) h150 h151 h152 h153 s154 h155 h50 acc ha { dr0 with p:=v } ex h h'
          simp only [DR.cells,dr0] at e
          simp -implicitDefEqProofs [c_dmarc_Parse,acall,h149,k149,hk1,hk2,valV,h150,k]
          refine e _ ?_ ?_ <;> simp
    · have hv':¬ (findP acc [118]).getD []=[68,77,65,82,67,49]:=hv
      have hm:mdAll acc=.inl (.ifc 3 .junk):=if_neg hv
      rw [if_pos rfl,hm]
      simp -implicitDefEqProofs [c_dmarc_Parse,acall,h149,k149,hk1,hv',eN,mdV]
end Wax


