/- The machine by which the functions are read, and what is proved of them (part 1): no premise. -/
import GoSem.Core.View
import GoSem.Core.Utf8
import GoSem.Op.String
import GoSem.Core.Program
import GoSem.Op.Equal
import GoSem.Instr.TypeAssert
import GoSem.Core.Region
import Derived.Calls
import Derived.Laws.Cells
import Derived.Laws.World
import Derived.Below
import Derived.MapKept
import Derived.Maps.RangeRun
import Derived.Laws.Strings
import Derived.Lib.SmallJoins
import Derived.LaidEql
import Derived.Laws.StructEq
set_option linter.all false
namespace Wax
open Go (IntKind)

inductive AV where
  | junk
  | bool (b:Bool)
  | int (k:IntKind) (n:Int)
  | str (s:List UInt8)
  | nilI
  | nilP
  | nilF
  | nilM
  | nilS
  | sl (es:Nat) (xs:List AV)
  | ptr (cs:List AV)
  | bx (cs:List AV)
  | agg (cs:List AV)
  | tup (vs:List AV)
  | ifc (t:Nat) (v:AV)
  | fn (f:Nat) (cap:List AV)
  | mp (es:List (List UInt8 × AV))
  | ref (id:Nat) (off:Nat)
  | msl (id es off n:Nat)
  | mref (id:Nat)
  | gp (n:Nat)
  deriving Inhabited

inductive AObj where
  | cells (cs:List AV)
  | mp (es:List (List UInt8 × AV))
  | sit (s:List UInt8) (pos:Nat)
  | mit (es:List (List UInt8 × AV)) (cur:Option (List UInt8 × AV))
  deriving Inhabited

def cells:AV→List AV
  | .agg cs=>cs
  | v=>[v]

structure St where
  fr:List (Nat × AV)
  hp:List (Nat × AObj)

def lk:List (Nat × AV)→Nat→AV
  | [],_=>.junk
  | (i,v)::r,j=>if i=j then v else lk r j

def hlk:List (Nat × AObj)→Nat→Option AObj
  | [],_=>none
  | (i,v)::r,j=>if i=j then some v else hlk r j

def hset:List (Nat × AObj)→Nat→AObj→List (Nat × AObj)
  | [],_,_=>[]
  | (i,v)::r,j,o=>if i=j then (i,o)::r else (i,v)::hset r j o

mutual
def kill (d:Nat):AV→AV
  | .ref id off=>if id=d then .junk else .ref id off
  | .msl id es off n=>if id=d then .junk else .msl id es off n
  | .mref id=>if id=d then .junk else .mref id
  | .agg cs=>.agg (killL d cs)
  | .tup vs=>.tup (killL d vs)
  | .ifc t v=>.ifc t (kill d v)
  | .fn f cap=>.fn f (killL d cap)
  | .junk=>.junk
  | .bool b=>.bool b
  | .int k n=>.int k n
  | .str s=>.str s
  | .nilI=>.nilI
  | .nilP=>.nilP
  | .nilF=>.nilF
  | .nilM=>.nilM
  | .nilS=>.nilS
  | .gp q=>.gp q
  | .sl es xs=>.sl es xs
  | .ptr cs=>.ptr cs
  | .bx cs=>.bx cs
  | .mp es=>.mp es
def killL (d:Nat):List AV→List AV
  | []=>[]
  | v::r=>kill d v::killL d r
end
def killF (d:Nat):List (Nat × AV)→List (Nat × AV)
  | []=>[]
  | (i,v)::r=>(i,kill d v)::killF d r

def killO (d:Nat):AObj→AObj
  | .cells cs=>.cells (killL d cs)
  | .mp es=>.mp es
  | .sit s p=>.sit s p
  | .mit es c=>.mit es c

def killH (d:Nat):List (Nat × AObj)→List (Nat × AObj)
  | []=>[]
  | (i,o)::r=>if i=d then killH d r else (i,killO d o)::killH d r

inductive Opd where
  | t (n:Nat)
  | k (v:AV)
  deriving Inhabited

def ev (fr:List (Nat × AV)):Opd→AV
  | .t n=>lk fr n
  | .k v=>v

inductive Bin where
  | add | sub | mul | quo | rem | and | or | xor | shl | shr | andNot
  | eql | neq | lss | leq | gtr | geq
  deriving DecidableEq,Inhabited

inductive Un where
  | neg | xor | not
  deriving DecidableEq,Inhabited

inductive SOp where
  | mv (x:Opd)
  | pick (c a b:Opd)
  | alloc (zero:List AV)
  | agg (zero:List AV) (parts:List (Nat × Nat × Opd))
  | mkSl (es n:Nat) (zero:List AV) (parts:List (Nat × Opd))
  | load (n:Option Nat) (x:Opd)
  | store (n:Nat) (a x:Opd)
  | chk (x:Opd)
  | bin (b:Bin) (x y:Opd)
  | eqB (neg:Bool) (x y:Opd)
  | eqA (neg:Bool) (ks:List Nat) (x y:Opd)
  | eqI (ps:List Nat) (gs:List (Nat × List UInt8)) (neg:Bool) (x y:Opd)
  | isNil (k:Nat) (neg:Bool) (x:Opd)
  | un (u:Un) (x:Opd)
  | cInt (k:IntKind) (x:Opd)
  | cIntStr (x:Opd)
  | cNop (x:Opd)
  | cStrBytes (x:Opd)
  | cBytesStr (x:Opd)
  | cStrRunes (x:Opd)
  | cRunesStr (x:Opd)
  | cSl (x:Opd)
  | mkIfc (t:Nat) (x:Opd)
  | mkFn (f:Nat) (cap:List Opd)
  | mkMap
  | mkSlice (es bytes:Nat) (zero:List AV) (len cap:Opd)
  | slStr (x:Opd) (lo hi:Option Opd)
  | slSl (es:Nat) (x:Opd) (lo hi:Option Opd)
  | fAddr (off:Nat) (x:Opd)
  | field (off:Nat) (n:Option Nat) (x:Opd)
  | iAddr (es:Nat) (x i:Opd)
  | iAddrA (len es:Nat) (x i:Opd)
  | iStr (x i:Opd)
  | iArr (len es:Nat) (n:Option Nat) (x i:Opd)
  | look (zero:AV) (ok:Bool) (m k:Opd)
  | mput (m k v:Opd)
  | mputD (m k v:Opd)
  | entry (x:Opd)
  | rangeS (x:Opd)
  | rangeM (x:Opd)
  | nextS (x:Opd)
  | extr (x:Opd) (i:Nat)
  | assert (t:Nat) (zero:AV) (ok:Bool) (x:Opd)
  | assertI (tb:List (Nat × Bool)) (x:Opd)
  | len (k:Nat) (x:Opd)
  | app (es bytes:Nat) (x y:Opd)
  | appF (es bytes:Nat) (x y:Opd)
  | call (f:Nat) (args:List Opd)
  | callV (f:Opd) (args:List Opd)
  | inv (x:Opd) (name:String) (args:List Opd)
  | mkSlF (es n:Nat) (zero:List AV) (parts:List (Nat × Opd))
  | box (x:Opd)
  | boxF (x:Opd)
  | callS (f:Nat) (args:List Opd)
  | callVS (f:Opd) (args:List Opd)
  | invS (x:Opd) (name:String) (args:List Opd)
  | mn (x y:Opd)
  | fl (s:SOp)
  | nw (q:Nat) (s:SOp)
  | allocE (zero:List AV)
  | bad
  deriving Inhabited

structure SO where
  dst:Option Nat
  op:SOp
  guard:Option (Nat × Bool)
  deriving Inhabited

inductive GOp where
  | drop (d:Nat)
  | frz (d:Nat)
  | ren (a b:Nat)
  deriving Inhabited

inductive SCode where
  | skip
  | ghost (g:List GOp)
  | region (ops:List SO) (live drop:List Nat) (dd:List (List Nat))
  | regM (dst:Option Nat) (x:Opd) (ops:List SO) (live drop:List Nat) (dd:List (List Nat))
  | seq (a b:SCode)
  | cond (c:Opd) (a b:SCode)
  | block (id:Nat) (c:SCode)
  | loop (live:List Nat) (c:SCode)
  | exit (id:Nat)
  | ret
  | bad
  deriving Inhabited

inductive RV where
  | t (n:Nat)
  | c (m:Option Nat) (n:Nat)
  deriving Inhabited

structure SFn where
  np:Nat
  body:SCode
  res:List RV
  deriving Inhabited

def gcA:List (Nat × List UInt8):=[(2,[100,109,97,114,99,58,32,110,111,32,112,111,108,105,99,121,32,102,111,117,110,100,32,102,111,114,32,100,111,109,97,105,110])]
end Wax


namespace Wax
open Go (IntKind)

structure Gam where
  fn:Nat→List AV→Option AV
  mth:Nat→String→Option Nat
  st:Nat→List AV→List (Nat × AObj)→Option (AV × List (Nat × AObj))

mutual
def hasRef:AV→Bool
  | .ref _ _=>true
  | .msl _ _ _ _=>true
  | .mref _=>true
  | .agg cs=>hasRefL cs
  | .tup vs=>hasRefL vs
  | .ifc _ v=>hasRef v
  | .fn _ cap=>hasRefL cap
  | .junk=>false
  | .bool _=>false
  | .int _ _=>false
  | .str _=>false
  | .nilI=>false
  | .nilP=>false
  | .nilF=>false
  | .nilM=>false
  | .nilS=>false
  | .gp _=>false
  | .sl _ _=>false
  | .ptr _=>false
  | .bx _=>false
  | .mp _=>false
def hasRefL:List AV→Bool
  | []=>false
  | v::r=>hasRef v || hasRefL r
end
mutual
def flat:AV→Bool
  | .ref _ _=>false
  | .msl _ _ _ _=>false
  | .mref _=>false
  | .agg cs=>flatL cs
  | .tup vs=>flatL vs
  | .ifc _ v=>flat v
  | .fn _ cap=>flatL cap
  | .junk=>true
  | .bool _=>true
  | .int _ _=>true
  | .str _=>true
  | .nilI=>true
  | .nilP=>true
  | .nilF=>true
  | .nilM=>true
  | .nilS=>true
  | .gp _=>true
  | .sl _ _=>false
  | .ptr _=>false
  | .bx _=>false
  | .mp _=>false
def flatL:List AV→Bool
  | []=>true
  | v::r=>flat v && flatL r
end
def atom:AV→Bool
  | .agg _=>false
  | .tup _=>false
  | .junk=>false
  | _=>true

def atoms:List AV→Bool
  | []=>true
  | v::r=>atom v && atoms r

def group (es:Nat):Nat→List AV→List AV
  | 0,_=>[]
  | n+1,cs=>.agg (cs.take es)::group es n (cs.drop es)

def elems (es n:Nat) (cs:List AV):List AV:=if es=1 then cs.take n else group es n cs

mutual
def snapW (g:AV→AV):AV→AV
  | .ref id off=>g (.ref id off)
  | .msl id es off n=>g (.msl id es off n)
  | .mref id=>g (.mref id)
  | .agg cs=>.agg (snapWL g cs)
  | .tup vs=>.tup (snapWL g vs)
  | .ifc t v=>.ifc t (snapW g v)
  | .fn f cap=>.fn f (snapWL g cap)
  | .junk=>.junk
  | .bool b=>.bool b
  | .int k n=>.int k n
  | .str s=>.str s
  | .nilI=>.nilI
  | .nilP=>.nilP
  | .nilF=>.nilF
  | .nilM=>.nilM
  | .nilS=>.nilS
  | .gp q=>.gp q
  | .sl es xs=>.sl es xs
  | .ptr cs=>.ptr cs
  | .bx cs=>.bx cs
  | .mp es=>.mp es
def snapWL (g:AV→AV):List AV→List AV
  | []=>[]
  | v::r=>snapW g v::snapWL g r
end
def resolveA (s:AV→AV) (hp:List (Nat × AObj)):AV→AV
  | .ref id off=>match hlk hp id with
    | some (.cells cs)=>.ptr ((cs.drop off).map s)
    | _=>.junk
  | .msl id es off n=>match hlk hp id with
    | some (.cells cs)=>if off+n * es≤cs.length∧atoms cs=true∧0 < es then .sl es (elems es n ((cs.drop off).map s)) else .junk
    | _=>.junk
  | .mref id=>match hlk hp id with
    | some (.mp es)=>.mp es
    | _=>.junk
  | v=>v

def snap:Nat→List (Nat × AObj)→AV→AV
  | 0,_=>fun _=>.junk
  | f+1,hp=>snapW (resolveA (snap f hp) hp)

def lexLt (x y:List UInt8):Bool:=Go.Op.bytesLess x y

def binI (b:Bin) (k:IntKind) (x y:Int):Option AV :=
  match b with
  | .add=>some (.int k (k.wrap (x+y)))
  | .sub=>some (.int k (k.wrap (x - y)))
  | .mul=>some (.int k (k.wrap (x * y)))
  | .quo=>if y=0 then none else some (.int k (k.wrap (x.tdiv y)))
  | .rem=>if y=0 then none else some (.int k (x.tmod y))
  | .and=>some (.int k (k.wrap (BitVec.ofInt k.bits x &&& BitVec.ofInt k.bits y).toNat))
  | .or=>some (.int k (k.wrap (BitVec.ofInt k.bits x ||| BitVec.ofInt k.bits y).toNat))
  | .xor=>some (.int k (k.wrap (BitVec.ofInt k.bits x ^^^ BitVec.ofInt k.bits y).toNat))
  | .andNot=>some (.int k (k.wrap (BitVec.ofInt k.bits x &&& ~~~BitVec.ofInt k.bits y).toNat))
  | .shl=>if y < 0 then none else some (.int k (k.wrap (x * 2 ^ (min y.toNat k.bits))))
  | .shr=>if y < 0 then none else some (.int k (x.fdiv (2 ^ (min y.toNat k.bits))))
  | .eql=>some (.bool (decide (x=y)))
  | .neq=>some (.bool (decide (x ≠ y)))
  | .lss=>some (.bool (decide (x < y)))
  | .leq=>some (.bool (decide (x≤y)))
  | .gtr=>some (.bool (decide (y < x)))
  | .geq=>some (.bool (decide (y≤x)))

def binS (b:Bin) (x y:List UInt8):Option AV :=
  match b with
  | .add=>if x.length+y.length < 4611686018427387904 then some (.str (x++y)) else none
  | .eql=>some (.bool (decide (x=y)))
  | .neq=>some (.bool (decide (x ≠ y)))
  | .lss=>some (.bool (lexLt x y))
  | .leq=>some (.bool (lexLt x y || decide (x=y)))
  | .gtr=>some (.bool (!(lexLt x y || decide (x=y))))
  | .geq=>some (.bool (!lexLt x y))
  | _=>none

def leafEq:Nat→AV→AV→Option Bool
  | 0,.bool a,.bool b=>some (a == b)
  | 1,.int k a,.int k' b=>if k=k' then some (decide (a=b)) else none
  | 2,.str a,.str b=>some (decide (a=b))
  | _,_,_=>none

def lkC:List (Nat × List UInt8)→Nat→Option (List UInt8)
  | [],_=>none
  | (i,v)::r,j=>if i=j then some v else lkC r j
def farC (gs:List (Nat × List UInt8)) (n:Nat) (s:List UInt8):Option Bool:=match lkC gs n with
  | some t=>if s=t then none else some false
  | none=>none
def ifcEq (ps:List Nat) (gs:List (Nat × List UInt8)):AV→AV→Option Bool
  | .nilI,.ifc _ _=>some false
  | .ifc _ _,.nilI=>some false
  | .ifc a (.gp n),.ifc b (.gp m)=>if a=b then (if ps.contains a && n == m then some true else none) else some false
  | .ifc a (.ptr [.str s]),.ifc b (.gp n)=>if a=b then (if ps.contains a then farC gs n s else none) else some false
  | .ifc a _,.ifc b _=>if a=b then none else some false
  | _,_=>none

def lkB:List (Nat × Bool)→Nat→Option Bool
  | [],_=>none
  | (i,v)::r,j=>if i=j then some v else lkB r j

def leafEqL:List Nat→List AV→List AV→Option Bool
  | [],[],[]=>some true
  | k::ks,a::x,b::y=>match leafEq k a b,leafEqL ks x y with
    | some p,some q=>some (p && q)
    | _,_=>none
  | _,_,_=>none

def abin (b:Bin):AV→AV→Option AV
  | .int k x,.int k' y=>if b=.shl∨b=.shr∨k=k' then binI b k x y else none
  | .str x,.str y=>binS b x y
  | _,_=>none

def amin:AV→AV→Option AV
  | .int k x,.int k' y=>if k=k' then some (.int k (if y < x then y else x)) else none
  | _,_=>none

def aun (u:Un):AV→Option AV
  | .int k n=>match u with
    | .neg=>some (.int k (k.wrap (0 - n)))
    | .xor=>binI .xor k (if k.signed then -1 else k.max) n
    | .not=>none
  | .bool b=>match u with
    | .not=>some (.bool (!b))
    | _=>none
  | _=>none

def isNilA:Nat→AV→Option Bool
  | 0,.nilI=>some true
  | 0,.ifc _ _=>some false
  | 1,.nilS=>some true
  | 1,.sl _ _=>some false
  | 1,.msl _ _ _ _=>some false
  | 2,.nilP=>some true
  | 2,.ptr _=>some false
  | 2,.ref _ _=>some false
  | 3,.nilM=>some true
  | 3,.mp _=>some false
  | 3,.mref _=>some false
  | 4,.nilF=>some true
  | 4,.fn _ _=>some false
  | _,_=>none

def spliceL:List AV→Nat→List AV→List AV
  | cs,_,[]=>cs
  | cs,off,x::r=>spliceL (cs.set off x) (off+1) r

def loadC:Option Nat→List AV→Option AV
  | none,c::_=>if atom c then some c else none
  | some n,cs=>if n≤cs.length∧atoms (cs.take n) then some (.agg (cs.take n)) else none
  | none,[]=>none

def aload (hp:List (Nat × AObj)) (n:Option Nat):AV→Option AV
  | .ptr cs=>loadC n cs
  | .bx cs=>loadC n cs
  | .ref id off=>match hlk hp id with
    | some (.cells cs)=>loadC n (cs.drop off)
    | _=>none
  | _=>none

def partA (n:Option Nat) (cs:List AV):Option AV:=loadC n cs

def toBytes:List AV→Option (List UInt8)
  | []=>some []
  | .int .u8 n::r=>(toBytes r).map (UInt8.ofNat n.toNat :: ·)
  | _::_=>none

def decR (s:List UInt8):Nat × Nat:=Go.Utf8.decode ⟨s.toArray⟩ 0

def runesF:Nat→List UInt8→List Nat
  | 0,_=>[]
  | f+1,s=>if s=[] then [] else (decR s).1::runesF f (s.drop (decR s).2)

def encR (r:Int):List UInt8:=(Go.Utf8.encode r).data.toList

def toRunes:List AV→Option (List UInt8)
  | []=>some []
  | .int .i32 n::r=>(toRunes r).map (encR n ++ ·)
  | _::_=>none

def bcA (s:List UInt8):List AV:=s.map fun b=>AV.int .u8 (b.toNat:Int)
def rcA (s:List Nat):List AV:=s.map fun (c:Nat)=>AV.int .i32 (c:Int)

def slCells (hp:List (Nat × AObj)):AV→Option (List AV)
  | .nilS=>some []
  | .sl _ xs=>some (xs.flatMap cells)
  | .msl id es off n=>match hlk hp id with
    | some (.cells cs)=>if off+n * es≤cs.length then some ((cs.drop off).take (n * es)) else none
    | _=>none
  | .str s=>some (bcA s)
  | _=>none

def alen (hp:List (Nat × AObj)):Nat→AV→Option Nat
  | 0,.str s=>some s.length
  | 1,.nilS=>some 0
  | 1,.sl _ xs=>some xs.length
  | 1,.msl _ _ _ n=>some n
  | 2,.nilM=>some 0
  | 2,.mp es=>some es.length
  | 2,.mref id=>match hlk hp id with
    | some (.mp es)=>some es.length
    | _=>none
  | _,_=>none

def mfind (es:List (List UInt8 × AV)) (k:List UInt8):Option AV :=
  match es with
  | []=>none
  | (i,v)::r=>if k=i then some v else mfind r k

def mset (es:List (List UInt8 × AV)) (k:List UInt8) (v:AV):List (List UInt8 × AV) :=
  match es with
  | []=>[(k,v)]
  | (i,u)::r=>if k=i then (k,v)::r else (i,u)::mset r k v

def insS (es:List (List UInt8 × AV)) (k:List UInt8) (v:AV):List (List UInt8 × AV) :=
  match es with
  | []=>[(k,v)]
  | (i,u)::r=>if k < i then (k,v)::(i,u)::r else (i,u)::insS r k v

def ments (hp:List (Nat × AObj)):AV→Option (List (List UInt8 × AV))
  | .nilM=>some []
  | .mp es=>some es
  | .mref id=>match hlk hp id with
    | some (.mp es)=>some es
    | _=>none
  | _=>none

def idx (i:AV):Option Nat :=
  match i with
  | .int _ n=>if 0≤n then some n.toNat else none
  | _=>none

def asB:AV→Option Bool
  | .bool b=>some b
  | _=>none

def asS:AV→Option (List UInt8)
  | .str s=>some s
  | _=>none

structure Out where
  v:AV
  hp:List (Nat × AObj)
  new:List Nat

def just (hp:List (Nat × AObj)) (v:AV):Option Out:=some ⟨v,hp,[]⟩

def made (hp:List (Nat × AObj)) (d:Nat) (o:AObj) (v:AV):Option Out:=some ⟨v,(d,o)::killH d hp,[d]⟩

def fillA (zero:List AV):List (Nat × Nat × AV)→Option (List AV)
  | []=>some zero
  | (off,n,v)::r =>
    if (cells v).length=n∧off+n≤zero.length∧atoms (cells v) then fillA (spliceL zero off (cells v)) r else none

def bounds (len:Nat) (lo hi:Option AV):Option (Nat × Nat) :=
  match (match hi with | none=>some len | some h=>idx h) with
  | none=>none
  | some h=>match (match lo with | none=>some 0 | some l=>idx l) with
    | none=>none
    | some l=>if l≤h∧h≤len then some (l,h) else none

def cut {α:Type} (xs:List α) (lo hi:Option AV) (l h:Nat):List α :=
  match lo,hi with
  | none,none=>xs
  | some _,none=>xs.drop l
  | none,some _=>xs.take h
  | some _,some _=>(xs.take h).drop l

def acall (Γ:Gam) (hp:List (Nat × AObj)) (f:Nat) (args:List AV):Option AV :=
  if hasRefL args then
    match Γ.fn f (args.map (snap 4 hp)) with
    | some r=>if flat r then some r else none
    | none=>none
  else
    match Γ.fn f args with
    | some r=>if hasRef r then none else some r
    | none=>none

mutual
def mapId (g:Nat→Nat):AV→AV
  | .ref id off=>.ref (g id) off
  | .msl id es off n=>.msl (g id) es off n
  | .mref id=>.mref (g id)
  | .agg cs=>.agg (mapIdL g cs)
  | .tup vs=>.tup (mapIdL g vs)
  | .ifc t v=>.ifc t (mapId g v)
  | .fn f cap=>.fn f (mapIdL g cap)
  | .junk=>.junk
  | .bool b=>.bool b
  | .int k n=>.int k n
  | .str s=>.str s
  | .nilI=>.nilI
  | .nilP=>.nilP
  | .nilF=>.nilF
  | .nilM=>.nilM
  | .nilS=>.nilS
  | .gp q=>.gp q
  | .sl es xs=>.sl es xs
  | .ptr cs=>.ptr cs
  | .bx cs=>.bx cs
  | .mp es=>.mp es
def mapIdL (g:Nat→Nat):List AV→List AV
  | []=>[]
  | v::r=>mapId g v::mapIdL g r
end
mutual
def refs:AV→List Nat
  | .ref id _=>[id]
  | .msl id _ _ _=>[id]
  | .mref id=>[id]
  | .agg cs=>refsL cs
  | .tup vs=>refsL vs
  | .ifc _ v=>refs v
  | .fn _ cap=>refsL cap
  | .junk=>[]
  | .bool _=>[]
  | .int _ _=>[]
  | .str _=>[]
  | .nilI=>[]
  | .nilP=>[]
  | .nilF=>[]
  | .nilM=>[]
  | .nilS=>[]
  | .gp _=>[]
  | .sl _ _=>[]
  | .ptr _=>[]
  | .bx _=>[]
  | .mp _=>[]
def refsL:List AV→List Nat
  | []=>[]
  | v::r=>refs v++refsL r
end
def mapO (g:Nat→Nat):AObj→AObj
  | .cells cs=>.cells (mapIdL g cs)
  | .mp es=>.mp es
  | .sit s p=>.sit s p
  | .mit es c=>.mit es c

def refsO:AObj→List Nat
  | .cells cs=>refsL cs
  | .mp _=>[]
  | .sit _ _=>[]
  | .mit _ _=>[]

def mapH (g:Nat→Nat):List (Nat × AObj)→List (Nat × AObj)
  | []=>[]
  | (i,o)::r=>(g i,mapO g o)::mapH g r

def reach (hp:List (Nat × AObj)):Nat→List Nat→List Nat→List Nat
  | 0,_,acc=>acc
  | _,[],acc=>acc
  | n+1,i::r,acc=>if acc.contains i then reach hp n r acc else reach hp n (r++(match hlk hp i with | some o=>refsO o | none=>[])) (acc++[i])

def pickH (hp:List (Nat × AObj)):List Nat→Option (List (Nat × AObj))
  | []=>some []
  | i::r=>match hlk hp i,pickH hp r with
    | some o,some l=>some ((i,o)::l)
    | _,_=>none

def restH (ids:List Nat):List (Nat × AObj)→List (Nat × AObj)
  | []=>[]
  | (i,o)::r=>if ids.contains i then restH ids r else (i,o)::restH ids r

def idxN:List Nat→Nat→Nat
  | [],_=>0
  | i::r,j=>if i=j then 0 else idxN r j+1

def nameN (ids:List Nat) (d:Nat) (i:Nat):Nat:=if i < ids.length then ids.getD i 0 else d+100000 * (i - ids.length)

def keysH:List (Nat × AObj)→List Nat
  | []=>[]
  | (i,_)::r=>i::keysH r

def killHs:List Nat→List (Nat × AObj)→List (Nat × AObj)
  | [],hp=>hp
  | d::r,hp=>killHs r (killH d hp)

def deadN (ks:List Nat):List Nat→Nat→List Nat
  | [],_=>[]
  | i::r,j=>if ks.contains j then deadN ks r (j+1) else i::deadN ks r (j+1)

def freshN (hp:List (Nat × AObj)) (ids:List Nat) (d:Nat):List Nat→Bool
  | []=>true
  | i::r=>(decide (i < ids.length) || ((hlk hp (nameN ids d i)).isNone && decide (nameN ids d i < 1000000))) && freshN hp ids d r

def inIds (ids:List Nat) (l:List Nat):Bool:=l.all fun i=>ids.contains i

def closedH (ids:List Nat):List (Nat × AObj)→Bool
  | []=>true
  | (_,o)::r=>inIds ids (refsO o) && closedH ids r

def backS (hp:List (Nat × AObj)) (d:Nat) (ids:List Nat) (q:AV × List (Nat × AObj)):Option Out :=
  if freshN hp ids d (keysH q.2) then
    some ⟨mapId (nameN ids d) q.1,mapH (nameN ids d) q.2++killHs (deadN (keysH q.2) ids 0) (restH ids hp),deadN (keysH q.2) ids 0⟩
  else none

def acallS (Γ:Gam) (hp:List (Nat × AObj)) (d f:Nat) (args:List AV):Option Out :=
  match pickH hp (reach hp 200 (refsL args) []) with
  | none=>none
  | some os =>
    if inIds (reach hp 200 (refsL args) []) (refsL args) && closedH (reach hp 200 (refsL args) []) os then
      (match Γ.st f (mapIdL (idxN (reach hp 200 (refsL args) [])) args) (mapH (idxN (reach hp 200 (refsL args) [])) os) with
      | none=>none
      | some q=>backS hp d (reach hp 200 (refsL args) []) q)
    else none

def one1:AV→Bool
  | .sl es _=>es == 1
  | .msl _ es _ _=>es == 1
  | _=>true

def ycount (es:Nat):AV→Option Nat
  | .nilS=>some 0
  | .sl es' xs=>if es'=es then some xs.length else none
  | .msl _ es' _ n=>if es'=es then some n else none
  | .str s=>if es=1 then some s.length else none
  | _=>none

def isSl:AV→Bool
  | .nilS=>true
  | .sl _ _=>true
  | .msl _ _ _ _=>true
  | _=>false

def aappM (hp:List (Nat × AObj)) (d es bytes:Nat) (ys:List AV) (k id es' off n:Nat):Option AObj→Option Out
  | some (.cells cs) =>
    if es=es'∧off+n * es≤cs.length∧(n+k+1) * (bytes+1) < 35184372088832 then
      some ⟨.msl d es 0 (n+k),(d,.cells (killL d (killL id ((cs.drop off).take (n * es)++ys))))::killH d (killH id hp),[id,d]⟩
    else none
  | _=>none

def aappN (hp:List (Nat × AObj)) (d es bytes:Nat) (ys:List AV) (k:Nat):AV→Option Out
  | .nilS=>if (k+1) * (bytes+1) < 35184372088832 then made hp d (.cells (killL d ys)) (.msl d es 0 k) else none
  | .msl id es' off n=>aappM hp d es bytes ys k id es' off n (hlk hp id)
  | _=>none

def aapp (hp:List (Nat × AObj)) (d es bytes:Nat) (x:AV) (ys:List AV) (k:Nat):Option Out :=
  if k=0 then (if isSl x && atoms ys then just hp x else none) else if atoms ys then aappN hp d es bytes ys k x else none

def frzOut (es:Nat):Option Out→Option Out
  | some ⟨.msl _ _ _ m,(_,.cells cs)::hp,new⟩=>if atoms cs=true∧hasRefL cs=false∧m * es≤cs.length∧0 < es then some ⟨.sl es (elems es m cs),hp,new⟩ else none
  | _=>none

def opdS:Opd→List Nat
  | .t n=>[n]
  | .k _=>[]

def readsOf:SOp→List Nat
  | .mv x=>opdS x
  | .pick c a b=>opdS c++opdS a++opdS b
  | .alloc _=>[]
  | .allocE _=>[]
  | .agg _ ps=>ps.flatMap fun p=>opdS p.2.2
  | .mkSl _ _ _ ps=>ps.flatMap fun p=>opdS p.2
  | .mkSlF _ _ _ ps=>ps.flatMap fun p=>opdS p.2
  | .box x=>opdS x
  | .boxF x=>opdS x
  | .load _ x=>opdS x
  | .store _ a x=>opdS a++opdS x
  | .chk x=>opdS x
  | .bin _ x y=>opdS x++opdS y
  | .eqB _ x y=>opdS x++opdS y
  | .eqI _ _ _ x y=>opdS x++opdS y
  | .eqA _ _ x y=>opdS x++opdS y
  | .isNil _ _ x=>opdS x
  | .un _ x=>opdS x
  | .cInt _ x=>opdS x
  | .cIntStr x=>opdS x
  | .cNop x=>opdS x
  | .cStrBytes x=>opdS x
  | .cBytesStr x=>opdS x
  | .cStrRunes x=>opdS x
  | .cRunesStr x=>opdS x
  | .cSl x=>opdS x
  | .mkIfc _ x=>opdS x
  | .mkFn _ l=>l.flatMap opdS
  | .mkMap=>[]
  | .mkSlice _ _ _ a b=>opdS a++opdS b
  | .slStr x a b=>opdS x++a.toList.flatMap opdS++b.toList.flatMap opdS
  | .slSl _ x a b=>opdS x++a.toList.flatMap opdS++b.toList.flatMap opdS
  | .fAddr _ x=>opdS x
  | .field _ _ x=>opdS x
  | .iAddr _ x i=>opdS x++opdS i
  | .iAddrA _ _ x i=>opdS x++opdS i
  | .iStr x i=>opdS x++opdS i
  | .iArr _ _ _ x i=>opdS x++opdS i
  | .look _ _ m k=>opdS m++opdS k
  | .mput m k v=>opdS m++opdS k++opdS v
  | .mputD m k v=>opdS m++opdS k++opdS v
  | .entry x=>opdS x
  | .rangeS x=>opdS x
  | .rangeM x=>opdS x
  | .nextS x=>opdS x
  | .extr x _=>opdS x
  | .assert _ _ _ x=>opdS x
  | .assertI _ x=>opdS x
  | .len _ x=>opdS x
  | .app _ _ x y=>opdS x++opdS y
  | .appF _ _ x y=>opdS x++opdS y
  | .call _ l=>l.flatMap opdS
  | .callV f l=>opdS f++l.flatMap opdS
  | .inv x _ l=>opdS x++l.flatMap opdS
  | .callS _ l=>l.flatMap opdS
  | .callVS f l=>opdS f++l.flatMap opdS
  | .invS x _ l=>opdS x++l.flatMap opdS
  | .mn x y=>opdS x++opdS y
  | .fl s=>readsOf s
  | .nw _ s=>readsOf s
  | .bad=>[]

def calm:SOp→Bool
  | .alloc _=>false
  | .allocE _=>false
  | .nw _ _=>false
  | .mkSl _ _ _ _=>false
  | .box _=>false
  | .store _ _ _=>false
  | .mkMap=>false
  | .mkSlice _ _ _ _ _=>false
  | .cStrBytes _=>false
  | .cStrRunes _=>false
  | .mput _ _ _=>false
  | .mputD _ _ _=>false
  | .rangeS _=>false
  | .rangeM _=>false
  | .nextS _=>false
  | .app _ _ _ _=>false
  | .appF _ _ _ _=>false
  | .callS _ _=>false
  | .callVS _ _=>false
  | .invS _ _ _=>false
  | .fl s=>calm s
  | .bad=>false
  | _=>true

def argsOf:SOp→List Opd
  | .call _ l=>l
  | .callV f l=>f::l
  | .inv x _ l=>x::l
  | .fl s=>argsOf s
  | _=>[]

mutual
def pureV:AV→Bool
  | .ref _ _=>false
  | .msl _ _ _ _=>false
  | .mref _=>false
  | .agg cs=>pureVL cs
  | .tup vs=>pureVL vs
  | .ifc _ v=>pureV v
  | .fn _ cap=>pureVL cap
  | .junk=>false
  | .bool _=>true
  | .int _ _=>true
  | .str _=>true
  | .nilI=>true
  | .nilP=>true
  | .nilF=>true
  | .nilM=>true
  | .nilS=>true
  | .gp _=>true
  | .sl _ _=>true
  | .ptr _=>true
  | .bx _=>true
  | .mp _=>true
def pureVL:List AV→Bool
  | []=>true
  | v::r=>pureV v && pureVL r
end
def flatIn (fr:List (Nat × AV)) (s:SOp):Bool:=(readsOf s).all (fun i=>pureV (lk fr i)) && (argsOf s).all (fun x=>pureV (ev fr x))

def okNw:SOp→Bool
  | .mkSl _ _ _ _=>true
  | .app _ _ (.t _) (.t _)=>true
  | .appF _ _ (.t _) (.t _)=>true
  | _=>false
def noD (q:Nat) (hp:List (Nat × AObj)) (v:AV):Bool := !(refs v).contains q && (refs v).all fun j=>match hlk hp j with
  | some o => !(refsO o).contains q
  | none=>true
def nwIn (q:Nat) (fr:List (Nat × AV)) (hp:List (Nat × AObj)) (s:SOp):Bool:=okNw s && (readsOf s).all fun i=>noD q hp (lk fr i)
def nwOut (q d:Nat) (out:Out):Bool:=decide (q ≠ d) && !(refs out.v).contains q && match hlk out.hp d with
  | some o => !(refsO o).contains q
  | none=>true

def aop (Γ:Gam) (fr:List (Nat × AV)) (hp:List (Nat × AObj)) (d:Nat):SOp→Option Out
  | .fl s=>if flatIn fr s then (match aop Γ fr [] d s with | some out=>if pureV out.v then just hp out.v else none | none=>none) else none
  | .mv x=>just hp (ev fr x)
  | .pick c a b=>match asB (ev fr c) with
    | some true=>just hp (ev fr a)
    | some false=>just hp (ev fr b)
    | none=>none
  | .nw q s=>if nwIn q fr hp s then (match aop Γ fr hp d s with | some out=>if nwOut q d out then some out else none | none=>none) else none
  | .allocE zero=>if hasRefL zero=false then some ⟨.ref d 0,killH d hp++[(d,.cells zero)],[d]⟩ else none
  | .alloc zero=>made hp d (.cells zero) (.ref d 0)
  | .agg zero parts=>match fillA zero (parts.map fun p=>(p.1,p.2.1,ev fr p.2.2)) with
    | some cs=>just hp (.agg cs)
    | none=>none
  | .mkSl es n zero parts=>match fillA ((List.replicate n zero).flatten) (parts.map fun p=>(p.1 * es,es,ev fr p.2)) with
    | some cs=>made hp d (.cells (killL d cs)) (.msl d es 0 n)
    | none=>none
  | .mkSlF es n zero parts=>match fillA ((List.replicate n zero).flatten) (parts.map fun p=>(p.1 * es,es,ev fr p.2)) with
    | some cs=>if atoms cs=true∧hasRefL cs=false∧0 < es∧n * es≤cs.length then just hp (.sl es (elems es n cs)) else none
    | none=>none
  | .box x=>if atoms (cells (ev fr x))=true then made hp d (.cells (killL d (cells (ev fr x)))) (.ref d 0) else none
  | .boxF x=>if atoms (cells (ev fr x))=true∧hasRefL (cells (ev fr x))=false then just hp (.bx (cells (ev fr x))) else none
  | .load n x=>match aload hp n (ev fr x) with
    | some v=>just hp v
    | none=>none
  | .store n a x=>match ev fr a with
    | .ref id off=>match hlk hp id with
      | some (.cells cs) =>
        if (cells (ev fr x)).length=n∧off+n≤cs.length∧atoms (cells (ev fr x)) then
          some ⟨.junk,hset hp id (.cells (spliceL cs off (cells (ev fr x)))),[]⟩
        else none
      | _=>none
    | _=>none
  | .chk x=>match ev fr x with
    | .ptr cs=>just hp (.ptr cs)
    | .ref id off=>just hp (.ref id off)
    | _=>none
  | .bin b x y=>match abin b (ev fr x) (ev fr y) with
    | some v=>just hp v
    | none=>none
  | .eqI ps gs neg x y=>match ifcEq ps gs (ev fr x) (ev fr y) with
    | some b=>just hp (.bool (b != neg))
    | none=>none
  | .eqB neg x y=>match leafEq 0 (ev fr x) (ev fr y) with
    | some b=>just hp (.bool (b != neg))
    | none=>none
  | .eqA neg ks x y=>match ev fr x,ev fr y with
    | .agg xs,.agg ys=>match leafEqL ks xs ys with
      | some b=>just hp (.bool (b != neg))
      | none=>none
    | _,_=>none
  | .isNil k neg x=>match isNilA k (ev fr x) with
    | some b=>just hp (.bool (b != neg))
    | none=>none
  | .mn x y=>match amin (ev fr x) (ev fr y) with
    | some v=>just hp v
    | none=>none
  | .un u x=>match aun u (ev fr x) with
    | some v=>just hp v
    | none=>none
  | .cInt k x=>match ev fr x with
    | .int _ n=>just hp (.int k (k.wrap n))
    | _=>none
  | .cIntStr x=>match ev fr x with
    | .int _ n=>just hp (.str (encR n))
    | _=>none
  | .cNop x=>match ev fr x with
    | .str s=>just hp (.str s)
    | _=>none
  | .cStrBytes x=>match ev fr x with
    | .str s=>if s.length < 4611686018427387904 then made hp d (.cells (bcA s)) (.msl d 1 0 s.length) else none
    | _=>none
  | .cBytesStr x=>match ev fr x with
    | .str _=>none
    | v=>if one1 v then (match slCells hp v with
      | some cs=>match toBytes cs with
        | some s=>just hp (.str s)
        | none=>none
      | none=>none) else none
  | .cStrRunes x=>match ev fr x with
    | .str s=>if s.length < 4611686018427387904 then made hp d (.cells (rcA (runesF s.length s))) (.msl d 1 0 (runesF s.length s).length) else none
    | _=>none
  | .cRunesStr x=>match ev fr x with
    | .str _=>none
    | v=>if one1 v then (match slCells hp v with
      | some cs=>match toRunes cs with
        | some s=>just hp (.str s)
        | none=>none
      | none=>none) else none
  | .cSl x=>match ev fr x with
    | .msl id es off n=>match hlk hp id with
      | some (.cells _)=>just hp (.msl id es off n)
      | _=>none
    | _=>none
  | .mkIfc t x=>just hp (.ifc t (ev fr x))
  | .mkFn f cap=>just hp (.fn f (cap.map (ev fr)))
  | .mkMap=>made hp d (.mp []) (.mref d)
  | .mkSlice es bytes zero len cap=>match idx (ev fr len),idx (ev fr cap) with
    | some n,some c =>
      if n≤c∧(c+1) * (bytes+1) < 35184372088832∧c < 35184372088832 then made hp d (.cells ((List.replicate n zero).flatten)) (.msl d es 0 n) else none
    | _,_=>none
  | .slStr x lo hi=>match ev fr x with
    | .str s=>match bounds s.length (lo.map (ev fr)) (hi.map (ev fr)) with
      | some (l,h)=>just hp (.str (cut s (lo.map (ev fr)) (hi.map (ev fr)) l h))
      | none=>none
    | _=>none
  | .slSl es x lo hi=>match ev fr x with
    | .sl es' xs=>match bounds xs.length (lo.map (ev fr)) (hi.map (ev fr)) with
      | some (l,h)=>if es=es' then just hp (.sl es' (cut xs (lo.map (ev fr)) (hi.map (ev fr)) l h)) else none
      | none=>none
    | .nilS=>match bounds 0 (lo.map (ev fr)) (hi.map (ev fr)) with
      | some _=>just hp .nilS
      | none=>none
    | .msl id es' off n=>match bounds n (lo.map (ev fr)) (hi.map (ev fr)) with
      | some (l,h)=>if es=es' then just hp (.msl id es (off+l * es) (h - l)) else none
      | none=>none
    | _=>none
  | .fAddr off x=>match ev fr x with
    | .ptr cs=>just hp (.ptr (cs.drop off))
    | .ref id o=>just hp (.ref id (o+off))
    | _=>none
  | .field off n x=>match ev fr x with
    | .agg cs=>match partA n (cs.drop off) with
      | some v=>just hp v
      | none=>none
    | _=>none
  | .iAddr es x i=>match idx (ev fr i) with
    | some j=>match ev fr x with
      | .sl es' xs=>match xs[j]? with
        | some v=>if es=es' then just hp (.ptr (cells v)) else none
        | none=>none
      | .msl id es' off n=>if j < n∧es=es' then just hp (.ref id (off+j * es)) else none
      | _=>none
    | none=>none
  | .iAddrA len es x i=>match idx (ev fr i) with
    | some j=>if j < len then (match ev fr x with
      | .ptr cs=>just hp (.ptr (cs.drop (j * es)))
      | .ref id o=>just hp (.ref id (o+j * es))
      | _=>none) else none
    | none=>none
  | .iStr x i=>match idx (ev fr i) with
    | some j=>match ev fr x with
      | .str s=>match s[j]? with
        | some b=>just hp (.int .u8 (b.toNat:Int))
        | none=>none
      | _=>none
    | none=>none
  | .iArr len es n x i=>match idx (ev fr i) with
    | some j=>if j < len then (match ev fr x with
      | .agg cs=>match partA n (cs.drop (j * es)) with
        | some v=>just hp v
        | none=>none
      | _=>none) else none
    | none=>none
  | .look zero ok m k=>match ments hp (ev fr m),asS (ev fr k) with
    | some es,some s=>match mfind es s with
      | some v=>just hp (if ok then .tup [v,.bool true] else v)
      | none=>just hp (if ok then .tup [zero,.bool false] else zero)
    | _,_=>none
  | .mput m k v=>match ev fr m,asS (ev fr k) with
    | .mref id,some s=>match hlk hp id with
      | some (.mp es)=>if atom (ev fr v)∧hasRef (ev fr v)=false then some ⟨.junk,hset hp id (.mp (mset es s (ev fr v))),[]⟩ else none
      | _=>none
    | _,_=>none
  | .mputD m k v=>match ev fr m,asS (ev fr k) with
    | .mref id,some s=>match hlk hp id with
      | some (.mp es)=>if (atom (ev fr v)∧hasRef (ev fr v)=false)∧mfind es s=none then some ⟨.junk,hset hp id (.mp (insS es s (ev fr v))),[]⟩ else none
      | _=>none
    | _,_=>none
  | .entry x=>match ev fr x with
    | .ref id 0=>match hlk hp id with
      | some (.mit _ (some (k,v)))=>just hp (.tup [.str k,v])
      | _=>none
    | _=>none
  | .rangeS x=>match ev fr x with
    | .str s=>made hp d (.sit s 0) (.ref d 0)
    | _=>none
  | .rangeM x=>match ev fr x with
    | .mp es=>made hp d (.mit es none) (.ref d 0)
    | _=>none
  | .nextS _=>none
  | .extr x i=>match ev fr x with
    | .tup vs=>match vs[i]? with
      | some v=>just hp v
      | none=>none
    | _=>none
  | .assert t zero ok x=>match ev fr x with
    | .ifc u v=>if u=t then just hp (if ok then .tup [v,.bool true] else v) else if ok then just hp (.tup [zero,.bool false]) else none
    | .nilI=>if ok then just hp (.tup [zero,.bool false]) else none
    | _=>none
  | .assertI tb x=>match ev fr x with
    | .nilI=>just hp (.tup [.nilI,.bool false])
    | .ifc g v=>match lkB tb g with
      | some b=>just hp (if b then .tup [.ifc g v,.bool true] else .tup [.nilI,.bool false])
      | none=>none
    | _=>none
  | .len k x=>match alen hp k (ev fr x) with
    | some n=>just hp (.int .i64 (n:Int))
    | none=>none
  | .appF es bytes x y=>match slCells hp (ev fr y),ycount es (ev fr y) with
    | some ys,some k=>if k=0 then none else frzOut es (aapp hp d es bytes (ev fr x) ys k)
    | _,_=>none
  | .app es bytes x y=>match slCells hp (ev fr y),ycount es (ev fr y) with
    | some ys,some k=>aapp hp d es bytes (ev fr x) ys k
    | _,_=>none
  | .call f args=>match acall Γ hp f (args.map (ev fr)) with
    | some v=>just hp v
    | none=>none
  | .callV f args=>match ev fr f with
    | .fn g cap=>match acall Γ hp g (args.map (ev fr)++cap) with
      | some v=>just hp v
      | none=>none
    | _=>none
  | .inv x name args=>match ev fr x with
    | .ifc t v=>match Γ.mth t name with
      | some f=>match acall Γ hp f (v::args.map (ev fr)) with
        | some v=>just hp v
        | none=>none
      | none=>none
    | _=>none
  | .callS f args=>acallS Γ hp d f (args.map (ev fr))
  | .callVS f args=>match ev fr f with
    | .fn g cap=>acallS Γ hp d g (args.map (ev fr)++cap)
    | _=>none
  | .invS x name args=>match ev fr x with
    | .ifc t v=>match Γ.mth t name with
      | some f=>acallS Γ hp d f (v::args.map (ev fr))
      | none=>none
    | _=>none
  | .bad=>none

def putS (fr:List (Nat × AV)) (dst:Option Nat) (v:AV):List (Nat × AV) :=
  match dst with
  | some d=>(d,v)::fr
  | none=>fr

def killFs:List Nat→List (Nat × AV)→List (Nat × AV)
  | [],fr=>fr
  | d::r,fr=>killFs r (killF d fr)

def fin (fr:List (Nat × AV)) (dst:Option Nat) (o:Out):St :=
  ⟨putS (killFs o.new fr) dst o.v,o.hp⟩

def stepK (Γ:Gam) (o:SO) (st:St) (K:St→Prop):Prop :=
  match o.op with
  | .nextS x=>match ev st.fr x with
    | .ref id 0=>match hlk st.hp id with
      | some (.sit s pos) =>
        (pos < s.length→K ⟨putS st.fr o.dst (.tup [.bool true,.int .i64 (pos:Int),.int .i32 ((decR (s.drop pos)).1:Int)]),hset st.hp id (.sit s (pos+(decR (s.drop pos)).2))⟩) ∧
        (¬ pos < s.length→K ⟨putS st.fr o.dst (.tup [.bool false]),st.hp⟩)
      | _=>False
    | _=>False
  | op=>match aop Γ st.fr st.hp (o.dst.getD 0) op with
    | some out=>K (fin st.fr o.dst out)
    | none=>False

def rmF (ds:List Nat):List (Nat × AV)→List (Nat × AV)
  | []=>[]
  | (i,v)::r=>if ds.contains i then rmF ds r else (i,v)::rmF ds r

def rmS (ds:List Nat) (st:St):St:=⟨rmF ds st.fr,st.hp⟩

def dHd:List (List Nat)→List Nat
  | []=>[]
  | d::_=>d
def dTl:List (List Nat)→List (List Nat)
  | []=>[]
  | _::r=>r

def opsK (Γ:Gam):List SO→List (List Nat)→St→(St→Prop)→Prop
  | [],_,st,K=>K st
  | o::r,dd,st,K =>
    match o.guard with
    | none=>stepK Γ o st (fun st'=>opsK Γ r (dTl dd) (rmS (dHd dd) st') K)
    | some (g,want)=>match lk st.fr g with
      | .bool b =>
        (b=want→stepK Γ o ⟨(g,.bool want)::st.fr,st.hp⟩ (fun st'=>opsK Γ r (dTl dd) (rmS (dHd dd) st') K)) ∧
        (b=(!want)→opsK Γ r (dTl dd) (rmS (dHd dd) ⟨putS ((g,.bool (!want))::st.fr) o.dst (.tup []),st.hp⟩) K)
      | .tup []=>opsK Γ r (dTl dd) (rmS (dHd dd) ⟨putS st.fr o.dst (.tup []),st.hp⟩) K
      | _=>False

inductive AExit where
  | normal
  | exit (id:Nat)
  | ret
  deriving DecidableEq

abbrev APost:=AExit→St→Prop

def thenQ (K:St→Prop) (Q:APost):APost
  | .normal,st=>K st
  | .exit i,st=>Q (.exit i) st
  | .ret,st=>Q .ret st

def blockQ (id:Nat) (Q:APost):APost
  | .normal,st=>Q .normal st
  | .exit i,st=>if i=id then Q .normal st else Q (.exit i) st
  | .ret,st=>Q .ret st

def keep (fr:List (Nat × AV)):List Nat→List (Nat × AV)
  | []=>[]
  | i::r=>(i,lk fr i)::keep fr r

def dropS:List Nat→St→St
  | [],st=>st
  | d::r,st=>dropS r ⟨killF d st.fr,killH d st.hp⟩

def frzG (id:Nat) (o:AObj):AV→AV
  | .ref i off=>if i=id then (match o with | .cells cs=>.ptr (cs.drop off) | _=>.junk) else .ref i off
  | .msl i es off n=>if i=id then (match o with
    | .cells cs=>if off+n * es≤cs.length∧atoms cs=true∧0 < es then .sl es (elems es n (cs.drop off)) else .junk
    | _=>.junk) else .msl i es off n
  | .mref i=>if i=id then (match o with | .mp es=>.mp es | _=>.junk) else .mref i
  | v=>v

def frzF (id:Nat) (o:AObj):List (Nat × AV)→List (Nat × AV)
  | []=>[]
  | (i,v)::r=>(i,snapW (frzG id o) v)::frzF id o r

def frzO (id:Nat) (o:AObj):AObj→AObj
  | .cells cs=>.cells (snapWL (frzG id o) cs)
  | .mp es=>.mp es
  | .sit s p=>.sit s p
  | .mit es c=>.mit es c

def frzH (id:Nat) (o:AObj):List (Nat × AObj)→List (Nat × AObj)
  | []=>[]
  | (i,x)::r=>if i=id then frzH id o r else (i,frzO id o x)::frzH id o r

def noRefO:AObj→Bool
  | .cells cs => !hasRefL cs
  | .mp _=>true
  | .sit _ _=>false
  | .mit _ _=>false

def swapN (a b i:Nat):Nat:=if i=a then b else i

def mapF (g:Nat→Nat):List (Nat × AV)→List (Nat × AV)
  | []=>[]
  | (i,v)::r=>(i,mapId g v)::mapF g r

def gstep (st:St):GOp→St
  | .drop d=>⟨killF d st.fr,killH d st.hp⟩
  | .frz d=>match hlk st.hp d with
    | some o=>if noRefO o then ⟨frzF d o st.fr,frzH d o st.hp⟩ else ⟨killF d st.fr,killH d st.hp⟩
    | none=>st
  | .ren a b=>if a=b∨(hlk st.hp b).isSome∨1000000≤a∨1000000≤b then st else ⟨mapF (swapN a b) st.fr,mapH (swapN a b) st.hp⟩

def gsteps:List GOp→St→St
  | [],st=>st
  | g::r,st=>gsteps r (gstep st g)

def norm (live:List Nat) (st:St):St:=⟨keep st.fr live,st.hp⟩

def awp (Γ:Gam):SCode→APost→St→Prop
  | .skip,Q,st=>Q .normal st
  | .ghost g,Q,st=>Q .normal (gsteps g st)
  | .region ops live drop dd,Q,st=>opsK Γ ops dd st (fun st'=>Q .normal (dropS drop ⟨keep st'.fr live,st'.hp⟩))
  | .regM dst x ops live drop dd,Q,st=>match ev st.fr x with
    | .ref id 0=>match hlk st.hp id with
      | some (.mit rem _) =>
        (rem=[]→opsK Γ ops (dTl dd) (rmS (dHd dd) ⟨putS st.fr dst (.tup [.bool false]),st.hp⟩) (fun st'=>Q .normal (dropS drop ⟨keep st'.fr live,st'.hp⟩))) ∧
        (∀ pre k v post,rem=pre++(k,v)::post→opsK Γ ops (dTl dd) (rmS (dHd dd) ⟨putS st.fr dst (.tup [.bool true,.str k,v]),hset st.hp id (.mit (pre++post) (some (k,v)))⟩) (fun st'=>Q .normal (dropS drop ⟨keep st'.fr live,st'.hp⟩)))
      | _=>False
    | _=>False
  | .seq a b,Q,st=>awp Γ a (thenQ (awp Γ b Q) Q) st
  | .cond c a b,Q,st=>match ev st.fr c with
    | .bool t=>(t=true→awp Γ a Q st)∧(t=false→awp Γ b Q st)
    | _=>False
  | .block id c,Q,st=>awp Γ c (blockQ id Q) st
  | .loop live c,Q,st=>∃ (σ:Type) (I:σ→St→Prop) (m:σ→Nat) (s:σ),I s (norm live st) ∧
      ∀ s st,I s st→awp Γ c (thenQ (fun st'=>∃ s',I s' (norm live st')∧m s' < m s) Q) st
  | .exit id,Q,st=>Q (.exit id) st
  | .ret,Q,st=>Q .ret st
  | .bad,_,_=>False

def initF:Nat→List AV→List (Nat × AV)
  | _,[]=>[]
  | i,v::r=>(i,v)::initF (i+1) r

def rvV (st:St):RV→AV
  | .t i=>lk st.fr i
  | .c m i=>(aload st.hp m (lk st.fr i)).getD .junk

def retV (st:St) (res:List RV):AV :=
  match res with
  | [i]=>rvV st i
  | l=>.tup (l.map (rvV st))

def resOk (st:St):List RV→Bool
  | []=>true
  | .t _::r=>resOk st r
  | .c m i::r=>(aload st.hp m (lk st.fr i)).isSome && resOk st r

def export_ (hp:List (Nat × AObj)) (v:AV):AV:=if hasRef v then snap 4 hp v else v

def finQ (res:List RV) (R:AV→Prop):APost
  | .normal,st=>resOk st res=true∧R (export_ st.hp (retV st res))
  | .ret,st=>resOk st res=true∧R (export_ st.hp (retV st res))
  | .exit _,_=>False

def up6 (i:Nat):Nat:=i+1000000

def oldK (hp:List (Nat × AObj)):Nat→Nat→List Nat
  | _,0=>[]
  | i,n+1=>match hlk hp (i+1000000) with
    | some _=>(i+1000000)::oldK hp (i+1) n
    | none=>oldK hp (i+1) n

def ownN (n:Nat) (own:List Nat) (i:Nat):Nat:=if 1000000≤i then i - 1000000 else n+idxN own i

def lowN (l:List Nat):List Nat:=l.filter fun i=>decide (i < 1000000)

def exportS (n:Nat) (hp:List (Nat × AObj)) (v:AV):Option (AV × List (Nat × AObj)) :=
  match pickH hp (oldK hp 0 n++lowN (reach hp 200 (oldK hp 0 n++refs v) [])) with
  | none=>none
  | some os =>
    if inIds (oldK hp 0 n++lowN (reach hp 200 (oldK hp 0 n++refs v) [])) (refs v) && closedH (oldK hp 0 n++lowN (reach hp 200 (oldK hp 0 n++refs v) [])) os then
      some (mapId (ownN n (lowN (reach hp 200 (oldK hp 0 n++refs v) []))) v,mapH (ownN n (lowN (reach hp 200 (oldK hp 0 n++refs v) []))) os)
    else none

def finS (n:Nat) (res:List RV) (R:Option (AV × List (Nat × AObj))→Prop):APost
  | .normal,st=>resOk st res=true∧R (exportS n st.hp (retV st res))
  | .ret,st=>resOk st res=true∧R (exportS n st.hp (retV st res))
  | .exit _,_=>False

def runsS (Γ:Gam) (fn:SFn) (args:List AV) (hp:List (Nat × AObj)) (R:Option (AV × List (Nat × AObj))→Prop):Prop :=
  args.length=fn.np∧awp Γ fn.body (finS hp.length fn.res R) ⟨initF 0 (mapIdL up6 args),mapH up6 hp⟩

def runs (Γ:Gam) (fn:SFn) (args:List AV) (R:AV→Prop):Prop :=
  args.length=fn.np∧awp Γ fn.body (finQ fn.res R) ⟨initF 0 args,[]⟩

end Wax


namespace Wax
open Go

structure Tab where
  fns:List (Nat × Nat)
  tys:List (Nat × Nat)
  gl:List (Nat × List AV):=[]
  gb:List (Nat × Addr):=[]
  gc:List (Nat × List UInt8):=[]
  it:List (Nat × Nat):=[]

structure Lay where
  rg:List (Nat × (List Nat × List Nat)):=[]
  gh:List (Nat × List GOp):=[]
  ga:List (Nat × List GOp):=[]
  sf:List Nat:=[]
  sm:List String:=[]
  cv:Bool:=false
  fz:List Nat:=[]
  fl:List Nat:=[]
  dd:List (Nat × List (List Nat)):=[]
  md:List Nat:=[]
  nw:List (Nat × Nat):=[]
  ae:List Nat:=[]

def lkA:List (Nat × Addr)→Nat→Option Addr
  | [],_=>none
  | (i,v)::r,j=>if i == j then some v else lkA r j

def lkN:List (Nat × Nat)→Nat→Option Nat
  | [],_=>none
  | (i,v)::r,j=>if i == j then some v else lkN r j

mutual
def constAV (T:Tab):Value→Option AV
  | .bool b=>some (.bool b)
  | .int k n=>some (.int k n)
  | .string s=>some (.str s.data.toList)
  | .nilIface=>some .nilI
  | .nilFunc=>some .nilF
  | .pointer none=>some .nilP
  | .map none=>some .nilM
  | .slice none 0 0=>some .nilS
  | .func (.func f) first captured=>if first.size=0∧captured.size=0 then (lkN T.fns f).map (fun g=>.fn g []) else none
  | .agg ⟨cs⟩=>(constAVL T cs).map .agg
  | _=>none
def constAVL (T:Tab):List Value→Option (List AV)
  | []=>some []
  | v::r=>match constAV T v,constAVL T r with
    | some a,some l=>some (a::l)
    | _,_=>none
end
def lkGl:List (Nat × List AV)→Nat→Option (List AV)
  | [],_=>none
  | (i,v)::r,j=>if i == j then some v else lkGl r j

def cOpd (T:Tab):Operand→Option Opd
  | .tmp t=>some (.t t)
  | .const v=>(constAV T v).map .k
  | .func f=>(lkN T.fns f).map (fun g=>.k (.fn g []))
  | .global g=>(lkGl T.gl g).map fun cs=>.k (.ptr cs)

def cOpds (T:Tab):List Operand→Option (List Opd)
  | []=>some []
  | x::r=>match cOpd T x,cOpds T r with
    | some a,some l=>some (a::l)
    | _,_=>none

def cBin:BinOp→Bin
  | .add=>.add
  | .sub=>.sub
  | .mul=>.mul
  | .quo=>.quo
  | .rem=>.rem
  | .and=>.and
  | .or=>.or
  | .xor=>.xor
  | .shl=>.shl
  | .shr=>.shr
  | .andNot=>.andNot
  | .eql=>.eql
  | .neq=>.neq
  | .lss=>.lss
  | .leq=>.leq
  | .gtr=>.gtr
  | .geq=>.geq

def isNilConst:Operand→Bool
  | .const .nilIface=>true
  | .const .nilFunc=>true
  | .const (.pointer none)=>true
  | .const (.map none)=>true
  | .const (.slice none _ _)=>true
  | _=>false

def nilKind (P:Program) (t:TypeId) (y:Operand):Option Nat :=
  match P.underlying t,y with
  | some (.interface _),.const .nilIface=>some 0
  | some (.slice _),.const (.slice none _ _)=>some 1
  | some (.pointer _),.const (.pointer none)=>some 2
  | some (.map _ _),.const (.map none)=>some 3
  | some (.func _ _ _),.const .nilFunc=>some 4
  | _,_=>none

def isAggT (P:Program) (t:TypeId):Bool :=
  match P.underlying t with
  | some (.struct _)=>true
  | some (.array _ _)=>true
  | _=>false

def scalarK (P:Program) (t:TypeId):Option Nat :=
  match P.underlying t with
  | some .bool=>some 0
  | some (.int _)=>some 1
  | some .string=>some 2
  | _=>none

def plainFields (P:Program):Nat→List Field→Option (List Nat)
  | _,[]=>some []
  | n,f::r=>if f.offset=n∧f.name ≠ "_" then match scalarK P f.type,plainFields P (n+1) r with
    | some k,some l=>some (k::l)
    | _,_=>none
    else none

def sizeT (P:Program) (t:TypeId):Option Nat:=(P.info? t).map (·.size)
def ptrTys (P:Program) (tys:List (Nat × Nat)):List (Nat × Nat)→List Nat
  | []=>[]
  | (t,g)::r=>match P.info? t,P.underlying t with
    | some i,some (.pointer e)=>match P.info? e with
      | some j=>if lkN tys t=some g∧i.comparable=true∧j.size ≠ 0 then g::ptrTys P tys r else ptrTys P tys r
      | none=>ptrTys P tys r
    | _,_=>ptrTys P tys r
def implB (P:Program) (want:Array (String × TypeId)) (tys:List (Nat × Nat)):List (Nat × Nat)→List (Nat × Bool)
  | []=>[]
  | (t,g)::r=>match P.info? t with
    | some i=>if lkN tys t=some g then (g,want.toList.all fun x=>i.methods.any fun m=>m.name == x.1 && m.sig == x.2)::implB P want tys r else implB P want tys r
    | none=>implB P want tys r

def cEq (P:Program) (T:Tab) (t:TypeId) (neg:Bool) (a b:Opd):Option SOp :=
  match P.underlying t with
  | some .bool=>some (.eqB neg a b)
  | some (.int _)=>some (.bin (if neg then .neq else .eql) a b)
  | some .string=>some (.bin (if neg then .neq else .eql) a b)
  | some (.interface _)=>some (.eqI (ptrTys P T.tys T.it) T.gc neg a b)
  | some (.struct fs)=>match plainFields P 0 fs.toList with
    | some ks=>if !P.stoodInHeld t && !P.eqGuardType P.depth t then some (.eqA neg ks a b) else none
    | none=>none
  | _=>none


def zeroT (P:Program) (T:Tab) (t:TypeId):Option AV :=
  match P.info? t with
  | some i=>match i.zero with
    | some v=>constAV T v
    | none=>none
  | none=>none

def cParts (P:Program) (T:Tab) (fs:List Field):List (Nat × Operand)→Option (List (Nat × Nat × Opd))
  | []=>some []
  | (i,x)::r=>match fs[i]?,cOpd T x,cParts P T fs r with
    | some f,some y,some l=>match sizeT P f.type with
      | some n=>some ((f.offset,n,y)::l)
      | none=>none
    | _,_,_=>none

def cPartsA (T:Tab) (es:Nat):List (Nat × Operand)→Option (List (Nat × Nat × Opd))
  | []=>some []
  | (i,x)::r=>match cOpd T x,cPartsA T es r with
    | some y,some l=>some ((i * es,es,y)::l)
    | _,_=>none

def cPartsS (T:Tab):List (Nat × Operand)→Option (List (Nat × Opd))
  | []=>some []
  | (i,x)::r=>match cOpd T x,cPartsS T r with
    | some y,some l=>some ((i,y)::l)
    | _,_=>none

def sizesOk (P:Program):List Field→Bool
  | []=>true
  | f::r=>(sizeT P f.type).isSome && sizesOk P r

def cOptOpd (T:Tab):Option Operand→Option (Option Opd)
  | none=>some none
  | some x=>(cOpd T x).map some

def loadN (P:Program) (t:TypeId):Option (Option Nat) :=
  match P.underlying t with
  | none=>none
  | some _=>if isAggT P t then (sizeT P t).map some else some none

def strKey (P:Program) (k:TypeId):Bool:=match P.underlying k with | some .string=>true | _=>false

def hasBody (P:Program) (f:FuncId):Bool :=
  match P.funcs[f]? with
  | some fn=>fn.body.isSome && !(fn.name == "runtime.NumGoroutine")
  | none=>false

def cConv (P:Program) (src dst:TypeId) (x:Opd):Option SOp :=
  match P.underlying src,P.underlying dst with
  | some (.int _),some (.int k)=>some (.cInt k x)
  | some (.int _),some .string=>some (.cIntStr x)
  | some .string,some .string=>some (.cNop x)
  | some .string,some (.slice e)=>match P.underlying e with
    | some (.int .u8)=>some (.cStrBytes x)
    | some (.int .i32)=>some (.cStrRunes x)
    | _=>none
  | some (.slice e),some .string=>match P.underlying e with
    | some (.int .u8)=>some (.cBytesStr x)
    | some (.int .i32)=>some (.cRunesStr x)
    | _=>none
  | some (.slice e),some (.slice _)=>match P.underlying e with
    | some (.int .u8)=>if src=dst then some (.cSl x) else none
    | _=>none
  | _,_=>none

def cCall (P:Program) (T:Tab) (c:Call):Option SOp :=
  match cOpds T c.args.toList with
  | none=>none
  | some args=>match c.callee with
    | .builtin .len=>match args,c.argTypes.toList with
      | [x],[t]=>match P.underlying t with
        | some .string=>some (.len 0 x)
        | some (.slice _)=>some (.len 1 x)
        | some (.map _ _)=>some (.len 2 x)
        | _=>none
      | _,_=>none
    | .builtin .append=>match args,c.argTypes.toList with
      | [x,y],[s,u]=>match P.underlying s,P.underlying u with
        | some (.slice e),some (.slice _)=>match P.info? e,zeroT P T e with
          | some i,some z=>if 0 < i.size∧i.size=(cells z).length then some (.app i.size i.bytes x y) else none
          | _,_=>none
        | some (.slice e),some .string=>match P.info? e,zeroT P T e with
          | some i,some z=>if 0 < i.size∧i.size=(cells z).length then some (.app i.size i.bytes x y) else none
          | _,_=>none
        | _,_=>none
      | _,_=>none
    | .builtin .min=>match args,c.argTypes.toList with
      | [x,y],[_,_]=>some (.mn x y)
      | _,_=>none
    | .builtin _=>none
    | .value (.func f)=>if hasBody P f then (lkN T.fns f).map (fun g=>.call g args) else none
    | .value x=>(cOpd T x).map (fun y=>.callV y args)
    | .invoke x name=>(cOpd T x).map (fun y=>.inv y name args)

def cop (P:Program) (T:Tab):Op→Option SOp
  | .move x=>(cOpd T x).map .mv
  | .assign x=>(cOpd T x).map .mv
  | .pick c a b=>match cOpd T c,cOpd T a,cOpd T b with
    | some c,some a,some b=>some (.pick c a b)
    | _,_,_=>none
  | .alloc e=>match zeroT P T e with
    | some z=>some (.alloc (cells z))
    | none=>none
  | .box _ x=>(cOpd T x).map .box
  | .build t parts=>match zeroT P T t,P.underlying t with
    | some z,some (.struct fs)=>if sizesOk P fs.toList then (cParts P T fs.toList parts.toList).map (.agg (cells z)) else none
    | some z,some (.array _ e)=>match sizeT P e with
      | some es=>(cPartsA T es parts.toList).map (.agg (cells z))
      | none=>none
    | _,_=>none
  | .buildSlice t len parts=>match P.underlying t with
    | some (.slice e)=>match sizeT P e,zeroT P T e with
      | some es,some z=>if 0 < es∧es=(cells z).length∧len * es≤16777216 then (cPartsS T parts.toList).map (.mkSl es len (cells z)) else none
      | _,_=>none
    | _=>none
  | .load t a=>match loadN P t,cOpd T a with
    | some n,some x=>some (.load n x)
    | _,_=>none
  | .store t a v=>match loadN P t,sizeT P t,cOpd T a,cOpd T v with
    | some _,some n,some x,some y=>some (.store n x y)
    | _,_,_,_=>none
  | .nilCheck x=>(cOpd T x).map .chk
  | .binOp op xt x y _=>match cOpd T x,cOpd T y with
    | some a,some b =>
      if op=.eql∨op=.neq then
        if isNilConst y then (nilKind P xt y).map (fun k=>.isNil k (decide (op=.neq)) a)
        else if isNilConst x then none
        else cEq P T xt (decide (op=.neq)) a b
      else some (.bin (cBin op) a b)
    | _,_=>none
  | .unOp op _ x=>match op,cOpd T x with
    | .neg,some a=>some (.un .neg a)
    | .xor,some a=>some (.un .xor a)
    | .not,some a=>some (.un .not a)
    | _,_=>none
  | .convert src dst x=>match cOpd T x with
    | some a=>cConv P src dst a
    | none=>none
  | .makeInterface t x=>match P.underlying t,lkN T.tys t,cOpd T x with
    | some (.interface _),_,_=>none
    | some _,some g,some a=>some (.mkIfc g a)
    | _,_,_=>none
  | .makeFunc (.func f) first captured=>if first.size=0 then match lkN T.fns f,cOpds T captured.toList with
    | some g,some l=>some (.mkFn g l)
    | _,_=>none else none
  | .makeMap t none=>match P.underlying t with
    | some (.map k _)=>if strKey P k then some .mkMap else none
    | _=>none
  | .makeMap t (some (.const (.int _ _)))=>match P.underlying t with
    | some (.map k _)=>if strKey P k then some .mkMap else none
    | _=>none
  | .makeSlice t l c=>match P.underlying t,cOpd T l,cOpd T c with
    | some (.slice e),some a,some b=>match P.info? e,zeroT P T e with
      | some i,some z=>if 0 < i.size∧i.size=(cells z).length then some (.mkSlice i.size i.bytes (cells z) a b) else none
      | _,_=>none
    | _,_,_=>none
  | .slice t x lo hi none=>match P.underlying t,cOpd T x,cOptOpd T lo,cOptOpd T hi with
    | some .string,some a,some l,some h=>some (.slStr a l h)
    | some (.slice e),some a,some l,some h=>match sizeT P e with
      | some es=>some (.slSl es a l h)
      | none=>none
    | _,_,_,_=>none
  | .fieldAddr s x f=>match P.underlying s,cOpd T x with
    | some (.struct fs),some a=>match fs.toList[f]? with
      | some fd=>match sizeT P fd.type with
        | some n=>if n=0 then none else some (.fAddr fd.offset a)
        | none=>none
      | none=>none
    | _,_=>none
  | .field s x f=>match P.underlying s,cOpd T x with
    | some (.struct fs),some a=>match fs.toList[f]? with
      | some fd=>match loadN P fd.type with
        | some n=>some (.field fd.offset n a)
        | none=>none
      | none=>none
    | _,_=>none
  | .indexAddr t x i=>match P.underlying t,cOpd T x,cOpd T i with
    | some (.slice e),some a,some b=>match sizeT P e with
      | some es=>some (.iAddr es a b)
      | none=>none
    | some (.array n e),some a,some b=>match sizeT P e with
      | some es=>if 1 < n then some (.iAddrA n es a b) else none
      | none=>none
    | _,_,_=>none
  | .index t x i=>match P.underlying t,cOpd T x,cOpd T i with
    | some .string,some a,some b=>some (.iStr a b)
    | some (.array n e),some a,some b=>match sizeT P e,loadN P e with
      | some es,some m=>some (.iArr n es m a b)
      | _,_=>none
    | _,_,_=>none
  | .lookup t x i ok=>match P.underlying t,cOpd T x,cOpd T i with
    | some (.map k e),some a,some b=>match zeroT P T e with
      | some z=>if strKey P k then some (.look z ok a b) else none
      | none=>none
    | _,_,_=>none
  | .mapUpdate t m k v=>match P.underlying t,cOpd T m,cOpd T k,cOpd T v with
    | some (.map kt _),some a,some b,some c=>if strKey P kt then some (.mput a b c) else none
    | _,_,_,_=>none
  | .insert t m k v=>match P.underlying t,cOpd T m,cOpd T k,cOpd T v with
    | some (.map kt _),some a,some b,some c=>if strKey P kt then some (.mput a b c) else none
    | _,_,_,_=>none
  | .range t x=>match P.underlying t,cOpd T x with
    | some .string,some a=>some (.rangeS a)
    | some (.map k _),some a=>if strKey P k then some (.rangeM a) else none
    | _,_=>none
  | .next x true=>(cOpd T x).map .nextS
  | .entry x=>(cOpd T x).map .entry
  | .typeAssert x _ t ok=>match P.underlying t,cOpd T x,lkN T.tys t,zeroT P T t with
    | some (.interface ms),some a,_,some .nilI=>if ok then some (.assertI (implB P ms T.tys T.it) a) else none
    | some (.interface _),_,_,_=>none
    | some _,some a,some g,some z=>some (.assert g z ok a)
    | _,_,_,_=>none
  | .extract x i=>(cOpd T x).map (fun a=>.extr a i)
  | .call c=>cCall P T c
  | _=>none

def cGuard (ops:Array Oper):Option (Nat × Bool)→Option (Option (Nat × Bool))
  | none=>some none
  | some (j,want)=>match (ops[j]?).bind (·.dst) with
    | some s=>some (some (s,want))
    | none=>none

def dstLt (n:Nat):Option Nat→Bool
  | none=>true
  | some d=>decide (d < n)

def mdC (L:Lay):Opd→Bool
  | .t i=>L.md.contains i
  | _=>false

def sw (L:Lay) (d:Option Nat):SOp→SOp
  | .mkSl es n z ps=>if L.fz.contains (d.getD 0) then .mkSlF es n z ps else .mkSl es n z ps
  | .box x=>if L.fz.contains (d.getD 0) then .boxF x else .box x
  | .alloc z=>if L.ae.contains (d.getD 0) then .allocE z else .alloc z
  | .app es b x y=>if L.fz.contains (d.getD 0) then .appF es b x y else .app es b x y
  | .call f args=>if L.sf.contains f then .callS f args else .call f args
  | .mput m k v=>if mdC L m then .mputD m k v else .mput m k v
  | .callV f args=>if L.cv then .callVS f args else .callV f args
  | .inv x name args=>if L.sm.contains name then .invS x name args else .inv x name args
  | s=>s

def fw (L:Lay) (d:Option Nat) (s:SOp):SOp:=if L.fl.contains (d.getD 0) && calm s then .fl s else match lkN L.nw (d.getD 0) with
  | some q=>.nw q s
  | none=>s

def cOper (P:Program) (T:Tab) (L:Lay) (n:Nat) (ops:Array Oper) (o:Oper):SO :=
  match cGuard ops o.guard with
  | none=>⟨o.dst,.bad,none⟩
  | some g=>if dstLt n o.dst then ⟨o.dst,fw L o.dst (sw L o.dst ((cop P T o.op).getD .bad)),g⟩ else ⟨o.dst,.bad,none⟩

def looksS (o:SO):List Nat:=readsOf o.op++(match o.guard with | some (g,_)=>[g] | none=>[])

def edgesTo (o:Oper):List Nat:=(o.after.toList.filter fun e=>Region.binds .any e).map (·.on)

def preds (ops:Array Oper) (i:Nat):List Nat:=match ops[i]? with | some o=>edgesTo o | none=>[]

def clos (ops:Array Oper):Nat→List Nat→List Nat→List Nat
  | 0,_,acc=>acc
  | _,[],acc=>acc
  | n+1,i::r,acc=>if acc.contains i then clos ops n r acc else clos ops n (preds ops i++r) (i::acc)

def waitsL (ops:Array Oper):List (List Nat):=(List.range ops.size).map fun i=>clos ops (ops.size * ops.size+ops.size+1) (preds ops i) []

def waitsAt (W:List (List Nat)) (i j:Nat):Bool:=(W.getD i []).contains j

def isCut (W:List (List Nat)) (n c:Nat):Bool:=(List.range n).all fun j=>decide (j < c) || (List.range c).all fun i=>waitsAt W j i

def nextCut (W:List (List Nat)) (n:Nat):Nat→Nat→Nat
  | 0,c=>c
  | f+1,c=>if isCut W n c then c else nextCut W n f (c+1)

def chainy (s:SO):Bool:=s.guard.isNone && match s.op with
  | .nextS _=>false
  | .bad=>false
  | _=>true

def hpFree:SOp→Bool
  | .mv _=>true
  | .pick _ _ _=>true
  | .agg _ _=>true
  | .chk _=>true
  | .bin _ _ _=>true
  | .mn _ _=>true
  | .eqB _ _ _=>true
  | .isNil _ _ _=>true
  | .un _ _=>true
  | .cInt _ _=>true
  | .cNop _=>true
  | .mkIfc _ _=>true
  | .slStr _ _ _=>true
  | .fAddr _ _=>true
  | .iAddr _ _ _=>true
  | .iAddrA _ _ _ _=>true
  | .field _ _ _=>true
  | .iStr _ _=>true
  | .extr _ _=>true
  | _=>false

def noNew:SOp→Bool
  | .store _ _ _=>true
  | .mput _ _ _=>true
  | .mputD _ _ _=>true
  | _=>false

def isFl:SOp→Bool
  | .fl _=>true
  | _=>false

def isMd:SOp→Bool
  | .mputD _ _ _=>true
  | _=>false

def isNA (t s:SO):Bool:=t.guard.isNone && s.guard.isNone && match t.op,s.op,t.dst,s.dst with
  | .nw q _,.allocE _,some d,some e=>e == q && d != q
  | _,_,_,_=>false

def isMv (s:SO):Bool:=s.guard.isNone && match s.op with
  | .mv (.t _)=>true
  | _=>false

def drawAt (W:List (List Nat)) (l:List SO) (lo hi i:Nat) (s:SO):Bool :=
  (calm s.op || chainy s) &&
  (List.range l.length).all fun j=>decide (j < lo) || decide (hi≤j) || match l[j]? with
    | none=>true
    | some t=>(j == i || decide (i < j) || waitsAt W i j || (calm s.op && (calm t.op || isFl s.op || (hpFree s.op && noNew t.op) || isMv s)) || (!calm s.op && calm t.op && (isFl t.op || (hpFree t.op && noNew s.op) || isMv t)) || (isMd s.op && isMd t.op) || isNA t s) &&
      match t.dst with
      | none=>true
      | some d=>(j == i || decide (s.dst ≠ some d)) && (!(looksS s).contains d || (decide (j < i) && waitsAt W i j) || (decide (i < j) && waitsAt W j i))

def drawB (W:List (List Nat)) (l:List SO):Nat→Nat→Bool
  | 0,lo=>decide (l.length≤lo)
  | f+1,lo=>decide (l.length≤lo) ||
    (isCut W l.length (nextCut W l.length l.length (lo+1)) && decide (nextCut W l.length l.length (lo+1)≤l.length) &&
      (decide (nextCut W l.length l.length (lo+1)=lo+1) || (List.range l.length).all fun i=>decide (i < lo) || decide (nextCut W l.length l.length (lo+1)≤i) || match l[i]? with
        | some s=>drawAt W l lo (nextCut W l.length l.length (lo+1)) i s
        | none=>true) &&
      drawB W l f (nextCut W l.length l.length (lo+1)))

def okOrder (ops:Array Oper) (md:Region.Mode):Bool :=
  (List.range ops.size).all fun i=>match ops[i]? with
    | some o=>o.after.toList.all fun e => !Region.binds md e || (decide (e.on < ops.size) && decide ((Region.linearise md ops 0).idxOf e.on < (Region.linearise md ops 0).idxOf i))
    | none=>true

def drawC (ops:Array Oper) (l:List SO):Bool :=
  okOrder ops .any && okOrder ops .text && okOrder ops .gc && drawB (waitsL ops) l (l.length+1) 0

def lkL:List (Nat × (List Nat × List Nat))→Nat→List Nat × List Nat
  | [],_=>([],[])
  | (i,v)::r,j=>if i == j then v else lkL r j

def firstReg:Code→Nat
  | .region id _ _=>id
  | .seq a _=>firstReg a
  | .cond _ a _=>firstReg a
  | .block _ c=>firstReg c
  | .loop c=>firstReg c
  | _=>0

def lkD:List (Nat × List (List Nat))→Nat→List (List Nat)
  | [],_=>[]
  | (i,v)::r,j=>if i == j then v else lkD r j

def lkG:List (Nat × List GOp)→Nat→List GOp
  | [],_=>[]
  | (i,v)::r,j=>if i == j then v else lkG r j

def thenG (g:List GOp) (c:SCode):SCode:=match g with | []=>c | g=>.seq c (.ghost g)

def preG (g:List GOp) (c:SCode):SCode:=match g with | []=>c | g=>.seq (.ghost g) c

def headM (T:Tab) (n:Nat) (ops:Array Oper):Option (Option Nat × Opd):=match ops[0]? with
  | some o=>match o.op,o.guard with
    | .next x false,none=>if dstLt n o.dst then (cOpd T x).map (fun y=>(o.dst,y)) else none
    | _,_=>none
  | none=>none

def comp (P:Program) (T:Tab) (L:Lay) (n:Nat):Code→SCode
  | .skip=>.skip
  | .region id ops draw =>
    match (if draw then none else headM T n ops) with
    | some q=>thenG (lkG L.gh id) (.regM q.1 q.2 ((ops.toList.drop 1).map (cOper P T L n ops)) (lkL L.rg id).1 (lkL L.rg id).2 (lkD L.dd id))
    | none =>
    if draw && !drawC ops (ops.toList.map (cOper P T L n ops)) then .bad else preG (lkG L.ga id) (thenG (lkG L.gh id) (.region (ops.toList.map (cOper P T L n ops)) (lkL L.rg id).1 (lkL L.rg id).2 (if draw then [] else lkD L.dd id)))
  | .seq a b=>.seq (comp P T L n a) (comp P T L n b)
  | .cond c a b=>match cOpd T c with
    | some d=>.cond d (comp P T L n a) (comp P T L n b)
    | none=>.bad
  | .block id c=>.block id (comp P T L n c)
  | .loop c=>.loop (lkL L.rg (firstReg c+1000000)).1 (comp P T L n c)
  | .exit id=>.exit id
  | .ret=>.ret
  | _=>.bad

def compRes (P:Program):List ResultVar→Option (List RV)
  | []=>some []
  | .tmp t::r=>(compRes P r).map (.t t :: ·)
  | .cell a t::r=>match loadN P t,compRes P r with
    | some m,some l=>some (.c m a::l)
    | _,_=>none

def compFn (P:Program) (T:Tab) (L:Lay) (f:Func):Option SFn :=
  match f.body with
  | some c=>match compRes P f.results.toList with
    | some r=>if f.params.size+f.nfree≤f.ntmps∧f.ntmps≤1000000 then some ⟨f.params.size+f.nfree,comp P T L f.ntmps c,r⟩ else none
    | none=>none
  | none=>none
end Wax


namespace Wax
open Go Go.RowKit

abbrev Frz:=Nat→Prop
abbrev Rho:=Nat→Option (Nat × Nat)

def noRho:Rho:=fun _=>none

section
variable (T:Tab) (w:World) (F:Frz)

mutual
def Rep:Rho→AV→Value→Prop
  | _,.junk,_=>True
  | _,.bool b,v=>v=.bool b
  | _,.int k n,v=>v=.int k n
  | _,.str s,v=>v=.string ⟨s.toArray⟩
  | _,.nilI,v=>v=.nilIface
  | _,.nilP,v=>v=.pointer none
  | _,.nilF,v=>v=.nilFunc
  | _,.nilM,v=>v=.map none
  | _,.nilS,v=>v=.slice none 0 0
  | _,.gp q,v=>∃ ad,lkA T.gb q=some ad∧v=.pointer (some ad)
  | _,.sl es xs,v=>(∃ b o cap,v=.slice (some ⟨b,o,none⟩) xs.length cap∧xs.length≤cap∧RepSl es b o xs)∨(xs=[]∧∃ a cap,v=.slice (some a) 0 cap)
  | _,.ptr cs,v=>∃ b o,v=.pointer (some ⟨b,o,none⟩)∧RepAt b o cs
  | _,.bx cs,v=>∃ b,v=.pointer (some ⟨b,0,none⟩)∧RepAt b 0 cs
  | ρ,.agg cs,v=>∃ vs,v=.agg vs∧RepL ρ cs vs.toList
  | ρ,.tup cs,v=>∃ vs,v=.tuple vs∧RepL ρ cs vs.toList
  | ρ,.ifc g x,v=>∃ t y,v=.iface t y∧lkN T.tys t=some g∧Rep ρ x y
  | ρ,.fn g cs,v=>∃ f vs,v=.func (.func f) #[] vs∧lkN T.fns f=some g∧RepL ρ cs vs.toList
  | _,.mp es,v=>∃ r ents clk,v=.map (some r)∧F r∧w.heap[r]? = some (.map ents clk)∧(∃ l,l.Perm ents.toList∧RepM es l)∧Go.MapKept.Stamped ents clk
  | ρ,.ref id off,v=>∃ b o,ρ id=some (b,o)∧v=.pointer (some ⟨b,o+off,none⟩)
  | ρ,.msl id es off n,v=>∃ b o x cap c e f,ρ id=some (b,o)∧v=.slice (some ⟨b,x,none⟩) n cap∧n≤cap ∧
      w.heap[b]? = some (.cells c e f)∧(cap=0∨(x=o+off∧o+off+cap * es≤c.size))
  | ρ,.mref id,v=>∃ b o,ρ id=some (b,o)∧v=.map (some b)
def RepAt:Nat→Nat→List AV→Prop
  | _,_,[]=>True
  | b,o,c::r=>(F b∧∃ x,w.cell? ⟨b,o,none⟩=some x∧Rep noRho c x)∧RepAt b (o+1) r
def RepSl:Nat→Nat→Nat→List AV→Prop
  | _,_,_,[]=>True
  | es,b,o,.agg cs::r=>cs.length=es∧RepAt b o cs∧RepSl es b (o+es) r
  | es,b,o,c::r=>es=1∧(F b∧∃ x,w.cell? ⟨b,o,none⟩=some x∧Rep noRho c x)∧RepSl es b (o+es) r
def RepL:Rho→List AV→List Value→Prop
  | _,[],[]=>True
  | ρ,c::r,v::s=>Rep ρ c v∧RepL ρ r s
  | _,[],_::_=>False
  | _,_::_,[]=>False
def RepM:List (List UInt8 × AV)→List MapEntry→Prop
  | [],[]=>True
  | (k,c)::r,e::s=>e.key=.string ⟨k.toArray⟩∧Rep noRho c e.val∧RepM r s
  | [],_::_=>False
  | _::_,[]=>False
end
end
abbrev RepMP (T:Tab) (w:World) (F:Frz) (es:List (List UInt8 × AV)) (ents:List MapEntry):Prop:=∃ l,l.Perm ents∧RepM T w F es l
def GlobOk0 (T:Tab) (w:World) (F:Frz):Prop:=∀ g cs,lkGl T.gl g=some cs→RepAt T w F g 0 cs∧F g∧∃ vs p a,w.heap[g]? = some (.cells vs p a)∧vs.size=cs.length
def GcOk (T:Tab) (w:World) (F:Frz):Prop:=∀ q s,lkC T.gc q=some s→∃ ad,lkA T.gb q=some ad∧F ad.block∧w.cell? ad=some (.string ⟨s.toArray⟩)∧∃ vs p,w.heap[ad.block]? = some (.cells vs p (0,0))∧vs.size ≠ 0
def GlobOk (T:Tab) (w:World) (F:Frz):Prop:=GlobOk0 T w F∧GcOk T w F
end Wax


namespace Wax
open Go Go.RowKit

theorem cell_of_block {w w':World} {b:Nat} (h:w'.heap[b]? = w.heap[b]?) (o:Nat):w'.cell? ⟨b,o,none⟩=w.cell? ⟨b,o,none⟩:=by
  simp only [World.cell?,h]

def FExt (w w':World) (F F':Frz):Prop:=∀ b,F b→F' b∧w'.heap[b]? = w.heap[b]?

structure RExt (w w':World) (ρ ρ':Rho) (P:Nat→Prop):Prop where
  rho:∀ id p,P id→ρ id=some p→ρ' id=some p
  shp:∀ id b o c e f,P id→ρ id=some (b,o)→w.heap[b]? = some (.cells c e f)→∃ c' e' f',w'.heap[b]? = some (.cells c' e' f')∧c.size≤c'.size

theorem RExt.no (w w':World) (P:Nat→Prop):RExt w w' noRho noRho P:=⟨fun _ _ _ h=>h,fun _ _ _ _ _ _ _ h=>by simp [noRho] at h⟩

section
variable {T:Tab} {w w':World} {F F':Frz}

mutual
theorem Rep.mono (H:FExt w w' F F'):∀ (ρ ρ':Rho) (_:RExt w w' ρ ρ' (fun _=>True)) (x:AV) (v:Value),Rep T w F ρ x v→Rep T w' F' ρ' x v
  | _,_,_,.junk,_,_=>by simp [Rep]
  | _,_,_,.bool b,v,h=>by simpa [Rep] using h
  | _,_,_,.int k n,v,h=>by simpa [Rep] using h
  | _,_,_,.str s,v,h=>by simpa [Rep] using h
  | _,_,_,.nilI,v,h=>by simpa [Rep] using h
  | _,_,_,.nilP,v,h=>by simpa [Rep] using h
  | _,_,_,.nilF,v,h=>by simpa [Rep] using h
  | _,_,_,.nilM,v,h=>by simpa [Rep] using h
  | _,_,_,.nilS,v,h=>by simpa [Rep] using h
  | _,_,_,.gp _,v,h=>by simpa [Rep] using h
  | _,_,_,.sl es xs,v,h=>by
    simp only [Rep] at h ⊢
    rcases h with ⟨b,o,cap,h1,h2,h3⟩ | h
    · exact .inl ⟨b,o,cap,h1,h2,RepSl.mono H es b o xs h3⟩
    · exact .inr h
  | _,_,_,.ptr cs,v,h=>by
    simp only [Rep] at h ⊢
    obtain ⟨b,o,h1,h2⟩:=h
    exact ⟨b,o,h1,RepAt.mono H b o cs h2⟩
  | _,_,_,.bx cs,v,h=>by
    simp only [Rep] at h ⊢
    obtain ⟨b,h1,h2⟩:=h
    exact ⟨b,h1,RepAt.mono H b 0 cs h2⟩
  | ρ,ρ',R,.agg cs,v,h=>by
    simp only [Rep] at h ⊢
    obtain ⟨vs,h1,h2⟩:=h
    exact ⟨vs,h1,RepL.mono H ρ ρ' R cs _ h2⟩
  | ρ,ρ',R,.tup cs,v,h=>by
    simp only [Rep] at h ⊢
    obtain ⟨vs,h1,h2⟩:=h
    exact ⟨vs,h1,RepL.mono H ρ ρ' R cs _ h2⟩
  | ρ,ρ',R,.ifc g x,v,h=>by
    simp only [Rep] at h ⊢
    obtain ⟨t,y,h1,h2,h3⟩:=h
    exact ⟨t,y,h1,h2,Rep.mono H ρ ρ' R x y h3⟩
  | ρ,ρ',R,.fn g cs,v,h=>by
    simp only [Rep] at h ⊢
    obtain ⟨f,vs,h1,h2,h3⟩:=h
    exact ⟨f,vs,h1,h2,RepL.mono H ρ ρ' R cs _ h3⟩
  | _,_,_,.mp es,v,h=>by
    simp only [Rep] at h ⊢
    obtain ⟨r,ents,clk,h1,h2,h3,⟨l,h5,h6⟩,h4⟩:=h
    exact ⟨r,ents,clk,h1,(H r h2).1,by rw [(H r h2).2]; exact h3,⟨l,h5,RepM.mono H es _ h6⟩,h4⟩
  | _,_,R,.ref id off,v,h=>by
    simp only [Rep] at h ⊢
    obtain ⟨b,o,hr,h⟩:=h
    exact ⟨b,o,R.rho _ _ trivial hr,h⟩
  | _,_,R,.msl id es off n,v,h=>by
    simp only [Rep] at h ⊢
    obtain ⟨b,o,x,cap,c,e,f,hr,h1,h2,h3,h4⟩:=h
    obtain ⟨c',e',f',h5,h6⟩:=R.shp id b o c e f trivial hr h3
    exact ⟨b,o,x,cap,c',e',f',R.rho _ _ trivial hr,h1,h2,h5,h4.imp (fun h=>h) (fun h=>⟨h.1,Nat.le_trans h.2 h6⟩)⟩
  | _,_,R,.mref id,v,h=>by
    simp only [Rep] at h ⊢
    obtain ⟨b,o,hr,h⟩:=h
    exact ⟨b,o,R.rho _ _ trivial hr,h⟩
theorem RepAt.mono (H:FExt w w' F F'):∀ (b o:Nat) (xs:List AV),RepAt T w F b o xs→RepAt T w' F' b o xs
  | _,_,[],_=>by simp [RepAt]
  | b,o,c::r,h=>by
    simp only [RepAt] at h ⊢
    obtain ⟨⟨h1,x,h2,h3⟩,h4⟩:=h
    exact ⟨⟨(H b h1).1,x,by rw [cell_of_block (H b h1).2]; exact h2,Rep.mono H _ _ (RExt.no _ _ _) c x h3⟩,RepAt.mono H b (o+1) r h4⟩
theorem RepSl.mono (H:FExt w w' F F'):∀ (es b o:Nat) (xs:List AV),RepSl T w F es b o xs→RepSl T w' F' es b o xs
  | _,_,_,[],_=>by simp [RepSl]
  | es,b,o,c::r,h=>by
    cases c with
    | agg cs =>
      simp only [RepSl] at h ⊢
      exact ⟨h.1,RepAt.mono H b o cs h.2.1,RepSl.mono H es b _ r h.2.2⟩
    | _ =>
      simp only [RepSl] at h ⊢
      obtain ⟨h0,⟨h1,x,h2,h3⟩,h4⟩:=h
      exact ⟨h0,⟨(H b h1).1,x,by rw [cell_of_block (H b h1).2]; exact h2,Rep.mono H _ _ (RExt.no _ _ _) _ x h3⟩,RepSl.mono H es b _ r h4⟩
theorem RepM.mono (H:FExt w w' F F'):∀ (xs:List (List UInt8 × AV)) (vs:List MapEntry),RepM T w F xs vs→RepM T w' F' xs vs
  | [],[],_=>by simp [RepM]
  | (k,c)::r,e::s,h=>by
    simp only [RepM] at h ⊢
    exact ⟨h.1,Rep.mono H _ _ (RExt.no _ _ _) c _ h.2.1,RepM.mono H r s h.2.2⟩
  | [],_::_,h=>by simp [RepM] at h
  | _::_,[],h=>by simp [RepM] at h
theorem RepL.mono (H:FExt w w' F F'):∀ (ρ ρ':Rho) (_:RExt w w' ρ ρ' (fun _=>True)) (xs:List AV) (vs:List Value),RepL T w F ρ xs vs→RepL T w' F' ρ' xs vs
  | _,_,_,[],[],_=>by simp [RepL]
  | ρ,ρ',R,c::r,v::s,h=>by
    simp only [RepL] at h ⊢
    exact ⟨Rep.mono H ρ ρ' R c v h.1,RepL.mono H ρ ρ' R r s h.2⟩
  | _,_,_,[],_::_,h=>by simp [RepL] at h
  | _,_,_,_::_,[],h=>by simp [RepL] at h
end
mutual
theorem Rep.kill (d:Nat) (H:FExt w w' F F'):∀ (ρ ρ':Rho) (_:RExt w w' ρ ρ' (fun id=>id ≠ d)) (x:AV) (v:Value),Rep T w F ρ x v→Rep T w' F' ρ' (kill d x) v
  | _,_,_,.junk,_,_=>by simp [kill,Rep]
  | _,_,_,.bool b,v,h=>by simpa [kill,Rep] using h
  | _,_,_,.int k n,v,h=>by simpa [kill,Rep] using h
  | _,_,_,.str s,v,h=>by simpa [kill,Rep] using h
  | _,_,_,.nilI,v,h=>by simpa [kill,Rep] using h
  | _,_,_,.nilP,v,h=>by simpa [kill,Rep] using h
  | _,_,_,.nilF,v,h=>by simpa [kill,Rep] using h
  | _,_,_,.nilM,v,h=>by simpa [kill,Rep] using h
  | _,_,_,.nilS,v,h=>by simpa [kill,Rep] using h
  | _,_,_,.gp _,v,h=>by simpa [kill,Rep] using h
  | _,_,_,.sl es xs,v,h=>by
    simp only [kill,Rep] at h ⊢
    rcases h with ⟨b,o,cap,h1,h2,h3⟩ | h
    · exact .inl ⟨b,o,cap,h1,h2,RepSl.mono H es b o xs h3⟩
    · exact .inr h
  | _,_,_,.ptr cs,v,h=>by
    simp only [kill,Rep] at h ⊢
    obtain ⟨b,o,h1,h2⟩:=h
    exact ⟨b,o,h1,RepAt.mono H b o cs h2⟩
  | _,_,_,.bx cs,v,h=>by
    simp only [kill,Rep] at h ⊢
    obtain ⟨b,h1,h2⟩:=h
    exact ⟨b,h1,RepAt.mono H b 0 cs h2⟩
  | ρ,ρ',R,.agg cs,v,h=>by
    simp only [kill,Rep] at h ⊢
    obtain ⟨vs,h1,h2⟩:=h
    exact ⟨vs,h1,RepL.kill d H ρ ρ' R cs _ h2⟩
  | ρ,ρ',R,.tup cs,v,h=>by
    simp only [kill,Rep] at h ⊢
    obtain ⟨vs,h1,h2⟩:=h
    exact ⟨vs,h1,RepL.kill d H ρ ρ' R cs _ h2⟩
  | ρ,ρ',R,.ifc g x,v,h=>by
    simp only [kill,Rep] at h ⊢
    obtain ⟨t,y,h1,h2,h3⟩:=h
    exact ⟨t,y,h1,h2,Rep.kill d H ρ ρ' R x y h3⟩
  | ρ,ρ',R,.fn g cs,v,h=>by
    simp only [kill,Rep] at h ⊢
    obtain ⟨f,vs,h1,h2,h3⟩:=h
    exact ⟨f,vs,h1,h2,RepL.kill d H ρ ρ' R cs _ h3⟩
  | _,_,_,.mp es,v,h=>by
    simp only [kill,Rep] at h ⊢
    obtain ⟨r,ents,clk,h1,h2,h3,⟨l,h5,h6⟩,h4⟩:=h
    exact ⟨r,ents,clk,h1,(H r h2).1,by rw [(H r h2).2]; exact h3,⟨l,h5,RepM.mono H es _ h6⟩,h4⟩
  | _,_,R,.ref id off,v,h=>by
    by_cases e:id=d
    · simp [kill,e,Rep]
    · simp only [kill,e,if_false,Rep] at h ⊢
      obtain ⟨b,o,hr,h⟩:=h
      exact ⟨b,o,R.rho _ _ e hr,h⟩
  | _,_,R,.msl id es off n,v,h=>by
    by_cases e:id=d
    · simp [kill,e,Rep]
    · simp only [kill,e,if_false,Rep] at h ⊢
      obtain ⟨b,o,x,cap,c,el,f,hr,h1,h2,h3,h4⟩:=h
      obtain ⟨c',e',f',h5,h6⟩:=R.shp id b o c el f e hr h3
      exact ⟨b,o,x,cap,c',e',f',R.rho _ _ e hr,h1,h2,h5,h4.imp (fun h=>h) (fun h=>⟨h.1,Nat.le_trans h.2 h6⟩)⟩
  | _,_,R,.mref id,v,h=>by
    by_cases e:id=d
    · simp [kill,e,Rep]
    · simp only [kill,e,if_false,Rep] at h ⊢
      obtain ⟨b,o,hr,h⟩:=h
      exact ⟨b,o,R.rho _ _ e hr,h⟩
theorem RepL.kill (d:Nat) (H:FExt w w' F F'):∀ (ρ ρ':Rho) (_:RExt w w' ρ ρ' (fun id=>id ≠ d)) (xs:List AV) (vs:List Value),RepL T w F ρ xs vs→RepL T w' F' ρ' (killL d xs) vs
  | _,_,_,[],[],_=>by simp [killL,RepL]
  | ρ,ρ',R,c::r,v::s,h=>by
    simp only [killL,RepL] at h ⊢
    exact ⟨Rep.kill d H ρ ρ' R c v h.1,RepL.kill d H ρ ρ' R r s h.2⟩
  | _,_,_,[],_::_,h=>by simp [RepL] at h
  | _,_,_,_::_,[],h=>by simp [RepL] at h
end
theorem RepMP.mono {T:Tab} {w w':World} {F F':Frz} (H:FExt w w' F F') {es:List (List UInt8 × AV)} {ents:List MapEntry} (h:RepMP T w F es ents):RepMP T w' F' es ents:=by
  obtain ⟨l,h1,h2⟩:=h
  exact ⟨l,h1,RepM.mono H es _ h2⟩
theorem Rep.up {T:Tab} {w:World} {F:Frz} (ρ:Rho) {x:AV} {v:Value} (h:Rep T w F noRho x v):Rep T w F ρ x v :=
  Rep.mono (fun _ h=>⟨h,rfl⟩) noRho ρ ⟨fun _ _ _ h=>by simp [noRho] at h,fun _ _ _ _ _ _ _ h=>by simp [noRho] at h⟩ x v h
theorem RepL.up {T:Tab} {w:World} {F:Frz} (ρ:Rho) {x:List AV} {v:List Value} (h:RepL T w F noRho x v):RepL T w F ρ x v :=
  RepL.mono (fun _ h=>⟨h,rfl⟩) noRho ρ ⟨fun _ _ _ h=>by simp [noRho] at h,fun _ _ _ _ _ _ _ h=>by simp [noRho] at h⟩ x v h

mutual
theorem Rep.down {T:Tab} {w:World} {F:Frz} {ρ ρ':Rho}:∀ (x:AV) (v:Value),hasRef x=false→Rep T w F ρ x v→Rep T w F ρ' x v
  | .junk,_,_,_=>by simp [Rep]
  | .bool b,v,_,h=>by simpa [Rep] using h
  | .int k n,v,_,h=>by simpa [Rep] using h
  | .str s,v,_,h=>by simpa [Rep] using h
  | .nilI,v,_,h=>by simpa [Rep] using h
  | .nilP,v,_,h=>by simpa [Rep] using h
  | .nilF,v,_,h=>by simpa [Rep] using h
  | .nilM,v,_,h=>by simpa [Rep] using h
  | .nilS,v,_,h=>by simpa [Rep] using h
  | .gp _,v,_,h=>by simpa [Rep] using h
  | .sl es xs,v,_,h=>by simpa [Rep] using h
  | .ptr cs,v,_,h=>by simpa [Rep] using h
  | .bx cs,v,_,h=>by simpa [Rep] using h
  | .mp es,v,_,h=>by simpa [Rep] using h
  | .agg cs,v,hr,h=>by
    simp only [Rep] at h ⊢
    obtain ⟨vs,h1,h2⟩:=h
    exact ⟨vs,h1,RepL.down cs _ (by simpa [hasRef] using hr) h2⟩
  | .tup cs,v,hr,h=>by
    simp only [Rep] at h ⊢
    obtain ⟨vs,h1,h2⟩:=h
    exact ⟨vs,h1,RepL.down cs _ (by simpa [hasRef] using hr) h2⟩
  | .ifc g x,v,hr,h=>by
    simp only [Rep] at h ⊢
    obtain ⟨t,y,h1,h2,h3⟩:=h
    exact ⟨t,y,h1,h2,Rep.down x y (by simpa [hasRef] using hr) h3⟩
  | .fn g cs,v,hr,h=>by
    simp only [Rep] at h ⊢
    obtain ⟨f,vs,h1,h2,h3⟩:=h
    exact ⟨f,vs,h1,h2,RepL.down cs _ (by simpa [hasRef] using hr) h3⟩
  | .ref id off,v,hr,_=>by simp [hasRef] at hr
  | .msl id es off n,v,hr,_=>by simp [hasRef] at hr
  | .mref id,v,hr,_=>by simp [hasRef] at hr
theorem RepL.down {T:Tab} {w:World} {F:Frz} {ρ ρ':Rho}:∀ (xs:List AV) (vs:List Value),hasRefL xs=false→RepL T w F ρ xs vs→RepL T w F ρ' xs vs
  | [],[],_,_=>by simp [RepL]
  | c::r,v::s,hr,h=>by
    simp only [RepL] at h ⊢
    simp only [hasRefL,Bool.or_eq_false_iff] at hr
    exact ⟨Rep.down c v hr.1 h.1,RepL.down r s hr.2 h.2⟩
  | [],_::_,_,h=>by simp [RepL] at h
  | _::_,[],_,h=>by simp [RepL] at h
end
end
theorem GlobOk.mono {T:Tab} {w w':World} {F F':Frz} (H:FExt w w' F F') (h:GlobOk T w F):GlobOk T w' F':=by
  refine ⟨fun g cs hg=>?_,fun q s hq=>?_⟩
  · obtain ⟨h1,h2,vs,p,a,h3,h4⟩:=h.1 g cs hg
    exact ⟨RepAt.mono H g 0 cs h1,(H g h2).1,vs,p,a,by rw [(H g h2).2]; exact h3,h4⟩
  · obtain ⟨ad,h1,h2,h3,vs,p,h4,h5⟩:=h.2 q s hq
    have e:=(H _ h2).2
    exact ⟨ad,h1,(H _ h2).1,by simp only [World.cell?,e] at h3 ⊢; exact h3,vs,p,by rw [e]; exact h4,h5⟩
end Wax


namespace Wax
open Go Go.RowKit

def NoFrz (w:World) (b n:Nat):Prop:=(∀ k,k < n→w.frozen? ⟨b,k,none⟩=false)∧∀ c e f,w.heap[b]? = some (.cells c e f)→f.1≤f.2

def RepO (T:Tab) (w:World) (F:Frz) (ρ:Rho) (b o:Nat):AObj→Prop
  | .cells cs=>∃ pre vs post e f,w.heap[b]? = some (.cells (pre++(vs++post)).toArray e f)∧pre.length=o∧RepL T w F ρ cs vs∧NoFrz w b (pre++(vs++post)).length
  | .mp es=>∃ ents clk,w.heap[b]? = some (.map ents clk)∧RepMP T w F es ents.toList∧Go.MapKept.Stamped ents clk
  | .sit s pos=>o=0∧w.heap[b]? = some (.stringIter ⟨s.toArray⟩ pos)
  | .mit rem cur=>o=0∧∃ r since seen last ents clk,w.heap[b]? = some (.mapIter (some r) since seen last)∧F r∧w.heap[r]? = some (.map ents clk)∧Go.MapKept.Stamped ents clk∧(∀ x∈ents.toList,x.born < since)∧since≤last∧since≤clk∧RepMP T w F rem (leftOf ents seen).toList ∧
      (∀ k v,cur=some (k,v)→last=clk∧∃ e∈ents.toList,∃ seen0:Array Nat,seen=seen0.push e.born∧e.key=.string ⟨k.toArray⟩∧Rep T w F noRho v e.val)

theorem frozen_of_block {w w':World} {b:Nat} (h:w'.heap[b]? = w.heap[b]?) (o:Nat):w'.frozen? ⟨b,o,none⟩=w.frozen? ⟨b,o,none⟩:=by
  simp only [World.frozen?,h]

theorem NoFrz.of {w w':World} {b n:Nat} (h:w'.heap[b]? = w.heap[b]?) (H:NoFrz w b n):NoFrz w' b n :=
  ⟨fun k hk=>by rw [frozen_of_block h]; exact H.1 k hk,fun c e f hc=>H.2 c e f (by rw [← h]; exact hc)⟩

theorem RepO.mono {T:Tab} {w w':World} {F F':Frz} {ρ ρ':Rho} {b o:Nat} (H:FExt w w' F F') (R:RExt w w' ρ ρ' (fun _=>True)) (hb:w'.heap[b]? = w.heap[b]?) :
    ∀ x,RepO T w F ρ b o x→RepO T w' F' ρ' b o x
  | .cells cs,h=>by
    obtain ⟨pre,vs,post,e,f,h1,h2,h3,h4⟩:=h
    exact ⟨pre,vs,post,e,f,by rw [hb]; exact h1,h2,RepL.mono H ρ ρ' R cs vs h3,NoFrz.of hb h4⟩
  | .mp es,h=>by
    obtain ⟨ents,clk,h1,h2⟩:=h
    exact ⟨ents,clk,by rw [hb]; exact h1,RepMP.mono H h2.1,h2.2⟩
  | .sit s pos,h=>by
    simp only [RepO] at h ⊢
    exact ⟨h.1,by rw [hb]; exact h.2⟩
  | .mit rem cur,h=>by
    obtain ⟨h0,r,since,seen,last,ents,clk,h1,h2,h3,h4,h5,h6,h7,h8,h9⟩:=h
    exact ⟨h0,r,since,seen,last,ents,clk,by rw [hb]; exact h1,(H r h2).1,by rw [(H r h2).2]; exact h3,h4,h5,h6,h7,RepMP.mono H h8,fun k v e=>by
      obtain ⟨k1,x,k2,s0,k3,k4,k5⟩:=h9 k v e
      exact ⟨k1,x,k2,s0,k3,k4,Rep.mono H noRho noRho ⟨fun _ _ _ h=>h,fun _ _ _ _ _ _ _ h=>by simp [noRho] at h⟩ v _ k5⟩⟩

theorem RepO.kill {T:Tab} {w w':World} {F F':Frz} {ρ ρ':Rho} {b o:Nat} (d:Nat) (H:FExt w w' F F') (R:RExt w w' ρ ρ' (fun id=>id ≠ d)) (hb:w'.heap[b]? = w.heap[b]?) :
    ∀ x,RepO T w F ρ b o x→RepO T w' F' ρ' b o (killO d x)
  | .cells cs,h=>by
    obtain ⟨pre,vs,post,e,f,h1,h2,h3,h4⟩:=h
    exact ⟨pre,vs,post,e,f,by rw [hb]; exact h1,h2,RepL.kill d H ρ ρ' R cs vs h3,NoFrz.of hb h4⟩
  | .mp es,h=>by
    obtain ⟨ents,clk,h1,h2⟩:=h
    exact ⟨ents,clk,by rw [hb]; exact h1,RepMP.mono H h2.1,h2.2⟩
  | .sit s pos,h=>by
    simp only [RepO,killO] at h ⊢
    exact ⟨h.1,by rw [hb]; exact h.2⟩
  | .mit rem cur,h=>by
    obtain ⟨h0,r,since,seen,last,ents,clk,h1,h2,h3,h4,h5,h6,h7,h8,h9⟩:=h
    exact ⟨h0,r,since,seen,last,ents,clk,by rw [hb]; exact h1,(H r h2).1,by rw [(H r h2).2]; exact h3,h4,h5,h6,h7,RepMP.mono H h8,fun k v e=>by
      obtain ⟨k1,x,k2,s0,k3,k4,k5⟩:=h9 k v e
      exact ⟨k1,x,k2,s0,k3,k4,Rep.mono H noRho noRho ⟨fun _ _ _ h=>h,fun _ _ _ _ _ _ _ h=>by simp [noRho] at h⟩ v _ k5⟩⟩

structure Base where
  frz:Frz
  rho:Rho

def Base.bor (B:Base) (b:Nat):Prop:=∃ id o,B.rho id=some (b,o)

structure BelX (B:Nat→Prop) (N:Nat) (w w':World):Prop where
  os:w'.os=w.os
  tape:w'.tape=w.tape
  output:w'.output=w.output
  size:w.heap.size≤w'.heap.size
  block:∀ k,k < N→¬ B k→w'.heap[k]? = w.heap[k]?
  shp:∀ k c e f,k < N→w.heap[k]? = some (.cells c e f)→∃ c' e' f',w'.heap[k]? = some (.cells c' e' f')∧c.size≤c'.size

theorem BelX.refl (B:Nat→Prop) (N:Nat) (w:World):BelX B N w w:=⟨rfl,rfl,rfl,Nat.le_refl _,fun _ _ _=>rfl,fun _ c e f _ h=>⟨c,e,f,h,Nat.le_refl _⟩⟩
theorem BelX.trans {B:Nat→Prop} {N:Nat} {w w1 w2:World} (h:BelX B N w w1) (g:BelX B N w1 w2):BelX B N w w2 :=
  ⟨g.os.trans h.os,g.tape.trans h.tape,g.output.trans h.output,Nat.le_trans h.size g.size,fun k hk hb=>(g.block k hk hb).trans (h.block k hk hb),fun k c e f hk hc=>by
    obtain ⟨c1,e1,f1,h1,h2⟩:=h.shp k c e f hk hc
    obtain ⟨c2,e2,f2,h3,h4⟩:=g.shp k c1 e1 f1 hk h1
    exact ⟨c2,e2,f2,h3,Nat.le_trans h2 h4⟩⟩
theorem BelX.of {B:Nat→Prop} {N:Nat} {w w':World} (h:Below N w w'):BelX B N w w' :=
  ⟨h.os,h.tape,h.output,h.size,fun k hk _=>h.block k hk,fun k c e f hk hc=>⟨c,e,f,by rw [h.block k hk]; exact hc,Nat.le_refl _⟩⟩
theorem BelX.to {N:Nat} {B:Nat→Prop} {w w':World} (h:BelX B N w w') (hB:∀ b,¬ B b):Below N w w':=⟨h.os,h.tape,h.output,h.size,fun k hk=>h.block k hk (hB k)⟩

structure Inv (T:Tab) (w0:World) (F0:Base) (n:Nat) (st:St) (a:Act) (w:World) (F:Frz) (ρ:Rho):Prop where
  cap:n≤1000000
  old:∀ id,1000000≤id→ρ id=none∨ρ id=F0.rho id
  below:BelX F0.bor w0.heap.size w0 w
  src:∀ b,F b→F0.frz b∨w0.heap.size≤b∨F0.bor b
  kf:∀ b,F0.frz b→F b
  lt:∀ b,F b→b < w.heap.size
  rng:a.tmps.size=n
  dom:∀ id p,ρ id=some p→∃ x,hlk st.hp id=some x
  obj:∀ id x,hlk st.hp id=some x→∃ b o,ρ id=some (b,o)∧(w0.heap.size≤b∨F0.bor b)∧b < w.heap.size∧¬ F b∧RepO T w F ρ b o x
  inj:∀ id id' b o o',ρ id=some (b,o)→ρ id'=some (b,o')→id=id'
  slot:∀ i,Rep T w F ρ (lk st.fr i) (a.tmps.getD i undef)
  defs:a.defers=[]
  gl:GlobOk T w F

theorem lk_put (fr:List (Nat × AV)) (d i:Nat) (x:AV):lk ((d,x)::fr) i=if d=i then x else lk fr i:=rfl

theorem Act.put_getD {a:Act} {d:Nat} (h:d < a.tmps.size) (v:Value) (i:Nat):(a.put (some d) v).tmps.getD i undef=if d=i then v else a.tmps.getD i undef:=by
  simp only [Act.put]
  by_cases e:d=i
  · subst e; simp [Array.getD_eq_getD_getElem?,h]
  · simp [Array.getD_eq_getD_getElem?,e]

section
variable {T:Tab} {w0 w w':World} {F0:Base} {n:Nat} {st:St} {a:Act} {F F':Frz} {ρ ρ':Rho}

def dstOk (n:Nat) (dst:Option Nat):Prop:=∀ d,dst=some d→d < n

theorem Inv.dk (I:Inv T w0 F0 n st a w F ρ) {dst:Option Nat} (hd:dstOk n dst):dst.getD 0 < 1000000:=by
  have:=I.cap
  cases dst with
  | none=>simp
  | some d=>have:=hd d rfl; simp; omega

theorem slot_put (hr:a.tmps.size=n) {fr:List (Nat × AV)} (hs:∀ i,Rep T w F ρ (lk fr i) (a.tmps.getD i undef)) {dst:Option Nat} (hd:dstOk n dst) {x:AV} {v:Value} (h:Rep T w F ρ x v) :
    ∀ i,Rep T w F ρ (lk (putS fr dst x) i) ((a.put dst v).tmps.getD i undef):=by
  intro i
  cases dst with
  | none=>exact hs i
  | some d =>
    have hd':d < a.tmps.size:=by rw [hr]; exact hd d rfl
    rw [Act.put_getD hd']
    simp only [putS,lk_put]
    split
    · exact h
    · exact hs i

theorem put_size (a:Act) (dst:Option Nat) (v:Value):(a.put dst v).tmps.size=a.tmps.size:=by cases dst <;> simp [Act.put]
theorem put_defers (a:Act) (dst:Option Nat) (v:Value):(a.put dst v).defers=a.defers:=by cases dst <;> simp [Act.put]

theorem Inv.val (I:Inv T w0 F0 n st a w F ρ) {dst:Option Nat} (hd:dstOk n dst) {x:AV} {v:Value} (h:Rep T w F ρ x v) :
    Inv T w0 F0 n ⟨putS st.fr dst x,st.hp⟩ (a.put dst v) w F ρ :=
  ⟨I.cap,I.old,I.below,I.src,I.kf,I.lt,by rw [put_size]; exact I.rng,I.dom,I.obj,I.inj,slot_put I.rng I.slot hd h,by rw [put_defers]; exact I.defs,I.gl⟩

theorem Inv.grow (I:Inv T w0 F0 n st a w F ρ) (hb:Below w.heap.size w w'):Inv T w0 F0 n st a w' (fun b=>F b∨(w.heap.size≤b∧b < w'.heap.size)) ρ:=by
  have HF:FExt w w' F (fun b=>F b∨(w.heap.size≤b∧b < w'.heap.size)):=fun b h=>⟨.inl h,hb.block b (I.lt b h)⟩
  have HR:RExt w w' ρ ρ (fun _=>True):=⟨fun _ _ _ h=>h,fun id b o c e f _ hr hc=>by
    obtain ⟨x,hx⟩:=I.dom id _ hr
    obtain ⟨b',o',h1,_,h3,_⟩:=I.obj id x hx
    rw [hr] at h1; injection h1 with h1; injection h1 with h1 h1'; subst h1
    exact ⟨c,e,f,by rw [hb.block b h3]; exact hc,Nat.le_refl _⟩⟩
  refine ⟨I.cap,I.old,(I.below.trans (BelX.of (hb.mono I.below.size))),?_,fun b h=>.inl (I.kf b h),?_,I.rng,I.dom,?_,I.inj,fun i=>Rep.mono HF ρ ρ HR _ _ (I.slot i),I.defs,I.gl.mono HF⟩
  · rintro b (h | h)
    · exact I.src b h
    · exact .inr (.inl (Nat.le_trans I.below.size h.1))
  · rintro b (h | h)
    · exact Nat.lt_of_lt_of_le (I.lt b h) hb.size
    · exact h.2
  · intro id x hx
    obtain ⟨b,o,h1,h2,h3,h4,h5⟩:=I.obj id x hx
    refine ⟨b,o,h1,h2,Nat.lt_of_lt_of_le h3 hb.size,?_,RepO.mono HF HR (hb.block b h3) x h5⟩
    rintro (h | h)
    · exact h4 h
    · omega

theorem hlk_killH (d:Nat):∀ (hp:List (Nat × AObj)) (i:Nat),hlk (killH d hp) i=if i=d then none else (hlk hp i).map (killO d)
  | [],i=>by simp [killH,hlk]
  | (j,o)::r,i=>by
    have ih:=hlk_killH d r i
    simp only [killH]
    by_cases hj:j=d
    · simp only [hj,if_true,ih,hlk]
      by_cases hi:i=d
      · simp [hi]
      · rw [if_neg hi,if_neg hi,if_neg (fun h=>hi h.symm)]
    · simp only [hj,if_false,hlk]
      by_cases hi:i=d
      · subst hi; simp [ih,hj]
      · by_cases hji:j=i
        · simp [hji,hi]
        · rw [if_neg hji,if_neg hji,ih]

theorem lk_killF (d:Nat):∀ (fr:List (Nat × AV)) (i:Nat),lk (killF d fr) i=kill d (lk fr i)
  | [],i=>by simp [killF,lk,kill]
  | (j,o)::r,i=>by
    simp only [killF,lk]
    split
    · rfl
    · exact lk_killF d r i

def setRho (ρ:Rho) (d:Nat) (p:Nat × Nat):Rho:=fun id=>if id=d then some p else ρ id

theorem Inv.drop (I:Inv T w0 F0 n st a w F ρ) (d:Nat):Inv T w0 F0 n ⟨killF d st.fr,killH d st.hp⟩ a w F (fun id=>if id=d then none else ρ id):=by
  have HF:FExt w w F F:=fun b h=>⟨h,rfl⟩
  have HR:RExt w w ρ (fun id=>if id=d then none else ρ id) (fun id=>id ≠ d):=⟨fun id p hne h=>by simpa [hne] using h,fun id b' o' c e f _ _ hc=>⟨c,e,f,hc,Nat.le_refl _⟩⟩
  refine ⟨I.cap,fun id hid=>by by_cases e:id=d <;> simp [e]; exact I.old id hid,I.below,I.src,I.kf,I.lt,I.rng,?_,?_,?_,?_,I.defs,I.gl⟩
  · intro id p hp
    simp only [hlk_killH]
    by_cases hid:id=d
    · simp [hid] at hp
    · simp only [hid,if_false] at hp ⊢
      obtain ⟨y,hy⟩:=I.dom id p hp
      exact ⟨killO d y,by rw [hy]; rfl⟩
  · intro id y hy
    simp only [hlk_killH] at hy
    by_cases hid:id=d
    · simp [hid] at hy
    · rw [if_neg hid] at hy
      obtain ⟨z,hz,rfl⟩:∃ z,hlk st.hp id=some z∧killO d z=y:=by
        cases hz:hlk st.hp id with
        | none=>simp [hz] at hy
        | some z=>exact ⟨z,rfl,by simpa [hz] using hy⟩
      obtain ⟨b1,o1,h1,h2,h3,h4,h5⟩:=I.obj id z hz
      exact ⟨b1,o1,by simp [hid,h1],h2,h3,h4,RepO.kill d HF HR rfl z h5⟩
  · intro id id' b1 o1 o2 h1 h2
    by_cases e1:id=d
    · simp [e1] at h1
    · by_cases e2:id'=d
      · simp [e2] at h2
      · simp only [e1,e2,if_false] at h1 h2
        exact I.inj id id' b1 o1 o2 h1 h2
  · intro i
    rw [lk_killF]
    exact Rep.kill d HF ρ _ HR _ _ (I.slot i)

theorem Inv.put (I:Inv T w0 F0 n st a w F ρ) {d b o:Nat} (hos:w'.os=w.os) (htape:w'.tape=w.tape) (hout:w'.output=w.output) (hsz:w.heap.size≤w'.heap.size)
    (hbl:∀ k,k < w.heap.size→k ≠ b→w'.heap[k]? = w.heap[k]?) (hb0:w0.heap.size≤b∨F0.bor b) (hgrow:∀ c e f,w.heap[b]? = some (.cells c e f)→∃ c' e' f',w'.heap[b]? = some (.cells c' e' f')∧c.size≤c'.size) (hdk:d < 1000000) (hlt:b < w'.heap.size) (hnF:¬ F b) (hfree:∀ id o',id ≠ d→ρ id ≠ some (b,o'))
    {x:AObj} (hx:FExt w w' F F→RExt w w' ρ (setRho ρ d (b,o)) (fun id=>id ≠ d)→RepO T w' F (setRho ρ d (b,o)) b o x) {v:AV} {u:Value}
    (hv:FExt w w' F F→RExt w w' ρ (setRho ρ d (b,o)) (fun id=>id ≠ d)→Rep T w' F (setRho ρ d (b,o)) v u) {dst:Option Nat} (hd:dstOk n dst) :
    Inv T w0 F0 n ⟨putS (killF d st.fr) dst v,(d,x)::killH d st.hp⟩ (a.put dst u) w' F (setRho ρ d (b,o)):=by
  have HF:FExt w w' F F:=fun k h=>⟨h,hbl k (I.lt k h) (fun e=>hnF (e ▸ h))⟩
  have HR:RExt w w' ρ (setRho ρ d (b,o)) (fun id=>id ≠ d):=⟨fun id p hne h=>by simpa [setRho,hne] using h,fun id b' o' c e f hne hr' hc=>by
    obtain ⟨x,hx⟩:=I.dom id _ hr'
    obtain ⟨b1,o1,h1,_,h3,_⟩:=I.obj id x hx
    rw [hr'] at h1; injection h1 with h1; injection h1 with h1 h1'; subst h1
    exact ⟨c,e,f,by rw [hbl _ h3 (fun e=>hfree id o' hne (by rw [hr',e]))]; exact hc,Nat.le_refl _⟩⟩
  refine ⟨I.cap,fun id hid=>by simp only [setRho]; rw [if_neg (by omega)]; exact I.old id hid,I.below.trans ⟨hos,htape,hout,hsz,fun k hk hB=>hbl k (Nat.lt_of_lt_of_le hk I.below.size) (fun e=>by subst e; rcases hb0 with h | h; omega; exact hB h),fun k c e f hk hc=>by
    by_cases ek:k=b
    · subst ek; exact hgrow c e f hc
    · exact ⟨c,e,f,by rw [hbl k (Nat.lt_of_lt_of_le hk I.below.size) ek]; exact hc,Nat.le_refl _⟩⟩,I.src,I.kf,fun b h=>Nat.lt_of_lt_of_le (I.lt b h) hsz,by rw [put_size]; exact I.rng,?_,?_,?_,?_,by rw [put_defers]; exact I.defs,I.gl.mono HF⟩
  · intro id p hp
    simp only [hlk,hlk_killH]
    by_cases hid:id=d
    · exact ⟨x,by simp [hid]⟩
    · have hp':ρ id=some p:=by simpa [setRho,hid] using hp
      obtain ⟨y,hy⟩:=I.dom id p hp'
      exact ⟨killO d y,by rw [if_neg (fun h=>hid h.symm),if_neg hid,hy]; rfl⟩
  · intro id y hy
    simp only [hlk,hlk_killH] at hy
    by_cases hid:id=d
    · subst hid
      simp only [if_true,Option.some.injEq] at hy
      subst hy
      exact ⟨b,o,by simp [setRho],hb0,hlt,hnF,hx HF HR⟩
    · rw [if_neg (fun h=>hid h.symm),if_neg hid] at hy
      obtain ⟨z,hz,rfl⟩:∃ z,hlk st.hp id=some z∧killO d z=y:=by
        cases hz:hlk st.hp id with
        | none=>simp [hz] at hy
        | some z=>exact ⟨z,rfl,by simpa [hz] using hy⟩
      obtain ⟨b1,o1,h1,h2,h3,h4,h5⟩:=I.obj id z hz
      exact ⟨b1,o1,by simp [setRho,hid,h1],h2,Nat.lt_of_lt_of_le h3 hsz,h4,RepO.kill d HF HR (hbl b1 h3 (fun e=>hfree id o1 hid (by rw [h1,e]))) z h5⟩
  · intro id id' b1 o1 o2 h1 h2
    simp only [setRho] at h1 h2
    by_cases e1:id=d
    · by_cases e2:id'=d
      · rw [e1,e2]
      · simp only [e1,e2,if_true,if_false] at h1 h2
        injection h1 with h1; injection h1 with h1 _; subst h1
        exact absurd h2 (hfree id' _ e2)
    · by_cases e2:id'=d
      · simp only [e1,e2,if_true,if_false] at h1 h2
        injection h2 with h2; injection h2 with h2 _; subst h2
        exact absurd h1 (hfree id _ e1)
      · simp only [e1,e2,if_false] at h1 h2
        exact I.inj id id' b1 o1 o2 h1 h2
  · refine slot_put I.rng ?_ hd (hv HF HR)
    intro i
    rw [lk_killF]
    exact Rep.kill d HF ρ _ HR _ _ (I.slot i)

theorem Inv.new (I:Inv T w0 F0 n st a w F ρ) {d b o:Nat} (hdk:d < 1000000) (hb:Below w.heap.size w w') (hn:w.heap.size≤b) (hlt:b < w'.heap.size)
    {x:AObj} (hx:FExt w w' F F→RExt w w' ρ (setRho ρ d (b,o)) (fun id=>id ≠ d)→RepO T w' F (setRho ρ d (b,o)) b o x) {v:AV} {u:Value} (hv:Rep T w' F (setRho ρ d (b,o)) v u) {dst:Option Nat} (hd:dstOk n dst) :
    Inv T w0 F0 n ⟨putS (killF d st.fr) dst v,(d,x)::killH d st.hp⟩ (a.put dst u) w' F (setRho ρ d (b,o)) :=
  I.put hb.os hb.tape hb.output hb.size (fun k hk _=>hb.block k hk) (.inl (Nat.le_trans I.below.size hn)) (fun c e f hc=>by rw [Array.getElem?_eq_none (by omega)] at hc; simp at hc) hdk hlt (fun h=>by have:=I.lt b h; omega) (fun id o' _ h=>by
    obtain ⟨y,hy⟩:=I.dom id _ h
    obtain ⟨b2,o3,h3,_,h5,_⟩:=I.obj id y hy
    rw [h] at h3; injection h3 with h3; injection h3 with h3 _; subst h3; omega) hx (fun _ _=>hv) hd

theorem hlk_hset:∀ (hp:List (Nat × AObj)) (id:Nat) (x:AObj) (i:Nat),hlk (hset hp id x) i=if i=id then (hlk hp i).map (fun _=>x) else hlk hp i
  | [],id,x,i=>by simp [hset,hlk]
  | (j,o)::r,id,x,i=>by
    have ih:=hlk_hset r id x i
    simp only [hset]
    by_cases hj:j=id
    · subst hj
      simp only [if_true,hlk]
      by_cases hi:j=i
      · simp [hi]
      · rw [if_neg hi,if_neg hi,if_neg (fun h=>hi h.symm)]
    · simp only [hj,if_false,hlk]
      by_cases hji:j=i
      · subst hji; simp [hj]
      · rw [if_neg hji,if_neg hji,ih]

theorem hlk_hset_same {hp:List (Nat × AObj)} {id:Nat} {x y:AObj} (h:hlk hp id=some x):hlk (hset hp id y) id=some y:=by
  rw [hlk_hset,if_pos rfl,h]; rfl
theorem hset_hset:∀ {hp:List (Nat × AObj)} {id:Nat} {x y:AObj},hset (hset hp id x) id y=hset hp id y
  | [],_,_,_=>rfl
  | (i,v)::r,id,x,y=>by
    simp only [hset]
    split
    · rename_i e; simp only [hset,if_pos e]
    · rename_i e; simp only [hset,if_neg e,hset_hset]
theorem Inv.same (I:Inv T w0 F0 n st a w F ρ) {id:Nat} {x y:AObj} (hx:hlk st.hp id=some x) (hxy:∀ b o,RepO T w F ρ b o x→RepO T w F ρ b o y):Inv T w0 F0 n ⟨st.fr,hset st.hp id y⟩ a w F ρ:=by
  refine ⟨I.cap,I.old,I.below,I.src,I.kf,I.lt,I.rng,?_,?_,I.inj,I.slot,I.defs,I.gl⟩
  · intro i p h
    obtain ⟨z,hz⟩:=I.dom i p h
    show ∃ x,hlk (hset st.hp id y) i=some x
    rw [hlk_hset]
    split
    · exact ⟨y,by rw [hz]; rfl⟩
    · exact ⟨z,hz⟩
  · intro i z hz
    replace hz:hlk (hset st.hp id y) i=some z:=hz
    rw [hlk_hset] at hz
    split at hz
    · rename_i e
      subst e
      rw [hx] at hz
      simp only [Option.map_some,Option.some.injEq] at hz
      subst hz
      obtain ⟨b,o,h1,h2,h3,h4,h5⟩:=I.obj i x hx
      exact ⟨b,o,h1,h2,h3,h4,hxy b o h5⟩
    · exact I.obj i z hz
theorem Inv.upd (I:Inv T w0 F0 n st a w F ρ) {id b o:Nat} {x0 x:AObj} (hx0:hlk st.hp id=some x0) (hr:ρ id=some (b,o))
    (hos:w'.os=w.os) (htape:w'.tape=w.tape) (hout:w'.output=w.output) (hsz:w'.heap.size=w.heap.size) (hbl:∀ k,k ≠ b→w'.heap[k]? = w.heap[k]?)
    (hcell:∀ c e f,w.heap[b]? = some (.cells c e f)→∃ c' e' f',w'.heap[b]? = some (.cells c' e' f')∧c.size≤c'.size)
    (hx:FExt w w' F F→RExt w w' ρ ρ (fun _=>True)→RepO T w' F ρ b o x) :
    Inv T w0 F0 n ⟨st.fr,hset st.hp id x⟩ a w' F ρ:=by
  obtain ⟨b1,o1,h1,h2,h3,h4,h5⟩:=I.obj id x0 hx0
  rw [hr] at h1; injection h1 with h1; injection h1 with h1 h1'; subst h1; subst h1'
  have HF:FExt w w' F F:=fun k h=>⟨h,hbl k (fun e=>h4 (e ▸ h))⟩
  have HR:RExt w w' ρ ρ (fun _=>True):=⟨fun _ _ _ h=>h,fun id' b' o' c e f _ hr' hc=>by
    by_cases e':b'=b
    · subst e'; exact hcell c e f hc
    · exact ⟨c,e,f,by rw [hbl b' e']; exact hc,Nat.le_refl _⟩⟩
  refine ⟨I.cap,I.old,I.below.trans ⟨hos,htape,hout,by omega,fun k hk hB=>hbl k (fun e=>by subst e; rcases h2 with h | h; omega; exact hB h),fun k c e f hk hc=>by
    by_cases ek:k=b
    · subst ek; exact hcell c e f hc
    · exact ⟨c,e,f,by rw [hbl k ek]; exact hc,Nat.le_refl _⟩⟩,I.src,I.kf,fun k h=>by rw [hsz]; exact I.lt k h,I.rng,?_,?_,I.inj,fun i=>Rep.mono HF ρ ρ HR _ _ (I.slot i),I.defs,I.gl.mono HF⟩
  · intro id' p hp
    obtain ⟨y,hy⟩:=I.dom id' p hp
    rw [hlk_hset]
    split
    · exact ⟨x,by rw [hy]; rfl⟩
    · exact ⟨y,hy⟩
  · intro id' y hy
    rw [hlk_hset] at hy
    by_cases e':id'=id
    · subst e'
      rw [if_pos rfl,hx0] at hy
      simp only [Option.map_some,Option.some.injEq] at hy
      subst hy
      exact ⟨b,o,hr,h2,by rw [hsz]; exact h3,h4,hx HF HR⟩
    · rw [if_neg e'] at hy
      obtain ⟨b2,o2,g1,g2,g3,g4,g5⟩:=I.obj id' y hy
      have hne:b2 ≠ b:=fun e=>e' (I.inj id' id b2 o2 o g1 (by rw [hr,e]))
      exact ⟨b2,o2,g1,g2,by rw [hsz]; exact g3,g4,RepO.mono HF HR (hbl b2 hne) y g5⟩
end
end Wax


namespace Wax
open Go Go.RowKit

section runs
variable {P:Program} {w:World}
theorem rUnder {t:TypeId} {d:TypeDesc} (h:P.underlying t=some d):(underlying t).run P w=.ok d w:=by
  simp [underlying,h]
theorem rInfo {t:TypeId} {i:TypeInfo} (h:P.info? t=some i):(typeInfo t).run P w=.ok i w:=by
  simp [typeInfo,h]
theorem rSize {t:TypeId} {n:Nat} (h:sizeT P t=some n):(Go.sizeOf t).run P w=.ok n w:=by
  cases hi:P.info? t with
  | none=>simp [sizeT,hi] at h
  | some i=>simp [sizeT,hi] at h; simp [Go.sizeOf,rInfo hi,h]
theorem rIsAgg {t:TypeId} {d:TypeDesc} (h:P.underlying t=some d):(isAgg t).run P w=.ok (isAggT P t) w:=by
  simp only [isAgg,Sem.run_bind,rUnder h,Result.andThen_ok,isAggT,h]
  cases d <;> rfl
theorem rZero {t:TypeId} {i:TypeInfo} {v:Value} (h:P.info? t=some i) (hz:i.zero=some v):(zeroValue t).run P w=.ok v w:=by
  simp [zeroValue,rInfo h,hz]
end runs

section
variable {T:Tab} {w0 w w':World} {F0:Base} {n:Nat} {st:St} {a:Act} {F F':Frz} {ρ ρ':Rho}

mutual
theorem constAV_rep (F:Frz) (ρ:Rho):∀ (v:Value) (x:AV),constAV T v=some x→Rep T w F ρ x v
  | .bool b,x,h=>by simp [constAV] at h; subst h; simp [Rep]
  | .int k m,x,h=>by simp [constAV] at h; subst h; simp [Rep]
  | .string s,x,h=>by simp [constAV] at h; subst h; simp [Rep]
  | .nilIface,x,h=>by simp [constAV] at h; subst h; simp [Rep]
  | .nilFunc,x,h=>by simp [constAV] at h; subst h; simp [Rep]
  | .pointer none,x,h=>by simp [constAV] at h; subst h; simp [Rep]
  | .map none,x,h=>by simp [constAV] at h; subst h; simp [Rep]
  | .slice none 0 0,x,h=>by simp [constAV] at h; subst h; simp [Rep]
  | .func (.func f) first captured,x,h=>by
    simp only [constAV] at h
    split at h
    · rename_i hh
      obtain ⟨h1,h2⟩:=hh
      cases hl:lkN T.fns f with
      | none=>simp [hl] at h
      | some g =>
        simp [hl] at h; subst h
        have e1:first = #[]:=by simpa using h1
        have e2:captured = #[]:=by simpa using h2
        subst e1; subst e2
        exact ⟨f,#[],rfl,hl,by simp [RepL]⟩
    · simp at h
  | .agg ⟨cs⟩,x,h=>by
    simp only [constAV] at h
    cases hl:constAVL T cs with
    | none=>simp [hl] at h
    | some l =>
      simp [hl] at h; subst h
      exact ⟨⟨cs⟩,rfl,constAVL_rep F ρ cs l hl⟩
  | .float _ _,x,h=>by simp [constAV] at h
  | .complex _ _ _,x,h=>by simp [constAV] at h
  | .pointer (some _),x,h=>by simp [constAV] at h
  | .map (some _),x,h=>by simp [constAV] at h
  | .chan _,x,h=>by simp [constAV] at h
  | .slice (some _) _ _,x,h=>by simp [constAV] at h
  | .slice none (_+1) _,x,h=>by simp [constAV] at h
  | .slice none 0 (_+1),x,h=>by simp [constAV] at h
  | .func (.method _) _ _,x,h=>by simp [constAV] at h
  | .func (.methodOf _ _) _ _,x,h=>by simp [constAV] at h
  | .func (.via _ _ _ _) _ _,x,h=>by simp [constAV] at h
  | .func (.yield _) _ _,x,h=>by simp [constAV] at h
  | .iface _ _,x,h=>by simp [constAV] at h
  | .tuple _,x,h=>by simp [constAV] at h
theorem constAVL_rep (F:Frz) (ρ:Rho):∀ (vs:List Value) (xs:List AV),constAVL T vs=some xs→RepL T w F ρ xs vs
  | [],xs,h=>by simp [constAVL] at h; subst h; simp [RepL]
  | v::r,xs,h=>by
    simp only [constAVL] at h
    cases h1:constAV T v with
    | none=>simp [h1] at h
    | some x =>
      cases h2:constAVL T r with
      | none=>simp [h1,h2] at h
      | some l =>
        simp [h1,h2] at h; subst h
        exact ⟨constAV_rep F ρ v x h1,constAVL_rep F ρ r l h2⟩
end
theorem ev_rep (I:Inv T w0 F0 n st a w F ρ) {x:Operand} {y:Opd} (h:cOpd T x=some y):Rep T w F ρ (ev st.fr y) (a.eval x):=by
  cases x with
  | tmp t=>simp [cOpd] at h; subst h; exact I.slot t
  | const v =>
    simp only [cOpd] at h
    cases hc:constAV T v with
    | none=>simp [hc] at h
    | some z=>simp [hc] at h; subst h; exact constAV_rep F ρ v z hc
  | func f =>
    simp only [cOpd] at h
    cases hl:lkN T.fns f with
    | none=>simp [hl] at h
    | some g=>simp [hl] at h; subst h; exact ⟨f,#[],rfl,hl,by simp [RepL]⟩
  | global g =>
    simp only [cOpd] at h
    cases hl:lkGl T.gl g with
    | none=>simp [hl] at h
    | some cs=>simp [hl] at h; subst h; exact ⟨g,0,rfl,(I.gl.1 g cs hl).1⟩

theorem evs_rep (I:Inv T w0 F0 n st a w F ρ):∀ {xs:List Operand} {ys:List Opd},cOpds T xs=some ys→RepL T w F ρ (ys.map (ev st.fr)) (xs.map a.eval)
  | [],ys,h=>by simp [cOpds] at h; subst h; simp [RepL]
  | x::r,ys,h=>by
    simp only [cOpds] at h
    cases h1:cOpd T x with
    | none=>simp [h1] at h
    | some y =>
      cases h2:cOpds T r with
      | none=>simp [h1,h2] at h
      | some l =>
        simp [h1,h2] at h; subst h
        exact ⟨ev_rep I h1,evs_rep I h2⟩

theorem RepL.length:∀ {xs:List AV} {vs:List Value},RepL T w F ρ xs vs→xs.length=vs.length
  | [],[],_=>rfl
  | _::_,_::_,h=>by simp only [RepL] at h; simp [RepL.length h.2]
  | [],_::_,h=>by simp [RepL] at h
  | _::_,[],h=>by simp [RepL] at h

theorem RepL.get:∀ {xs:List AV} {vs:List Value},RepL T w F ρ xs vs→∀ {i:Nat} {x:AV},xs[i]? = some x→∃ v,vs[i]? = some v∧Rep T w F ρ x v
  | [],[],_,i,x,hx=>by simp at hx
  | c::r,v::s,h,0,x,hx=>by simp only [RepL] at h; simp at hx; subst hx; exact ⟨v,rfl,h.1⟩
  | c::r,v::s,h,i+1,x,hx=>by
    simp only [RepL] at h
    simp only [List.getElem?_cons_succ] at hx ⊢
    exact RepL.get h.2 hx
  | [],_::_,h,_,_,_=>by simp [RepL] at h
  | _::_,[],h,_,_,_=>by simp [RepL] at h

theorem RepL.drop:∀ {xs:List AV} {vs:List Value} (k:Nat),RepL T w F ρ xs vs→RepL T w F ρ (xs.drop k) (vs.drop k)
  | _,_,0,h=>by simpa using h
  | [],[],k+1,_=>by simp [RepL]
  | c::r,v::s,k+1,h=>by simp only [RepL] at h; simpa using RepL.drop k h.2
  | [],_::_,_+1,h=>by simp [RepL] at h
  | _::_,[],_+1,h=>by simp [RepL] at h

theorem RepL.take:∀ {xs:List AV} {vs:List Value} (k:Nat),RepL T w F ρ xs vs→RepL T w F ρ (xs.take k) (vs.take k)
  | _,_,0,h=>by simp [RepL]
  | [],[],k+1,_=>by simp [RepL]
  | c::r,v::s,k+1,h=>by simp only [RepL] at h; simpa [RepL] using ⟨h.1,RepL.take k h.2⟩
  | [],_::_,_+1,h=>by simp [RepL] at h
  | _::_,[],_+1,h=>by simp [RepL] at h

theorem RepL.app:∀ {xs:List AV} {vs:List Value} {ys:List AV} {us:List Value},RepL T w F ρ xs vs→RepL T w F ρ ys us→RepL T w F ρ (xs++ys) (vs++us)
  | [],[],_,_,_,h=>by simpa using h
  | c::r,v::s,_,_,h,h'=>by simp only [RepL] at h; simpa [RepL] using ⟨h.1,RepL.app h.2 h'⟩
  | [],_::_,_,_,h,_=>by simp [RepL] at h
  | _::_,[],_,_,h,_=>by simp [RepL] at h

theorem RepL.set:∀ {xs:List AV} {vs:List Value} (k:Nat) {x:AV} {v:Value},RepL T w F ρ xs vs→Rep T w F ρ x v→RepL T w F ρ (xs.set k x) (vs.set k v)
  | [],[],_,_,_,_,_=>by simp [RepL]
  | c::r,v::s,0,_,_,h,hx=>by simp only [RepL] at h; simpa [RepL] using ⟨hx,h.2⟩
  | c::r,v::s,k+1,_,_,h,hx=>by simp only [RepL] at h; simpa [RepL] using ⟨h.1,RepL.set k h.2 hx⟩
  | [],_::_,_,_,_,h,_=>by simp [RepL] at h
  | _::_,[],_,_,_,h,_=>by simp [RepL] at h

theorem cells_rep {x:AV} {v:Value} (h:Rep T w F ρ x v) (ha:atoms (cells x)=true):RepL T w F ρ (cells x) v.cells.toList∧(∀ u∈v.cells.toList,u.oneCell'=true):=by
  have one:∀ {y:AV} {u:Value},Rep T w F ρ y u→atom y=true→u.oneCell'=true:=by
    intro y u hy hat
    cases y <;> simp [atom] at hat <;> simp only [Rep] at hy
    case bool=>subst hy; rfl
    case int=>subst hy; rfl
    case str=>subst hy; rfl
    case nilI=>subst hy; rfl
    case nilP=>subst hy; rfl
    case nilF=>subst hy; rfl
    case nilM=>subst hy; rfl
    case nilS=>subst hy; rfl
    case sl=>rcases hy with ⟨_,_,_,rfl,_⟩ | ⟨_,_,_,rfl⟩ <;> rfl
    case ptr=>obtain ⟨_,_,rfl,_⟩:=hy; rfl
    case bx=>obtain ⟨_,rfl,_⟩:=hy; rfl
    case gp=>obtain ⟨_,_,rfl⟩:=hy; rfl
    case ifc=>obtain ⟨_,_,rfl,_⟩:=hy; rfl
    case fn=>obtain ⟨_,_,rfl,_⟩:=hy; rfl
    case mp=>obtain ⟨_,_,_,rfl,_⟩:=hy; rfl
    case ref=>obtain ⟨_,_,_,rfl⟩:=hy; rfl
    case msl=>obtain ⟨_,_,_,_,_,_,_,_,rfl,_⟩:=hy; rfl
    case mref=>obtain ⟨_,_,_,rfl⟩:=hy; rfl
  have many:∀ {ys:List AV} {us:List Value},RepL T w F ρ ys us→atoms ys=true→∀ u∈us,u.oneCell'=true:=by
    intro ys
    induction ys with
    | nil=>intro us hy _ u hu; cases us with
      | nil=>simp at hu
      | cons _ _=>simp [RepL] at hy
    | cons y r ih=>intro us hy hat u hu; cases us with
      | nil=>simp at hu
      | cons v s =>
        simp only [RepL] at hy
        simp only [atoms,Bool.and_eq_true] at hat
        rcases List.mem_cons.1 hu with rfl | hu
        · exact one hy.1 hat.1
        · exact ih hy.2 hat.2 u hu
  cases x with
  | agg cs =>
    simp only [Rep] at h
    obtain ⟨vs,rfl,h2⟩:=h
    exact ⟨h2,many h2 ha⟩
  | _ =>
    all_goals
      simp only [cells,atoms,Bool.and_true] at ha
      have h1:=one h ha
      have hc:v.cells = #[v]:=by cases v <;> first | rfl | simp [Value.oneCell'] at h1
      simp only [cells,hc]
      exact ⟨by simpa [RepL] using h,by intro u hu; simp at hu; subst hu; exact h1⟩

theorem RepAt.vals:∀ {b o:Nat} {cs:List AV},RepAt T w F b o cs→∃ vs:List Value,(∀ j v,vs[j]? = some v→w.cell? ⟨b,o+j,none⟩=some v)∧RepL T w F noRho cs vs
  | _,_,[],_=>⟨[],by simp,by simp [RepL]⟩
  | b,o,c::r,h=>by
    simp only [RepAt] at h
    obtain ⟨⟨_,x,h2,h3⟩,h4⟩:=h
    obtain ⟨vs,h5,h6⟩:=RepAt.vals h4
    refine ⟨x::vs,?_,by simpa [RepL] using ⟨h3,h6⟩⟩
    intro j v hj
    cases j with
    | zero=>simp at hj; subst hj; simpa using h2
    | succ j=>simp at hj; have:=h5 j v hj; rwa [show o+1+j=o+(j+1) by omega] at this

theorem RepAt.drop:∀ {b o:Nat} {cs:List AV} (k:Nat),RepAt T w F b o cs→RepAt T w F b (o+k) (cs.drop k)
  | _,_,_,0,h=>by simpa using h
  | b,o,c::r,k+1,h=>by
    simp only [RepAt] at h
    have:=RepAt.drop k h.2
    rw [show o+(k+1)=o+1+k by omega]
    simpa using this
  | _,_,[],k+1,_=>by simp [RepAt]

theorem obj_cells {b o:Nat} {cs:List AV} (h:RepO T w F ρ b o (.cells cs)):∃ vs:List Value,(∀ j v,vs[j]? = some v→w.cell? ⟨b,o+j,none⟩=some v)∧RepL T w F ρ cs vs:=by
  obtain ⟨pre,vs,post,e,f,h1,h2,h3,h4⟩:=h
  refine ⟨vs,?_,h3⟩
  intro j v hj
  have hlt:j < vs.length:=(List.getElem?_eq_some_iff.1 hj).1
  simp only [World.cell?,h1]
  simp only [Option.isSome_none,Bool.false_eq_true,if_false]
  rw [List.getElem?_toArray,List.getElem?_append_right (by omega),List.getElem?_append_left (by omega)]
  rw [← hj]; congr 1; omega
end
end Wax


namespace Wax
open Go Go.RowKit

def OpRes (P:Program) (T:Tab) (w0:World) (F0:Base) (n:Nat) (fr:List (Nat × AV)) (o:Oper) (a:Act) (w:World) (out:Out):Prop :=
  ∃ nx w' F' ρ' u,(execOp a.eval o).run P w=.ok nx w'∧(nx=.value u∨(nx=.skip∧u=undef))∧Inv T w0 F0 n (fin fr o.dst out) (a.put o.dst u) w' F' ρ'

section
variable {P:Program} {T:Tab} {w0 w:World} {F0:Base} {n:Nat} {fr:List (Nat × AV)} {hp:List (Nat × AObj)} {a:Act} {F:Frz} {ρ:Rho} {o:Oper}

theorem res_just (I:Inv T w0 F0 n ⟨fr,hp⟩ a w F ρ) (hd:dstOk n o.dst) {x:AV} {u:Value} (hrun:(execOp a.eval o).run P w=.ok (.value u) w) (hx:Rep T w F ρ x u) :
    OpRes P T w0 F0 n fr o a w ⟨x,hp,[]⟩ :=
  ⟨_,w,F,ρ,u,hrun,.inl rfl,I.val hd hx⟩

def Gives (P:Program) (T:Tab) (F:Frz) (ρ:Rho) (o:Oper) (a:Act) (w:World) (x:AV):Prop :=
  ∃ u,(execOp a.eval o).run P w=.ok (.value u) w∧Rep T w F ρ x u

theorem Gives.res (I:Inv T w0 F0 n ⟨fr,hp⟩ a w F ρ) (hd:dstOk n o.dst) {x:AV} (h:Gives P T F ρ o a w x):OpRes P T w0 F0 n fr o a w ⟨x,hp,[]⟩:=by
  obtain ⟨u,h1,h2⟩:=h
  exact res_just I hd h1 h2

theorem g_mv {x:Operand} (ho:o.op=.move x∨o.op=.assign x) {y:AV} (hx:Rep T w F ρ y (a.eval x)):Gives P T F ρ o a w y:=by
  rcases ho with ho | ho <;> exact ⟨a.eval x,by simp [execOp,ho],hx⟩

theorem g_pick {c x y:Operand} (ho:o.op=.pick c x y) {b:Bool} (hc:a.eval c=.bool b) {z:AV} (hz:Rep T w F ρ z (if b then a.eval x else a.eval y)):Gives P T F ρ o a w z :=
  ⟨_,by simp [execOp,ho,hc,asBool],hz⟩

theorem run_loadVar_cells {t:TypeId} {m:Option Nat} (hm:loadN P t=some m) {ad:Addr} {cs:List AV} {vs:List Value} (hspot:ad.spot=none)
    (hv:∀ j v,vs[j]? = some v→w.cell? ⟨ad.block,ad.off+j,none⟩=some v) (hr:RepL T w F ρ cs vs) {x:AV} (hl:loadC m cs=some x) :
    ∃ u,(loadVar t ad).run P w=.ok u w∧Rep T w F ρ x u:=by
  obtain ⟨b,off,spot⟩:=ad
  simp only at hspot; subst hspot
  simp only [loadN] at hm
  cases hu:P.underlying t with
  | none=>simp [hu] at hm
  | some d =>
    simp only [hu] at hm
    by_cases hagg:isAggT P t=true
    · simp only [hagg,if_true] at hm
      cases hs:sizeT P t with
      | none=>simp [hs] at hm
      | some k =>
        simp [hs] at hm; subst hm
        simp only [loadC] at hl
        split at hl
        · rename_i hk
          simp at hl; subst hl
          have hlen:=hr.length
          refine ⟨.agg (vs.take k).toArray,?_,⟨_,rfl,by simpa using hr.take k⟩⟩
          have hc:=run_loadCells_list (P:=P) (w:=w) ⟨b,off,none⟩ (vs.take k) (fun j v hj=>by
            rw [List.getElem?_take] at hj
            split at hj
            · have:=hv j v hj
              simp only [Addr.add]
              by_cases h0:j=0
              · subst h0; simpa using this
              · simp only [h0,if_false]; exact this
            · simp at hj)
          have hl':(vs.take k).length=k:=by rw [List.length_take]; omega
          rw [hl'] at hc
          simp [loadVar,rIsAgg hu,hagg,rSize hs,hc]
        · simp at hl
    · simp only [hagg,Bool.false_eq_true,if_false,Option.some.injEq] at hm
      subst hm
      cases cs with
      | nil=>simp [loadC] at hl
      | cons c r =>
        cases vs with
        | nil=>simp [RepL] at hr
        | cons v s =>
          simp only [loadC] at hl
          split at hl
          · simp at hl; subst hl
            simp only [RepL] at hr
            have:=hv 0 v rfl
            refine ⟨v,?_,hr.1⟩
            simp only [Nat.add_zero] at this
            simp [loadVar,rIsAgg hu,hagg,load,Sem.run,this]
          · simp at hl

theorem load_cell (I:Inv T w0 F0 n ⟨fr,hp⟩ a w F ρ) {t:TypeId} {m:Option Nat} {y:AV} {v:Value} (hx:Rep T w F ρ y v) (hm:loadN P t=some m) {z:AV} (hl:aload hp m y=some z) :
    ∃ ad u,v=.pointer (some ad)∧(loadVar t ad).run P w=.ok u w∧Rep T w F ρ z u:=by
  have key:∀ b off (cs:List AV) (vs:List Value),v=.pointer (some ⟨b,off,none⟩)→(∀ j v,vs[j]? = some v→w.cell? ⟨b,off+j,none⟩=some v)→RepL T w F ρ cs vs→loadC m cs=some z →
      ∃ ad u,v=.pointer (some ad)∧(loadVar t ad).run P w=.ok u w∧Rep T w F ρ z u:=by
    intro b off cs vs he hv hr hl
    obtain ⟨u,h1,h2⟩:=run_loadVar_cells (P:=P) hm (ad:=⟨b,off,none⟩) rfl hv hr hl
    exact ⟨_,u,he,h1,h2⟩
  cases y <;> simp only [aload] at hl <;> try (simp at hl; done)
  case ptr cs =>
    simp only [Rep] at hx
    obtain ⟨b,off,he,hr⟩:=hx
    obtain ⟨vs,h1,h2⟩:=hr.vals
    exact key b off cs vs he h1 (h2.up ρ) hl
  case bx cs =>
    simp only [Rep] at hx
    obtain ⟨b,he,hr⟩:=hx
    obtain ⟨vs,h1,h2⟩:=hr.vals
    exact key b 0 cs vs he h1 (h2.up ρ) hl
  case ref id off =>
    simp only [Rep] at hx
    obtain ⟨b,o1,hr,he⟩:=hx
    cases hh:hlk hp id with
    | none=>simp [hh] at hl
    | some ob =>
      cases ob with
      | cells cs =>
        simp only [hh] at hl
        obtain ⟨b',o',g1,_,_,_,g5⟩:=I.obj id _ hh
        rw [hr] at g1; injection g1 with g1; injection g1 with g1 g1'; subst g1; subst g1'
        obtain ⟨vs,h1,h2⟩:=obj_cells g5
        refine key b (o1+off) (cs.drop off) (vs.drop off) he ?_ (h2.drop off) hl
        intro j v hj
        rw [List.getElem?_drop] at hj
        have:=h1 _ v hj
        rwa [show o1+off+j=o1+(off+j) by omega]
      | mp es=>simp [hh] at hl
      | sit s p=>simp [hh] at hl
      | mit q0 q1=>simp [hh] at hl

theorem g_load (I:Inv T w0 F0 n ⟨fr,hp⟩ a w F ρ) {t:TypeId} {x:Operand} (ho:o.op=.load t x) {m:Option Nat} (hm:loadN P t=some m) {y:AV}
    (hx:Rep T w F ρ y (a.eval x)) {z:AV} (hl:aload hp m y=some z):Gives P T F ρ o a w z:=by
  obtain ⟨ad,u,he,h1,h2⟩:=load_cell I hx hm hl
  exact ⟨u,by simp [execOp,ho,Instr.loadAt,Instr.sureAddr,he,h1],h2⟩

theorem g_chk {x:Operand} (ho:o.op=.nilCheck x) {y:AV} (hx:Rep T w F ρ y (a.eval x)) (hy:(∃ cs,y=.ptr cs)∨(∃ id off,y=.ref id off)):Gives P T F ρ o a w y:=by
  refine ⟨a.eval x,?_,hx⟩
  rcases hy with ⟨cs,rfl⟩ | ⟨id,off,rfl⟩
  · simp only [Rep] at hx
    obtain ⟨b,o1,he,_⟩:=hx
    simp [execOp,ho,he]
  · simp only [Rep] at hx
    obtain ⟨b,o1,_,he⟩:=hx
    simp [execOp,ho,he]

theorem g_mkIfc {t:TypeId} {x:Operand} (ho:o.op=.makeInterface t x) {d:TypeDesc} (hd:P.underlying t=some d) (hni:∀ ms,d ≠ .interface ms) {g:Nat} (hg:lkN T.tys t=some g)
    {y:AV} (hx:Rep T w F ρ y (a.eval x)):Gives P T F ρ o a w (.ifc g y):=by
  refine ⟨.iface t (a.eval x),?_,⟨t,_,rfl,hg,hx⟩⟩
  simp only [execOp,ho,Instr.makeInterface,Sem.run_bind,rUnder hd,Result.andThen_ok]
  cases d <;> first | rfl | (exfalso; exact hni _ rfl)

theorem g_mkFn {f:FuncId} {captured:Array Operand} (ho:o.op=.makeFunc (.func f) #[] captured) {g:Nat} (hg:lkN T.fns f=some g) {ys:List AV}
    (hy:RepL T w F ρ ys (captured.toList.map a.eval)):Gives P T F ρ o a w (.fn g ys):=by
  refine ⟨.func (.func f) #[] (captured.map a.eval),?_,⟨f,_,rfl,hg,by simpa using hy⟩⟩
  simp [execOp,ho,Instr.makeFunc]

theorem g_extr {x:Operand} {i:Nat} (ho:o.op=.extract x i) {vs:List AV} {y:AV} (hx:Rep T w F ρ (.tup vs) (a.eval x)) (hy:vs[i]? = some y):Gives P T F ρ o a w y:=by
  simp only [Rep] at hx
  obtain ⟨us,he,hr⟩:=hx
  obtain ⟨u,h1,h2⟩:=hr.get hy
  refine ⟨u,?_,h2⟩
  have:us[i]? = some u:=by rw [← h1,Array.getElem?_toList]
  simp [execOp,ho,he,Instr.extract,this]

theorem g_fAddr {s:TypeId} {x:Operand} {f:Nat} (ho:o.op=.fieldAddr s x f) {fs:Array Field} (hs:P.underlying s=some (.struct fs)) {fd:Field} (hf:fs.toList[f]? = some fd)
    {k:Nat} (hk:sizeT P fd.type=some k) (hk0:k ≠ 0) {y z:AV} (hx:Rep T w F ρ y (a.eval x))
    (hz:(∃ cs,y=.ptr cs∧z=.ptr (cs.drop fd.offset))∨(∃ id off,y=.ref id off∧z=.ref id (off+fd.offset))):Gives P T F ρ o a w z:=by
  have hf':fs[f]? = some fd:=by rw [← hf,Array.getElem?_toList]
  have run:∀ b off,a.eval x=.pointer (some ⟨b,off,none⟩)→(execOp a.eval o).run P w=.ok (.value (.pointer (some ⟨b,off+fd.offset,none⟩))) w:=by
    intro b off he
    simp only [execOp,ho,Instr.fieldAt,Sem.run_bind,rUnder hs,Result.andThen_ok,hf',he,Instr.sureAddr,fieldPlace,rSize hk,Sem.run_pure,hk0,if_false]
    simp only [Addr.add]
    by_cases h0:fd.offset=0
    · simp [h0]
    · simp [h0]
  rcases hz with ⟨cs,rfl,rfl⟩ | ⟨id,off,rfl,rfl⟩
  · simp only [Rep] at hx
    obtain ⟨b,o1,he,hr⟩:=hx
    exact ⟨_,run b o1 he,⟨b,_,rfl,hr.drop _⟩⟩
  · simp only [Rep] at hx
    obtain ⟨b,o1,h1,he⟩:=hx
    exact ⟨_,run b _ he,⟨b,o1,h1,by rw [Nat.add_assoc]⟩⟩
end
end Wax


namespace Wax
open Go Go.RowKit

section
variable {P:Program} {T:Tab} {w0 w:World} {F0:Base} {n:Nat} {fr:List (Nat × AV)} {hp:List (Nat × AObj)} {a:Act} {F:Frz} {ρ:Rho} {o:Oper}

theorem eqGuard_int (op:BinOp) (t:TypeId) (x y:Operand) (k k':IntKind) (m m':Int):(eqGuard op t x y (.int k m) (.int k' m')).run P w=.ok () w:=by
  unfold eqGuard; cases op <;> rfl
theorem eqGuard_str (op:BinOp) (t:TypeId) (x y:Operand) (s s':ByteArray):(eqGuard op t x y (.string s) (.string s')).run P w=.ok () w:=by
  unfold eqGuard; cases op <;> rfl
theorem eqGuard_bool (op:BinOp) (t:TypeId) (x y:Operand) (s s':Bool):(eqGuard op t x y (.bool s) (.bool s')).run P w=.ok () w:=by
  unfold eqGuard; cases op <;> rfl

theorem run_binI (op:BinOp) (t:TypeId) (k k':IntKind) (x y:Int) {z:AV} (hk:cBin op=.shl∨cBin op=.shr∨k=k') (h:binI (cBin op) k x y=some z) :
    ∃ u,(binOp op t (.int k x) (.int k' y)).run P w=.ok u w∧Rep T w F ρ z u:=by
  cases op <;> simp only [cBin,reduceCtorEq,false_or,true_or] at hk <;> simp only [cBin,binI] at h
  case shl =>
    split at h
    · simp at h
    · rename_i hy
      simp at h; subst h
      exact ⟨_,by simp [binOp,Op.shift,hy]; rfl,by simp [Rep]⟩
  case shr =>
    split at h
    · simp at h
    · rename_i hy
      simp at h; subst h
      exact ⟨_,by simp [binOp,Op.shift,hy]; rfl,by simp [Rep]⟩
  case quo =>
    subst hk
    split at h
    · simp at h
    · rename_i hy
      simp at h; subst h
      exact ⟨_,by simp [binOp,Op.intDiv,hy]; rfl,by simp [Rep]⟩
  case rem =>
    subst hk
    split at h
    · simp at h
    · rename_i hy
      simp at h; subst h
      exact ⟨_,by simp [binOp,Op.intDiv,hy]; rfl,by simp [Rep]⟩
  all_goals
    subst hk
    simp only [Option.some.injEq] at h; subst h
    refine ⟨_,by simp only [binOp,Op.intArith,Op.intBits,Op.intCmp,ne_eq,not_true,if_false]; rfl,?_⟩
    simp only [Rep]
    all_goals first
      | rfl
      | (congr 1; done)
      | (congr 1; rw [Bool.eq_iff_iff]; simp; done)
      | (simp; done)

theorem str_beq (x y:List UInt8):(x == y)=decide (x=y):=by
  rw [Bool.eq_iff_iff]; simp

theorem run_binS (op:BinOp) (t:TypeId) (x y:List UInt8) {z:AV} (h:binS (cBin op) x y=some z) :
    ∃ u,(binOp op t (.string ⟨x.toArray⟩) (.string ⟨y.toArray⟩)).run P w=.ok u w∧Rep T w F ρ z u:=by
  cases op <;> simp only [cBin,binS] at h <;> try (simp at h; done)
  case add =>
    split at h
    · rename_i hlt
      simp at h; subst h
      refine ⟨.string ⟨(x++y).toArray⟩,?_,by simp [Rep]⟩
      have e:((⟨x.toArray⟩:ByteArray)++⟨y.toArray⟩)=⟨(x++y).toArray⟩:=by
        apply ByteArray.ext; simp [ByteArray.data_append]
      have hs:¬ (((⟨x.toArray⟩:ByteArray).size+(⟨y.toArray⟩:ByteArray).size:Nat):Int) > IntKind.i64.max:=by
        have e1:(⟨x.toArray⟩:ByteArray).size=x.length:=by simp [ByteArray.size]
        have e2:(⟨y.toArray⟩:ByteArray).size=y.length:=by simp [ByteArray.size]
        have e3:IntKind.i64.max=9223372036854775807:=by decide
        rw [e1,e2,e3]; omega
      simp only [binOp,Op.stringOp,hs,if_false,e]
      rfl
    · simp at h
  all_goals
    simp at h; subst h
    refine ⟨_,by simp only [binOp,Op.stringOp,ByteArray.toList_mk]; rfl,?_⟩
    simp only [Rep,lexLt]
    all_goals first | rfl | (congr 1; done) | (congr 1; simp [str_beq]; done) | (simp [str_beq]; done)

theorem g_bin {op:BinOp} {t t':TypeId} {x y:Operand} (ho:o.op=.binOp op t x y t') {p q z:AV} (hx:Rep T w F ρ p (a.eval x)) (hy:Rep T w F ρ q (a.eval y))
    (hprim:(∃ k m k' m',p=.int k m∧q=.int k' m')∨(∃ s s',p=.str s∧q=.str s')) (h:abin (cBin op) p q=some z):Gives P T F ρ o a w z:=by
  rcases hprim with ⟨k,m,k',m',rfl,rfl⟩ | ⟨s,s',rfl,rfl⟩
  · simp only [Rep] at hx hy
    simp only [abin] at h
    split at h
    · rename_i hk
      obtain ⟨u,h1,h2⟩:=run_binI (P:=P) (T:=T) (w:=w) (F:=F) (ρ:=ρ) op t k k' m m' hk h
      exact ⟨u,by simp [execOp,ho,hx,hy,eqGuard_int,h1],h2⟩
    · simp at h
  · simp only [Rep] at hx hy
    simp only [abin] at h
    obtain ⟨u,h1,h2⟩:=run_binS (P:=P) (T:=T) (w:=w) (F:=F) (ρ:=ρ) op t s s' h
    exact ⟨u,by simp [execOp,ho,hx,hy,eqGuard_str,h1],h2⟩

theorem g_un {op:UnOp} {t:TypeId} {x:Operand} (ho:o.op=.unOp op t x) {p z:AV} (hx:Rep T w F ρ p (a.eval x))
    (h:(op=.neg∧aun .neg p=some z)∨(op=.xor∧aun .xor p=some z)∨(op=.not∧aun .not p=some z)):Gives P T F ρ o a w z:=by
  rcases h with ⟨rfl,h⟩ | ⟨rfl,h⟩ | ⟨rfl,h⟩ <;> cases p <;> simp only [aun] at h <;> try (simp at h; done)
  · simp only [Rep] at hx
    simp at h; subst h
    exact ⟨_,by simp [execOp,ho,hx,Op.unary,Op.intArith]; rfl,by simp [Rep]⟩
  · simp only [Rep] at hx
    simp [binI] at h; subst h
    exact ⟨_,by simp [execOp,ho,hx,Op.unary,Op.intBits]; rfl,by simp [Rep]⟩
  · simp only [Rep] at hx
    simp at h; subst h
    exact ⟨_,by simp [execOp,ho,hx,Op.unary]; rfl,by simp [Rep]⟩

theorem bytes_size (s:List UInt8):(⟨s.toArray⟩:ByteArray).size=s.length:=by simp [ByteArray.size]

theorem asIntOf_run {v:Value} {k:IntKind} {m:Int} (h:v=.int k m):(asIntOf v).run P w=.ok (k,m) w:=by subst h; rfl

theorem idx_spec {i:AV} {j:Nat} (h:idx i=some j) {v:Value} (hv:Rep T w F ρ i v):∃ k m,v=.int k m∧0≤m∧m.toNat=j:=by
  cases i <;> simp only [idx] at h <;> try (simp at h; done)
  split at h
  · rename_i k m h0
    simp at h
    simp only [Rep] at hv
    exact ⟨k,m,hv,h0,h⟩
  · simp at h

theorem g_iStr {t:TypeId} {x i:Operand} (ho:o.op=.index t x i) (ht:P.underlying t=some .string) {p:AV} {s:List UInt8} {j:Nat} {b:UInt8}
    (hi:Rep T w F ρ p (a.eval i)) (hj:idx p=some j) (hx:Rep T w F ρ (.str s) (a.eval x)) (hb:s[j]? = some b):Gives P T F ρ o a w (.int .u8 (b.toNat:Int)):=by
  obtain ⟨k,m,he,h0,hm⟩:=idx_spec hj hi
  simp only [Rep] at hx
  refine ⟨.int .u8 b.toNat,?_,by simp [Rep]⟩
  have hget:(⟨s.toArray⟩:ByteArray)[m.toNat]? = some b:=by
    rw [hm]
    obtain ⟨hlt,hb'⟩:=List.getElem?_eq_some_iff.1 hb
    rw [getElem?_pos _ _ (by rw [bytes_size]; exact hlt)]
    simp [ByteArray.getElem_eq_getElem_data,hb']
  simp only [execOp,ho,Instr.index,Sem.run_bind,asIntOf_run he,Result.andThen_ok,rUnder ht,hx,h0,if_true,hget]
  rfl

end
end Wax


namespace Wax
open Go Go.RowKit

section
variable {P:Program} {T:Tab} {w0 w:World} {F0:Base} {n:Nat} {fr:List (Nat × AV)} {hp:List (Nat × AObj)} {a:Act} {F:Frz} {ρ:Rho} {o:Oper}

theorem run_sliceBound {p:AV} {v:Value} {j y:Nat} (hv:Rep T w F ρ p v) (hj:idx p=some j) (hle:j≤y) (c:BoundsCode):(Instr.sliceBound v y c).run P w=.ok j w:=by
  obtain ⟨k,m,rfl,h0,hm⟩:=idx_spec hj hv
  have:0≤m∧m≤(y:Int):=⟨h0,by omega⟩
  simp only [Instr.sliceBound,Sem.run_bind,asIntOf_run rfl,Result.andThen_ok,this,and_self,if_true,Sem.run_pure,hm]

def EndsOk (T:Tab) (w:World) (F:Frz) (ρ:Rho) (x:Option AV) (v:Option Value):Prop :=
  (x=none∧v=none)∨∃ p u,x=some p∧v=some u∧Rep T w F ρ p u

theorem ends_rep (I:Inv T w0 F0 n ⟨fr,hp⟩ a w F ρ) {x:Option Operand} {y:Option Opd} (h:cOptOpd T x=some y):EndsOk T w F ρ (y.map (ev fr)) (x.map a.eval):=by
  cases x with
  | none=>simp [cOptOpd] at h; subst h; exact .inl ⟨rfl,rfl⟩
  | some x =>
    simp only [cOptOpd] at h
    cases hc:cOpd T x with
    | none=>simp [hc] at h
    | some z=>simp [hc] at h; subst h; exact .inr ⟨_,_,rfl,rfl,ev_rep I hc⟩

theorem run_sliceBounds {lo hi:Option AV} {vl vh:Option Value} (hl:EndsOk T w F ρ lo vl) (hh:EndsOk T w F ρ hi vh) {len cap l h:Nat} (hb:bounds len lo hi=some (l,h)) (hc:len≤cap) (b:Bool) :
    (Instr.sliceBounds b len cap vl vh none).run P w=.ok (l,h,cap) w∧l≤h∧h≤len:=by
  rcases hh with ⟨rfl,rfl⟩ | ⟨p,u,rfl,rfl,hp⟩
  · rcases hl with ⟨rfl,rfl⟩ | ⟨q,v,rfl,rfl,hq⟩
    · simp [bounds] at hb; obtain ⟨rfl,rfl⟩:=hb
      exact ⟨by simp [Instr.sliceBounds],by omega,by omega⟩
    · simp only [bounds] at hb
      cases hi:idx q with
      | none=>simp [hi] at hb
      | some j =>
        simp only [hi] at hb
        split at hb
        · rename_i hle
          simp at hb; obtain ⟨rfl,rfl⟩:=hb
          exact ⟨by simp [Instr.sliceBounds,run_sliceBound hq hi hle.1],hle⟩
        · simp at hb
  · simp only [bounds] at hb
    cases hi:idx p with
    | none=>simp [hi] at hb
    | some k =>
      simp only [hi] at hb
      rcases hl with ⟨rfl,rfl⟩ | ⟨q,v,rfl,rfl,hq⟩
      · simp only at hb
        split at hb
        · rename_i hle
          simp at hb; obtain ⟨rfl,rfl⟩:=hb
          exact ⟨by simp [Instr.sliceBounds,run_sliceBound hp hi (show k≤cap by omega)],hle⟩
        · simp at hb
      · cases hi':idx q with
        | none=>simp [hi'] at hb
        | some j =>
          simp only [hi'] at hb
          split at hb
          · rename_i hle
            simp at hb; obtain ⟨rfl,rfl⟩:=hb
            exact ⟨by simp [Instr.sliceBounds,run_sliceBound hp hi (show k≤cap by omega),run_sliceBound hq hi' hle.1],hle⟩
          · simp at hb

theorem cut_eq {α:Type} (xs:List α) {lo hi:Option AV} {l h:Nat} (hb:bounds xs.length lo hi=some (l,h)):cut xs lo hi l h=(xs.take h).drop l:=by
  cases lo <;> cases hi <;> simp only [cut,bounds] at hb ⊢
  · simp at hb; obtain ⟨rfl,rfl⟩:=hb; simp
  · split at hb
    · simp at hb
    · simp at hb; obtain ⟨_,rfl,rfl⟩:=hb; simp
  · split at hb
    · simp at hb
    · split at hb
      · simp at hb; obtain ⟨rfl,rfl⟩:=hb; simp
      · simp at hb

theorem bytes_extract (s:List UInt8) (l h:Nat):(⟨s.toArray⟩:ByteArray).extract l h=⟨((s.take h).drop l).toArray⟩:=by
  apply ByteArray.ext
  rw [ByteArray.data_extract]
  apply Array.ext'
  simp [List.drop_take]

theorem g_slStr {t:TypeId} {x:Operand} {lo hi:Option Operand} (ho:o.op=.slice t x lo hi none) (ht:P.underlying t=some .string) {s:List UInt8} (hx:Rep T w F ρ (.str s) (a.eval x))
    {lo' hi':Option AV} (hl:EndsOk T w F ρ lo' (lo.map a.eval)) (hh:EndsOk T w F ρ hi' (hi.map a.eval)) {l h:Nat} (hb:bounds s.length lo' hi'=some (l,h)) :
    Gives P T F ρ o a w (.str (cut s lo' hi' l h)):=by
  simp only [Rep] at hx
  rw [cut_eq s hb]
  refine ⟨.string ⟨((s.take h).drop l).toArray⟩,?_,by simp [Rep]⟩
  have:=(run_sliceBounds (P:=P) hl hh hb (Nat.le_refl _) false).1
  rw [← bytes_size s] at this
  simp only [execOp,ho,Instr.sliceAt,Instr.slice,Sem.run_bind,rUnder ht,Result.andThen_ok,hx,Option.map_none,Option.isSome_none,Bool.false_eq_true,if_false,this,bytes_extract,Sem.run_pure]

theorem RepSl.drop:∀ {es b o:Nat} {cs:List AV} (k:Nat),RepSl T w F es b o cs→RepSl T w F es b (o+k * es) (cs.drop k)
  | _,_,_,_,0,h=>by simpa using h
  | es,b,o,c::r,k+1,h=>by
    have h':RepSl T w F es b (o+es) r:=by cases c <;> (simp only [RepSl] at h; exact h.2.2)
    have:=RepSl.drop k h'
    rw [show o+(k+1) * es=o+es+k * es by rw [Nat.add_mul]; omega]
    simpa using this
  | _,_,_,[],k+1,_=>by simp [RepSl]

theorem RepSl.take:∀ {es b o:Nat} {cs:List AV} (k:Nat),RepSl T w F es b o cs→RepSl T w F es b o (cs.take k)
  | _,_,_,_,0,h=>by simp [RepSl]
  | es,b,o,c::r,k+1,h=>by
    cases c <;> (simp only [RepSl,List.take_succ_cons] at h ⊢; exact ⟨h.1,h.2.1,RepSl.take k h.2.2⟩)
  | _,_,_,[],k+1,_=>by simp [RepSl]

theorem RepSl.get:∀ {es b o:Nat} {cs:List AV} {k:Nat} {x:AV},RepSl T w F es b o cs→cs[k]? = some x→RepAt T w F b (o+k * es) (cells x)∧(cells x).length=es
  | es,b,o,c::r,0,x,h,hx=>by
    simp at hx; subst hx
    cases c with
    | agg cs=>simp only [RepSl] at h; simp only [cells,Nat.zero_mul,Nat.add_zero]; exact ⟨h.2.1,h.1⟩
    | _=>simp only [RepSl] at h; simp only [cells,Nat.zero_mul,Nat.add_zero,RepAt,List.length_singleton]; exact ⟨⟨h.2.1,trivial⟩,h.1.symm⟩
  | es,b,o,c::r,k+1,x,h,hx=>by
    have h':RepSl T w F es b (o+es) r:=by cases c <;> (simp only [RepSl] at h; exact h.2.2)
    have:=RepSl.get (k:=k) h' (by simpa using hx)
    rw [show o+(k+1) * es=o+es+k * es by rw [Nat.add_mul]; omega]
    exact this
  | _,_,_,[],_,_,_,hx=>by simp at hx

theorem RepM.length:∀ {xs:List (List UInt8 × AV)} {vs:List MapEntry},RepM T w F xs vs→xs.length=vs.length
  | [],[],_=>rfl
  | (_,_)::_,_::_,h=>by simp only [RepM] at h; simp [RepM.length h.2.2]
  | [],_::_,h=>by simp [RepM] at h
  | (_,_)::_,[],h=>by simp [RepM] at h
theorem RepMP.length {xs:List (List UInt8 × AV)} {vs:List MapEntry} (h:RepMP T w F xs vs):xs.length=vs.length:=by
  obtain ⟨l,h1,h2⟩:=h
  rw [RepM.length h2,h1.length_eq]

theorem addr_add (b o k:Nat):(⟨b,o,none⟩:Addr).add k=⟨b,o+k,none⟩:=by
  simp only [Addr.add]; split <;> simp_all

theorem g_slSl {t e:TypeId} {x:Operand} {lo hi:Option Operand} (ho:o.op=.slice t x lo hi none) (ht:P.underlying t=some (.slice e)) {es:Nat} (he:sizeT P e=some es)
    {p:AV} (hx:Rep T w F ρ p (a.eval x)) {lo' hi':Option AV} (hl:EndsOk T w F ρ lo' (lo.map a.eval)) (hh:EndsOk T w F ρ hi' (hi.map a.eval)) {l h:Nat} {z:AV}
    (hz:(∃ xs,p=.sl es xs∧bounds xs.length lo' hi'=some (l,h)∧z=.sl es (cut xs lo' hi' l h))∨(p=.nilS∧bounds 0 lo' hi'=some (l,h)∧z=.nilS) ∨
      (∃ id off m,p=.msl id es off m∧bounds m lo' hi'=some (l,h)∧z=.msl id es (off+l * es) (h - l))):Gives P T F ρ o a w z:=by
  rcases hz with ⟨xs,rfl,hb,rfl⟩ | ⟨rfl,hb,rfl⟩ | ⟨id,off,m,rfl,hb,rfl⟩
  · simp only [Rep] at hx
    rcases hx with ⟨b,off,cap,hv,hc,hr⟩ | ⟨rfl,ad,cap,hv⟩
    case inr =>
      obtain ⟨hrun,hlh,hhl⟩:=run_sliceBounds (P:=P) hl hh hb (Nat.zero_le cap) true
      have hl0:l=0∧h=0:=by simp only [List.length_nil] at hhl; omega
      obtain ⟨rfl,rfl⟩:=hl0
      simp only [List.length_nil] at hrun
      refine ⟨.slice (some (if cap=0 then ad else ad.add (0 * es))) 0 (cap - 0),?_,?_⟩
      · simp only [execOp,ho,Instr.sliceAt,Instr.slice,Sem.run_bind,rUnder ht,Result.andThen_ok,hv,Option.map_none,hrun,rSize he,Sem.run_pure]
        by_cases hcl:cap=0
        · simp [hcl]
        · simp [hcl]
      · rw [cut_eq [] hb]
        simp only [Rep]
        exact .inr ⟨by simp,_,_,rfl⟩
    obtain ⟨hrun,hlh,hhl⟩:=run_sliceBounds (P:=P) hl hh hb hc true
    refine ⟨.slice (some (if cap=l then ⟨b,off,none⟩ else ⟨b,off+l * es,none⟩)) (h - l) (cap - l),?_,?_⟩
    · simp only [execOp,ho,Instr.sliceAt,Instr.slice,Sem.run_bind,rUnder ht,Result.andThen_ok,hv,Option.map_none,hrun,rSize he,Sem.run_pure]
      by_cases hcl:cap=l
      · simp [hcl]
      · simp [hcl,addr_add]
    · rw [cut_eq xs hb]
      have hlen:((xs.take h).drop l).length=h - l:=by simp [List.length_take]; omega
      simp only [Rep]
      left
      by_cases hcl:cap=l
      · refine ⟨b,off,cap - l,by simp [hcl,hlen],by omega,?_⟩
        have:(xs.take h).drop l=[]:=List.length_eq_zero_iff.1 (by omega)
        rw [this]; simp [RepSl]
      · exact ⟨b,off+l * es,cap - l,by simp [hcl,hlen],by omega,(hr.take h).drop l⟩
  · simp only [Rep] at hx
    obtain ⟨hrun,hlh,hhl⟩:=run_sliceBounds (P:=P) hl hh hb (Nat.le_refl 0) true
    have:l=0∧h=0:=by omega
    obtain ⟨rfl,rfl⟩:=this
    refine ⟨.slice none 0 0,?_,by simp [Rep]⟩
    simp [execOp,ho,Instr.sliceAt,Instr.slice,rUnder ht,hx,hrun,rSize he]
  · simp only [Rep] at hx
    obtain ⟨b,o1,y,cap,c,e1,f1,h1,hv,hc,hblk,hsz⟩:=hx
    obtain ⟨hrun,hlh,hhl⟩:=run_sliceBounds (P:=P) hl hh hb hc true
    refine ⟨.slice (some (if cap=l then ⟨b,y,none⟩ else ⟨b,y+l * es,none⟩)) (h - l) (cap - l),?_,?_⟩
    · simp only [execOp,ho,Instr.sliceAt,Instr.slice,Sem.run_bind,rUnder ht,Result.andThen_ok,hv,Option.map_none,hrun,rSize he,Sem.run_pure]
      by_cases hcl:cap=l
      · simp [hcl]
      · simp [hcl,addr_add]
    · simp only [Rep]
      by_cases hcl:cap=l
      · exact ⟨b,o1,y,cap - l,c,e1,f1,h1,by simp [hcl],by omega,hblk,.inl (by omega)⟩
      · refine ⟨b,o1,y+l * es,cap - l,c,e1,f1,h1,by simp [hcl],by omega,hblk,?_⟩
        rcases hsz with h0 | ⟨h0,h3⟩
        · omega
        · right
          refine ⟨by omega,?_⟩
          have e3:l * es+(cap - l) * es=cap * es:=by rw [← Nat.add_mul]; congr 1; omega
          omega

theorem g_mn {c:Call} (ho:o.op=.call c) (hc:c.callee=.builtin .min) {x y:Operand} (hx0:c.args = #[x,y]) {t u:TypeId} (ht0:c.argTypes = #[t,u]) {p q v:AV} (hx:Rep T w F ρ p (a.eval x)) (hy:Rep T w F ρ q (a.eval y)) (hv:amin p q=some v) :
    Gives P T F ρ o a w v:=by
  cases p <;> cases q <;> simp only [amin] at hv <;> try (simp at hv; done)
  rename_i k m k' m'
  split at hv
  · rename_i hk
    subst hk
    simp only [Option.some.injEq] at hv
    subst hv
    simp only [Rep] at hx hy
    refine ⟨.int k (if m' < m then m' else m),?_,by simp [Rep]⟩
    simp [execOp,ho,resolve,hc,hx0,ht0,invoke,builtin,Builtin.min_,Builtin.min2,hx,hy]
  · simp at hv

theorem g_len {c:Call} (ho:o.op=.call c) (hc:c.callee=.builtin .len) {x:Operand} (hx0:c.args = #[x]) {t:TypeId} (ht0:c.argTypes = #[t]) {d:TypeDesc} (ht:P.underlying t=some d)
    {k:Nat} (hd:(d=.string∧k=0)∨((∃ e,d=.slice e)∧k=1)∨((∃ k' e,d=.map k' e)∧k=2)) (I:Inv T w0 F0 n ⟨fr,hp⟩ a w F ρ) {p:AV} (hx:Rep T w F ρ p (a.eval x)) {m:Nat} (hm:alen hp k p=some m) :
    Gives P T F ρ o a w (.int .i64 (m:Int)):=by
  have run:∀ v:Value,(Builtin.len_ #[t] o.type #[a.eval x]).run P w=.ok v w→(execOp a.eval o).run P w=.ok (.value v) w:=by
    intro v hv
    simp [execOp,ho,resolve,hc,hx0,ht0,invoke,builtin,hv]
  refine ⟨.int .i64 (m:Int),run _ ?_,by simp [Rep]⟩
  rcases hd with ⟨rfl,rfl⟩ | ⟨⟨e,rfl⟩,rfl⟩ | ⟨⟨k',e,rfl⟩,rfl⟩
  · cases p <;> simp only [alen] at hm <;> try (simp at hm; done)
    simp only [Rep] at hx
    simp at hm; subst hm
    simp [Builtin.len_,rUnder ht,hx,goInt,bytes_size]
  · cases p <;> simp only [alen] at hm <;> try (simp at hm; done)
    · simp only [Rep] at hx
      simp at hm; subst hm
      simp [Builtin.len_,rUnder ht,hx,goInt]
    · simp only [Rep] at hx
      rcases hx with ⟨b,o1,cap,hv,_⟩ | ⟨rfl,ad,cap,hv⟩
      · simp at hm; subst hm
        simp [Builtin.len_,rUnder ht,hv,goInt]
      · simp at hm; subst hm
        simp [Builtin.len_,rUnder ht,hv,goInt]
    · simp only [Rep] at hx
      obtain ⟨b,o1,y,cap,c,e1,f1,h1,hv,_⟩:=hx
      simp at hm; subst hm
      simp [Builtin.len_,rUnder ht,hv,goInt]
  · cases p <;> simp only [alen] at hm <;> try (simp at hm; done)
    · simp only [Rep] at hx
      simp at hm; subst hm
      simp [Builtin.len_,rUnder ht,hx,goInt]
    · simp only [Rep] at hx
      obtain ⟨r,ents,clk,hv,_,h3,h4⟩:=hx
      simp at hm; subst hm
      have hl:=RepMP.length h4.1
      simp [Builtin.len_,rUnder ht,hv,goInt,getObj,Sem.run,h3,hl]
    · rename_i id
      simp only [Rep] at hx
      obtain ⟨b,o1,h1,hv⟩:=hx
      cases hh:hlk hp id with
      | none=>simp [hh] at hm
      | some ob =>
        cases ob with
        | mp es =>
          simp [hh] at hm; subst hm
          obtain ⟨b',o',g1,_,_,_,g5⟩:=I.obj id _ hh
          rw [h1] at g1; injection g1 with g1; injection g1 with g1 g1'; subst g1
          obtain ⟨ents,clk,h3,h4⟩:=g5
          have hl:=RepMP.length h4.1
          simp [Builtin.len_,rUnder ht,hv,goInt,getObj,Sem.run,h3,hl]
        | cells cs=>simp [hh] at hm
        | sit s q=>simp [hh] at hm
        | mit q0 q1=>simp [hh] at hm
end
end Wax


namespace Wax
open Go Go.RowKit

section
variable {P:Program} {T:Tab} {w0 w:World} {F0:Base} {n:Nat} {fr:List (Nat × AV)} {hp:List (Nat × AObj)} {a:Act} {F:Frz} {ρ:Rho} {o:Oper}

theorem g_iAddr {t e:TypeId} {x i:Operand} (ho:o.op=.indexAddr t x i) (ht:P.underlying t=some (.slice e)) {es:Nat} (he:sizeT P e=some es)
    {p q:AV} (hx:Rep T w F ρ p (a.eval x)) (hi:Rep T w F ρ q (a.eval i)) {j:Nat} (hj:idx q=some j) {z:AV}
    (hz:(∃ xs v,p=.sl es xs∧xs[j]? = some v∧z=.ptr (cells v))∨(∃ id off m,p=.msl id es off m∧j < m∧z=.ref id (off+j * es))):Gives P T F ρ o a w z:=by
  obtain ⟨k,m,hv,h0,hm⟩:=idx_spec hj hi
  have run:∀ b off len cap,a.eval x=.slice (some ⟨b,off,none⟩) len cap→j < len→(execOp a.eval o).run P w=.ok (.value (.pointer (some ⟨b,off+j * es,none⟩))) w:=by
    intro b off len cap hs hlt
    have hc:0≤m∧m < (len:Int):=⟨h0,by omega⟩
    simp only [execOp,ho,Instr.indexAt,Sem.run_bind,asIntOf_run hv,Result.andThen_ok,rUnder ht,hs,Sem.run_pure,hc,and_self,if_true,rSize he,addr_add,hm]
  rcases hz with ⟨xs,v,rfl,hv',rfl⟩ | ⟨id,off,m',rfl,hlt,rfl⟩
  · simp only [Rep] at hx
    rcases hx with ⟨b,off,cap,hs,_,hr⟩ | ⟨rfl,_⟩
    case inr=>simp at hv'
    have hlt:j < xs.length:=(List.getElem?_eq_some_iff.1 hv').1
    exact ⟨_,run b off _ cap hs hlt,⟨b,_,rfl,(hr.get hv').1⟩⟩
  · simp only [Rep] at hx
    obtain ⟨b,o1,y,cap,c,e1,f1,h1,hs,hc,hblk,hsz⟩:=hx
    refine ⟨_,run b y _ cap hs hlt,⟨b,o1,h1,?_⟩⟩
    rcases hsz with h | ⟨h,_⟩
    · omega
    · rw [h,Nat.add_assoc]

theorem g_iAddrA {t e:TypeId} {len:Nat} {x i:Operand} (ho:o.op=.indexAddr t x i) (ht:P.underlying t=some (.array len e)) {es:Nat} (he:sizeT P e=some es)
    {p q:AV} (hx:Rep T w F ρ p (a.eval x)) (hi:Rep T w F ρ q (a.eval i)) {j:Nat} (hj:idx q=some j) (hlt:j < len) {z:AV}
    (hz:(∃ cs,p=.ptr cs∧z=.ptr (cs.drop (j * es)))∨(∃ id off,p=.ref id off∧z=.ref id (off+j * es))):Gives P T F ρ o a w z:=by
  obtain ⟨k,m,hv,h0,hm⟩:=idx_spec hj hi
  have run:∀ b off,a.eval x=.pointer (some ⟨b,off,none⟩)→(execOp a.eval o).run P w=.ok (.value (.pointer (some ⟨b,off+j * es,none⟩))) w:=by
    intro b off hs
    have hc:0≤m∧m < (len:Int):=⟨h0,by omega⟩
    simp only [execOp,ho,Instr.indexAt,Sem.run_bind,asIntOf_run hv,Result.andThen_ok,rUnder ht,hs,Instr.sureAddr,Sem.run_pure,hc,and_self,if_true,rSize he,addr_add,hm]
  rcases hz with ⟨cs,rfl,rfl⟩ | ⟨id,off,rfl,rfl⟩
  · simp only [Rep] at hx
    obtain ⟨b,off,hs,hr⟩:=hx
    exact ⟨_,run b off hs,⟨b,_,rfl,hr.drop _⟩⟩
  · simp only [Rep] at hx
    obtain ⟨b,o1,h1,hs⟩:=hx
    exact ⟨_,run b _ hs,⟨b,o1,h1,by rw [Nat.add_assoc]⟩⟩

theorem run_part {t:TypeId} {m:Option Nat} (hm:loadN P t=some m) {cs:List AV} {vs:Array Value} (hr:RepL T w F ρ cs vs.toList) {k:Nat} {z:AV} (hz:partA m (cs.drop k)=some z) :
    ∃ u,(part t vs k).run P w=.ok u w∧Rep T w F ρ z u:=by
  have hr':=hr.drop k
  simp only [loadN] at hm
  cases hu:P.underlying t with
  | none=>simp [hu] at hm
  | some d =>
    simp only [hu] at hm
    by_cases hagg:isAggT P t=true
    · simp only [hagg,if_true] at hm
      cases hs:sizeT P t with
      | none=>simp [hs] at hm
      | some q =>
        simp [hs] at hm; subst hm
        simp only [partA,loadC] at hz
        split at hz
        · simp at hz; subst hz
          refine ⟨.agg (vs.extract k (k+q)),?_,⟨_,rfl,?_⟩⟩
          · simp [part,rIsAgg hu,hagg,rSize hs]
          · have:=hr'.take q
            have e:(vs.extract k (k+q)).toList=(vs.toList.drop k).take q:=by
              rw [Array.toList_extract]
              simp
            rw [e]; exact this
        · simp at hz
    · simp only [hagg,Bool.false_eq_true,if_false,Option.some.injEq] at hm
      subst hm
      cases hcs:cs.drop k with
      | nil=>simp [partA,loadC,hcs] at hz
      | cons c r =>
        simp only [partA,loadC,hcs] at hz
        split at hz
        · simp at hz; subst hz
          have h0:(cs.drop k)[0]? = some c:=by rw [hcs]; rfl
          obtain ⟨u,h1,h2⟩:=hr'.get h0
          rw [List.getElem?_drop] at h1
          have:vs[k]? = some u:=by rw [← h1]; simp
          exact ⟨u,by simp [part,rIsAgg hu,hagg,this],h2⟩
        · simp at hz

theorem g_field {s:TypeId} {x:Operand} {f:Nat} (ho:o.op=.field s x f) {fs:Array Field} (hs:P.underlying s=some (.struct fs)) {fd:Field} (hf:fs.toList[f]? = some fd)
    {m:Option Nat} (hm:loadN P fd.type=some m) {cs:List AV} (hx:Rep T w F ρ (.agg cs) (a.eval x)) {z:AV} (hz:partA m (cs.drop fd.offset)=some z):Gives P T F ρ o a w z:=by
  simp only [Rep] at hx
  obtain ⟨vs,he,hr⟩:=hx
  obtain ⟨u,h1,h2⟩:=run_part (P:=P) hm hr hz
  have hf':fs[f]? = some fd:=by rw [← hf,Array.getElem?_toList]
  exact ⟨u,by simp [execOp,ho,Instr.field,rUnder hs,hf',he,asAgg,h1],h2⟩

theorem g_iArr {t e:TypeId} {len:Nat} {x i:Operand} (ho:o.op=.index t x i) (ht:P.underlying t=some (.array len e)) {es:Nat} (he:sizeT P e=some es) {m:Option Nat} (hm:loadN P e=some m)
    {cs:List AV} {q:AV} (hx:Rep T w F ρ (.agg cs) (a.eval x)) (hi:Rep T w F ρ q (a.eval i)) {j:Nat} (hj:idx q=some j) (hlt:j < len) {z:AV} (hz:partA m (cs.drop (j * es))=some z):Gives P T F ρ o a w z:=by
  obtain ⟨k,mm,hv,h0,hmm⟩:=idx_spec hj hi
  simp only [Rep] at hx
  obtain ⟨vs,hx',hr⟩:=hx
  obtain ⟨u,h1,h2⟩:=run_part (P:=P) hm hr hz
  have hc:0≤mm∧mm < (len:Int):=⟨h0,by omega⟩
  exact ⟨u,by simp only [execOp,ho,Instr.index,Sem.run_bind,asIntOf_run hv,Result.andThen_ok,rUnder ht,hx',hc,and_self,if_true,rSize he,hmm,h1,Sem.run_pure],h2⟩

theorem g_cInt {src dst:TypeId} {x:Operand} (ho:o.op=.convert src dst x) {k k':IntKind} (hs:P.underlying src=some (.int k')) (hd:P.underlying dst=some (.int k)) {k0:IntKind} {m:Int}
    (hx:Rep T w F ρ (.int k0 m) (a.eval x)):Gives P T F ρ o a w (.int k (k.wrap m)):=by
  simp only [Rep] at hx
  exact ⟨.int k (k.wrap m),by simp [execOp,ho,convert,rUnder hs,rUnder hd,hx,Conv.intToInt],by simp [Rep]⟩

theorem g_cIntStr {src dst:TypeId} {x:Operand} (ho:o.op=.convert src dst x) {k':IntKind} (hs:P.underlying src=some (.int k')) (hd:P.underlying dst=some .string) {k0:IntKind} {m:Int}
    (hx:Rep T w F ρ (.int k0 m) (a.eval x)):Gives P T F ρ o a w (.str (encR m)):=by
  simp only [Rep] at hx
  exact ⟨.string (Utf8.encode m),by simp [execOp,ho,convert,rUnder hs,rUnder hd,hx,Conv.intToString],by simp [Rep,encR]⟩

theorem g_cNop {src dst:TypeId} {x:Operand} (ho:o.op=.convert src dst x) (hs:P.underlying src=some .string) (hd:P.underlying dst=some .string) {s:List UInt8}
    (hx:Rep T w F ρ (.str s) (a.eval x)):Gives P T F ρ o a w (.str s):=by
  simp only [Rep] at hx
  exact ⟨_,by simp [execOp,ho,convert,rUnder hs,rUnder hd,hx]; rfl,by simp [Rep]⟩

theorem slCells_rep (I:Inv T w0 F0 n ⟨fr,hp⟩ a w F ρ) {p:AV} {v:Value} (hx:Rep T w F ρ p v) (hns:∀ s,p ≠ .str s) {cs:List AV} (hc:slCells hp p=some cs) :
    ((v=.slice none 0 0∨∃ ad cap,v=.slice (some ad) 0 cap)∧cs=[])∨∃ b off len cap us,v=.slice (some ⟨b,off,none⟩) len cap∧len≤cap∧(∀ j u,us[j]? = some u→w.cell? ⟨b,off+j,none⟩=some u)∧RepL T w F ρ cs us ∧
      ((∃ es xs,p=.sl es xs∧len=xs.length∧cs.length=len * es)∨(∃ id es off' ,p=.msl id es off' len∧cs.length=len * es)):=by
  cases p <;> simp only [slCells] at hc <;> try (simp at hc; done)
  case nilS=>simp only [Rep] at hx; simp at hc; exact .inl ⟨.inl hx,hc⟩
  case str s=>exact absurd rfl (hns s)
  case sl es xs =>
    simp at hc; subst hc
    simp only [Rep] at hx
    rcases hx with ⟨b,off,cap,hv,hcap,hr⟩ | ⟨rfl,hv⟩
    case inr=>exact .inl ⟨.inr hv,by simp⟩
    have key:∀ (xs:List AV) (off:Nat),RepSl T w F es b off xs→RepAt T w F b off (xs.flatMap cells)∧(xs.flatMap cells).length=xs.length * es:=by
      intro xs
      induction xs with
      | nil=>intro off _; simp [RepAt]
      | cons c r ih =>
        intro off h
        have app:∀ (l l':List AV) (off:Nat),RepAt T w F b off l→RepAt T w F b (off+l.length) l'→RepAt T w F b off (l++l'):=by
          intro l
          induction l with
          | nil=>intro l' off _ h; simpa using h
          | cons y s ih=>intro l' off h h'; simp only [RepAt,List.cons_append] at h ⊢; exact ⟨h.1,ih l' _ h.2 (by rw [show off+1+s.length=off+(y::s).length by simp; omega]; exact h')⟩
        have h1:=RepSl.get (k:=0) (x:=c) h rfl
        have h2:RepSl T w F es b (off+es) r:=by simpa using h.drop 1
        obtain ⟨g1,g2⟩:=ih _ h2
        simp only [Nat.zero_mul,Nat.add_zero] at h1
        refine ⟨?_,?_⟩
        · rw [List.flatMap_cons]
          exact app _ _ _ h1.1 (by rw [h1.2]; exact g1)
        · rw [List.flatMap_cons,List.length_append,g2,h1.2,List.length_cons,Nat.add_mul]; omega
    obtain ⟨g1,g2⟩:=key xs off hr
    obtain ⟨us,h1,h2⟩:=g1.vals
    exact .inr ⟨b,off,_,cap,us,hv,hcap,h1,h2.up ρ,.inl ⟨es,xs,rfl,rfl,g2⟩⟩
  case msl id es off m =>
    simp only [Rep] at hx
    obtain ⟨b,o1,y,cap,c,e1,f1,h1,hv,hcap,hblk,hsz⟩:=hx
    cases hh:hlk hp id with
    | none=>simp [hh] at hc
    | some ob =>
      cases ob with
      | mp es=>simp [hh] at hc
      | sit s q=>simp [hh] at hc
      | mit q0 q1=>simp [hh] at hc
      | cells ds =>
        simp only [hh] at hc
        split at hc
        · rename_i hle
          simp at hc; subst hc
          obtain ⟨b',o',g1,_,_,_,g5⟩:=I.obj id _ hh
          rw [h1] at g1; injection g1 with g1; injection g1 with g1 g1'; subst g1; subst g1'
          obtain ⟨us,k1,k2⟩:=obj_cells g5
          have hlen:((ds.drop off).take (m * es)).length=m * es:=by rw [List.length_take,List.length_drop]; omega
          rcases hsz with h0 | ⟨h0,h3⟩
          · have hm0:m=0:=by omega
            subst hm0
            exact .inr ⟨b,y,0,cap,[],hv,hcap,by simp,by simp [RepL],.inr ⟨id,es,off,rfl,by simp⟩⟩
          · refine .inr ⟨b,y,m,cap,(us.drop off).take (m * es),hv,hcap,?_,(k2.drop off).take _,.inr ⟨id,es,off,rfl,hlen⟩⟩
            intro j u hj
            rw [List.getElem?_take] at hj
            split at hj
            · rw [List.getElem?_drop] at hj
              have:=k1 _ u hj
              rw [h0,show o1+off+j=o1+(off+j) by omega]; exact this
            · simp at hj
        · simp at hc
end
end Wax


namespace Wax
open Go Go.RowKit

section
variable {P:Program} {T:Tab} {w0 w:World} {F0:Base} {n:Nat} {fr:List (Nat × AV)} {hp:List (Nat × AObj)} {a:Act} {F:Frz} {ρ:Rho} {o:Oper}

theorem toBytes_spec {f:Value→ByteArray→Sem (ForInStep ByteArray)} (hf:∀ (m:Int) (r:ByteArray),(f (.int .u8 m) r).run P w=.ok (ForInStep.yield (r.push (UInt8.ofNat m.toNat))) w) :
    ∀ {cs:List AV} {us:List Value} {s:List UInt8} {acc:List UInt8},toBytes cs=some s→RepL T w F ρ cs us→(forIn (m:=Sem) us (⟨acc.toArray⟩:ByteArray) f).run P w=.ok ⟨(acc++s).toArray⟩ w
  | [],[],s,acc,h,_=>by simp [toBytes] at h; subst h; simp
  | c::r,v::t,s,acc,h,hr=>by
    simp only [RepL] at hr
    cases c
    case int k m =>
      cases k
      case u8 =>
        simp only [toBytes] at h
        cases hs:toBytes r with
        | none=>simp [hs] at h
        | some s' =>
          simp [hs] at h; subst h
          simp only [Rep] at hr
          obtain ⟨hv,hr⟩:=hr
          subst hv
          simp only [List.forIn_cons,Sem.run_bind,hf,Result.andThen_ok]
          have e:(⟨acc.toArray⟩:ByteArray).push (UInt8.ofNat m.toNat)=⟨(acc++[UInt8.ofNat m.toNat]).toArray⟩:=by
            apply ByteArray.ext; simp
          rw [e,toBytes_spec hf hs hr]
          simp
      all_goals simp [toBytes] at h
    all_goals simp [toBytes] at h
  | [],_::_,_,_,_,hr=>by simp [RepL] at hr
  | _::_,[],_,_,_,hr=>by simp [RepL] at hr

theorem toRunes_spec {f:Value→ByteArray→Sem (ForInStep ByteArray)} (hf:∀ (m:Int) (r:ByteArray),(f (.int .i32 m) r).run P w=.ok (ForInStep.yield (r++Utf8.encode m)) w) :
    ∀ {cs:List AV} {us:List Value} {s:List UInt8} {acc:List UInt8},toRunes cs=some s→RepL T w F ρ cs us→(forIn (m:=Sem) us (⟨acc.toArray⟩:ByteArray) f).run P w=.ok ⟨(acc++s).toArray⟩ w
  | [],[],s,acc,h,_=>by simp [toRunes] at h; subst h; simp
  | c::r,v::t,s,acc,h,hr=>by
    simp only [RepL] at hr
    cases c
    case int k m =>
      cases k
      case i32 =>
        simp only [toRunes] at h
        cases hs:toRunes r with
        | none=>simp [hs] at h
        | some s' =>
          simp [hs] at h; subst h
          simp only [Rep] at hr
          obtain ⟨hv,hr⟩:=hr
          subst hv
          simp only [List.forIn_cons,Sem.run_bind,hf,Result.andThen_ok]
          have e:(⟨acc.toArray⟩:ByteArray)++Utf8.encode m=⟨(acc++encR m).toArray⟩:=by
            apply ByteArray.ext; simp [encR,ByteArray.data_append]
          rw [e,toRunes_spec hf hs hr]
          simp
      all_goals simp [toRunes] at h
    all_goals simp [toRunes] at h
  | [],_::_,_,_,_,hr=>by simp [RepL] at hr
  | _::_,[],_,_,_,hr=>by simp [RepL] at hr

theorem run_cells_of {b off:Nat} {us:List Value} (h:∀ j u,us[j]? = some u→w.cell? ⟨b,off+j,none⟩=some u):(loadCells ⟨b,off,none⟩ us.length).run P w=.ok us.toArray w :=
  run_loadCells_list (P:=P) (w:=w) ⟨b,off,none⟩ us (fun j v hj=>by rw [addr_add]; exact h j v hj)

theorem g_cBytesStr (I:Inv T w0 F0 n ⟨fr,hp⟩ a w F ρ) {src dst e:TypeId} {x:Operand} (ho:o.op=.convert src dst x) (hs:P.underlying src=some (.slice e)) (he:P.underlying e=some (.int .u8)) (hd:P.underlying dst=some .string)
    {p:AV} (hx:Rep T w F ρ p (a.eval x)) (hns:∀ s,p ≠ .str s) {cs:List AV} (hc:slCells hp p=some cs) {s:List UInt8} (hb:toBytes cs=some s) (hsz:∀ es xs,p=.sl es xs→es=1∨xs=[]) (hsm:∀ id es off m,p=.msl id es off m→es=1):Gives P T F ρ o a w (.str s):=by
  rcases slCells_rep I hx hns hc with ⟨hv,rfl⟩ | ⟨b,off,len,cap,us,hv,hcap,h1,h2,h3⟩
  · simp [toBytes] at hb; subst hb
    rcases hv with hv | ⟨ad,cap,hv⟩
    · exact ⟨.string .empty,by simp [execOp,ho,convert,rUnder hs,rUnder hd,rUnder he,hv,Conv.bytesToString],by simp [Rep]; rfl⟩
    · have hload:=run_loadCells_list (P:=P) (w:=w) ad [] (fun j v hj=>by simp at hj)
      simp only [List.length_nil] at hload
      exact ⟨.string .empty,by simp [execOp,ho,convert,rUnder hs,rUnder hd,rUnder he,hv,Conv.bytesToString,hload],by simp [Rep]; rfl⟩
  · have hlen:us.length=len:=by
      have:=h2.length
      rcases h3 with ⟨es,xs,rfl,hl,hq⟩ | ⟨id,es,off',rfl,hq⟩
      · rcases hsz es xs rfl with rfl | rfl
        · omega
        · simp at hl; subst hl; omega
      · have:=hsm id es off' len rfl; subst this; omega
    refine ⟨.string ⟨s.toArray⟩,?_,by simp [Rep]⟩
    have hload:=run_cells_of (P:=P) (w:=w) h1
    rw [hlen] at hload
    simp only [execOp,ho,convert,Sem.run_bind,rUnder hs,rUnder hd,rUnder he,Result.andThen_ok,hv,Conv.bytesToString,hload,Sem.run_pure]
    simp only [List.forIn_toArray]
    have e0:ByteArray.empty=(⟨([]:List UInt8).toArray⟩:ByteArray):=rfl
    rw [e0,toBytes_spec (fun m r=>by simp) hb h2]
    simp

theorem g_cRunesStr (I:Inv T w0 F0 n ⟨fr,hp⟩ a w F ρ) {src dst e:TypeId} {x:Operand} (ho:o.op=.convert src dst x) (hs:P.underlying src=some (.slice e)) (he:P.underlying e=some (.int .i32)) (hd:P.underlying dst=some .string)
    {p:AV} (hx:Rep T w F ρ p (a.eval x)) (hns:∀ s,p ≠ .str s) {cs:List AV} (hc:slCells hp p=some cs) {s:List UInt8} (hb:toRunes cs=some s) (hsz:∀ es xs,p=.sl es xs→es=1∨xs=[]) (hsm:∀ id es off m,p=.msl id es off m→es=1):Gives P T F ρ o a w (.str s):=by
  rcases slCells_rep I hx hns hc with ⟨hv,rfl⟩ | ⟨b,off,len,cap,us,hv,hcap,h1,h2,h3⟩
  · simp [toRunes] at hb; subst hb
    rcases hv with hv | ⟨ad,cap,hv⟩
    · exact ⟨.string .empty,by simp [execOp,ho,convert,rUnder hs,rUnder hd,rUnder he,hv,Conv.runesToString],by simp [Rep]; rfl⟩
    · have hload:=run_loadCells_list (P:=P) (w:=w) ad [] (fun j v hj=>by simp at hj)
      simp only [List.length_nil] at hload
      exact ⟨.string .empty,by simp [execOp,ho,convert,rUnder hs,rUnder hd,rUnder he,hv,Conv.runesToString,hload],by simp [Rep]; rfl⟩
  · have hlen:us.length=len:=by
      have:=h2.length
      rcases h3 with ⟨es,xs,rfl,hl,hq⟩ | ⟨id,es,off',rfl,hq⟩
      · rcases hsz es xs rfl with rfl | rfl
        · omega
        · simp at hl; subst hl; omega
      · have:=hsm id es off' len rfl; subst this; omega
    refine ⟨.string ⟨s.toArray⟩,?_,by simp [Rep]⟩
    have hload:=run_cells_of (P:=P) (w:=w) h1
    rw [hlen] at hload
    simp only [execOp,ho,convert,Sem.run_bind,rUnder hs,rUnder hd,rUnder he,Result.andThen_ok,hv,Conv.runesToString,hload,Sem.run_pure]
    simp only [List.forIn_toArray]
    have e0:ByteArray.empty=(⟨([]:List UInt8).toArray⟩:ByteArray):=rfl
    rw [e0,toRunes_spec (fun m r=>by simp) hb h2]
    simp

theorem g_assert {t xt:TypeId} {x:Operand} {ok:Bool} (ho:o.op=.typeAssert x xt t ok) {d:TypeDesc} (ht:P.underlying t=some d) (hni:∀ ms,d ≠ .interface ms) {g:Nat} (hg:lkN T.tys t=some g)
    (inj:∀ u,lkN T.tys u=some g→u=t) {i:TypeInfo} (hi:P.info? t=some i) {zv:Value} (hz:i.zero=some zv) {z:AV} (hzr:Rep T w F ρ z zv) {p q:AV} (hx:Rep T w F ρ p (a.eval x))
    (h:(∃ v,p=.ifc g v∧q=(if ok then .tup [v,.bool true] else v))∨(∃ u v,p=.ifc u v∧u ≠ g∧ok=true∧q=.tup [z,.bool false])∨(p=.nilI∧ok=true∧q=.tup [z,.bool false])):Gives P T F ρ o a w q:=by
  have hzero:(zeroValue t).run P w=.ok zv w:=rZero hi hz
  rcases h with ⟨v,rfl,rfl⟩ | ⟨u,v,rfl,hne,rfl,rfl⟩ | ⟨rfl,rfl,rfl⟩
  · simp only [Rep] at hx
    obtain ⟨t',y,he,hl,hr⟩:=hx
    have:=inj t' hl
    subst this
    refine ⟨if ok then .tuple #[y,.bool true] else y,?_,?_⟩
    · simp only [execOp,ho,Instr.typeAssert,Sem.run_bind,rUnder ht,Result.andThen_ok,he]
      cases d <;> first | (exfalso; exact hni _ rfl) | (cases ok <;> simp)
    · cases ok
      · simpa using hr
      · simp only [if_true]; exact ⟨_,rfl,by simp [RepL,hr,Rep]⟩
  · simp only [Rep] at hx
    obtain ⟨t',y,he,hl,hr⟩:=hx
    have hne':t' ≠ t:=fun e=>by subst e; rw [hl] at hg; exact hne (by injection hg)
    refine ⟨.tuple #[zv,.bool false],?_,⟨_,rfl,by simp [RepL,hzr,Rep]⟩⟩
    simp only [execOp,ho,Instr.typeAssert,Sem.run_bind,rUnder ht,Result.andThen_ok,he]
    cases d <;> first | (exfalso; exact hni _ rfl) | simp [hne',hzero]
  · simp only [Rep] at hx
    refine ⟨.tuple #[zv,.bool false],?_,⟨_,rfl,by simp [RepL,hzr,Rep]⟩⟩
    simp only [execOp,ho,Instr.typeAssert,Sem.run_bind,rUnder ht,Result.andThen_ok,hx]
    cases d <;> first | (exfalso; exact hni _ rfl) | simp [hzero]

theorem missing_all (want:Array (String × TypeId)) (got:Array Method):(Instr.missingMethod want got).isNone=want.toList.all fun x=>got.any fun m=>m.name == x.1 && m.sig == x.2:=by
  have key:∀ (l:List String) (p:String→Bool) (f:String→String),(Instr.least (l.partition p).2 <|> Instr.least ((l.partition p).1.map f)).isNone=l.isEmpty:=by
    intro l p f
    rw [List.partition_eq_filter_filter]
    cases l with
    | nil=>rfl
    | cons s r =>
      cases hp:p s with
      | true =>
        simp only [List.filter_cons,hp,if_true,List.map_cons]
        cases Instr.least (List.filter (not ∘ p) (s::r)) <;> simp [Instr.least]
      | false=>simp [hp,Instr.least]
  unfold Instr.missingMethod
  simp only
  rw [key]
  rw [Bool.eq_iff_iff]
  simp only [List.isEmpty_iff,List.map_eq_nil_iff,List.filter_eq_nil_iff,List.all_eq_true]
  refine ⟨fun h x hx=>?_,fun h x hx=>?_⟩
  · have:=h x hx
    simpa using this
  · have:=h x hx
    simpa using this

theorem implB_spec {want:Array (String × TypeId)} {tys:List (Nat × Nat)} {g:Nat} {b:Bool}:∀ {l:List (Nat × Nat)},lkB (implB P want tys l) g=some b→∃ t i,lkN tys t=some g∧P.info? t=some i∧(Instr.missingMethod want i.methods).isNone=b
  | [],h=>by simp [implB,lkB] at h
  | (t,q)::r,h=>by
    simp only [implB] at h
    split at h
    · rename_i i hi
      split at h
      · rename_i hq
        simp only [lkB] at h
        split at h
        · rename_i e; subst e
          simp only [Option.some.injEq] at h
          exact ⟨t,i,hq,hi,(missing_all _ _).trans h⟩
        · exact implB_spec h
      · exact implB_spec h
    · exact implB_spec h

theorem g_assertI {t xt:TypeId} {x:Operand} (ho:o.op=.typeAssert x xt t true) {ms:Array (String × TypeId)} (ht:P.underlying t=some (.interface ms))
    (inj:∀ u u' g,lkN T.tys u=some g→lkN T.tys u'=some g→u=u') {i:TypeInfo} (hi:P.info? t=some i) (hz:i.zero=some .nilIface) {p q:AV} (hx:Rep T w F ρ p (a.eval x))
    (h:(p=.nilI∧q=.tup [.nilI,.bool false])∨(∃ g v b,p=.ifc g v∧lkB (implB P ms T.tys T.it) g=some b∧q=if b then .tup [.ifc g v,.bool true] else .tup [.nilI,.bool false])):Gives P T F ρ o a w q:=by
  have hzero:(zeroValue t).run P w=.ok .nilIface w:=rZero hi hz
  rcases h with ⟨rfl,rfl⟩ | ⟨g,v,b,rfl,hb,rfl⟩
  · simp only [Rep] at hx
    refine ⟨.tuple #[.nilIface,.bool false],?_,⟨_,rfl,by simp [RepL,Rep]⟩⟩
    simp [execOp,ho,Instr.typeAssert,rUnder ht,hx,hzero]
  · have hxr:=hx
    simp only [Rep] at hx
    obtain ⟨t',y,he,hl,hr⟩:=hx
    obtain ⟨t2,j,h1,h2,h3⟩:=implB_spec hb
    have:=inj _ _ _ hl h1; subst this
    cases b with
    | true =>
      have hm:Instr.missingMethod ms j.methods=none:=by simpa using h3
      refine ⟨.tuple #[.iface t' y,.bool true],?_,?_⟩
      · simp [execOp,ho,Instr.typeAssert,rUnder ht,he,rInfo h2,hm]
      · refine ⟨_,rfl,?_⟩
        simp only [RepL,Rep,and_true]
        exact ⟨t',y,rfl,hl,hr⟩
    | false =>
      obtain ⟨m,hm⟩:∃ m,Instr.missingMethod ms j.methods=some m:=by
        cases hq:Instr.missingMethod ms j.methods with
        | none=>rw [hq] at h3; simp at h3
        | some m=>exact ⟨m,rfl⟩
      refine ⟨.tuple #[.nilIface,.bool false],?_,⟨_,rfl,by simp [RepL,Rep]⟩⟩
      simp [execOp,ho,Instr.typeAssert,rUnder ht,he,rInfo h2,hm,hzero]

theorem ptrTys_spec {tys:List (Nat × Nat)} {g:Nat}:∀ {l:List (Nat × Nat)},g∈ptrTys P tys l→∃ t i e j,lkN tys t=some g∧P.info? t=some i∧P.underlying t=some (.pointer e)∧i.comparable=true∧P.info? e=some j∧j.size ≠ 0
  | [],h=>by simp [ptrTys] at h
  | (t,q)::r,h=>by
    simp only [ptrTys] at h
    split at h
    · rename_i i e hi hu
      split at h
      · rename_i j hj
        split at h
        · rename_i hq
          rcases List.mem_cons.1 h with rfl | h
          · exact ⟨t,i,e,j,hq.1,hi,hu,hq.2.1,hj,hq.2.2⟩
          · exact ptrTys_spec h
        · exact ptrTys_spec h
      · exact ptrTys_spec h
    · exact ptrTys_spec h

theorem eqI_types (d:Nat) {t:TypeId} {ms:Array (String × TypeId)} (ht:P.underlying t=some (.interface ms)) {t1 t2:TypeId} {y1 y2:Value} (h:t1 ≠ t2):(Op.equalIn (d+1) t (.iface t1 y1) (.iface t2 y2)).run P w=.ok false w:=by
  simp [Op.equalIn,rUnder ht,h]
theorem eqI_nil1 (d:Nat) {t:TypeId} {ms:Array (String × TypeId)} (ht:P.underlying t=some (.interface ms)) {t2:TypeId} {y2:Value}:(Op.equalIn (d+1) t .nilIface (.iface t2 y2)).run P w=.ok false w:=by
  simp [Op.equalIn,rUnder ht]
theorem eqI_nil2 (d:Nat) {t:TypeId} {ms:Array (String × TypeId)} (ht:P.underlying t=some (.interface ms)) {t2:TypeId} {y2:Value}:(Op.equalIn (d+1) t (.iface t2 y2) .nilIface).run P w=.ok false w:=by
  simp [Op.equalIn,rUnder ht]
theorem same_far {a b:Addr} {ca cb:Array Value} {ta tb:TypeId} {q:Nat × Nat} (hne:a ≠ b) (ha:w.heap[a.block]? = some (.cells ca ta (0,0))) (sa:ca.size ≠ 0) (hb:w.heap[b.block]? = some (.cells cb tb q)) (sb:cb.size ≠ 0) :
    (sameAddr a b).run P w=.ok false w∧(sameAddr b a).run P w=.ok false w:=by
  obtain ⟨lo,hi⟩:=q
  by_cases hbl:a.block=b.block
  · have hne2:b ≠ a:=fun e=>hne e.symm
    constructor
    · simp [sameAddr,hbl,hne]
    · simp [sameAddr,hbl,hne2]
  · have hbl2:¬ b.block=a.block:=fun e=>hbl e.symm
    constructor
    · simp [sameAddr,hbl,World.frozen?,ha,hb,noView,viewAt,World.shape?,mayBeOne,stringish,sa,sb]
    · simp [sameAddr,hbl2,World.frozen?,ha,hb,noView,viewAt,World.shape?,mayBeOne,stringish,sa,sb]
theorem eqI_far (d:Nat) {ti tp te:TypeId} {ms:Array (String × TypeId)} {i j:TypeInfo} {a b:Addr} (hi:P.underlying ti=some (.interface ms)) (hp:P.underlying tp=some (.pointer te)) (hinfo:P.info? tp=some i) (hcomp:i.comparable=true) (hte:P.info? te=some j) (hsz:j.size ≠ 0)
    (h:(sameAddr a b).run P w=.ok false w):(Op.equalIn (d+2) ti (.iface tp (.pointer (some a))) (.iface tp (.pointer (some b)))).run P w=.ok false w:=by
  simp [Op.equalIn,rUnder hi,rUnder hp,typeInfo,hinfo,hcomp,Go.sizeOf,hte,hsz,h]

theorem cells_of_cell {ad:Addr} {v:Value} (h:w.cell? ad=some v):∃ c t q,w.heap[ad.block]? = some (.cells c t q)∧c.size ≠ 0:=by
  unfold World.cell? at h
  split at h
  · rename_i c t q hh
    refine ⟨c,t,q,hh,?_⟩
    intro e
    split at h
    · simp at h
    · rw [Array.getElem?_eq_none (by omega)] at h; simp at h
  · simp at h

theorem g_eqI {op:BinOp} (hop:op=.eql∨op=.neq) {t t':TypeId} {x y:Operand} (ho:o.op=.binOp op t x y t') {ms:Array (String × TypeId)} (ht:P.underlying t=some (.interface ms))
    (inj:∀ u u' g,lkN T.tys u=some g→lkN T.tys u'=some g→u=u') (hgc:GcOk T w F) {p q:AV} (hx:Rep T w F ρ p (a.eval x)) (hy:Rep T w F ρ q (a.eval y)) {b:Bool} (hb:ifcEq (ptrTys P T.tys T.it) T.gc p q=some b) :
    Gives P T F ρ o a w (.bool (b != decide (op=.neq))):=by
  have fin:∀ vx vy,a.eval x=vx→a.eval y=vy→((vx=.nilIface∧∃ u v,vy=.iface u v)∨(vy=.nilIface∧∃ u v,vx=.iface u v)∨((∃ u v,vx=.iface u v)∧∃ u v,vy=.iface u v))→(Op.equalIn 10000 t vx vy).run P w=.ok b w→Gives P T F ρ o a w (.bool (b != decide (op=.neq))):=by
    intro vx vy ex ey hs hrun
    have hg:(eqGuard op t x y vx vy).run P w=.ok () w:=by
      rcases hs with ⟨rfl,u,v,rfl⟩ | ⟨rfl,u,v,rfl⟩ | ⟨⟨u,v,rfl⟩,u',v',rfl⟩ <;> rcases hop with rfl | rfl <;> simp [eqGuard]
    refine ⟨.bool (b != decide (op=.neq)),?_,by simp [Rep]⟩
    rcases hs with ⟨rfl,u,v,rfl⟩ | ⟨rfl,u,v,rfl⟩ | ⟨⟨u,v,rfl⟩,u',v',rfl⟩
    all_goals
      rcases hop with rfl | rfl
      · simp only [execOp,ho,ex,ey,Sem.run_bind,hg,Result.andThen_ok,binOp,Op.equal,Op.maxDepth,hrun,Sem.run_pure]
        simp
      · simp only [execOp,ho,ex,ey,Sem.run_bind,hg,Result.andThen_ok,binOp,Op.equal,Op.maxDepth,hrun,Sem.run_pure]
        simp
  have dif:∀ g1 g2 v1 v2,p=.ifc g1 v1→q=.ifc g2 v2→g1 ≠ g2→b=false→Gives P T F ρ o a w (.bool (b != decide (op=.neq))):=by
    intro g1 g2 v1 v2 hp hq hne hbf
    subst hp; subst hq; subst hbf
    simp only [Rep] at hx hy
    obtain ⟨t1,y1,e1,l1,r1⟩:=hx
    obtain ⟨t2,y2,e2,l2,r2⟩:=hy
    have hne2:t1 ≠ t2:=fun e=>by subst e; rw [l1] at l2; exact hne (by injection l2)
    refine fin _ _ e1 e2 (.inr (.inr ⟨⟨_,_,rfl⟩,_,_,rfl⟩)) ?_
    exact eqI_types 9999 ht hne2
  unfold ifcEq at hb
  split at hb
  · simp only [Option.some.injEq] at hb; subst hb
    simp only [Rep] at hx hy
    obtain ⟨t2,y2,e2,l2,r2⟩:=hy
    refine fin _ _ hx e2 (.inl ⟨rfl,_,_,rfl⟩) ?_
    exact eqI_nil1 9999 ht
  · simp only [Option.some.injEq] at hb; subst hb
    simp only [Rep] at hx hy
    obtain ⟨t2,y2,e2,l2,r2⟩:=hx
    refine fin _ _ e2 hy (.inr (.inl ⟨rfl,_,_,rfl⟩)) ?_
    exact eqI_nil2 9999 ht
  · rename_i g1 n1 g2 n2
    split at hb
    · rename_i hg; subst hg
      split at hb
      · rename_i hc
        simp only [Option.some.injEq] at hb; subst hb
        simp only [Bool.and_eq_true,beq_iff_eq,List.contains_iff_mem] at hc
        obtain ⟨hc,rfl⟩:=hc
        obtain ⟨t3,i,e,j,l3,h1,h2,h3,h4,h5⟩:=ptrTys_spec hc
        simp only [Rep] at hx hy
        obtain ⟨t1,y1,e1,l1,c1,b1,r1⟩:=hx
        obtain ⟨t2,y2,e2,l2,c2,b2,r2⟩:=hy
        have:=inj _ _ _ l1 l3; subst this
        have:=inj _ _ _ l2 l3; subst this
        rw [b1] at b2; injection b2 with b2; subst b2
        subst r1; subst r2
        refine fin _ _ e1 e2 (.inr (.inr ⟨⟨_,_,rfl⟩,_,_,rfl⟩)) ?_
        exact run_equalIn_iface_ptr_same w 9998 _ ht h2 h1 h3 h4
      · simp at hb
    · rename_i hne
      simp only [Option.some.injEq] at hb
      exact dif _ _ _ _ rfl rfl hne hb.symm
  · rename_i g1 s1 g2 n2
    split at hb
    · rename_i hg; subst hg
      split at hb
      · rename_i hc
        simp only [List.contains_iff_mem] at hc
        unfold farC at hb
        split at hb
        · rename_i tt htt
          split at hb
          · simp at hb
          · rename_i hst
            simp only [Option.some.injEq] at hb; subst hb
            obtain ⟨t3,i,e,j,l3,h1,h2,h3,h4,h5⟩:=ptrTys_spec hc
            obtain ⟨ad,a1,a2,a3,vs,pp,a4,a5⟩:=hgc _ _ htt
            simp only [Rep,RepAt,and_true] at hx hy
            obtain ⟨t1,y1,e1,l1,b1,o1,r1,r2,xv,r3,r4⟩:=hx
            obtain ⟨t2,y2,e2,l2,c2,b2,q2⟩:=hy
            have:=inj _ _ _ l1 l3; subst this
            have:=inj _ _ _ l2 l3; subst this
            rw [a1] at b2; injection b2 with b2; subst b2
            subst r1; subst q2; subst r4
            obtain ⟨cb,tb,qq,c5,c6⟩:=cells_of_cell r3
            have hne:ad ≠ ⟨b1,o1,none⟩:=by
              intro e; rw [e,r3] at a3
              simp at a3
              exact hst a3
            refine fin _ _ e1 e2 (.inr (.inr ⟨⟨_,_,rfl⟩,_,_,rfl⟩)) ?_
            exact eqI_far 9998 ht h2 h1 h3 h4 h5 (same_far (P:=P) hne a4 a5 c5 c6).2
        · simp at hb
      · simp at hb
    · rename_i hne
      simp only [Option.some.injEq] at hb
      exact dif _ _ _ _ rfl rfl hne hb.symm
  · rename_i g1 v1 g2 v2 _ _
    split at hb
    · simp at hb
    · rename_i hne
      simp only [Option.some.injEq] at hb
      exact dif _ _ _ _ rfl rfl hne hb.symm
  · simp at hb

theorem equal_step (t:TypeId) (x y:Value):Op.equal t x y=Op.equalIn (9999+1) t x y:=rfl

theorem guard_nil {op:BinOp} (hop:op=.eql∨op=.neq) {t:TypeId} {x y:Operand} {v c:Value} (hy:y=.const c) (hc:∀ cs,c ≠ .agg cs):(eqGuard op t x y v c).run P w=.ok () w:=by
  subst hy
  unfold eqGuard
  rcases hop with rfl | rfl <;> (cases v <;> cases c <;> first | rfl | (exfalso; exact hc _ rfl) | (simp; done))

theorem g_isNil {op:BinOp} (hop:op=.eql∨op=.neq) {t t':TypeId} {x y:Operand} (ho:o.op=.binOp op t x y t') {k:Nat} (hk:nilKind P t y=some k) {p:AV} (hx:Rep T w F ρ p (a.eval x)) {b:Bool} (hb:isNilA k p=some b) :
    Gives P T F ρ o a w (.bool (b != decide (op=.neq))):=by
  have key:∀ v c:Value,y=.const c→a.eval x=v→(∀ tt,(eqGuard op tt x y v c).run P w=.ok () w)→(Op.equal t v c).run P w=.ok b w→(∀ m i,v ≠ .int m i)→(∀ s,v ≠ .string s)→(∀ s i,v ≠ .float s i)→(∀ s i j,v ≠ .complex s i j)→Gives P T F ρ o a w (.bool (b != decide (op=.neq))):=by
    intro v c hy hv hg he hi hs hf hcm
    refine ⟨.bool (b != decide (op=.neq)),?_,by simp [Rep]⟩
    have hyv:a.eval y=c:=by rw [hy]; rfl
    rcases hop with rfl | rfl
    · have hb':binOp .eql t v c=(do pure (.bool (← Op.equal t v c))):=by
        cases v <;> first | (exfalso; exact hi _ _ rfl) | (exfalso; exact hs _ rfl) | (exfalso; exact hf _ _ rfl) | (exfalso; exact hcm _ _ _ rfl) | (cases c <;> rfl)
      simp only [execOp,ho,hv,hyv,Sem.run_bind,hg,Result.andThen_ok,hb',he,Sem.run_pure]
      simp
    · have hb':binOp .neq t v c=(do pure (.bool (!(← Op.equal t v c)))):=by
        cases v <;> first | (exfalso; exact hi _ _ rfl) | (exfalso; exact hs _ rfl) | (exfalso; exact hf _ _ rfl) | (exfalso; exact hcm _ _ _ rfl) | (cases c <;> rfl)
      simp only [execOp,ho,hv,hyv,Sem.run_bind,hg,Result.andThen_ok,hb',he,Sem.run_pure]
      simp
  simp only [nilKind] at hk
  split at hk <;> simp at hk
  all_goals
    rename_i hu
    subst hk
    cases p <;> simp only [isNilA] at hb <;> try (simp at hb; done)
    all_goals
      simp at hb; subst hb
      simp only [Rep] at hx
  · refine key _ _ rfl hx ?_ ?_ (by simp) (by simp) (by simp) (by simp)
    · exact fun tt=>guard_nil hop rfl (by simp)
    · rw [equal_step,Op.equalIn]; simp only [Sem.run_bind,rUnder hu,Result.andThen_ok]; rfl
  · obtain ⟨tt,yy,hx,_⟩:=hx
    refine key _ _ rfl hx ?_ ?_ (by simp) (by simp) (by simp) (by simp)
    · exact fun tt=>guard_nil hop rfl (by simp)
    · rw [equal_step,Op.equalIn]; simp only [Sem.run_bind,rUnder hu,Result.andThen_ok]; rfl
  · refine key _ _ rfl hx ?_ ?_ (by simp) (by simp) (by simp) (by simp)
    · exact fun tt=>guard_nil hop rfl (by simp)
    · rw [equal_step,Op.equalIn]; simp only [Sem.run_bind,rUnder hu,Result.andThen_ok]; rfl
  · rcases hx with ⟨b1,o1,cap,hx,_⟩ | ⟨_,b1,cap,hx⟩
    · refine key _ _ rfl hx ?_ ?_ (by simp) (by simp) (by simp) (by simp)
      · exact fun tt=>guard_nil hop rfl (by simp)
      · rw [equal_step,Op.equalIn]; simp only [Sem.run_bind,rUnder hu,Result.andThen_ok]; rfl
    · refine key _ _ rfl hx ?_ ?_ (by simp) (by simp) (by simp) (by simp)
      · exact fun tt=>guard_nil hop rfl (by simp)
      · rw [equal_step,Op.equalIn]; simp only [Sem.run_bind,rUnder hu,Result.andThen_ok]; rfl
  · obtain ⟨b1,o1,y1,cap,c,e,f,_,hx,_⟩:=hx
    refine key _ _ rfl hx ?_ ?_ (by simp) (by simp) (by simp) (by simp)
    · exact fun tt=>guard_nil hop rfl (by simp)
    · rw [equal_step,Op.equalIn]; simp only [Sem.run_bind,rUnder hu,Result.andThen_ok]; rfl
  · refine key _ _ rfl hx ?_ ?_ (by simp) (by simp) (by simp) (by simp)
    · exact fun tt=>guard_nil hop rfl (by simp)
    · rw [equal_step,Op.equalIn]; simp only [Sem.run_bind,rUnder hu,Result.andThen_ok]; rfl
  · obtain ⟨b1,o1,hx,_⟩:=hx
    refine key _ _ rfl hx ?_ ?_ (by simp) (by simp) (by simp) (by simp)
    · exact fun tt=>guard_nil hop rfl (by simp)
    · rw [equal_step,Op.equalIn]; simp only [Sem.run_bind,rUnder hu,Result.andThen_ok]; rfl
  · obtain ⟨b1,o1,_,hx⟩:=hx
    refine key _ _ rfl hx ?_ ?_ (by simp) (by simp) (by simp) (by simp)
    · exact fun tt=>guard_nil hop rfl (by simp)
    · rw [equal_step,Op.equalIn]; simp only [Sem.run_bind,rUnder hu,Result.andThen_ok]; rfl
  · refine key _ _ rfl hx ?_ ?_ (by simp) (by simp) (by simp) (by simp)
    · exact fun tt=>guard_nil hop rfl (by simp)
    · rw [equal_step,Op.equalIn]; simp only [Sem.run_bind,rUnder hu,Result.andThen_ok]; rfl
  · obtain ⟨r,ents,clk,hx,_⟩:=hx
    refine key _ _ rfl hx ?_ ?_ (by simp) (by simp) (by simp) (by simp)
    · exact fun tt=>guard_nil hop rfl (by simp)
    · rw [equal_step,Op.equalIn]; simp only [Sem.run_bind,rUnder hu,Result.andThen_ok]; rfl
  · obtain ⟨b1,o1,_,hx⟩:=hx
    refine key _ _ rfl hx ?_ ?_ (by simp) (by simp) (by simp) (by simp)
    · exact fun tt=>guard_nil hop rfl (by simp)
    · rw [equal_step,Op.equalIn]; simp only [Sem.run_bind,rUnder hu,Result.andThen_ok]; rfl
  · refine key _ _ rfl hx ?_ ?_ (by simp) (by simp) (by simp) (by simp)
    · exact fun tt=>guard_nil hop rfl (by simp)
    · rw [equal_step,Op.equalIn]; simp only [Sem.run_bind,rUnder hu,Result.andThen_ok]; rfl
  · obtain ⟨f,vs,hx,_⟩:=hx
    refine key _ _ rfl hx ?_ ?_ (by simp) (by simp) (by simp) (by simp)
    · exact fun tt=>guard_nil hop rfl (by simp)
    · rw [equal_step,Op.equalIn]; simp only [Sem.run_bind,rUnder hu,Result.andThen_ok]; rfl

theorem leaf_eq {k:Nat} {t:TypeId} (hk:scalarK P t=some k) {x y:AV} {v u:Value} (hx:Rep T w F ρ x v) (hy:Rep T w F ρ y u) {b:Bool} (h:leafEq k x y=some b) (d:Nat) :
    (Op.equalIn (d+1) t v u).run P w=.ok b w:=by
  simp only [scalarK] at hk
  split at hk <;> simp at hk
  all_goals
    rename_i hu
    subst hk
    cases x <;> cases y <;> simp only [leafEq] at h <;> try (simp at h; done)
    simp only [Rep] at hx hy
    subst hx; subst hy
  · simp at h; subst h
    rw [run_equalIn_bool' w d t _ _ hu]
  · split at h
    · rename_i hkk
      subst hkk
      simp at h; subst h
      rw [run_equalIn_int w d t _ _ _ _ hu]
      congr 1
    · simp at h
  · simp at h; subst h
    rw [run_equalIn_string w d t _ _ hu]
    simp [str_beq]

theorem fields_eq:∀ {fs:List Field} {k:Nat} {ks:List Nat},plainFields P k fs=some ks→∀ {xs ys:List AV} {vs us:Array Value},RepL T w F ρ xs (vs.toList.drop k)→RepL T w F ρ ys (us.toList.drop k) →
    ∀ {b:Bool},leafEqL ks xs ys=some b→∀ d,(Op.eqFields (d+1) vs us fs).run P w=.ok b w
  | [],k,ks,h,xs,ys,vs,us,hx,hy,b,hb,d=>by
    simp [plainFields] at h; subst h
    cases xs <;> cases ys <;> simp [leafEqL] at hb
    subst hb
    simp [Op.eqFields]
  | f::r,k,ks,h,xs,ys,vs,us,hx,hy,b,hb,d=>by
    simp only [plainFields] at h
    split at h
    · rename_i hf
      obtain ⟨hoff,hname⟩:=hf
      cases hk:scalarK P f.type with
      | none=>simp [hk] at h
      | some q =>
        cases hr:plainFields P (k+1) r with
        | none=>simp [hk,hr] at h
        | some l =>
          simp [hk,hr] at h; subst h
          cases xs with
          | nil=>simp [leafEqL] at hb
          | cons x xs =>
            cases ys with
            | nil=>simp [leafEqL] at hb
            | cons y ys =>
              simp only [leafEqL] at hb
              cases hl:leafEq q x y with
              | none=>simp [hl] at hb
              | some p =>
                cases hl2:leafEqL l xs ys with
                | none=>simp [hl,hl2] at hb
                | some p2 =>
                  simp [hl,hl2] at hb; subst hb
                  have part1:∀ {zs:List AV} {z:AV} {ws:Array Value},RepL T w F ρ (z::zs) (ws.toList.drop k)→∃ v,(part f.type ws f.offset).run P w=.ok v w∧Rep T w F ρ z v∧RepL T w F ρ zs (ws.toList.drop (k+1)):=by
                    intro zs z ws hz
                    obtain ⟨v,h1,h2⟩:=hz.get (i:=0) rfl
                    rw [List.getElem?_drop] at h1
                    have h3:ws[k]? = some v:=by rw [← h1]; simp
                    have hagg:∃ d,P.underlying f.type=some d∧isAggT P f.type=false:=by
                      simp only [scalarK] at hk
                      split at hk <;> simp at hk
                      all_goals
                        rename_i hu
                        exact ⟨_,hu,by simp [isAggT,hu]⟩
                    obtain ⟨dd,hu,ha⟩:=hagg
                    refine ⟨v,?_,h2,?_⟩
                    · rw [hoff]; simp [part,rIsAgg hu,ha,h3]
                    · have:=hz.drop 1
                      simpa [List.drop_drop,Nat.add_comm] using this
                  obtain ⟨v,h1,h2,h3⟩:=part1 hx
                  obtain ⟨u,g1,g2,g3⟩:=part1 hy
                  simp only [Op.eqFields,ne_eq,hname,not_false_eq_true,if_true,Sem.run_bind,h1,g1,Result.andThen_ok,leaf_eq hk h2 g2 hl d]
                  cases p
                  · simp
                  · simp [fields_eq hr h3 g3 hl2 d]
    · simp at h

theorem g_eqA {op:BinOp} (hop:op=.eql∨op=.neq) {t t':TypeId} {x y:Operand} (ho:o.op=.binOp op t x y t') {fs:Array Field} (ht:P.underlying t=some (.struct fs)) {ks:List Nat} (hks:plainFields P 0 fs.toList=some ks)
    (hst:P.stoodInHeld t=false) (hg:P.eqGuardType P.depth t=false) {xs ys:List AV} (hx:Rep T w F ρ (.agg xs) (a.eval x)) (hy:Rep T w F ρ (.agg ys) (a.eval y)) {b:Bool} (hb:leafEqL ks xs ys=some b) :
    Gives P T F ρ o a w (.bool (b != decide (op=.neq))):=by
  simp only [Rep] at hx hy
  obtain ⟨vs,hx,hxr⟩:=hx
  obtain ⟨us,hy,hyr⟩:=hy
  have hfo:P.fieldsOf t=fs:=by simp [Program.fieldsOf,ht]
  have hrun:(Op.equalIn 10000 t (.agg vs) (.agg us)).run P w=.ok b w:=by
    have:=run_equalIn_struct w 9999 t vs us (by rw [hfo]; exact ht) hst
    rw [show (10000:Nat)=9999+1 from rfl,this,hfo]
    exact fields_eq hks (by simpa using hxr) (by simpa using hyr) hb 9998
  refine ⟨.bool (b != decide (op=.neq)),?_,by simp [Rep]⟩
  rcases hop with rfl | rfl
  · simp only [execOp,ho,hx,hy,Sem.run_bind,run_eqGuard_agg w _ t x y vs us hg,Result.andThen_ok,run_eql_struct,hrun,Sem.run_pure]
    simp
  · simp only [execOp,ho,hx,hy,Sem.run_bind,run_eqGuard_agg w _ t x y vs us hg,Result.andThen_ok,run_neq_struct,hrun,Sem.run_pure]
    simp

theorem g_eqB {op:BinOp} (hop:op=.eql∨op=.neq) {t t':TypeId} {x y:Operand} (ho:o.op=.binOp op t x y t') (ht:P.underlying t=some .bool) {p q:AV} (hx:Rep T w F ρ p (a.eval x)) (hy:Rep T w F ρ q (a.eval y)) {b:Bool} (hb:leafEq 0 p q=some b) :
    Gives P T F ρ o a w (.bool (b != decide (op=.neq))):=by
  have hk:scalarK P t=some 0:=by simp [scalarK,ht]
  have hrun:=leaf_eq (P:=P) hk hx hy hb 9999
  cases p <;> cases q <;> simp only [leafEq] at hb <;> try (simp at hb; done)
  simp only [Rep] at hx hy
  refine ⟨.bool (b != decide (op=.neq)),?_,by simp [Rep]⟩
  rw [hx,hy,show (9999+1:Nat)=10000 from rfl] at hrun
  rcases hop with rfl | rfl
  · simp only [execOp,ho,hx,hy,Sem.run_bind,eqGuard_bool,Result.andThen_ok,binOp,Op.equal,Op.maxDepth,hrun,Sem.run_pure]
    simp
  · simp only [execOp,ho,hx,hy,Sem.run_bind,eqGuard_bool,Result.andThen_ok,binOp,Op.equal,Op.maxDepth,hrun,Sem.run_pure]
    simp
end
end Wax


namespace Wax
open Go Go.RowKit

section
variable {P:Program} {T:Tab} {w0 w:World} {F0:Base} {n:Nat} {fr:List (Nat × AV)} {hp:List (Nat × AObj)} {a:Act} {F:Frz} {ρ:Rho} {o:Oper}

def AllTwo {α β:Type} (R:α→β→Prop):List α→List β→Prop
  | [],[]=>True
  | x::r,y::s=>R x y∧AllTwo R r s
  | [],_::_=>False
  | _::_,[]=>False

def spliceV:List Value→Nat→List Value→List Value
  | cs,_,[]=>cs
  | cs,off,x::r=>spliceV (cs.set off x) (off+1) r

theorem splice_rep:∀ {xs:List AV} {us:List Value} {cs:List AV} {vs:List Value} (off:Nat),RepL T w F ρ cs vs→RepL T w F ρ xs us→RepL T w F ρ (spliceL cs off xs) (spliceV vs off us)
  | [],[],_,_,_,h,_=>by simpa [spliceL,spliceV] using h
  | x::r,u::s,cs,vs,off,h,hx=>by
    simp only [RepL] at hx
    simp only [spliceL,spliceV]
    exact splice_rep (off+1) (h.set off hx.1) hx.2
  | [],_::_,_,_,_,_,hx=>by simp [RepL] at hx
  | _::_,[],_,_,_,_,hx=>by simp [RepL] at hx

theorem spliceV_length:∀ (us vs:List Value) (off:Nat),(spliceV vs off us).length=vs.length
  | [],vs,off=>rfl
  | u::r,vs,off=>by simp [spliceV,spliceV_length r]

theorem spliceV_app_left:∀ (us pre vs:List Value) (off:Nat),spliceV (pre++vs) (pre.length+off) us=pre++spliceV vs off us
  | [],pre,vs,off=>rfl
  | u::r,pre,vs,off=>by
    simp only [spliceV]
    rw [List.set_append_right _ _ (by omega),show pre.length+off - pre.length=off by omega,show pre.length+off+1=pre.length+(off+1) by omega,spliceV_app_left r]

theorem spliceV_app_right:∀ (us vs post:List Value) (off:Nat),off+us.length≤vs.length→spliceV (vs++post) off us=spliceV vs off us++post
  | [],vs,post,off,_=>rfl
  | u::r,vs,post,off,h=>by
    simp only [List.length_cons] at h
    simp only [spliceV]
    rw [List.set_append_left _ _ (by omega),spliceV_app_right r _ _ _ (by simp; omega)]

theorem fill_spec {place:Nat→Option (Nat × Nat)}:∀ {parts:List (Nat × Value)} {ps:List (Nat × Nat × AV)} {zero:List AV} {vs:List Value} {cs:List AV},
    AllTwo (fun q p=>place q.1=some (p.1,p.2.1)∧Rep T w F ρ p.2.2 q.2) parts ps→RepL T w F ρ zero vs→fillA zero ps=some cs →
    ∃ us,Instr.fill place vs.toArray parts=some us.toArray∧RepL T w F ρ cs us∧us.length=vs.length
  | [],[],zero,vs,cs,_,hz,h=>by simp [fillA] at h; subst h; exact ⟨vs,rfl,hz,rfl⟩
  | (i,v)::r,(off,k,x)::s,zero,vs,cs,hp,hz,h=>by
    obtain ⟨h1,h2⟩:=hp
    · simp only [fillA] at h
      split at h
      · rename_i hc
        obtain ⟨c1,c2,c3⟩:=hc
        change place i=some (off,k)∧Rep T w F ρ x v at h1
        have hcr:=cells_rep h1.2 c3
        have hl1:=hcr.1.length
        have hl2:=hz.length
        obtain ⟨us,g1,g2,g3⟩:=fill_spec h2 (splice_rep off hz hcr.1) h
        refine ⟨us,?_,g2,by rw [g3,spliceV_length]⟩
        change (cells x).length=v.cells.toList.length at hl1
        have hsz:v.cells.size=k:=by rw [← Array.length_toList]; omega
        have e:(v.cells.zipIdx.foldl (fun cs (c,j)=>cs.setIfInBounds (off+j) c) vs.toArray)=(spliceV vs off v.cells.toList).toArray:=by
          have gen:∀ (l:List Value) (acc:List Value) (k:Nat),(l.zipIdx k).foldl (fun (cs:Array Value) (x:Value × Nat)=>cs.setIfInBounds (off+x.2) x.1) acc.toArray=(spliceV acc (off+k) l).toArray:=by
            intro l
            induction l with
            | nil=>intro acc k; simp [spliceV]
            | cons y t ih =>
              intro acc k
              simp only [List.zipIdx_cons,List.foldl_cons,spliceV]
              have:=ih (acc.set (off+k) y) (k+1)
              rw [show off+(k+1)=off+k+1 by omega] at this
              rw [← this]
              congr 1
              simp
          have:=gen v.cells.toList vs 0
          simp only [Nat.add_zero] at this
          rw [← this,← Array.toList_zipIdx,Array.foldl_toList]
        simp only [Instr.fill,h1.1,hsz,ne_eq,not_true]
        rw [if_neg (by simp; omega),e]
        exact g1
      · simp at h
  | [],_::_,_,_,_,hp,_,_=>by simp [AllTwo] at hp
  | _::_,[],_,_,_,hp,_,_=>by simp [AllTwo] at hp

theorem places_run {fs:List Field} (h:sizesOk P fs=true):∃ ps:List (Nat × Nat),((fs.toArray.mapM (m:=Sem) fun f=>do pure (f.offset,← Go.sizeOf f.type))).run P w=.ok ps.toArray w∧ps.length=fs.length ∧
    ∀ (i:Nat) f,fs[i]? = some f→∃ k,sizeT P f.type=some k∧ps[i]? = some (f.offset,k):=by
  have key:∀ fs:List Field,sizesOk P fs=true→∃ ps:List (Nat × Nat),((fs.mapM (m:=Sem) fun f=>do pure (f.offset,← Go.sizeOf f.type))).run P w=.ok ps w∧ps.length=fs.length ∧
      ∀ (i:Nat) f,fs[i]? = some f→∃ k,sizeT P f.type=some k∧ps[i]? = some (f.offset,k):=by
    intro fs
    induction fs with
    | nil=>intro _; exact ⟨[],by simp,rfl,by simp⟩
    | cons f r ih =>
      intro h
      simp only [sizesOk,Bool.and_eq_true,Option.isSome_iff_exists] at h
      obtain ⟨⟨k,hk⟩,h2⟩:=h
      obtain ⟨ps,g1,g2,g3⟩:=ih h2
      refine ⟨(f.offset,k)::ps,?_,by simp [g2],?_⟩
      · simp only [List.mapM_cons,Sem.run_bind,rSize hk,Result.andThen_ok,Sem.run_pure,g1]
      · intro i f' hf
        cases i with
        | zero=>simp at hf; subst hf; exact ⟨k,hk,rfl⟩
        | succ i=>simpa using g3 i f' (by simpa using hf)
  obtain ⟨ps,g1,g2,g3⟩:=key fs h
  refine ⟨ps,?_,g2,g3⟩
  rw [List.mapM_toArray,Sem.run_map,g1]
  rfl

theorem zero_rep {t:TypeId} {z:AV} (hz:zeroT P T t=some z) (F:Frz) (ρ:Rho):∃ v i,P.info? t=some i∧i.zero=some v∧Rep T w F ρ z v:=by
  simp only [zeroT] at hz
  cases hi:P.info? t with
  | none=>simp [hi] at hz
  | some i =>
    simp only [hi] at hz
    cases hv:i.zero with
    | none=>simp [hv] at hz
    | some v=>simp only [hv] at hz; exact ⟨v,i,rfl,hv,constAV_rep F ρ v z hz⟩

theorem cParts_two {fs:List Field} {ev':Opd→AV} {evl:Operand→Value} (he:∀ x y,cOpd T x=some y→Rep T w F ρ (ev' y) (evl x)) {pl:Nat→Option (Nat × Nat)}
    (hpl:∀ (i:Nat) f,fs[i]? = some f→∃ k,sizeT P f.type=some k∧pl i=some (f.offset,k)) :
    ∀ {parts:List (Nat × Operand)} {ps:List (Nat × Nat × Opd)},cParts P T fs parts=some ps →
      AllTwo (fun q p=>pl q.1=some (p.1,p.2.1)∧Rep T w F ρ p.2.2 q.2) (parts.map fun q=>(q.1,evl q.2)) (ps.map fun p=>(p.1,p.2.1,ev' p.2.2))
  | [],ps,h=>by simp [cParts] at h; subst h; simp [AllTwo]
  | (i,x)::r,ps,h=>by
    simp only [cParts] at h
    cases hf:fs[i]? with
    | none=>simp [hf] at h
    | some f =>
      cases hx:cOpd T x with
      | none=>simp [hf,hx] at h
      | some y =>
        cases hr:cParts P T fs r with
        | none=>simp [hf,hx,hr] at h
        | some l =>
          simp only [hf,hx,hr] at h
          obtain ⟨k,hk,hp⟩:=hpl i f hf
          simp [hk] at h; subst h
          exact ⟨⟨hp,he x y hx⟩,cParts_two he hpl hr⟩

theorem cPartsA_two {es:Nat} {ev':Opd→AV} {evl:Operand→Value} (he:∀ x y,cOpd T x=some y→Rep T w F ρ (ev' y) (evl x)) :
    ∀ {parts:List (Nat × Operand)} {ps:List (Nat × Nat × Opd)},cPartsA T es parts=some ps →
      AllTwo (fun q p=>(fun i=>some (i * es,es)) q.1=some (p.1,p.2.1)∧Rep T w F ρ p.2.2 q.2) (parts.map fun q=>(q.1,evl q.2)) (ps.map fun p=>(p.1,p.2.1,ev' p.2.2))
  | [],ps,h=>by simp [cPartsA] at h; subst h; simp [AllTwo]
  | (i,x)::r,ps,h=>by
    simp only [cPartsA] at h
    cases hx:cOpd T x with
    | none=>simp [hx] at h
    | some y =>
      cases hr:cPartsA T es r with
      | none=>simp [hx,hr] at h
      | some l =>
        simp [hx,hr] at h; subst h
        exact ⟨⟨rfl,he x y hx⟩,cPartsA_two he hr⟩

theorem cPartsS_two {es:Nat} {ev':Opd→AV} {evl:Operand→Value} (he:∀ x y,cOpd T x=some y→Rep T w F ρ (ev' y) (evl x)) :
    ∀ {parts:List (Nat × Operand)} {ps:List (Nat × Opd)},cPartsS T parts=some ps →
      AllTwo (fun q p=>(fun i=>some (i * es,es)) q.1=some (p.1,p.2.1)∧Rep T w F ρ p.2.2 q.2) (parts.map fun q=>(q.1,evl q.2)) (ps.map fun p=>(p.1 * es,es,ev' p.2))
  | [],ps,h=>by simp [cPartsS] at h; subst h; simp [AllTwo]
  | (i,x)::r,ps,h=>by
    simp only [cPartsS] at h
    cases hx:cOpd T x with
    | none=>simp [hx] at h
    | some y =>
      cases hr:cPartsS T r with
      | none=>simp [hx,hr] at h
      | some l =>
        simp [hx,hr] at h; subst h
        exact ⟨⟨rfl,he x y hx⟩,cPartsS_two he hr⟩

theorem cells_rep0 {x:AV} {v:Value} (h:Rep T w F ρ x v) (hnt:∀ vs,x ≠ .tup vs) (hnj:x ≠ .junk):RepL T w F ρ (cells x) v.cells.toList:=by
  cases x with
  | agg cs=>simp only [Rep] at h; obtain ⟨vs,rfl,h2⟩:=h; exact h2
  | tup vs=>exact absurd rfl (hnt vs)
  | junk=>exact absurd rfl hnj
  | _=>exact (cells_rep h (by simp [cells,atoms,atom])).1

theorem constAV_shape {v:Value} {x:AV} (h:constAV T v=some x):(∀ vs,x ≠ .tup vs)∧x ≠ .junk:=by
  have main:∀ (v:Value) (x:AV),constAV T v=some x→(∀ vs,x ≠ .tup vs)∧x ≠ .junk:=by
    intro v x h
    unfold constAV at h
    split at h <;> first
      | (simp at h; done)
      | (simp at h; subst h; simp; done)
      | (split at h
         · simp at h; obtain ⟨g,_,rfl⟩:=h; simp
         · simp at h)
      | (simp at h; obtain ⟨g,_,rfl⟩:=h; simp)
  exact main v x h

theorem g_build (I:Inv T w0 F0 n ⟨fr,hp⟩ a w F ρ) {t:TypeId} {parts:Array (Nat × Operand)} (ho:o.op=.build t parts) {z:AV} (hz:zeroT P T t=some z) {ps:List (Nat × Nat × Opd)}
    (hs:(∃ fs,P.underlying t=some (.struct fs)∧sizesOk P fs.toList=true∧cParts P T fs.toList parts.toList=some ps) ∨
      (∃ k e es,P.underlying t=some (.array k e)∧sizeT P e=some es∧cPartsA T es parts.toList=some ps)) {cs:List AV}
    (hf:fillA (cells z) (ps.map fun p=>(p.1,p.2.1,ev fr p.2.2))=some cs):Gives P T F ρ o a w (.agg cs):=by
  have hzz:=hz
  obtain ⟨v,i,hi,hv,hr⟩:=zero_rep (w:=w) hz F ρ
  have hsh:(∀ vs,z ≠ .tup vs)∧z ≠ .junk:=by
    simp only [zeroT,hi,hv] at hzz
    exact constAV_shape hzz
  have hcr:=cells_rep0 hr hsh.1 hsh.2
  have hzero:(zeroValue t).run P w=.ok v w:=rZero hi hv
  have he:∀ x y,cOpd T x=some y→Rep T w F ρ (ev fr y) (a.eval x):=fun x y h=>ev_rep I h
  have hpe:(parts.map fun (q:Nat × Operand)=>(q.1,a.eval q.2)).toList=parts.toList.map fun q=>(q.1,a.eval q.2):=by simp
  rcases hs with ⟨fs,ht,hok,hps⟩ | ⟨k,e,es,ht,hes,hps⟩
  · obtain ⟨pl,g1,g2,g3⟩:=places_run (P:=P) (w:=w) hok
    have two:=cParts_two (w:=w) (F:=F) (ρ:=ρ) (P:=P) (ev':=ev fr) (evl:=a.eval) he (pl:=fun i=>pl.toArray[i]?) (by
      intro i f hf
      obtain ⟨k,h1,h2⟩:=g3 i f hf
      exact ⟨k,h1,by simpa using h2⟩) hps
    obtain ⟨us,h1,h2,_⟩:=fill_spec two hcr hf
    refine ⟨.agg us.toArray,?_,⟨_,rfl,by simpa using h2⟩⟩
    have hg1:((fs.mapM (m:=Sem) fun f=>do pure (f.offset,← Go.sizeOf f.type))).run P w=.ok pl.toArray w:=by
      have:fs=fs.toList.toArray:=by simp
      rw [this]; exact g1
    simp only [execOp,ho,Instr.build,Sem.run_bind,hzero,rUnder ht,Result.andThen_ok,hg1]
    rw [hpe]
    have h1':Instr.fill (fun i=>pl.toArray[i]?) v.cells (parts.toList.map fun q=>(q.1,a.eval q.2))=some us.toArray:=by
      rw [← h1]
    simp only [h1',Sem.run_pure,Result.andThen_ok]
  · have two:=cPartsA_two (w:=w) (F:=F) (ρ:=ρ) (ev':=ev fr) (evl:=a.eval) he hps
    obtain ⟨us,h1,h2,_⟩:=fill_spec (place:=fun i=>some (i * es,es)) two hcr hf
    refine ⟨.agg us.toArray,?_,⟨_,rfl,by simpa using h2⟩⟩
    simp only [execOp,ho,Instr.build,Sem.run_bind,hzero,rUnder ht,Result.andThen_ok,rSize hes]
    rw [hpe]
    have h1':Instr.fill (fun i=>some (i * es,es)) v.cells (parts.toList.map fun q=>(q.1,a.eval q.2))=some us.toArray:=by
      rw [← h1]
    simp only [h1',Sem.run_pure,Result.andThen_ok]
end
end Wax


