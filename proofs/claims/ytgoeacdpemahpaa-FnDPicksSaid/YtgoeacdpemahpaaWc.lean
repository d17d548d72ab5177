/- The machine by which the functions are read, and what is proved of them (part 3): no premise. -/
import Derived.IntWalk
import Derived.Test.YtgoeacdpemahpaaWb
/- Rules to compute with the abstract machine. -/
namespace Wax
open Go (IntKind)

section
variable {Γ : Gam} {Q : APost} {st : St}
def regQ (live drop : List Nat) (Q : APost) (st : St) : Prop := Q .normal (dropS drop ⟨keep st.fr live, st.hp⟩)
@[simp] theorem regQ_eq {live drop : List Nat} : regQ live drop Q st = Q .normal (dropS drop ⟨keep st.fr live, st.hp⟩) := rfl
def condK (v : AV) (Γ : Gam) (a b : SCode) (Q : APost) (st : St) : Prop := match v with
  | .bool t => (t = true → awp Γ a Q st) ∧ (t = false → awp Γ b Q st)
  | _ => False
@[simp] theorem condK_bool {t : Bool} {a b : SCode} : condK (.bool t) Γ a b Q st = ((t = true → awp Γ a Q st) ∧ (t = false → awp Γ b Q st)) := rfl

@[simp] theorem awp_skip : awp Γ .skip Q st = Q .normal st := rfl
@[simp] theorem awp_ghost {g : List GOp} : awp Γ (.ghost g) Q st = Q .normal (gsteps g st) := rfl
@[simp] theorem awp_region {ops : List SO} {live drop : List Nat} {dd : List (List Nat)} : awp Γ (.region ops live drop dd) Q st = opsK Γ ops dd st (regQ live drop Q) := rfl
@[simp] theorem awp_seq {a b : SCode} : awp Γ (.seq a b) Q st = awp Γ a (thenQ (awp Γ b Q) Q) st := rfl
@[simp] theorem awp_block {id : Nat} {c : SCode} : awp Γ (.block id c) Q st = awp Γ c (blockQ id Q) st := rfl
@[simp] theorem awp_exit {id : Nat} : awp Γ (.exit id) Q st = Q (.exit id) st := rfl
@[simp] theorem awp_ret : awp Γ .ret Q st = Q .ret st := rfl
@[simp] theorem awp_bad : awp Γ .bad Q st = False := rfl
@[simp] theorem awp_cond {c : Opd} {a b : SCode} : awp Γ (.cond c a b) Q st = condK (ev st.fr c) Γ a b Q st := rfl

/-- A round's end, of a loop told by a ghost. -/
def loopQ {σ : Type} (live : List Nat) (f : σ → St) (ok : σ → Prop) (m : σ → Nat) (s : σ) (st : St) : Prop := ∃ s', norm live st = f s' ∧ ok s' ∧ m s' < m s

theorem awp_loop {σ : Type} {live : List Nat} {c : SCode} (f : σ → St) (ok : σ → Prop) (m : σ → Nat) (s0 : σ) (h0 : norm live st = f s0) (hok : ok s0)
    (hr : ∀ s, ok s → awp Γ c (thenQ (loopQ live f ok m s) Q) (f s)) : awp Γ (.loop live c) Q st := by
  refine ⟨σ, fun s st => st = f s ∧ ok s, m, s0, ⟨h0, hok⟩, ?_⟩
  rintro s _ ⟨rfl, hs⟩
  have := hr s hs
  have e : loopQ live f ok m s = (fun st' => ∃ s', (norm live st' = f s' ∧ ok s') ∧ m s' < m s) := by
    funext st'; apply propext; constructor
    · rintro ⟨s', a, b, c⟩; exact ⟨s', ⟨a, b⟩, c⟩
    · rintro ⟨s', ⟨a, b⟩, c⟩; exact ⟨s', a, b, c⟩
  rw [e] at this
  exact this

def toS (live drop : List Nat) (S st : St) : Prop := dropS drop ⟨keep st.fr live, st.hp⟩ = S
@[simp] theorem toS_mk {live drop : List Nat} {S : St} {fr : List (Nat × AV)} {hp : List (Nat × AObj)} : toS live drop S ⟨fr, hp⟩ = (dropS drop ⟨keep fr live, hp⟩ = S) := rfl
/-- A region, by the state that it leaves. -/
theorem awp_region_to {ops : List SO} {live drop : List Nat} {dd : List (List Nat)} (S : St) (h : opsK Γ ops dd st (toS live drop S)) (hQ : Q .normal S) : awp Γ (.region ops live drop dd) Q st := by
  obtain ⟨s, h1, h2⟩ := opsK_G h
  show opsK Γ ops dd st (regQ live drop Q)
  have back : ∀ (l : List SO) (dd : List (List Nat)) (st : St) (s : St) (K : St → Prop), opsG Γ l dd st = some s → K s → opsK Γ l dd st K := by
    intro l
    induction l with
    | nil => intro dd st s K h hk; simp [opsG] at h; subst h; exact hk
    | cons o r ih =>
      intro dd st s K h hk
      simp only [opsG] at h
      cases h1 : opF Γ o st with
      | none => simp [h1] at h
      | some s1 =>
        simp [h1] at h
        have step : ∀ st, stepF Γ o st = some s1 → stepK Γ o st (fun st' => opsK Γ r (dTl dd) (rmS (dHd dd) st') K) := by
          intro st hs
          obtain ⟨dst, op, g⟩ := o
          have ih' := ih _ _ s K h hk
          cases op
          case nextS x =>
            simp only [stepF] at hs
            simp only [stepK]
            cases hx : ev st.fr x <;> simp only [hx] at hs ⊢ <;> try (simp at hs; done)
            rename_i id off
            cases off with
            | succ _ => simp at hs
            | zero =>
              simp only at hs ⊢
              cases ho : hlk st.hp id with
              | none => simp [ho] at hs
              | some ob =>
                cases ob <;> simp only [ho] at hs ⊢ <;> try (simp at hs; done)
                split at hs
                · rename_i hp
                  simp only [Option.some.injEq] at hs; subst hs
                  exact ⟨fun _ => ih', fun hn => absurd hp hn⟩
                · rename_i hp
                  simp only [Option.some.injEq] at hs; subst hs
                  exact ⟨fun hn => absurd hn hp, fun _ => ih'⟩
          all_goals
            simp only [stepF] at hs
            simp only [stepK]
            split
            · rename_i out ho
              simp only [ho, Option.map_some, Option.some.injEq] at hs; subst hs
              exact ih'
            · rename_i ho
              simp [ho] at hs
        simp only [opF] at h1
        simp only [opsK]
        cases hg : o.guard with
        | none => simp only [hg] at h1 ⊢; exact step st h1
        | some gw =>
          obtain ⟨g, want⟩ := gw
          simp only [hg] at h1 ⊢
          cases hl : lk st.fr g <;> simp only [hl] at h1 ⊢ <;> try (simp at h1; done)
          · rename_i b
            split at h1
            · rename_i hb
              exact ⟨fun _ => step _ h1, fun hn => by subst hb; cases b <;> simp at hn⟩
            · rename_i hb
              simp only [Option.some.injEq] at h1; subst h1
              exact ⟨fun hn => absurd hn hb, fun _ => ih _ _ s K h hk⟩
          · rename_i vs
            cases vs with
            | cons _ _ => simp at h1
            | nil => simp only [Option.some.injEq] at h1; subst h1; exact ih _ _ s K h hk
  exact back ops dd st s _ h1 (by rw [regQ_eq, show dropS drop ⟨keep s.fr live, s.hp⟩ = S from h2]; exact hQ)

@[simp] theorem thenQ_normal {K : St → Prop} : thenQ K Q .normal st = K st := rfl
@[simp] theorem thenQ_exit {K : St → Prop} {i : Nat} : thenQ K Q (.exit i) st = Q (.exit i) st := rfl
@[simp] theorem thenQ_ret {K : St → Prop} : thenQ K Q .ret st = Q .ret st := rfl
@[simp] theorem blockQ_normal {i : Nat} : blockQ i Q .normal st = Q .normal st := rfl
@[simp] theorem blockQ_exit {i j : Nat} : blockQ i Q (.exit j) st = if j = i then Q .normal st else Q (.exit j) st := rfl
@[simp] theorem blockQ_ret {i : Nat} : blockQ i Q .ret st = Q .ret st := rfl
@[simp] theorem finQ_normal {res : List RV} {R : AV → Prop} : finQ res R .normal st = (resOk st res = true ∧ R (export_ st.hp (retV st res))) := rfl
@[simp] theorem finQ_ret {res : List RV} {R : AV → Prop} : finQ res R .ret st = (resOk st res = true ∧ R (export_ st.hp (retV st res))) := rfl
@[simp] theorem finS_normal {n : Nat} {res : List RV} {R} : finS n res R .normal st = (resOk st res = true ∧ R (exportS n st.hp (retV st res))) := rfl
@[simp] theorem finS_ret {n : Nat} {res : List RV} {R} : finS n res R .ret st = (resOk st res = true ∧ R (exportS n st.hp (retV st res))) := rfl
@[simp] theorem finS_exit {n : Nat} {res : List RV} {R} {i : Nat} : finS n res R (.exit i) st = False := rfl
@[simp] theorem finQ_exit {res : List RV} {R : AV → Prop} {i : Nat} : finQ res R (.exit i) st = False := rfl

theorem wrap64 {x : Int} (h1 : -9223372036854775808 ≤ x) (h2 : x < 9223372036854775808) : IntKind.i64.wrap x = x :=
  Go.IntWalk.i64_in x ⟨h1, by omega⟩

@[simp] theorem lk_cons {d i : Nat} {x : AV} {fr : List (Nat × AV)} : lk ((d, x) :: fr) i = if d = i then x else lk fr i := rfl
@[simp] theorem lk_nil {i : Nat} : lk [] i = .junk := rfl
end

/-! ### one operation -/
section
def gO {α : Type} (o : Option α) (k : α → Prop) : Prop := ∃ a, o = some a ∧ k a
section
variable {α : Type} {k : α → Prop}
@[simp] theorem gO_some {a : α} : gO (some a) k = k a := by simp [gO]
@[simp] theorem gO_none : gO none k = False := by simp [gO]
@[simp] theorem gO_if1 {c : Prop} [Decidable c] {o : Option α} : gO (if c then o else none) k = (c ∧ gO o k) := by by_cases h : c <;> simp [h]
@[simp] theorem gO_if2 {c : Prop} [Decidable c] {o : Option α} : gO (if c then none else o) k = (¬ c ∧ gO o k) := by by_cases h : c <;> simp [h]
theorem gO_intro {o : Option α} {a : α} (h : o = some a) (hk : k a) : gO o k := ⟨a, h, hk⟩
theorem gO_bind {β : Type} {o : Option β} {f : β → Option α} {b : β} (h : o = some b) (hk : gO (f b) k) : gO (o.bind f) k := by rw [h]; exact hk
end

def oS : AV → Option (List UInt8) | .str s => some s | _ => none
def oI : AV → Option Int | .int _ n => some n | _ => none
def oN : AV → Option Nat | .int _ n => if 0 ≤ n then some n.toNat else none | _ => none
def oB : AV → Option Bool | .bool b => some b | _ => none
def oRef : AV → Option (Nat × Nat) | .ref id off => some (id, off) | _ => none
def oMref : AV → Option Nat | .mref id => some id | _ => none
def oAgg : AV → Option (List AV) | .agg cs => some cs | _ => none
def oTup : AV → Option (List AV) | .tup cs => some cs | _ => none
def oIfc : AV → Option (Nat × AV) | .ifc t x => some (t, x) | _ => none
def oFn : AV → Option (Nat × List AV) | .fn f c => some (f, c) | _ => none
def oCells : Option AObj → Option (List AV) | some (.cells cs) => some cs | _ => none
def oMp : Option AObj → Option (List (List UInt8 × AV)) | some (.mp es) => some es | _ => none
def oSit : Option AObj → Option (List UInt8 × Nat) | some (.sit s p) => some (s, p) | _ => none
@[simp] theorem oS_str {s} : oS (.str s) = some s := rfl
@[simp] theorem oI_int {t n} : oI (.int t n) = some n := rfl
@[simp] theorem oN_int {t n} : oN (.int t n) = if 0 ≤ n then some n.toNat else none := rfl
@[simp] theorem oB_bool {b} : oB (.bool b) = some b := rfl
@[simp] theorem oRef_ref {a b} : oRef (.ref a b) = some (a, b) := rfl
@[simp] theorem oMref_mref {a} : oMref (.mref a) = some a := rfl
@[simp] theorem oAgg_agg {a} : oAgg (.agg a) = some a := rfl
@[simp] theorem oTup_tup {a} : oTup (.tup a) = some a := rfl
@[simp] theorem oIfc_ifc {a b} : oIfc (.ifc a b) = some (a, b) := rfl
@[simp] theorem oFn_fn {a b} : oFn (.fn a b) = some (a, b) := rfl
@[simp] theorem oCells_cells {a} : oCells (some (.cells a)) = some a := rfl
@[simp] theorem oMp_mp {a} : oMp (some (.mp a)) = some a := rfl
@[simp] theorem oSit_sit {a b} : oSit (some (.sit a b)) = some (a, b) := rfl

def ptrOk : AV → Bool
  | .ptr _ => true
  | .ref _ _ => true
  | _ => false

def bytesA (hp : List (Nat × AObj)) (v : AV) : Option (List UInt8) :=
  match v with
  | .str _ => none
  | v => if one1 v then (slCells hp v).bind toBytes else none

def runesA (hp : List (Nat × AObj)) (v : AV) : Option (List UInt8) :=
  match v with
  | .str _ => none
  | v => if one1 v then (slCells hp v).bind toRunes else none

def slA (es : Nat) (lo hi : Option AV) : AV → Option AV
  | .sl es' xs => (bounds xs.length lo hi).bind fun lh => if es = es' then some (.sl es' (cut xs lo hi lh.1 lh.2)) else none
  | .nilS => (bounds 0 lo hi).bind fun _ => some .nilS
  | .msl id es' off n => (bounds n lo hi).bind fun lh => if es = es' then some (.msl id es' (off + lh.1 * es') (lh.2 - lh.1)) else none
  | _ => none

def addrA (off : Nat) : AV → Option AV
  | .ptr cs => some (.ptr (cs.drop off))
  | .ref id o => some (.ref id (o + off))
  | _ => none

def elemA (es j : Nat) : AV → Option AV
  | .sl es' xs => xs[j]?.bind fun v => if es = es' then some (.ptr (cells v)) else none
  | .msl id es' off n => if j < n ∧ es = es' then some (.ref id (off + j * es')) else none
  | _ => none

def lookA (es : List (List UInt8 × AV)) (s : List UInt8) (zero : AV) (ok : Bool) : AV :=
  match mfind es s with
  | some v => if ok then .tup [v, .bool true] else v
  | none => if ok then .tup [zero, .bool false] else zero

def assertA (t : Nat) (zero : AV) (ok : Bool) : AV → Option AV
  | .ifc u v => if u = t then some (if ok then .tup [v, .bool true] else v) else if ok then some (.tup [zero, .bool false]) else none
  | .nilI => if ok then some (.tup [zero, .bool false]) else none
  | _ => none

def o1 (hp : List (Nat × AObj)) (v : AV) : Out := ⟨v, hp, []⟩
def o2 (hp : List (Nat × AObj)) (d : Nat) (v : AV) (o : AObj) : Out := ⟨v, (d, o) :: killH d hp, [d]⟩
def o3 (hp : List (Nat × AObj)) (id : Nat) (o : AObj) : Out := ⟨.junk, hset hp id o, []⟩

section
variable {Γ : Gam} {fr : List (Nat × AV)} {hp : List (Nat × AObj)} {d : Nat}
@[simp] theorem a_mv {x} : aop Γ fr hp d (.mv x) = some (o1 hp (ev fr x)) := rfl
@[simp] theorem a_pick {c a b} : aop Γ fr hp d (.pick c a b) = (oB (ev fr c)).map fun t => o1 hp (if t then ev fr a else ev fr b) := by
  simp only [aop]; cases ev fr c <;> simp [asB, oB, just, o1]
  rename_i t; cases t <;> simp
@[simp] theorem a_alloc {z} : aop Γ fr hp d (.alloc z) = some (o2 hp d (.ref d 0) (.cells z)) := rfl
@[simp] theorem a_agg {z p} : aop Γ fr hp d (.agg z p) = (fillA z (p.map fun p => (p.1, p.2.1, ev fr p.2.2))).map fun cs => o1 hp (.agg cs) := by
  simp only [aop]; cases fillA z (p.map fun p => (p.1, p.2.1, ev fr p.2.2)) <;> simp [just, o1]
@[simp] theorem a_mkSl {es n z p} : aop Γ fr hp d (.mkSl es n z p) = (fillA ((List.replicate n z).flatten) (p.map fun p => (p.1 * es, es, ev fr p.2))).map fun cs => o2 hp d (.msl d es 0 n) (.cells (killL d cs)) := by
  simp only [aop]; cases fillA ((List.replicate n z).flatten) (p.map fun p => (p.1 * es, es, ev fr p.2)) <;> simp [made, o2]
@[simp] theorem a_mkSlF {es n z p} : aop Γ fr hp d (.mkSlF es n z p) = (fillA ((List.replicate n z).flatten) (p.map fun p => (p.1 * es, es, ev fr p.2))).bind fun cs =>
    if atoms cs = true ∧ hasRefL cs = false ∧ 0 < es ∧ n * es ≤ cs.length then some (o1 hp (.sl es (elems es n cs))) else none := by
  simp only [aop]; cases fillA ((List.replicate n z).flatten) (p.map fun p => (p.1 * es, es, ev fr p.2)) <;> simp [just, o1]
@[simp] theorem a_box {x} : aop Γ fr hp d (.box x) = if atoms (cells (ev fr x)) = true then some (o2 hp d (.ref d 0) (.cells (killL d (cells (ev fr x))))) else none := rfl
@[simp] theorem a_boxF {x} : aop Γ fr hp d (.boxF x) = if atoms (cells (ev fr x)) = true ∧ hasRefL (cells (ev fr x)) = false then some (o1 hp (.ptr (cells (ev fr x)))) else none := rfl
@[simp] theorem a_load {n x} : aop Γ fr hp d (.load n x) = (aload hp n (ev fr x)).map (o1 hp) := by
  simp only [aop]; cases aload hp n (ev fr x) <;> simp [just, o1]
@[simp] theorem a_store {n a x} : aop Γ fr hp d (.store n a x) = (oRef (ev fr a)).bind fun r => (oCells (hlk hp r.1)).bind fun cs =>
    if (cells (ev fr x)).length = n ∧ r.2 + n ≤ cs.length ∧ atoms (cells (ev fr x)) = true then some (o3 hp r.1 (.cells (spliceL cs r.2 (cells (ev fr x))))) else none := by
  simp only [aop]; cases ev fr a <;> simp [oRef]
  rename_i id off
  cases hlk hp id with
  | none => simp [oCells]
  | some o => cases o <;> simp [oCells, o3]
@[simp] theorem a_chk {x} : aop Γ fr hp d (.chk x) = if ptrOk (ev fr x) = true then some (o1 hp (ev fr x)) else none := by
  simp only [aop]; cases ev fr x <;> simp [ptrOk, just, o1]
@[simp] theorem a_bin {b x y} : aop Γ fr hp d (.bin b x y) = (abin b (ev fr x) (ev fr y)).map (o1 hp) := by
  simp only [aop]; cases abin b (ev fr x) (ev fr y) <;> simp [just, o1]
@[simp] theorem a_eqB {n x y} : aop Γ fr hp d (.eqB n x y) = (leafEq 0 (ev fr x) (ev fr y)).map fun b => o1 hp (.bool (b != n)) := by
  simp only [aop]; cases leafEq 0 (ev fr x) (ev fr y) <;> simp [just, o1]
@[simp] theorem a_eqA {n ks x y} : aop Γ fr hp d (.eqA n ks x y) = (oAgg (ev fr x)).bind fun xs => (oAgg (ev fr y)).bind fun ys => (leafEqL ks xs ys).map fun b => o1 hp (.bool (b != n)) := by
  simp only [aop]; cases ev fr x <;> simp [oAgg]
  cases ev fr y <;> simp
  rename_i xs ys; cases leafEqL ks xs ys <;> simp [just, o1]
@[simp] theorem a_isNil {c n x} : aop Γ fr hp d (.isNil c n x) = (isNilA c (ev fr x)).map fun b => o1 hp (.bool (b != n)) := by
  simp only [aop]; cases isNilA c (ev fr x) <;> simp [just, o1]
@[simp] theorem a_un {u x} : aop Γ fr hp d (.un u x) = (aun u (ev fr x)).map (o1 hp) := by
  simp only [aop]; cases aun u (ev fr x) <;> simp [just, o1]
@[simp] theorem a_cInt {t x} : aop Γ fr hp d (.cInt t x) = (oI (ev fr x)).map fun n => o1 hp (.int t (t.wrap n)) := by
  simp only [aop]; cases ev fr x <;> simp [oI, just, o1]
@[simp] theorem a_cIntStr {x} : aop Γ fr hp d (.cIntStr x) = (oI (ev fr x)).map fun n => o1 hp (.str (encR n)) := by
  simp only [aop]; cases ev fr x <;> simp [oI, just, o1]
@[simp] theorem a_cNop {x} : aop Γ fr hp d (.cNop x) = (oS (ev fr x)).map fun s => o1 hp (.str s) := by
  simp only [aop]; cases ev fr x <;> simp [oS, just, o1]
@[simp] theorem a_cStrBytes {x} : aop Γ fr hp d (.cStrBytes x) = (oS (ev fr x)).bind fun s => if s.length < 4611686018427387904 then some (o2 hp d (.msl d 1 0 s.length) (.cells (bcA s))) else none := by
  simp only [aop]; cases ev fr x <;> simp [oS, made, o2]
@[simp] theorem a_cStrRunes {x} : aop Γ fr hp d (.cStrRunes x) = (oS (ev fr x)).bind fun s => if s.length < 4611686018427387904 then some (o2 hp d (.msl d 1 0 (runesF s.length s).length) (.cells (rcA (runesF s.length s)))) else none := by
  simp only [aop]; cases ev fr x <;> simp [oS, made, o2]
@[simp] theorem a_cBytesStr {x} : aop Γ fr hp d (.cBytesStr x) = (bytesA hp (ev fr x)).map fun s => o1 hp (.str s) := by
  simp only [aop]
  generalize ev fr x = v
  have main : (if one1 v = true then (match slCells hp v with | some cs => (match toBytes cs with | some s => just hp (.str s) | none => none) | none => none) else none) = (if one1 v = true then (slCells hp v).bind toBytes else none).map fun s => o1 hp (.str s) := by
    split
    · cases slCells hp v with
      | none => simp
      | some cs => simp only [Option.bind_some]; cases toBytes cs <;> simp [just, o1]
    · rfl
  cases v <;> first | exact main | simp [bytesA]
@[simp] theorem a_cRunesStr {x} : aop Γ fr hp d (.cRunesStr x) = (runesA hp (ev fr x)).map fun s => o1 hp (.str s) := by
  simp only [aop]
  generalize ev fr x = v
  have main : (if one1 v = true then (match slCells hp v with | some cs => (match toRunes cs with | some s => just hp (.str s) | none => none) | none => none) else none) = (if one1 v = true then (slCells hp v).bind toRunes else none).map fun s => o1 hp (.str s) := by
    split
    · cases slCells hp v with
      | none => simp
      | some cs => simp only [Option.bind_some]; cases toRunes cs <;> simp [just, o1]
    · rfl
  cases v <;> first | exact main | simp [runesA]
@[simp] theorem a_mkIfc {t x} : aop Γ fr hp d (.mkIfc t x) = some (o1 hp (.ifc t (ev fr x))) := rfl
@[simp] theorem a_mkFn {f l} : aop Γ fr hp d (.mkFn f l) = some (o1 hp (.fn f (l.map (ev fr)))) := rfl
@[simp] theorem a_mkMap : aop Γ fr hp d .mkMap = some (o2 hp d (.mref d) (.mp [])) := rfl
@[simp] theorem a_mkSlice {es b z l c} : aop Γ fr hp d (.mkSlice es b z l c) = (oN (ev fr l)).bind fun n => (oN (ev fr c)).bind fun m =>
    if n ≤ m ∧ (m + 1) * (b + 1) < 35184372088832 ∧ m < 35184372088832 then some (o2 hp d (.msl d es 0 n) (.cells ((List.replicate n z).flatten))) else none := by
  simp only [aop]
  have e : ∀ v, idx v = oN v := by intro v; cases v <;> rfl
  rw [e, e]
  cases oN (ev fr l) <;> simp
  cases oN (ev fr c) <;> simp [made, o2]
@[simp] theorem a_slStr {x lo hi} : aop Γ fr hp d (.slStr x lo hi) = (oS (ev fr x)).bind fun s => (bounds s.length (lo.map (ev fr)) (hi.map (ev fr))).map fun lh => o1 hp (.str (cut s (lo.map (ev fr)) (hi.map (ev fr)) lh.1 lh.2)) := by
  simp only [aop]; cases ev fr x <;> simp [oS]
  rename_i s; cases bounds s.length (lo.map (ev fr)) (hi.map (ev fr)) <;> simp [just, o1]
@[simp] theorem a_slSl {es x lo hi} : aop Γ fr hp d (.slSl es x lo hi) = (slA es (lo.map (ev fr)) (hi.map (ev fr)) (ev fr x)).map (o1 hp) := by
  simp only [aop]; cases ev fr x <;> simp [slA]
  · cases bounds 0 (lo.map (ev fr)) (hi.map (ev fr)) <;> simp [just, o1]
  · rename_i es' xs; cases bounds xs.length (lo.map (ev fr)) (hi.map (ev fr)) <;> simp [just]
    split <;> simp [o1]
  · rename_i id es' off n; cases bounds n (lo.map (ev fr)) (hi.map (ev fr)) <;> simp [just]
    split
    · rename_i h; subst h; simp [o1]
    · simp
@[simp] theorem a_fAddr {off x} : aop Γ fr hp d (.fAddr off x) = (addrA off (ev fr x)).map (o1 hp) := by
  simp only [aop]; cases ev fr x <;> simp [addrA, just, o1]
@[simp] theorem a_field {off n x} : aop Γ fr hp d (.field off n x) = (oAgg (ev fr x)).bind fun cs => (loadC n (cs.drop off)).map (o1 hp) := by
  simp only [aop, partA]; cases ev fr x <;> simp [oAgg]
  rename_i cs; cases loadC n (cs.drop off) <;> simp [just, o1]
@[simp] theorem a_iAddr {es x i} : aop Γ fr hp d (.iAddr es x i) = (oN (ev fr i)).bind fun j => (elemA es j (ev fr x)).map (o1 hp) := by
  simp only [aop]
  have e : ∀ v, idx v = oN v := by intro v; cases v <;> rfl
  rw [e]
  cases oN (ev fr i) <;> simp
  rename_i j
  cases ev fr x <;> simp [elemA, just]
  · rename_i es' xs; cases xs[j]? <;> simp
    split <;> simp [o1]
  · rename_i id es' off n
    split
    · rename_i h; obtain ⟨_, h⟩ := h; subst h; simp [o1]
    · simp
@[simp] theorem a_iAddrA {len es x i} : aop Γ fr hp d (.iAddrA len es x i) = (oN (ev fr i)).bind fun j => if j < len then (addrA (j * es) (ev fr x)).map (o1 hp) else none := by
  simp only [aop]
  have e : ∀ v, idx v = oN v := by intro v; cases v <;> rfl
  rw [e]
  cases oN (ev fr i) <;> simp
  cases ev fr x <;> simp [addrA, just, o1]
@[simp] theorem a_iStr {x i} : aop Γ fr hp d (.iStr x i) = (oN (ev fr i)).bind fun j => (oS (ev fr x)).bind fun s => s[j]?.bind fun b => some (o1 hp (.int .u8 (b.toNat : Int))) := by
  simp only [aop]
  have e : ∀ v, idx v = oN v := by intro v; cases v <;> rfl
  rw [e]
  cases oN (ev fr i) <;> simp
  rename_i j
  cases ev fr x <;> simp [oS]
  rename_i s; cases s[j]? <;> simp [just, o1]
@[simp] theorem a_iArr {len es m x i} : aop Γ fr hp d (.iArr len es m x i) = (oN (ev fr i)).bind fun j => if j < len then (oAgg (ev fr x)).bind fun cs => (loadC m (cs.drop (j * es))).map (o1 hp) else none := by
  simp only [aop, partA]
  have e : ∀ v, idx v = oN v := by intro v; cases v <;> rfl
  rw [e]
  cases oN (ev fr i) <;> simp
  rename_i j
  cases ev fr x <;> simp [oAgg]
  rename_i cs; cases loadC m (cs.drop (j * es)) <;> simp [just, o1]
@[simp] theorem a_look {z ok m q} : aop Γ fr hp d (.look z ok m q) = (ments hp (ev fr m)).bind fun es => (oS (ev fr q)).map fun s => o1 hp (lookA es s z ok) := by
  simp only [aop]; cases ments hp (ev fr m) <;> simp
  cases ev fr q <;> simp [asS, oS]
  rename_i es s; simp only [lookA]; cases mfind es s <;> simp [just, o1]
@[simp] theorem a_mput {m q v} : aop Γ fr hp d (.mput m q v) = (oMref (ev fr m)).bind fun id => (oS (ev fr q)).bind fun s => (oMp (hlk hp id)).bind fun es =>
    if atom (ev fr v) = true ∧ hasRef (ev fr v) = false then some (o3 hp id (.mp (mset es s (ev fr v)))) else none := by
  simp only [aop]; cases ev fr m <;> simp [oMref]
  rename_i id; cases ev fr q <;> simp [asS, oS]
  cases hlk hp id with
  | none => simp [oMp]
  | some o => cases o <;> simp [oMp, o3]
@[simp] theorem a_rangeS {x} : aop Γ fr hp d (.rangeS x) = (oS (ev fr x)).map fun s => o2 hp d (.ref d 0) (.sit s 0) := by
  simp only [aop]; cases ev fr x <;> simp [oS, made, o2]
@[simp] theorem a_extr {x i} : aop Γ fr hp d (.extr x i) = (oTup (ev fr x)).bind fun vs => vs[i]?.map (o1 hp) := by
  simp only [aop]; cases ev fr x <;> simp [oTup]
  rename_i vs; cases vs[i]? <;> simp [just, o1]
@[simp] theorem a_assert {t z ok x} : aop Γ fr hp d (.assert t z ok x) = (assertA t z ok (ev fr x)).map (o1 hp) := by
  simp only [aop]; cases ev fr x <;> simp [assertA, just, o1]
  · split
    · simp [o1]
    · split <;> simp [o1]
@[simp] theorem a_len {c x} : aop Γ fr hp d (.len c x) = (alen hp c (ev fr x)).map fun n => o1 hp (.int .i64 (n : Int)) := by
  simp only [aop]; cases alen hp c (ev fr x) <;> simp [just, o1]
@[simp] theorem a_app {es b x y} : aop Γ fr hp d (.app es b x y) = (slCells hp (ev fr y)).bind fun ys => (ycount es (ev fr y)).bind fun n => aapp hp d es b (ev fr x) ys n := by
  simp only [aop]; cases slCells hp (ev fr y) <;> simp
  cases ycount es (ev fr y) <;> simp
@[simp] theorem a_call {f l} : aop Γ fr hp d (.call f l) = (acall Γ hp f (l.map (ev fr))).map (o1 hp) := by
  simp only [aop]; cases acall Γ hp f (l.map (ev fr)) <;> simp [just, o1]
@[simp] theorem a_callV {f l} : aop Γ fr hp d (.callV f l) = (oFn (ev fr f)).bind fun g => (acall Γ hp g.1 (l.map (ev fr) ++ g.2)).map (o1 hp) := by
  simp only [aop]; cases ev fr f <;> simp [oFn]
  rename_i g cap; cases acall Γ hp g (l.map (ev fr) ++ cap) <;> simp [just, o1]
@[simp] theorem a_inv {x n l} : aop Γ fr hp d (.inv x n l) = (oIfc (ev fr x)).bind fun t => (Γ.mth t.1 n).bind fun f => (acall Γ hp f (t.2 :: l.map (ev fr))).map (o1 hp) := by
  simp only [aop]; cases ev fr x <;> simp [oIfc]
  rename_i t v; cases Γ.mth t n <;> simp
  rename_i f; cases acall Γ hp f (v :: l.map (ev fr)) <;> simp [just, o1]
@[simp] theorem a_callS {f l} : aop Γ fr hp d (.callS f l) = acallS Γ hp d f (l.map (ev fr)) := rfl
@[simp] theorem a_callVS {f l} : aop Γ fr hp d (.callVS f l) = (oFn (ev fr f)).bind fun g => acallS Γ hp d g.1 (l.map (ev fr) ++ g.2) := by
  simp only [aop]; cases ev fr f <;> simp [oFn]
@[simp] theorem a_invS {x n l} : aop Γ fr hp d (.invS x n l) = (oIfc (ev fr x)).bind fun t => (Γ.mth t.1 n).bind fun f => acallS Γ hp d f (t.2 :: l.map (ev fr)) := by
  simp only [aop]; cases ev fr x <;> simp [oIfc]
  rename_i t v; cases Γ.mth t n <;> simp
@[simp] theorem a_bad : aop Γ fr hp d .bad = none := rfl
end

section
variable {Γ : Gam} {st : St} {K : St → Prop} {dst : Option Nat} {r : List SO} {dd : List (List Nat)}
/-- What comes behind an operation. -/
def kOps (Γ : Gam) (r : List SO) (dd : List (List Nat)) (fr : List (Nat × AV)) (dst : Option Nat) (K : St → Prop) (out : Out) : Prop := opsK Γ r (dTl dd) (rmS (dHd dd) (fin fr dst out)) K
@[simp] theorem kOps_o1 {fr hp v} : kOps Γ r dd fr dst K (o1 hp v) = opsK Γ r (dTl dd) ⟨rmF (dHd dd) (⟨putS fr dst v, hp⟩ : St).fr, (⟨putS fr dst v, hp⟩ : St).hp⟩ K := rfl
@[simp] theorem kOps_o2 {fr hp d v o} : kOps Γ r dd fr dst K (o2 hp d v o) = opsK Γ r (dTl dd) ⟨rmF (dHd dd) (⟨putS (killF d fr) dst v, (d, o) :: killH d hp⟩ : St).fr, (⟨putS (killF d fr) dst v, (d, o) :: killH d hp⟩ : St).hp⟩ K := rfl
@[simp] theorem kOps_o3 {fr hp id o} : kOps Γ r dd fr dst K (o3 hp id o) = opsK Γ r (dTl dd) ⟨rmF (dHd dd) (⟨putS fr dst .junk, hset hp id o⟩ : St).fr, (⟨putS fr dst .junk, hset hp id o⟩ : St).hp⟩ K := rfl
@[simp] theorem kOps_mk {fr v hp n} : kOps Γ r dd fr dst K ⟨v, hp, n⟩ = opsK Γ r (dTl dd) ⟨rmF (dHd dd) (⟨putS (killFs n fr) dst v, hp⟩ : St).fr, (⟨putS (killFs n fr) dst v, hp⟩ : St).hp⟩ K := rfl
@[simp] theorem opsK_nil : opsK Γ [] dd st K = K st := rfl
@[simp] theorem rmS_mk {ds : List Nat} {fr : List (Nat × AV)} {hp : List (Nat × AObj)} : rmS ds ⟨fr, hp⟩ = ⟨rmF ds fr, hp⟩ := rfl

theorem opsK_step {op : SOp} (h : ∀ x, op ≠ .nextS x) : opsK Γ (⟨dst, op, none⟩ :: r) dd st K = gO (aop Γ st.fr st.hp (dst.getD 0) op) (kOps Γ r dd st.fr dst K) := by
  simp only [opsK]
  cases op <;> first | (exfalso; exact h _ rfl) | (simp only [stepK]; split <;> rename_i ho <;> simp only [ho, gO_some, gO_none, kOps])

def nextK2 (o : Option AObj) (id : Nat) (Γ : Gam) (r : List SO) (dd : List (List Nat)) (dst : Option Nat) (st : St) (K : St → Prop) : Prop := match o with
    | some (.sit s pos) =>
      (pos < s.length → opsK Γ r (dTl dd) ⟨rmF (dHd dd) (putS st.fr dst (.tup [.bool true, .int .i64 (pos : Int), .int .i32 ((decR (s.drop pos)).1 : Int)])), hset st.hp id (.sit s (pos + (decR (s.drop pos)).2))⟩ K) ∧
      (¬ pos < s.length → opsK Γ r (dTl dd) ⟨rmF (dHd dd) (putS st.fr dst (.tup [.bool false])), st.hp⟩ K)
    | _ => False
def nextK (v : AV) (Γ : Gam) (r : List SO) (dd : List (List Nat)) (dst : Option Nat) (st : St) (K : St → Prop) : Prop := match v with
  | .ref id 0 => nextK2 (hlk st.hp id) id Γ r dd dst st K
  | _ => False
@[simp] theorem nextK_ref {id} : nextK (.ref id 0) Γ r dd dst st K = nextK2 (hlk st.hp id) id Γ r dd dst st K := rfl
@[simp] theorem nextK2_sit {s pos id} : nextK2 (some (.sit s pos)) id Γ r dd dst st K =
      ((pos < s.length → opsK Γ r (dTl dd) ⟨rmF (dHd dd) (putS st.fr dst (.tup [.bool true, .int .i64 (pos : Int), .int .i32 ((decR (s.drop pos)).1 : Int)])), hset st.hp id (.sit s (pos + (decR (s.drop pos)).2))⟩ K) ∧
      (¬ pos < s.length → opsK Γ r (dTl dd) ⟨rmF (dHd dd) (putS st.fr dst (.tup [.bool false])), st.hp⟩ K)) := rfl
@[simp] theorem opsK_nextS {x} : opsK Γ (⟨dst, .nextS x, none⟩ :: r) dd st K = nextK (ev st.fr x) Γ r dd dst st K := rfl

def guardK (v : AV) (Γ : Gam) (dst : Option Nat) (op : SOp) (g : Nat) (w : Bool) (r : List SO) (dd : List (List Nat)) (st : St) (K : St → Prop) : Prop := match v with
  | .bool b => (b = w → opsK Γ (⟨dst, op, none⟩ :: r) dd ⟨(g, .bool w) :: st.fr, st.hp⟩ K) ∧ (b = (!w) → opsK Γ r (dTl dd) ⟨rmF (dHd dd) (putS ((g, .bool (!w)) :: st.fr) dst (.tup [])), st.hp⟩ K)
  | .tup [] => opsK Γ r (dTl dd) ⟨rmF (dHd dd) (putS st.fr dst (.tup [])), st.hp⟩ K
  | _ => False
@[simp] theorem guardK_bool {b op g w} : guardK (.bool b) Γ dst op g w r dd st K = ((b = w → opsK Γ (⟨dst, op, none⟩ :: r) dd ⟨(g, .bool w) :: st.fr, st.hp⟩ K) ∧ (b = (!w) → opsK Γ r (dTl dd) ⟨rmF (dHd dd) (putS ((g, .bool (!w)) :: st.fr) dst (.tup [])), st.hp⟩ K)) := rfl
@[simp] theorem guardK_tup {op g w} : guardK (.tup []) Γ dst op g w r dd st K = opsK Γ r (dTl dd) ⟨rmF (dHd dd) (putS st.fr dst (.tup [])), st.hp⟩ K := rfl
@[simp] theorem opsK_guard {op : SOp} {g : Nat} {w : Bool} : opsK Γ (⟨dst, op, some (g, w)⟩ :: r) dd st K = guardK (lk st.fr g) Γ dst op g w r dd st K := by
  have e : ∀ st K, stepK Γ ⟨dst, op, some (g, w)⟩ st K = stepK Γ ⟨dst, op, none⟩ st K := by
    intro st K; cases op <;> rfl
  simp only [opsK, e, guardK]
  rfl
end
end

@[simp] theorem opsK_mv {Γ : Gam} {st : St} {K : St → Prop} {dst : Option Nat} {r : List SO} {dd : List (List Nat)} {a} : opsK Γ (⟨dst, .mv a, none⟩ :: r) dd st K = gO (aop Γ st.fr st.hp (dst.getD 0) (.mv a)) (kOps Γ r dd st.fr dst K) := opsK_step (by simp)
@[simp] theorem opsK_pick {Γ : Gam} {st : St} {K : St → Prop} {dst : Option Nat} {r : List SO} {dd : List (List Nat)} {a b c} : opsK Γ (⟨dst, .pick a b c, none⟩ :: r) dd st K = gO (aop Γ st.fr st.hp (dst.getD 0) (.pick a b c)) (kOps Γ r dd st.fr dst K) := opsK_step (by simp)
@[simp] theorem opsK_alloc {Γ : Gam} {st : St} {K : St → Prop} {dst : Option Nat} {r : List SO} {dd : List (List Nat)} {a} : opsK Γ (⟨dst, .alloc a, none⟩ :: r) dd st K = gO (aop Γ st.fr st.hp (dst.getD 0) (.alloc a)) (kOps Γ r dd st.fr dst K) := opsK_step (by simp)
@[simp] theorem opsK_agg {Γ : Gam} {st : St} {K : St → Prop} {dst : Option Nat} {r : List SO} {dd : List (List Nat)} {a b} : opsK Γ (⟨dst, .agg a b, none⟩ :: r) dd st K = gO (aop Γ st.fr st.hp (dst.getD 0) (.agg a b)) (kOps Γ r dd st.fr dst K) := opsK_step (by simp)
@[simp] theorem opsK_mkSl {Γ : Gam} {st : St} {K : St → Prop} {dst : Option Nat} {r : List SO} {dd : List (List Nat)} {a b c e} : opsK Γ (⟨dst, .mkSl a b c e, none⟩ :: r) dd st K = gO (aop Γ st.fr st.hp (dst.getD 0) (.mkSl a b c e)) (kOps Γ r dd st.fr dst K) := opsK_step (by simp)
@[simp] theorem opsK_load {Γ : Gam} {st : St} {K : St → Prop} {dst : Option Nat} {r : List SO} {dd : List (List Nat)} {a b} : opsK Γ (⟨dst, .load a b, none⟩ :: r) dd st K = gO (aop Γ st.fr st.hp (dst.getD 0) (.load a b)) (kOps Γ r dd st.fr dst K) := opsK_step (by simp)
@[simp] theorem opsK_store {Γ : Gam} {st : St} {K : St → Prop} {dst : Option Nat} {r : List SO} {dd : List (List Nat)} {a b c} : opsK Γ (⟨dst, .store a b c, none⟩ :: r) dd st K = gO (aop Γ st.fr st.hp (dst.getD 0) (.store a b c)) (kOps Γ r dd st.fr dst K) := opsK_step (by simp)
@[simp] theorem opsK_chk {Γ : Gam} {st : St} {K : St → Prop} {dst : Option Nat} {r : List SO} {dd : List (List Nat)} {a} : opsK Γ (⟨dst, .chk a, none⟩ :: r) dd st K = gO (aop Γ st.fr st.hp (dst.getD 0) (.chk a)) (kOps Γ r dd st.fr dst K) := opsK_step (by simp)
@[simp] theorem opsK_bin {Γ : Gam} {st : St} {K : St → Prop} {dst : Option Nat} {r : List SO} {dd : List (List Nat)} {a b c} : opsK Γ (⟨dst, .bin a b c, none⟩ :: r) dd st K = gO (aop Γ st.fr st.hp (dst.getD 0) (.bin a b c)) (kOps Γ r dd st.fr dst K) := opsK_step (by simp)
@[simp] theorem opsK_eqB {Γ : Gam} {st : St} {K : St → Prop} {dst : Option Nat} {r : List SO} {dd : List (List Nat)} {a b c} : opsK Γ (⟨dst, .eqB a b c, none⟩ :: r) dd st K = gO (aop Γ st.fr st.hp (dst.getD 0) (.eqB a b c)) (kOps Γ r dd st.fr dst K) := opsK_step (by simp)
@[simp] theorem opsK_eqA {Γ : Gam} {st : St} {K : St → Prop} {dst : Option Nat} {r : List SO} {dd : List (List Nat)} {a b c e} : opsK Γ (⟨dst, .eqA a b c e, none⟩ :: r) dd st K = gO (aop Γ st.fr st.hp (dst.getD 0) (.eqA a b c e)) (kOps Γ r dd st.fr dst K) := opsK_step (by simp)
@[simp] theorem opsK_isNil {Γ : Gam} {st : St} {K : St → Prop} {dst : Option Nat} {r : List SO} {dd : List (List Nat)} {a b c} : opsK Γ (⟨dst, .isNil a b c, none⟩ :: r) dd st K = gO (aop Γ st.fr st.hp (dst.getD 0) (.isNil a b c)) (kOps Γ r dd st.fr dst K) := opsK_step (by simp)
@[simp] theorem opsK_un {Γ : Gam} {st : St} {K : St → Prop} {dst : Option Nat} {r : List SO} {dd : List (List Nat)} {a b} : opsK Γ (⟨dst, .un a b, none⟩ :: r) dd st K = gO (aop Γ st.fr st.hp (dst.getD 0) (.un a b)) (kOps Γ r dd st.fr dst K) := opsK_step (by simp)
@[simp] theorem opsK_cInt {Γ : Gam} {st : St} {K : St → Prop} {dst : Option Nat} {r : List SO} {dd : List (List Nat)} {a b} : opsK Γ (⟨dst, .cInt a b, none⟩ :: r) dd st K = gO (aop Γ st.fr st.hp (dst.getD 0) (.cInt a b)) (kOps Γ r dd st.fr dst K) := opsK_step (by simp)
@[simp] theorem opsK_cIntStr {Γ : Gam} {st : St} {K : St → Prop} {dst : Option Nat} {r : List SO} {dd : List (List Nat)} {a} : opsK Γ (⟨dst, .cIntStr a, none⟩ :: r) dd st K = gO (aop Γ st.fr st.hp (dst.getD 0) (.cIntStr a)) (kOps Γ r dd st.fr dst K) := opsK_step (by simp)
@[simp] theorem opsK_cNop {Γ : Gam} {st : St} {K : St → Prop} {dst : Option Nat} {r : List SO} {dd : List (List Nat)} {a} : opsK Γ (⟨dst, .cNop a, none⟩ :: r) dd st K = gO (aop Γ st.fr st.hp (dst.getD 0) (.cNop a)) (kOps Γ r dd st.fr dst K) := opsK_step (by simp)
@[simp] theorem opsK_cStrBytes {Γ : Gam} {st : St} {K : St → Prop} {dst : Option Nat} {r : List SO} {dd : List (List Nat)} {a} : opsK Γ (⟨dst, .cStrBytes a, none⟩ :: r) dd st K = gO (aop Γ st.fr st.hp (dst.getD 0) (.cStrBytes a)) (kOps Γ r dd st.fr dst K) := opsK_step (by simp)
@[simp] theorem opsK_cBytesStr {Γ : Gam} {st : St} {K : St → Prop} {dst : Option Nat} {r : List SO} {dd : List (List Nat)} {a} : opsK Γ (⟨dst, .cBytesStr a, none⟩ :: r) dd st K = gO (aop Γ st.fr st.hp (dst.getD 0) (.cBytesStr a)) (kOps Γ r dd st.fr dst K) := opsK_step (by simp)
@[simp] theorem opsK_cStrRunes {Γ : Gam} {st : St} {K : St → Prop} {dst : Option Nat} {r : List SO} {dd : List (List Nat)} {a} : opsK Γ (⟨dst, .cStrRunes a, none⟩ :: r) dd st K = gO (aop Γ st.fr st.hp (dst.getD 0) (.cStrRunes a)) (kOps Γ r dd st.fr dst K) := opsK_step (by simp)
@[simp] theorem opsK_cRunesStr {Γ : Gam} {st : St} {K : St → Prop} {dst : Option Nat} {r : List SO} {dd : List (List Nat)} {a} : opsK Γ (⟨dst, .cRunesStr a, none⟩ :: r) dd st K = gO (aop Γ st.fr st.hp (dst.getD 0) (.cRunesStr a)) (kOps Γ r dd st.fr dst K) := opsK_step (by simp)
@[simp] theorem opsK_mkIfc {Γ : Gam} {st : St} {K : St → Prop} {dst : Option Nat} {r : List SO} {dd : List (List Nat)} {a b} : opsK Γ (⟨dst, .mkIfc a b, none⟩ :: r) dd st K = gO (aop Γ st.fr st.hp (dst.getD 0) (.mkIfc a b)) (kOps Γ r dd st.fr dst K) := opsK_step (by simp)
@[simp] theorem opsK_mkFn {Γ : Gam} {st : St} {K : St → Prop} {dst : Option Nat} {r : List SO} {dd : List (List Nat)} {a b} : opsK Γ (⟨dst, .mkFn a b, none⟩ :: r) dd st K = gO (aop Γ st.fr st.hp (dst.getD 0) (.mkFn a b)) (kOps Γ r dd st.fr dst K) := opsK_step (by simp)
@[simp] theorem opsK_mkMap {Γ : Gam} {st : St} {K : St → Prop} {dst : Option Nat} {r : List SO} {dd : List (List Nat)} : opsK Γ (⟨dst, .mkMap , none⟩ :: r) dd st K = gO (aop Γ st.fr st.hp (dst.getD 0) (.mkMap )) (kOps Γ r dd st.fr dst K) := opsK_step (by simp)
@[simp] theorem opsK_mkSlice {Γ : Gam} {st : St} {K : St → Prop} {dst : Option Nat} {r : List SO} {dd : List (List Nat)} {a b c e f} : opsK Γ (⟨dst, .mkSlice a b c e f, none⟩ :: r) dd st K = gO (aop Γ st.fr st.hp (dst.getD 0) (.mkSlice a b c e f)) (kOps Γ r dd st.fr dst K) := opsK_step (by simp)
@[simp] theorem opsK_slStr {Γ : Gam} {st : St} {K : St → Prop} {dst : Option Nat} {r : List SO} {dd : List (List Nat)} {a b c} : opsK Γ (⟨dst, .slStr a b c, none⟩ :: r) dd st K = gO (aop Γ st.fr st.hp (dst.getD 0) (.slStr a b c)) (kOps Γ r dd st.fr dst K) := opsK_step (by simp)
@[simp] theorem opsK_slSl {Γ : Gam} {st : St} {K : St → Prop} {dst : Option Nat} {r : List SO} {dd : List (List Nat)} {a b c e} : opsK Γ (⟨dst, .slSl a b c e, none⟩ :: r) dd st K = gO (aop Γ st.fr st.hp (dst.getD 0) (.slSl a b c e)) (kOps Γ r dd st.fr dst K) := opsK_step (by simp)
@[simp] theorem opsK_fAddr {Γ : Gam} {st : St} {K : St → Prop} {dst : Option Nat} {r : List SO} {dd : List (List Nat)} {a b} : opsK Γ (⟨dst, .fAddr a b, none⟩ :: r) dd st K = gO (aop Γ st.fr st.hp (dst.getD 0) (.fAddr a b)) (kOps Γ r dd st.fr dst K) := opsK_step (by simp)
@[simp] theorem opsK_field {Γ : Gam} {st : St} {K : St → Prop} {dst : Option Nat} {r : List SO} {dd : List (List Nat)} {a b c} : opsK Γ (⟨dst, .field a b c, none⟩ :: r) dd st K = gO (aop Γ st.fr st.hp (dst.getD 0) (.field a b c)) (kOps Γ r dd st.fr dst K) := opsK_step (by simp)
@[simp] theorem opsK_iAddr {Γ : Gam} {st : St} {K : St → Prop} {dst : Option Nat} {r : List SO} {dd : List (List Nat)} {a b c} : opsK Γ (⟨dst, .iAddr a b c, none⟩ :: r) dd st K = gO (aop Γ st.fr st.hp (dst.getD 0) (.iAddr a b c)) (kOps Γ r dd st.fr dst K) := opsK_step (by simp)
@[simp] theorem opsK_iAddrA {Γ : Gam} {st : St} {K : St → Prop} {dst : Option Nat} {r : List SO} {dd : List (List Nat)} {a b c e} : opsK Γ (⟨dst, .iAddrA a b c e, none⟩ :: r) dd st K = gO (aop Γ st.fr st.hp (dst.getD 0) (.iAddrA a b c e)) (kOps Γ r dd st.fr dst K) := opsK_step (by simp)
@[simp] theorem opsK_iStr {Γ : Gam} {st : St} {K : St → Prop} {dst : Option Nat} {r : List SO} {dd : List (List Nat)} {a b} : opsK Γ (⟨dst, .iStr a b, none⟩ :: r) dd st K = gO (aop Γ st.fr st.hp (dst.getD 0) (.iStr a b)) (kOps Γ r dd st.fr dst K) := opsK_step (by simp)
@[simp] theorem opsK_iArr {Γ : Gam} {st : St} {K : St → Prop} {dst : Option Nat} {r : List SO} {dd : List (List Nat)} {a b c e f} : opsK Γ (⟨dst, .iArr a b c e f, none⟩ :: r) dd st K = gO (aop Γ st.fr st.hp (dst.getD 0) (.iArr a b c e f)) (kOps Γ r dd st.fr dst K) := opsK_step (by simp)
@[simp] theorem opsK_look {Γ : Gam} {st : St} {K : St → Prop} {dst : Option Nat} {r : List SO} {dd : List (List Nat)} {a b c e} : opsK Γ (⟨dst, .look a b c e, none⟩ :: r) dd st K = gO (aop Γ st.fr st.hp (dst.getD 0) (.look a b c e)) (kOps Γ r dd st.fr dst K) := opsK_step (by simp)
@[simp] theorem opsK_mput {Γ : Gam} {st : St} {K : St → Prop} {dst : Option Nat} {r : List SO} {dd : List (List Nat)} {a b c} : opsK Γ (⟨dst, .mput a b c, none⟩ :: r) dd st K = gO (aop Γ st.fr st.hp (dst.getD 0) (.mput a b c)) (kOps Γ r dd st.fr dst K) := opsK_step (by simp)
@[simp] theorem opsK_rangeS {Γ : Gam} {st : St} {K : St → Prop} {dst : Option Nat} {r : List SO} {dd : List (List Nat)} {a} : opsK Γ (⟨dst, .rangeS a, none⟩ :: r) dd st K = gO (aop Γ st.fr st.hp (dst.getD 0) (.rangeS a)) (kOps Γ r dd st.fr dst K) := opsK_step (by simp)
@[simp] theorem opsK_extr {Γ : Gam} {st : St} {K : St → Prop} {dst : Option Nat} {r : List SO} {dd : List (List Nat)} {a b} : opsK Γ (⟨dst, .extr a b, none⟩ :: r) dd st K = gO (aop Γ st.fr st.hp (dst.getD 0) (.extr a b)) (kOps Γ r dd st.fr dst K) := opsK_step (by simp)
@[simp] theorem opsK_assert {Γ : Gam} {st : St} {K : St → Prop} {dst : Option Nat} {r : List SO} {dd : List (List Nat)} {a b c e} : opsK Γ (⟨dst, .assert a b c e, none⟩ :: r) dd st K = gO (aop Γ st.fr st.hp (dst.getD 0) (.assert a b c e)) (kOps Γ r dd st.fr dst K) := opsK_step (by simp)
@[simp] theorem opsK_len {Γ : Gam} {st : St} {K : St → Prop} {dst : Option Nat} {r : List SO} {dd : List (List Nat)} {a b} : opsK Γ (⟨dst, .len a b, none⟩ :: r) dd st K = gO (aop Γ st.fr st.hp (dst.getD 0) (.len a b)) (kOps Γ r dd st.fr dst K) := opsK_step (by simp)
@[simp] theorem opsK_app {Γ : Gam} {st : St} {K : St → Prop} {dst : Option Nat} {r : List SO} {dd : List (List Nat)} {a b c e} : opsK Γ (⟨dst, .app a b c e, none⟩ :: r) dd st K = gO (aop Γ st.fr st.hp (dst.getD 0) (.app a b c e)) (kOps Γ r dd st.fr dst K) := opsK_step (by simp)
@[simp] theorem opsK_call {Γ : Gam} {st : St} {K : St → Prop} {dst : Option Nat} {r : List SO} {dd : List (List Nat)} {a b} : opsK Γ (⟨dst, .call a b, none⟩ :: r) dd st K = gO (aop Γ st.fr st.hp (dst.getD 0) (.call a b)) (kOps Γ r dd st.fr dst K) := opsK_step (by simp)
@[simp] theorem opsK_callV {Γ : Gam} {st : St} {K : St → Prop} {dst : Option Nat} {r : List SO} {dd : List (List Nat)} {a b} : opsK Γ (⟨dst, .callV a b, none⟩ :: r) dd st K = gO (aop Γ st.fr st.hp (dst.getD 0) (.callV a b)) (kOps Γ r dd st.fr dst K) := opsK_step (by simp)
@[simp] theorem opsK_inv {Γ : Gam} {st : St} {K : St → Prop} {dst : Option Nat} {r : List SO} {dd : List (List Nat)} {a b c} : opsK Γ (⟨dst, .inv a b c, none⟩ :: r) dd st K = gO (aop Γ st.fr st.hp (dst.getD 0) (.inv a b c)) (kOps Γ r dd st.fr dst K) := opsK_step (by simp)
@[simp] theorem opsK_mkSlF {Γ : Gam} {st : St} {K : St → Prop} {dst : Option Nat} {r : List SO} {dd : List (List Nat)} {a b c e} : opsK Γ (⟨dst, .mkSlF a b c e, none⟩ :: r) dd st K = gO (aop Γ st.fr st.hp (dst.getD 0) (.mkSlF a b c e)) (kOps Γ r dd st.fr dst K) := opsK_step (by simp)
@[simp] theorem opsK_box {Γ : Gam} {st : St} {K : St → Prop} {dst : Option Nat} {r : List SO} {dd : List (List Nat)} {a} : opsK Γ (⟨dst, .box a, none⟩ :: r) dd st K = gO (aop Γ st.fr st.hp (dst.getD 0) (.box a)) (kOps Γ r dd st.fr dst K) := opsK_step (by simp)
@[simp] theorem opsK_boxF {Γ : Gam} {st : St} {K : St → Prop} {dst : Option Nat} {r : List SO} {dd : List (List Nat)} {a} : opsK Γ (⟨dst, .boxF a, none⟩ :: r) dd st K = gO (aop Γ st.fr st.hp (dst.getD 0) (.boxF a)) (kOps Γ r dd st.fr dst K) := opsK_step (by simp)
@[simp] theorem opsK_callS {Γ : Gam} {st : St} {K : St → Prop} {dst : Option Nat} {r : List SO} {dd : List (List Nat)} {a b} : opsK Γ (⟨dst, .callS a b, none⟩ :: r) dd st K = gO (aop Γ st.fr st.hp (dst.getD 0) (.callS a b)) (kOps Γ r dd st.fr dst K) := opsK_step (by simp)
@[simp] theorem opsK_callVS {Γ : Gam} {st : St} {K : St → Prop} {dst : Option Nat} {r : List SO} {dd : List (List Nat)} {a b} : opsK Γ (⟨dst, .callVS a b, none⟩ :: r) dd st K = gO (aop Γ st.fr st.hp (dst.getD 0) (.callVS a b)) (kOps Γ r dd st.fr dst K) := opsK_step (by simp)
@[simp] theorem opsK_invS {Γ : Gam} {st : St} {K : St → Prop} {dst : Option Nat} {r : List SO} {dd : List (List Nat)} {a b c} : opsK Γ (⟨dst, .invS a b c, none⟩ :: r) dd st K = gO (aop Γ st.fr st.hp (dst.getD 0) (.invS a b c)) (kOps Γ r dd st.fr dst K) := opsK_step (by simp)
@[simp] theorem opsK_bad {Γ : Gam} {st : St} {K : St → Prop} {dst : Option Nat} {r : List SO} {dd : List (List Nat)} : opsK Γ (⟨dst, .bad , none⟩ :: r) dd st K = gO (aop Γ st.fr st.hp (dst.getD 0) (.bad )) (kOps Γ r dd st.fr dst K) := opsK_step (by simp)

section
@[simp] theorem bounds_nn {len : Nat} : bounds len none none = some (0, len) := by simp [bounds]
@[simp] theorem bounds_sn {len : Nat} {t : IntKind} {n : Int} : bounds len (some (.int t n)) none = if 0 ≤ n ∧ n ≤ len then some (n.toNat, len) else none := by
  simp only [bounds, idx]
  by_cases h : 0 ≤ n
  · simp only [h, if_true, true_and]
    by_cases h2 : n ≤ len
    · rw [if_pos ⟨by omega, Nat.le_refl _⟩, if_pos h2]
    · rw [if_neg (by omega), if_neg h2]
  · simp [h]
@[simp] theorem bounds_ns {len : Nat} {t : IntKind} {n : Int} : bounds len none (some (.int t n)) = if 0 ≤ n ∧ n ≤ len then some (0, n.toNat) else none := by
  simp only [bounds, idx]
  by_cases h : 0 ≤ n
  · simp only [h, if_true, true_and]
    by_cases h2 : n ≤ len
    · rw [if_pos ⟨by omega, by omega⟩, if_pos h2]
    · rw [if_neg (by omega), if_neg h2]
  · simp [h]
@[simp] theorem bounds_ss {len : Nat} {t t' : IntKind} {l n : Int} : bounds len (some (.int t l)) (some (.int t' n)) = if 0 ≤ l ∧ l ≤ n ∧ n ≤ len then some (l.toNat, n.toNat) else none := by
  simp only [bounds, idx]
  by_cases h : 0 ≤ n
  · by_cases h1 : 0 ≤ l
    · simp only [h, h1, if_true, true_and]
      by_cases h2 : l ≤ n ∧ n ≤ len
      · rw [if_pos ⟨by omega, by omega⟩, if_pos h2]
      · rw [if_neg (by omega), if_neg h2]
    · simp [h, h1]
  · simp only [h, if_false]
    rw [if_neg (by omega)]
@[simp] theorem map_if1 {α β : Type} {f : α → β} {c : Prop} [Decidable c] {o : Option α} : (if c then o else none).map f = if c then o.map f else none := by split <;> rfl
@[simp] theorem map_if2 {α β : Type} {f : α → β} {c : Prop} [Decidable c] {o : Option α} : (if c then none else o).map f = if c then none else o.map f := by split <;> rfl
@[simp] theorem bind_if1 {α β : Type} {f : α → Option β} {c : Prop} [Decidable c] {o : Option α} : (if c then o else none).bind f = if c then o.bind f else none := by split <;> rfl
@[simp] theorem bind_if2 {α β : Type} {f : α → Option β} {c : Prop} [Decidable c] {o : Option α} : (if c then none else o).bind f = if c then none else o.bind f := by split <;> rfl
end

section
@[simp] theorem atom_int {k n} : atom (.int k n) = true := rfl
@[simp] theorem atom_str {s} : atom (.str s) = true := rfl
@[simp] theorem atom_bool {b} : atom (.bool b) = true := rfl
@[simp] theorem atom_nilI : atom (.nilI ) = true := rfl
@[simp] theorem atom_nilP : atom (.nilP ) = true := rfl
@[simp] theorem atom_nilF : atom (.nilF ) = true := rfl
@[simp] theorem atom_nilM : atom (.nilM ) = true := rfl
@[simp] theorem atom_nilS : atom (.nilS ) = true := rfl
@[simp] theorem atom_sl {e xs} : atom (.sl e xs) = true := rfl
@[simp] theorem atom_ptr {cs} : atom (.ptr cs) = true := rfl
@[simp] theorem atom_ifc {t v} : atom (.ifc t v) = true := rfl
@[simp] theorem atom_fn {f c} : atom (.fn f c) = true := rfl
@[simp] theorem atom_mp {es} : atom (.mp es) = true := rfl
@[simp] theorem atom_ref {a b} : atom (.ref a b) = true := rfl
@[simp] theorem atom_msl {a b c e} : atom (.msl a b c e) = true := rfl
@[simp] theorem atom_mref {a} : atom (.mref a) = true := rfl
@[simp] theorem atom_agg {cs} : atom (.agg cs) = false := rfl
@[simp] theorem atom_tup {cs} : atom (.tup cs) = false := rfl
@[simp] theorem atom_junk : atom (.junk ) = false := rfl
end

/-- A call that sees objects, by what its contract answers. -/
theorem acallS_of {Γ : Gam} {hp : List (Nat × AObj)} {d f : Nat} {args : List AV} {ids : List Nat} {os : List (Nat × AObj)} {q : AV × List (Nat × AObj)} {out : Out} (h1 : reach hp 200 (refsL args) [] = ids) (h2 : pickH hp ids = some os) (h3 : inIds ids (refsL args) = true) (h4 : closedH ids os = true)
    (h5 : Γ.st f (mapIdL (idxN ids) args) (mapH (idxN ids) os) = some q) (h6 : backS hp d ids q = some out) : acallS Γ hp d f args = some out := by
  subst h1
  simp only [acallS, h2, h3, h4, h5, Bool.and_self, if_true, h6]

attribute [simp] dHd dTl rmF resOk rvV runsS up6 oldK ownN lowN exportS mapId mapIdL refs refsL mapO refsO mapH pickH restH idxN nameN keysH killHs deadN freshN inIds closedH backS gstep gsteps frzG frzF frzO frzH noRefO swapN mapF snapW snapWL elems
attribute [simp] runs alen idx cut isNilA ments aload loadC slCells ycount isSl aapp aappN aappM one1 hlk hset killH killO atoms cells fillA aun leafEq leafEqL flat flatL ev killFs putS keep dropS norm abin binI binS initF retV export_ hasRef hasRefL killF kill killL ptrOk bytesA runesA slA addrA elemA assertA
end Wax

/- Functions as the abstract machine has them. -/
namespace Wax
open Go (IntKind)

/- spec.dBlank -/
def c_spec_dBlank : SFn := ⟨1,
    (.seq
      (.region [
        ⟨some 2, .mv (.k (.bool false)), none⟩] [0] [] [])
      (.seq
        (.region [
          ⟨some 3, .mv (.t 0), none⟩,
          ⟨some 4, .bin .eql (.t 3) (.k (.int .u8 32)), none⟩,
          ⟨some 5, .mv (.t 4), none⟩,
          ⟨some 6, .mv (.t 0), some (5, false)⟩,
          ⟨some 7, .bin .eql (.t 6) (.k (.int .u8 9)), some (5, false)⟩,
          ⟨some 8, .pick (.t 5) (.k (.bool true)) (.t 7), none⟩,
          ⟨some 9, .mv (.t 8), none⟩,
          ⟨some 10, .mv (.t 0), some (9, false)⟩,
          ⟨some 11, .bin .eql (.t 10) (.k (.int .u8 13)), some (9, false)⟩,
          ⟨some 12, .pick (.t 9) (.k (.bool true)) (.t 11), none⟩,
          ⟨some 13, .mv (.t 12), none⟩,
          ⟨some 14, .mv (.t 0), some (13, false)⟩,
          ⟨some 15, .bin .eql (.t 14) (.k (.int .u8 10)), some (13, false)⟩,
          ⟨some 16, .pick (.t 13) (.k (.bool true)) (.t 15), none⟩,
          ⟨some 2, .mv (.t 16), none⟩] [2] [] [[], [3], [4], [], [6], [5, 7], [8], [], [10], [9, 11], [12], [0], [14], [13, 15]])
        .ret)),
  [.t 2]⟩

def l_spec_dBlank : Lay := { rg := [(0, ([0], [])), (1, ([2], []))], dd := [(1, [[], [3], [4], [], [6], [5, 7], [8], [], [10], [9, 11], [12], [0], [14], [13, 15]])] }

/- spec.dCut -/
def c_spec_dCut : SFn := ⟨2,
    (.seq
      (.region [
        ⟨some 4, .mv (.k (.str [])), none⟩,
        ⟨some 5, .mv (.k (.str [])), none⟩,
        ⟨some 6, .mv (.k (.bool false)), none⟩] [0, 1] [] [[4], [5]])
      (.seq
        (.seq
          (.region [
            ⟨some 7, .mv (.k (.int .i64 0)), none⟩] [0, 1, 7] [] [])
          (.block 0
            (.loop [0, 1, 7]
              (.seq
                (.seq
                  (.region [
                    ⟨some 8, .mv (.t 7), none⟩,
                    ⟨some 9, .mv (.t 0), none⟩,
                    ⟨some 10, .len 0 (.t 9), none⟩,
                    ⟨some 11, .bin .lss (.t 8) (.t 10), none⟩] [0, 1, 7, 11] [] [[], [], [9]])
                  (.cond (.t 11)
                    .skip
                    (.exit 0)))
                (.seq
                  (.block 1
                    (.seq
                      (.region [
                        ⟨some 14, .mv (.t 0), none⟩,
                        ⟨some 15, .mv (.t 7), none⟩,
                        ⟨some 16, .iStr (.t 14) (.t 15), none⟩,
                        ⟨some 17, .mv (.t 1), none⟩,
                        ⟨some 18, .bin .eql (.t 16) (.t 17), none⟩] [0, 1, 7, 18] [] [[], [], [14, 15]])
                      (.cond (.t 18)
                        (.seq
                          (.region [
                            ⟨some 19, .mv (.t 0), none⟩,
                            ⟨some 20, .mv (.t 7), none⟩,
                            ⟨some 21, .slStr (.t 19) none (some (.t 20)), none⟩,
                            ⟨some 22, .mv (.t 0), none⟩,
                            ⟨some 23, .mv (.t 7), none⟩,
                            ⟨some 24, .bin .add (.t 23) (.k (.int .i64 1)), none⟩,
                            ⟨some 25, .slStr (.t 22) (some (.t 24)) none, none⟩,
                            ⟨some 4, .mv (.t 21), none⟩,
                            ⟨some 5, .mv (.t 25), none⟩,
                            ⟨some 6, .mv (.k (.bool true)), none⟩] [4, 5, 6] [] [])
                          .ret)
                        .skip)))
                  (.region [
                    ⟨some 12, .mv (.t 7), none⟩,
                    ⟨some 13, .bin .add (.t 12) (.k (.int .i64 1)), none⟩,
                    ⟨some 7, .mv (.t 13), none⟩] [0, 1, 7] [] [[], [12]]))))))
        (.seq
          (.region [
            ⟨some 26, .mv (.t 0), none⟩,
            ⟨some 4, .mv (.t 26), none⟩,
            ⟨some 5, .mv (.k (.str [])), none⟩,
            ⟨some 6, .mv (.k (.bool false)), none⟩] [4, 5, 6] [] [[0], [26]])
          .ret))),
  [.t 4, .t 5, .t 6]⟩

def l_spec_dCut : Lay := { rg := [(0, ([0, 1], [])), (1, ([0, 1, 7], [])), (2, ([0, 1, 7, 11], [])), (3, ([0, 1, 7], [])), (4, ([0, 1, 7, 18], [])), (5, ([4, 5, 6], [])), (6, ([4, 5, 6], [])), (1000002, ([0, 1, 7], []))], dd := [(0, [[4], [5]]), (2, [[], [], [9]]), (3, [[], [12]]), (4, [[], [], [14, 15]]), (6, [[0], [26]])] }

/- spec.DTrim -/
def b_spec_DTrim_1 : SCode :=
  (.seq
    (.seq
      (.region [
        ⟨some 3, .mv (.t 0), none⟩,
        ⟨some 4, .bin .neq (.t 3) (.k (.str [])), none⟩,
        ⟨some 5, .mv (.t 4), none⟩,
        ⟨some 6, .mv (.t 0), some (5, true)⟩,
        ⟨some 7, .iStr (.t 6) (.k (.int .i64 0)), some (5, true)⟩,
        ⟨some 8, .call 1 [(.t 7)], some (5, true)⟩,
        ⟨some 9, .pick (.t 5) (.t 8) (.k (.bool false)), none⟩] [0, 9] [] [[], [3], [4], [], [6], [7]])
      (.cond (.t 9)
        .skip
        (.exit 0)))
    (.block 1
      (.region [
        ⟨some 10, .mv (.t 0), none⟩,
        ⟨some 11, .slStr (.t 10) (some (.k (.int .i64 1))) none, none⟩,
        ⟨some 0, .mv (.t 11), none⟩] [0] [] [[], [10]])))

def b_spec_DTrim_2 : SCode :=
  (.seq
    (.seq
      (.region [
        ⟨some 12, .mv (.t 0), none⟩,
        ⟨some 13, .bin .neq (.t 12) (.k (.str [])), none⟩,
        ⟨some 14, .mv (.t 13), none⟩,
        ⟨some 15, .mv (.t 0), some (14, true)⟩,
        ⟨some 16, .mv (.t 0), some (14, true)⟩,
        ⟨some 17, .len 0 (.t 16), some (14, true)⟩,
        ⟨some 18, .bin .sub (.t 17) (.k (.int .i64 1)), some (14, true)⟩,
        ⟨some 19, .iStr (.t 15) (.t 18), some (14, true)⟩,
        ⟨some 20, .call 1 [(.t 19)], some (14, true)⟩,
        ⟨some 21, .pick (.t 14) (.t 20) (.k (.bool false)), none⟩] [0, 21] [] [[], [12], [13], [], [], [16], [17], [15, 18], [19]])
      (.cond (.t 21)
        .skip
        (.exit 2)))
    (.block 3
      (.region [
        ⟨some 22, .mv (.t 0), none⟩,
        ⟨some 23, .mv (.t 0), none⟩,
        ⟨some 24, .len 0 (.t 23), none⟩,
        ⟨some 25, .bin .sub (.t 24) (.k (.int .i64 1)), none⟩,
        ⟨some 26, .slStr (.t 22) none (some (.t 25)), none⟩,
        ⟨some 0, .mv (.t 26), none⟩] [0] [] [[], [], [23], [24], [22, 25]])))

def t_spec_DTrim_3 : SCode :=
  (.seq
    (.region [
      ⟨some 27, .mv (.t 0), none⟩,
      ⟨some 2, .mv (.t 27), none⟩] [2] [] [[0]])
    .ret)

def t_spec_DTrim_4 : SCode :=
  (.seq
    (.block 2
      (.loop [0]
        b_spec_DTrim_2))
    t_spec_DTrim_3)

def c_spec_DTrim : SFn := ⟨1,
    (.seq
      (.region [
        ⟨some 2, .mv (.k (.str [])), none⟩] [0] [] [])
      (.seq
        (.block 0
          (.loop [0]
            b_spec_DTrim_1))
        t_spec_DTrim_4)),
  [.t 2]⟩

def l_spec_DTrim : Lay := { rg := [(0, ([0], [])), (1, ([0, 9], [])), (2, ([0], [])), (3, ([0, 21], [])), (4, ([0], [])), (5, ([2], [])), (1000001, ([0], [])), (1000003, ([0], []))], dd := [(1, [[], [3], [4], [], [6], [7]]), (2, [[], [10]]), (3, [[], [12], [13], [], [], [16], [17], [15, 18], [19]]), (4, [[], [], [23], [24], [22, 25]]), (5, [[0]])] }

/- spec.DLower -/
def c_spec_DLower : SFn := ⟨1,
    (.seq
      (.region [
        ⟨some 2, .mv (.k (.str [])), none⟩] [0] [] [])
      (.seq
        (.region [
          ⟨some 5, .mv (.t 0), none⟩,
          ⟨some 6, .cStrBytes (.t 5), none⟩,
          ⟨some 3, .mv (.t 6), none⟩] [3] [] [[0], [5]])
        (.seq
          (.seq
            (.region [
              ⟨some 4, .mv (.k (.int .i64 0)), none⟩] [3, 4] [] [])
            (.block 0
              (.loop [3, 4]
                (.seq
                  (.seq
                    (.region [
                      ⟨some 7, .mv (.t 4), none⟩,
                      ⟨some 8, .mv (.t 3), none⟩,
                      ⟨some 9, .len 1 (.t 8), none⟩,
                      ⟨some 10, .bin .lss (.t 7) (.t 9), none⟩] [3, 4, 10] [] [[], [], [8]])
                    (.cond (.t 10)
                      .skip
                      (.exit 0)))
                  (.seq
                    (.block 1
                      (.seq
                        (.region [
                          ⟨some 13, .mv (.t 3), none⟩,
                          ⟨some 14, .mv (.t 4), none⟩,
                          ⟨some 15, .iAddr 1 (.t 13) (.t 14), none⟩,
                          ⟨some 16, .load none (.t 15), none⟩,
                          ⟨some 17, .bin .geq (.t 16) (.k (.int .u8 65)), none⟩,
                          ⟨some 18, .mv (.t 17), none⟩,
                          ⟨some 19, .mv (.t 3), some (18, true)⟩,
                          ⟨some 20, .mv (.t 4), some (18, true)⟩,
                          ⟨some 21, .iAddr 1 (.t 19) (.t 20), some (18, true)⟩,
                          ⟨some 22, .load none (.t 21), some (18, true)⟩,
                          ⟨some 23, .bin .leq (.t 22) (.k (.int .u8 90)), some (18, true)⟩,
                          ⟨some 24, .pick (.t 18) (.t 23) (.k (.bool false)), none⟩] [3, 4, 24] [] [[], [], [13, 14], [15], [16], [17], [], [], [19, 20], [21], [22]])
                        (.cond (.t 24)
                          (.region [
                            ⟨some 25, .mv (.t 3), none⟩,
                            ⟨some 26, .mv (.t 4), none⟩,
                            ⟨some 27, .mv (.t 3), none⟩,
                            ⟨some 28, .mv (.t 4), none⟩,
                            ⟨some 29, .iAddr 1 (.t 27) (.t 28), none⟩,
                            ⟨some 30, .load none (.t 29), none⟩,
                            ⟨some 31, .bin .add (.t 30) (.k (.int .u8 32)), none⟩,
                            ⟨some 32, .iAddr 1 (.t 25) (.t 26), none⟩,
                            ⟨none, .store 1 (.t 32) (.t 31), none⟩] [3, 4] [] [[], [], [], [], [27, 28], [29], [30], [25, 26]])
                          .skip)))
                    (.region [
                      ⟨some 11, .mv (.t 4), none⟩,
                      ⟨some 12, .bin .add (.t 11) (.k (.int .i64 1)), none⟩,
                      ⟨some 4, .mv (.t 12), none⟩] [3, 4] [] [[], [11]]))))))
          (.seq
            (.region [
              ⟨some 33, .mv (.t 3), none⟩,
              ⟨some 34, .cBytesStr (.t 33), none⟩,
              ⟨some 2, .mv (.t 34), none⟩] [2] [6] [[3], [33]])
            .ret)))),
  [.t 2]⟩

def l_spec_DLower : Lay := { rg := [(0, ([0], [])), (1, ([3], [])), (2, ([3, 4], [])), (3, ([3, 4, 10], [])), (4, ([3, 4], [])), (5, ([3, 4, 24], [])), (6, ([3, 4], [])), (7, ([2], [6])), (1000003, ([3, 4], []))], dd := [(1, [[0], [5]]), (3, [[], [], [8]]), (4, [[], [11]]), (5, [[], [], [13, 14], [15], [16], [17], [], [], [19, 20], [21], [22]]), (6, [[], [], [], [], [27, 28], [29], [30], [25, 26]]), (7, [[3], [33]])] }

/- spec.DStrip -/
def c_spec_DStrip : SFn := ⟨1,
    (.seq
      (.region [
        ⟨some 2, .mv (.k (.str [])), none⟩] [0] [] [])
      (.seq
        (.region [
          ⟨some 3, .mv (.k .nilS), none⟩] [0, 3] [] [])
        (.seq
          (.seq
            (.region [
              ⟨some 4, .mv (.k (.int .i64 0)), none⟩] [0, 3, 4] [] [])
            (.block 0
              (.loop [0, 3, 4]
                (.seq
                  (.seq
                    (.region [
                      ⟨some 5, .mv (.t 4), none⟩,
                      ⟨some 6, .mv (.t 0), none⟩,
                      ⟨some 7, .len 0 (.t 6), none⟩,
                      ⟨some 8, .bin .lss (.t 5) (.t 7), none⟩] [0, 3, 4, 8] [] [[], [], [6]])
                    (.cond (.t 8)
                      .skip
                      (.exit 0)))
                  (.seq
                    (.block 1
                      (.seq
                        (.region [
                          ⟨some 11, .mv (.t 0), none⟩,
                          ⟨some 12, .mv (.t 4), none⟩,
                          ⟨some 13, .iStr (.t 11) (.t 12), none⟩,
                          ⟨some 14, .call 1 [(.t 13)], none⟩,
                          ⟨some 15, .un .not (.t 14), none⟩] [0, 3, 4, 15] [] [[], [], [11, 12], [13]])
                        (.cond (.t 15)
                          (.region [
                            ⟨some 16, .mv (.t 3), none⟩,
                            ⟨some 17, .mv (.t 0), none⟩,
                            ⟨some 18, .mv (.t 4), none⟩,
                            ⟨some 19, .iStr (.t 17) (.t 18), none⟩,
                            ⟨some 20, .mkSl 1 1 [(.int .u8 0)] [(0, (.t 19))], none⟩,
                            ⟨some 21, .app 1 1 (.t 16) (.t 20), none⟩,
                            ⟨some 3, .mv (.t 21), none⟩] [0, 3, 4] [20] [[], [], [], [17, 18], [19], [16, 20]])
                          .skip)))
                    (.region [
                      ⟨some 9, .mv (.t 4), none⟩,
                      ⟨some 10, .bin .add (.t 9) (.k (.int .i64 1)), none⟩,
                      ⟨some 4, .mv (.t 10), none⟩] [0, 3, 4] [] [[], [9]]))))))
          (.seq
            (.region [
              ⟨some 22, .mv (.t 3), none⟩,
              ⟨some 23, .cBytesStr (.t 22), none⟩,
              ⟨some 2, .mv (.t 23), none⟩] [2] [21] [[3], [22]])
            .ret)))),
  [.t 2]⟩

def l_spec_DStrip : Lay := { rg := [(0, ([0], [])), (1, ([0, 3], [])), (2, ([0, 3, 4], [])), (3, ([0, 3, 4, 8], [])), (4, ([0, 3, 4], [])), (5, ([0, 3, 4, 15], [])), (6, ([0, 3, 4], [20])), (7, ([2], [21])), (1000003, ([0, 3, 4], []))], dd := [(3, [[], [], [6]]), (4, [[], [9]]), (5, [[], [], [11, 12], [13]]), (6, [[], [], [], [17, 18], [19], [16, 20]]), (7, [[3], [22]])] }

/- spec.dJoined -/
def c_spec_dJoined : SFn := ⟨1,
    (.seq
      (.region [
        ⟨some 2, .mv (.k (.str [])), none⟩] [0] [] [])
      (.seq
        (.region [
          ⟨some 3, .mv (.k .nilS), none⟩] [0, 3] [] [])
        (.seq
          (.region [
            ⟨some 4, .mv (.k (.bool false)), none⟩] [0, 3, 4] [] [])
          (.seq
            (.seq
              (.region [
                ⟨some 5, .mv (.k (.int .i64 0)), none⟩] [0, 3, 4, 5] [] [])
              (.block 0
                (.loop [0, 3, 4, 5]
                  (.seq
                    (.seq
                      (.region [
                        ⟨some 6, .mv (.t 5), none⟩,
                        ⟨some 7, .mv (.t 0), none⟩,
                        ⟨some 8, .len 0 (.t 7), none⟩,
                        ⟨some 9, .bin .lss (.t 6) (.t 8), none⟩] [0, 3, 4, 5, 9] [] [[], [], [7]])
                      (.cond (.t 9)
                        .skip
                        (.exit 0)))
                    (.seq
                      (.block 1
                        (.seq
                          (.seq
                            (.region [
                              ⟨some 12, .mv (.t 0), none⟩,
                              ⟨some 13, .mv (.t 5), none⟩,
                              ⟨some 14, .iStr (.t 12) (.t 13), none⟩,
                              ⟨some 15, .call 1 [(.t 14)], none⟩] [0, 3, 4, 5, 15] [] [[], [], [12, 13]])
                            (.cond (.t 15)
                              (.seq
                                (.region [
                                  ⟨some 16, .mv (.t 3), none⟩,
                                  ⟨some 17, .len 1 (.t 16), none⟩,
                                  ⟨some 18, .bin .gtr (.t 17) (.k (.int .i64 0)), none⟩,
                                  ⟨some 4, .mv (.t 18), none⟩] [0, 3, 4, 5] [] [[], [16], [17]])
                                (.exit 1))
                              .skip))
                          (.seq
                            (.seq
                              (.region [
                                ⟨some 19, .mv (.t 4), none⟩] [0, 3, 4, 5, 19] [] [])
                              (.cond (.t 19)
                                (.seq
                                  (.region [
                                    ⟨some 20, .mv (.t 3), none⟩,
                                    ⟨some 21, .mkSl 1 1 [(.int .u8 0)] [(0, (.k (.int .u8 32)))], none⟩,
                                    ⟨some 22, .app 1 1 (.t 20) (.t 21), none⟩,
                                    ⟨some 3, .mv (.t 22), none⟩] [0, 3, 5] [21] [[], [], [20, 21]])
                                  (.region [
                                    ⟨some 4, .mv (.k (.bool false)), none⟩] [0, 3, 4, 5] [] []))
                                .skip))
                            (.region [
                              ⟨some 23, .mv (.t 3), none⟩,
                              ⟨some 24, .mv (.t 0), none⟩,
                              ⟨some 25, .mv (.t 5), none⟩,
                              ⟨some 26, .iStr (.t 24) (.t 25), none⟩,
                              ⟨some 27, .mkSl 1 1 [(.int .u8 0)] [(0, (.t 26))], none⟩,
                              ⟨some 28, .app 1 1 (.t 23) (.t 27), none⟩,
                              ⟨some 3, .mv (.t 28), none⟩] [0, 3, 4, 5] [27] [[], [], [], [24, 25], [26], [23, 27]]))))
                      (.region [
                        ⟨some 10, .mv (.t 5), none⟩,
                        ⟨some 11, .bin .add (.t 10) (.k (.int .i64 1)), none⟩,
                        ⟨some 5, .mv (.t 11), none⟩] [0, 3, 4, 5] [] [[], [10]]))))))
            (.seq
              (.region [
                ⟨some 29, .mv (.t 3), none⟩,
                ⟨some 30, .cBytesStr (.t 29), none⟩,
                ⟨some 2, .mv (.t 30), none⟩] [2] [22, 28] [[3], [29]])
              .ret))))),
  [.t 2]⟩

def l_spec_dJoined : Lay := { rg := [(0, ([0], [])), (1, ([0, 3], [])), (2, ([0, 3, 4], [])), (3, ([0, 3, 4, 5], [])), (4, ([0, 3, 4, 5, 9], [])), (5, ([0, 3, 4, 5], [])), (6, ([0, 3, 4, 5, 15], [])), (7, ([0, 3, 4, 5], [])), (8, ([0, 3, 4, 5, 19], [])), (9, ([0, 3, 5], [21])), (10, ([0, 3, 4, 5], [])), (11, ([0, 3, 4, 5], [27])), (12, ([2], [22, 28])), (1000004, ([0, 3, 4, 5], []))], dd := [(4, [[], [], [7]]), (5, [[], [10]]), (6, [[], [], [12, 13]]), (7, [[], [16], [17]]), (9, [[], [], [20, 21]]), (11, [[], [], [], [24, 25], [26], [23, 27]]), (12, [[3], [29]])] }

/- spec.DName -/
def c_spec_DName : SFn := ⟨1,
    (.seq
      (.region [
        ⟨some 2, .mv (.k (.str [])), none⟩] [0] [] [])
      (.seq
        (.region [
          ⟨some 7, .mv (.t 0), none⟩,
          ⟨some 8, .call 2 [(.t 7), (.k (.int .u8 58))], none⟩,
          ⟨some 6, .mv (.t 8), none⟩,
          ⟨some 9, .extr (.t 6) 0, none⟩,
          ⟨some 10, .extr (.t 6) 1, none⟩,
          ⟨some 11, .extr (.t 6) 2, none⟩,
          ⟨some 3, .mv (.t 9), none⟩,
          ⟨some 4, .mv (.t 10), none⟩,
          ⟨some 5, .mv (.t 11), none⟩] [3] [] [[0], [7], [8], [], [], [6], [9], [4, 10]])
        (.seq
          (.region [
            ⟨some 12, .mv (.t 3), none⟩,
            ⟨some 13, .call 3 [(.t 12)], none⟩,
            ⟨some 2, .mv (.t 13), none⟩] [2] [] [[3], [12]])
          .ret))),
  [.t 2]⟩

def l_spec_DName : Lay := { rg := [(0, ([0], [])), (1, ([3], [])), (2, ([2], []))], dd := [(1, [[0], [7], [8], [], [], [6], [9], [4, 10]]), (2, [[3], [12]])] }

/- spec.DFieldOf -/
def c_spec_DFieldOf : SFn := ⟨2,
    (.seq
      (.region [
        ⟨some 4, .mv (.k (.str [])), none⟩] [0, 1] [] [])
      (.seq
        (.seq
          (.region [
            ⟨some 8, .mv (.t 0), none⟩,
            ⟨some 9, .bin .eql (.t 8) (.k (.str [115, 105, 109, 112, 108, 101])), none⟩] [1, 9] [] [[0]])
          (.cond (.t 9)
            (.seq
              (.region [
                ⟨some 10, .mv (.t 1), none⟩,
                ⟨some 4, .mv (.t 10), none⟩] [4] [] [[1]])
              .ret)
            .skip))
        (.seq
          (.region [
            ⟨some 12, .mv (.t 1), none⟩,
            ⟨some 13, .call 2 [(.t 12), (.k (.int .u8 58))], none⟩,
            ⟨some 11, .mv (.t 13), none⟩,
            ⟨some 14, .extr (.t 11) 0, none⟩,
            ⟨some 15, .extr (.t 11) 1, none⟩,
            ⟨some 16, .extr (.t 11) 2, none⟩,
            ⟨some 5, .mv (.t 14), none⟩,
            ⟨some 6, .mv (.t 15), none⟩,
            ⟨some 7, .mv (.t 16), none⟩] [1, 5, 6, 7] [] [[], [12], [13], [], [], [11], [14], [15]])
          (.seq
            (.seq
              (.region [
                ⟨some 17, .mv (.t 7), none⟩,
                ⟨some 18, .un .not (.t 17), none⟩] [1, 5, 6, 18] [] [[7]])
              (.cond (.t 18)
                (.seq
                  (.region [
                    ⟨some 19, .mv (.t 1), none⟩,
                    ⟨some 20, .call 4 [(.t 19)], none⟩,
                    ⟨some 21, .call 3 [(.t 20)], none⟩,
                    ⟨some 22, .bin .add (.t 21) (.k (.str [58, 13, 10])), none⟩,
                    ⟨some 4, .mv (.t 22), none⟩] [4] [] [[1], [19], [20], [21]])
                  .ret)
                .skip))
            (.seq
              (.region [
                ⟨some 23, .mv (.t 5), none⟩,
                ⟨some 24, .call 4 [(.t 23)], none⟩,
                ⟨some 25, .call 3 [(.t 24)], none⟩,
                ⟨some 26, .bin .add (.t 25) (.k (.str [58])), none⟩,
                ⟨some 27, .mv (.t 6), none⟩,
                ⟨some 28, .call 5 [(.t 27)], none⟩,
                ⟨some 29, .bin .add (.t 26) (.t 28), none⟩,
                ⟨some 30, .bin .add (.t 29) (.k (.str [13, 10])), none⟩,
                ⟨some 4, .mv (.t 30), none⟩] [4] [] [[5], [23], [24], [25], [6], [27], [26, 28], [29]])
              .ret))))),
  [.t 4]⟩

def l_spec_DFieldOf : Lay := { rg := [(0, ([0, 1], [])), (1, ([1, 9], [])), (2, ([4], [])), (3, ([1, 5, 6, 7], [])), (4, ([1, 5, 6, 18], [])), (5, ([4], [])), (6, ([4], []))], dd := [(1, [[0]]), (2, [[1]]), (3, [[], [12], [13], [], [], [11], [14], [15]]), (4, [[7]]), (5, [[1], [19], [20], [21]]), (6, [[5], [23], [24], [25], [6], [27], [26, 28], [29]])] }

/- spec.DPlain -/
def c_spec_DPlain : SFn := ⟨2,
    (.seq
      (.region [
        ⟨some 4, .mv (.k (.bool false)), none⟩] [0, 1] [] [])
      (.seq
        (.seq
          (.region [
            ⟨some 5, .mv (.k (.int .i64 0)), none⟩] [0, 1, 5] [] [])
          (.block 0
            (.loop [0, 1, 5]
              (.seq
                (.seq
                  (.region [
                    ⟨some 6, .mv (.t 5), none⟩,
                    ⟨some 7, .mv (.t 0), none⟩,
                    ⟨some 8, .len 0 (.t 7), none⟩,
                    ⟨some 9, .bin .lss (.t 6) (.t 8), none⟩] [0, 1, 5, 9] [] [[], [], [7]])
                  (.cond (.t 9)
                    .skip
                    (.exit 0)))
                (.seq
                  (.block 1
                    (.seq
                      (.region [
                        ⟨some 12, .mv (.t 0), none⟩,
                        ⟨some 13, .mv (.t 5), none⟩,
                        ⟨some 14, .iStr (.t 12) (.t 13), none⟩,
                        ⟨some 15, .bin .geq (.t 14) (.k (.int .u8 128)), none⟩,
                        ⟨some 16, .mv (.t 15), none⟩,
                        ⟨some 17, .mv (.t 0), some (16, false)⟩,
                        ⟨some 18, .mv (.t 5), some (16, false)⟩,
                        ⟨some 19, .iStr (.t 17) (.t 18), some (16, false)⟩,
                        ⟨some 20, .bin .eql (.t 19) (.k (.int .u8 11)), some (16, false)⟩,
                        ⟨some 21, .pick (.t 16) (.k (.bool true)) (.t 20), none⟩,
                        ⟨some 22, .mv (.t 21), none⟩,
                        ⟨some 23, .mv (.t 0), some (22, false)⟩,
                        ⟨some 24, .mv (.t 5), some (22, false)⟩,
                        ⟨some 25, .iStr (.t 23) (.t 24), some (22, false)⟩,
                        ⟨some 26, .bin .eql (.t 25) (.k (.int .u8 12)), some (22, false)⟩,
                        ⟨some 27, .pick (.t 22) (.k (.bool true)) (.t 26), none⟩] [0, 1, 5, 27] [] [[], [], [12, 13], [14], [15], [], [], [17, 18], [19], [16, 20], [21], [], [], [23, 24], [25]])
                      (.cond (.t 27)
                        (.seq
                          (.region [
                            ⟨some 4, .mv (.k (.bool false)), none⟩] [4] [] [])
                          .ret)
                        .skip)))
                  (.region [
                    ⟨some 10, .mv (.t 5), none⟩,
                    ⟨some 11, .bin .add (.t 10) (.k (.int .i64 1)), none⟩,
                    ⟨some 5, .mv (.t 11), none⟩] [0, 1, 5] [] [[], [10]]))))))
        (.seq
          (.region [
            ⟨some 28, .mv (.t 0), none⟩,
            ⟨some 29, .len 0 (.t 28), none⟩,
            ⟨some 30, .mv (.t 1), none⟩,
            ⟨some 31, .bin .leq (.t 29) (.t 30), none⟩,
            ⟨some 4, .mv (.t 31), none⟩] [4] [] [[0], [28], [1], [29, 30]])
          .ret))),
  [.t 4]⟩

def l_spec_DPlain : Lay := { rg := [(0, ([0, 1], [])), (1, ([0, 1, 5], [])), (2, ([0, 1, 5, 9], [])), (3, ([0, 1, 5], [])), (4, ([0, 1, 5, 27], [])), (5, ([4], [])), (6, ([4], [])), (1000002, ([0, 1, 5], []))], dd := [(2, [[], [], [7]]), (3, [[], [10]]), (4, [[], [], [12, 13], [14], [15], [], [], [17, 18], [19], [16, 20], [21], [], [], [23, 24], [25]]), (6, [[0], [28], [1], [29, 30]])] }

/- laws.dForm -/
def c_laws_dForm : SFn := ⟨1,
    (.seq
      (.region [
        ⟨some 2, .mv (.k (.bool false)), none⟩] [0] [] [])
      (.seq
        (.region [
          ⟨some 3, .mv (.t 0), none⟩,
          ⟨some 4, .bin .eql (.t 3) (.k (.str [115, 105, 109, 112, 108, 101])), none⟩,
          ⟨some 5, .mv (.t 4), none⟩,
          ⟨some 6, .mv (.t 0), some (5, false)⟩,
          ⟨some 7, .bin .eql (.t 6) (.k (.str [114, 101, 108, 97, 120, 101, 100])), some (5, false)⟩,
          ⟨some 8, .pick (.t 5) (.k (.bool true)) (.t 7), none⟩,
          ⟨some 2, .mv (.t 8), none⟩] [2] [] [[], [3], [4], [0], [6], [5, 7]])
        .ret)),
  [.t 2]⟩

def l_laws_dForm : Lay := { rg := [(0, ([0], [])), (1, ([2], []))], dd := [(1, [[], [3], [4], [0], [6], [5, 7]])] }

/- laws.dShort -/
def c_laws_dShort : SFn := ⟨2,
    (.seq
      (.region [
        ⟨some 4, .mv (.k (.bool false)), none⟩] [0, 1] [] [])
      (.seq
        (.seq
          (.region [
            ⟨some 5, .mv (.k (.int .i64 0)), none⟩] [0, 1, 5] [] [])
          (.block 0
            (.loop [0, 1, 5]
              (.seq
                (.seq
                  (.region [
                    ⟨some 6, .mv (.t 5), none⟩,
                    ⟨some 7, .mv (.t 1), none⟩,
                    ⟨some 8, .len 1 (.t 7), none⟩,
                    ⟨some 9, .bin .lss (.t 6) (.t 8), none⟩] [0, 1, 5, 9] [] [[], [], [7]])
                  (.cond (.t 9)
                    .skip
                    (.exit 0)))
                (.seq
                  (.block 1
                    (.seq
                      (.region [
                        ⟨some 12, .mv (.t 1), none⟩,
                        ⟨some 13, .mv (.t 5), none⟩,
                        ⟨some 14, .iAddr 1 (.t 12) (.t 13), none⟩,
                        ⟨some 15, .load none (.t 14), none⟩,
                        ⟨some 16, .mv (.t 0), none⟩,
                        ⟨some 17, .call 6 [(.t 15), (.t 16)], none⟩,
                        ⟨some 18, .un .not (.t 17), none⟩] [0, 1, 5, 18] [] [[], [], [12, 13], [14], [], [15, 16]])
                      (.cond (.t 18)
                        (.seq
                          (.region [
                            ⟨some 4, .mv (.k (.bool false)), none⟩] [4] [] [])
                          .ret)
                        .skip)))
                  (.region [
                    ⟨some 10, .mv (.t 5), none⟩,
                    ⟨some 11, .bin .add (.t 10) (.k (.int .i64 1)), none⟩,
                    ⟨some 5, .mv (.t 11), none⟩] [0, 1, 5] [] [[], [10]]))))))
        (.seq
          (.region [
            ⟨some 19, .mv (.t 1), none⟩,
            ⟨some 20, .len 1 (.t 19), none⟩,
            ⟨some 21, .bin .leq (.t 20) (.k (.int .i64 200)), none⟩,
            ⟨some 4, .mv (.t 21), none⟩] [4] [] [[1], [19], [20]])
          .ret))),
  [.t 4]⟩

def l_laws_dShort : Lay := { rg := [(0, ([0, 1], [])), (1, ([0, 1, 5], [])), (2, ([0, 1, 5, 9], [])), (3, ([0, 1, 5], [])), (4, ([0, 1, 5, 18], [])), (5, ([4], [])), (6, ([4], [])), (1000002, ([0, 1, 5], []))], dd := [(2, [[], [], [7]]), (3, [[], [10]]), (4, [[], [], [12, 13], [14], [], [15, 16]]), (6, [[1], [19], [20]])] }

/- laws.dAwake -/
def c_laws_dAwake : SFn := ⟨0,
    (.seq
      (.region [
        ⟨some 0, .mv (.k (.bool false)), none⟩] [] [] [])
      (.seq
        (.region [
          ⟨some 1, .call 7 [(.k (.str [97, 58, 98]))], none⟩,
          ⟨some 2, .len 1 (.t 1), none⟩,
          ⟨some 3, .bin .eql (.t 2) (.k (.int .i64 2)), none⟩,
          ⟨some 4, .mv (.t 3), none⟩,
          ⟨some 5, .call 8 [(.k (.str [114, 101, 108, 97, 120, 101, 100])), (.k (.str [65, 58, 32, 66, 13, 10]))], some (4, true)⟩,
          ⟨some 6, .bin .eql (.t 5) (.k (.str [97, 58, 66, 13, 10])), some (4, true)⟩,
          ⟨some 7, .pick (.t 4) (.t 6) (.k (.bool false)), none⟩,
          ⟨some 0, .mv (.t 7), none⟩] [0] [] [[], [1], [2], [3], [], [5], [4, 6]])
        .ret)),
  [.t 0]⟩

def l_laws_dAwake : Lay := { rg := [(0, ([], [])), (1, ([0], []))], dd := [(1, [[], [1], [2], [3], [], [5], [4, 6]])] }

/- laws.FnDCanonFields -/
def c_laws_FnDCanonFields : SFn := ⟨2,
    (.seq
      (.region [
        ⟨some 4, .mv (.k (.bool false)), none⟩] [0, 1] [] [])
      (.seq
        (.seq
          (.region [
            ⟨some 5, .mv (.t 0), none⟩,
            ⟨some 6, .len 0 (.t 5), none⟩,
            ⟨some 7, .bin .gtr (.t 6) (.k (.int .i64 2147483647)), none⟩,
            ⟨some 8, .mv (.t 7), none⟩,
            ⟨some 9, .mv (.t 1), some (8, false)⟩,
            ⟨some 10, .len 0 (.t 9), some (8, false)⟩,
            ⟨some 11, .bin .gtr (.t 10) (.k (.int .i64 2147483647)), some (8, false)⟩,
            ⟨some 12, .pick (.t 8) (.k (.bool true)) (.t 11), none⟩] [0, 1, 12] [] [[], [5], [6], [7], [], [9], [10]])
          (.cond (.t 12)
            (.seq
              (.region [
                ⟨some 4, .mv (.k (.bool true)), none⟩] [4] [] [])
              .ret)
            .skip))
        (.seq
          (.seq
            (.region [
              ⟨some 13, .mv (.t 0), none⟩,
              ⟨some 14, .call 9 [(.t 13)], none⟩,
              ⟨some 15, .un .not (.t 14), none⟩,
              ⟨some 16, .mv (.t 15), none⟩,
              ⟨some 17, .mv (.t 1), some (16, false)⟩,
              ⟨some 18, .mkSl 1 1 [(.str [])] [(0, (.t 17))], some (16, false)⟩,
              ⟨some 19, .call 10 [(.k (.int .i64 2000)), (.t 18)], some (16, false)⟩,
              ⟨some 20, .un .not (.t 19), some (16, false)⟩,
              ⟨some 21, .pick (.t 16) (.k (.bool true)) (.t 20), none⟩] [0, 1, 21] [18] [[], [13], [14], [15], [], [17], [18], [19]])
            (.cond (.t 21)
              (.seq
                (.region [
                  ⟨some 22, .call 11 [], none⟩,
                  ⟨some 4, .mv (.t 22), none⟩] [4] [] [])
                .ret)
              .skip))
          (.seq
            (.region [
              ⟨some 23, .mv (.t 0), none⟩,
              ⟨some 24, .mv (.t 1), none⟩,
              ⟨some 25, .call 8 [(.t 23), (.t 24)], none⟩,
              ⟨some 26, .mv (.t 0), none⟩,
              ⟨some 27, .mv (.t 1), none⟩,
              ⟨some 28, .call 12 [(.t 26), (.t 27)], none⟩,
              ⟨some 29, .bin .eql (.t 25) (.t 28), none⟩,
              ⟨some 4, .mv (.t 29), none⟩] [4] [] [[], [], [23, 24], [0], [1], [26, 27], [25, 28]])
            .ret)))),
  [.t 4]⟩

def l_laws_FnDCanonFields : Lay := { rg := [(0, ([0, 1], [])), (1, ([0, 1, 12], [])), (2, ([4], [])), (3, ([0, 1, 21], [18])), (4, ([4], [])), (5, ([4], []))], dd := [(1, [[], [5], [6], [7], [], [9], [10]]), (3, [[], [13], [14], [15], [], [17], [18], [19]]), (5, [[], [], [23, 24], [0], [1], [26, 27], [25, 28]])] }

/- impl.DCanonField -/
def c_impl_DCanonField : SFn := ⟨2,
    (.seq
      (.region [
        ⟨some 4, .mv (.k (.str [])), none⟩] [0, 1] [] [])
      (.seq
        (.region [
          ⟨some 8, .mv (.t 0), none⟩,
          ⟨some 9, .mv (.t 1), none⟩,
          ⟨some 10, .call 13 [(.t 8), (.t 9)], none⟩,
          ⟨some 7, .mv (.t 10), none⟩,
          ⟨some 11, .extr (.t 7) 0, none⟩,
          ⟨some 12, .extr (.t 7) 1, none⟩,
          ⟨some 5, .mv (.t 11), none⟩,
          ⟨some 6, .mv (.t 12), none⟩] [5] [] [[0], [1], [8, 9], [10], [], [7], [11]])
        (.seq
          (.region [
            ⟨some 13, .mv (.t 5), none⟩,
            ⟨some 4, .mv (.t 13), none⟩] [4] [] [[5]])
          .ret))),
  [.t 4]⟩

def l_impl_DCanonField : Lay := { rg := [(0, ([0, 1], [])), (1, ([5], [])), (2, ([4], []))], dd := [(1, [[0], [1], [8, 9], [10], [], [7], [11]]), (2, [[5]])] }

/- impl.DList -/
def c_impl_DList : SFn := ⟨1,
    (.seq
      (.region [
        ⟨some 2, .mv (.k .nilS), none⟩] [0] [] [])
      (.seq
        (.region [
          ⟨some 3, .mv (.t 0), none⟩,
          ⟨some 4, .call 14 [(.t 3)], none⟩,
          ⟨some 2, .mv (.t 4), none⟩] [2] [] [[0], [3]])
        .ret)),
  [.t 2]⟩

def l_impl_DList : Lay := { rg := [(0, ([0], [])), (1, ([2], []))], dd := [(1, [[0], [3]])] }

/- dkim.CanonicalHeader -/
def c_dkim_CanonicalHeader : SFn := ⟨2,
    (.seq
      (.region [
        ⟨some 4, .mv (.k (.str [])), none⟩,
        ⟨some 5, .mv (.k (.bool false)), none⟩] [0, 1] [] [[4]])
      (.seq
        (.region [
          ⟨some 9, .mv (.t 0), none⟩,
          ⟨some 10, .call 15 [(.t 9)], none⟩,
          ⟨some 8, .mv (.t 10), none⟩,
          ⟨some 11, .extr (.t 8) 0, none⟩,
          ⟨some 12, .extr (.t 8) 1, none⟩,
          ⟨some 6, .mv (.t 11), none⟩,
          ⟨some 7, .mv (.t 12), none⟩] [1, 6, 7] [] [[0], [9], [10], [], [8], [11]])
        (.seq
          (.seq
            (.region [
              ⟨some 13, .mv (.t 7), none⟩,
              ⟨some 14, .un .not (.t 13), none⟩] [1, 6, 14] [] [[7]])
            (.cond (.t 14)
              (.seq
                (.region [
                  ⟨some 4, .mv (.k (.str [])), none⟩,
                  ⟨some 5, .mv (.k (.bool false)), none⟩] [4, 5] [] [])
                .ret)
              .skip))
          (.seq
            (.region [
              ⟨some 15, .mv (.t 6), none⟩,
              ⟨some 16, .mv (.t 1), none⟩,
              ⟨some 17, .inv (.t 15) "CanonicalizeHeader" [(.t 16)], none⟩,
              ⟨some 4, .mv (.t 17), none⟩,
              ⟨some 5, .mv (.k (.bool true)), none⟩] [4, 5] [] [[6], [1], [15, 16], [17]])
            .ret)))),
  [.t 4, .t 5]⟩

def l_dkim_CanonicalHeader : Lay := { rg := [(0, ([0, 1], [])), (1, ([1, 6, 7], [])), (2, ([1, 6, 14], [])), (3, ([4, 5], [])), (4, ([4, 5], []))], dd := [(0, [[4]]), (1, [[0], [9], [10], [], [8], [11]]), (2, [[7]]), (4, [[6], [1], [15, 16], [17]])] }

/- dkim.canonicalizers -/
def c_dkim_canonicalizers : SFn := ⟨1,
    (.seq
      (.region [
        ⟨some 2, .mv (.k .nilI), none⟩,
        ⟨some 3, .mv (.k (.bool false)), none⟩] [0] [] [[2]])
      (.seq
        (.seq
          (.region [
            ⟨some 4, .mv (.t 0), none⟩] [4] [] [])
          (.block 0
            (.seq
              (.region [
                ⟨some 6, .bin .eql (.t 4) (.k (.str [115, 105, 109, 112, 108, 101])), none⟩,
                ⟨some 5, .mv (.t 6), none⟩] [4, 5] [] [])
              (.cond (.t 5)
                (.seq
                  (.region [
                    ⟨some 7, .alloc [], none⟩,
                    ⟨some 8, .mkIfc 1 (.t 7), none⟩,
                    ⟨some 2, .mv (.t 8), none⟩,
                    ⟨some 3, .mv (.k (.bool true)), none⟩] [2, 3] [] [[], [7], [8]])
                  .ret)
                (.seq
                  (.region [
                    ⟨some 10, .bin .eql (.t 4) (.k (.str [114, 101, 108, 97, 120, 101, 100])), none⟩,
                    ⟨some 9, .mv (.t 10), none⟩] [9] [] [[4]])
                  (.cond (.t 9)
                    (.seq
                      (.region [
                        ⟨some 11, .alloc [], none⟩,
                        ⟨some 12, .mkIfc 2 (.t 11), none⟩,
                        ⟨some 2, .mv (.t 12), none⟩,
                        ⟨some 3, .mv (.k (.bool true)), none⟩] [2, 3] [] [[], [11], [12]])
                      .ret)
                    .skip))))))
        (.seq
          (.region [
            ⟨some 2, .mv (.k .nilI), none⟩,
            ⟨some 3, .mv (.k (.bool false)), none⟩] [2, 3] [] [])
          .ret))),
  [.t 2, .t 3]⟩

def l_dkim_canonicalizers : Lay := { rg := [(0, ([0], [])), (1, ([4], [])), (2, ([4, 5], [])), (3, ([2, 3], [])), (4, ([9], [])), (5, ([2, 3], [])), (6, ([2, 3], []))], dd := [(0, [[2]]), (3, [[], [7], [8]]), (4, [[4]]), (5, [[], [11], [12]])] }

/- dkim.simpleCanonicalizer).CanonicalizeHeader -/
def c_dkim_simpleCanonicalizer_CanonicalizeHeader : SFn := ⟨2,
    (.seq
      (.region [
        ⟨some 4, .mv (.k (.str [])), none⟩] [1] [] [])
      (.seq
        (.region [
          ⟨some 5, .mv (.t 1), none⟩,
          ⟨some 4, .mv (.t 5), none⟩] [4] [] [[1]])
        .ret)),
  [.t 4]⟩

def l_dkim_simpleCanonicalizer_CanonicalizeHeader : Lay := { rg := [(0, ([1], [])), (1, ([4], []))], dd := [(1, [[1]])] }

/- dkim.relaxedCanonicalizer).CanonicalizeHeader -/
def c_dkim_relaxedCanonicalizer_CanonicalizeHeader : SFn := ⟨2,
    (.seq
      (.region [
        ⟨some 4, .mv (.k (.str [])), none⟩] [1] [] [])
      (.seq
        (.region [
          ⟨some 9, .mv (.t 1), none⟩,
          ⟨some 10, .call 16 [(.t 9), (.k (.str [58]))], none⟩,
          ⟨some 8, .mv (.t 10), none⟩,
          ⟨some 11, .extr (.t 8) 0, none⟩,
          ⟨some 12, .extr (.t 8) 1, none⟩,
          ⟨some 13, .extr (.t 8) 2, none⟩,
          ⟨some 5, .mv (.t 11), none⟩,
          ⟨some 6, .mv (.t 12), none⟩,
          ⟨some 7, .mv (.t 13), none⟩] [1, 5, 6, 7] [] [[], [9], [10], [], [], [8], [11], [12]])
        (.seq
          (.seq
            (.region [
              ⟨some 14, .mv (.t 7), none⟩,
              ⟨some 15, .un .not (.t 14), none⟩] [1, 5, 6, 15] [] [[7]])
            (.cond (.t 15)
              (.seq
                (.region [
                  ⟨some 16, .mv (.t 1), none⟩,
                  ⟨some 17, .call 17 [(.t 16)], none⟩,
                  ⟨some 18, .call 18 [(.t 17)], none⟩,
                  ⟨some 19, .bin .add (.t 18) (.k (.str [58])), none⟩,
                  ⟨some 20, .bin .add (.t 19) (.k (.str [13, 10])), none⟩,
                  ⟨some 4, .mv (.t 20), none⟩] [4] [] [[1], [16], [17], [18], [19]])
                .ret)
              .skip))
          (.seq
            (.region [
              ⟨some 21, .mv (.t 5), none⟩,
              ⟨some 22, .call 17 [(.t 21)], none⟩,
              ⟨some 23, .call 18 [(.t 22)], none⟩,
              ⟨some 5, .mv (.t 23), none⟩] [5, 6] [] [[], [21], [22]])
            (.seq
              (.region [
                ⟨some 24, .mv (.t 6), none⟩,
                ⟨some 25, .call 19 [(.t 24), (.k (.fn 20 []))], none⟩,
                ⟨some 26, .call 21 [(.t 25), (.k (.str [32]))], none⟩,
                ⟨some 6, .mv (.t 26), none⟩] [5, 6] [] [[], [24], [25]])
              (.seq
                (.region [
                  ⟨some 27, .mv (.t 5), none⟩,
                  ⟨some 28, .bin .add (.t 27) (.k (.str [58])), none⟩,
                  ⟨some 29, .mv (.t 6), none⟩,
                  ⟨some 30, .bin .add (.t 28) (.t 29), none⟩,
                  ⟨some 31, .bin .add (.t 30) (.k (.str [13, 10])), none⟩,
                  ⟨some 4, .mv (.t 31), none⟩] [4] [] [[5], [27], [6], [28, 29], [30]])
                .ret)))))),
  [.t 4]⟩

def l_dkim_relaxedCanonicalizer_CanonicalizeHeader : Lay := { rg := [(0, ([1], [])), (1, ([1, 5, 6, 7], [])), (2, ([1, 5, 6, 15], [])), (3, ([4], [])), (4, ([5, 6], [])), (5, ([5, 6], [])), (6, ([4], []))], dd := [(1, [[], [9], [10], [], [], [8], [11], [12]]), (2, [[7]]), (3, [[1], [16], [17], [18], [19]]), (4, [[], [21], [22]]), (5, [[], [24], [25]]), (6, [[5], [27], [6], [28, 29], [30]])] }

/- dkim.relaxedCanonicalizer).CanonicalizeHeader$1 -/
def c_dkim_relaxedCanonicalizer_CanonicalizeHeader_1 : SFn := ⟨1,
    (.seq
      (.region [
        ⟨some 2, .mv (.k (.bool false)), none⟩] [0] [] [])
      (.seq
        (.region [
          ⟨some 3, .mv (.t 0), none⟩,
          ⟨some 4, .bin .eql (.t 3) (.k (.int .i32 32)), none⟩,
          ⟨some 5, .mv (.t 4), none⟩,
          ⟨some 6, .mv (.t 0), some (5, false)⟩,
          ⟨some 7, .bin .eql (.t 6) (.k (.int .i32 9)), some (5, false)⟩,
          ⟨some 8, .pick (.t 5) (.k (.bool true)) (.t 7), none⟩,
          ⟨some 9, .mv (.t 8), none⟩,
          ⟨some 10, .mv (.t 0), some (9, false)⟩,
          ⟨some 11, .bin .eql (.t 10) (.k (.int .i32 10)), some (9, false)⟩,
          ⟨some 12, .pick (.t 9) (.k (.bool true)) (.t 11), none⟩,
          ⟨some 13, .mv (.t 12), none⟩,
          ⟨some 14, .mv (.t 0), some (13, false)⟩,
          ⟨some 15, .bin .eql (.t 14) (.k (.int .i32 13)), some (13, false)⟩,
          ⟨some 16, .pick (.t 13) (.k (.bool true)) (.t 15), none⟩,
          ⟨some 2, .mv (.t 16), none⟩] [2] [] [[], [3], [4], [], [6], [5, 7], [8], [], [10], [9, 11], [12], [0], [14], [13, 15]])
        .ret)),
  [.t 2]⟩

def l_dkim_relaxedCanonicalizer_CanonicalizeHeader_1 : Lay := { rg := [(0, ([0], [])), (1, ([2], []))], dd := [(1, [[], [3], [4], [], [6], [5, 7], [8], [], [10], [9, 11], [12], [0], [14], [13, 15]])] }

/- dkim.zzCut -/
def c_dkim_zzCut : SFn := ⟨2,
    (.seq
      (.region [
        ⟨some 4, .mv (.k (.str [])), none⟩,
        ⟨some 5, .mv (.k (.str [])), none⟩,
        ⟨some 6, .mv (.k (.bool false)), none⟩] [0, 1] [] [[4], [5]])
      (.seq
        (.seq
          (.region [
            ⟨some 8, .mv (.t 0), none⟩,
            ⟨some 9, .mv (.t 1), none⟩,
            ⟨some 10, .call 22 [(.t 8), (.t 9)], none⟩,
            ⟨some 7, .mv (.t 10), none⟩] [0, 1, 7] [] [[], [], [8, 9]])
          (.seq
            (.region [
              ⟨some 11, .mv (.t 7), none⟩,
              ⟨some 12, .bin .geq (.t 11) (.k (.int .i64 0)), none⟩] [0, 1, 7, 12] [] [])
            (.cond (.t 12)
              (.seq
                (.region [
                  ⟨some 13, .mv (.t 0), none⟩,
                  ⟨some 14, .mv (.t 7), none⟩,
                  ⟨some 15, .slStr (.t 13) none (some (.t 14)), none⟩,
                  ⟨some 16, .mv (.t 0), none⟩,
                  ⟨some 17, .mv (.t 7), none⟩,
                  ⟨some 18, .mv (.t 1), none⟩,
                  ⟨some 19, .len 0 (.t 18), none⟩,
                  ⟨some 20, .bin .add (.t 17) (.t 19), none⟩,
                  ⟨some 21, .slStr (.t 16) (some (.t 20)) none, none⟩,
                  ⟨some 4, .mv (.t 15), none⟩,
                  ⟨some 5, .mv (.t 21), none⟩,
                  ⟨some 6, .mv (.k (.bool true)), none⟩] [4, 5, 6] [] [])
                .ret)
              .skip)))
        (.seq
          (.region [
            ⟨some 22, .mv (.t 0), none⟩,
            ⟨some 4, .mv (.t 22), none⟩,
            ⟨some 5, .mv (.k (.str [])), none⟩,
            ⟨some 6, .mv (.k (.bool false)), none⟩] [4, 5, 6] [] [[0], [22]])
          .ret))),
  [.t 4, .t 5, .t 6]⟩

def l_dkim_zzCut : Lay := { rg := [(0, ([0, 1], [])), (1, ([0, 1, 7], [])), (2, ([0, 1, 7, 12], [])), (3, ([4, 5, 6], [])), (4, ([4, 5, 6], []))], dd := [(0, [[4], [5]]), (1, [[], [], [8, 9]]), (4, [[0], [22]])] }

/- dkim.zzIndex -/
def c_dkim_zzIndex : SFn := ⟨2,
    (.seq
      (.region [
        ⟨some 4, .mv (.k (.int .i64 0)), none⟩] [0, 1] [] [])
      (.seq
        (.seq
          (.region [
            ⟨some 5, .mv (.k (.int .i64 0)), none⟩] [0, 1, 5] [] [])
          (.block 0
            (.loop [0, 1, 5]
              (.seq
                (.seq
                  (.region [
                    ⟨some 6, .mv (.t 5), none⟩,
                    ⟨some 7, .mv (.t 1), none⟩,
                    ⟨some 8, .len 0 (.t 7), none⟩,
                    ⟨some 9, .bin .add (.t 6) (.t 8), none⟩,
                    ⟨some 10, .mv (.t 0), none⟩,
                    ⟨some 11, .len 0 (.t 10), none⟩,
                    ⟨some 12, .bin .leq (.t 9) (.t 11), none⟩] [0, 1, 5, 12] [] [[], [], [7], [6, 8], [], [10]])
                  (.cond (.t 12)
                    .skip
                    (.exit 0)))
                (.seq
                  (.block 1
                    (.seq
                      (.region [
                        ⟨some 15, .mv (.t 0), none⟩,
                        ⟨some 16, .mv (.t 5), none⟩,
                        ⟨some 17, .mv (.t 5), none⟩,
                        ⟨some 18, .mv (.t 1), none⟩,
                        ⟨some 19, .len 0 (.t 18), none⟩,
                        ⟨some 20, .bin .add (.t 17) (.t 19), none⟩,
                        ⟨some 21, .slStr (.t 15) (some (.t 16)) (some (.t 20)), none⟩,
                        ⟨some 22, .mv (.t 1), none⟩,
                        ⟨some 23, .bin .eql (.t 21) (.t 22), none⟩] [0, 1, 5, 23] [] [[], [], [], [], [18], [17, 19], [15, 16, 20]])
                      (.cond (.t 23)
                        (.seq
                          (.region [
                            ⟨some 24, .mv (.t 5), none⟩,
                            ⟨some 4, .mv (.t 24), none⟩] [4] [] [[5]])
                          .ret)
                        .skip)))
                  (.region [
                    ⟨some 13, .mv (.t 5), none⟩,
                    ⟨some 14, .bin .add (.t 13) (.k (.int .i64 1)), none⟩,
                    ⟨some 5, .mv (.t 14), none⟩] [0, 1, 5] [] [[], [13]]))))))
        (.seq
          (.region [
            ⟨some 4, .mv (.k (.int .i64 (-1))), none⟩] [4] [] [])
          .ret))),
  [.t 4]⟩

def l_dkim_zzIndex : Lay := { rg := [(0, ([0, 1], [])), (1, ([0, 1, 5], [])), (2, ([0, 1, 5, 12], [])), (3, ([0, 1, 5], [])), (4, ([0, 1, 5, 23], [])), (5, ([4], [])), (6, ([4], [])), (1000002, ([0, 1, 5], []))], dd := [(2, [[], [], [7], [6, 8], [], [10]]), (3, [[], [13]]), (4, [[], [], [], [], [18], [17, 19], [15, 16, 20]]), (5, [[5]])] }

/- dkim.zzToLower -/
def c_dkim_zzToLower : SFn := ⟨1,
    (.seq
      (.region [
        ⟨some 2, .mv (.k (.str [])), none⟩] [0] [] [])
      (.seq
        (.region [
          ⟨some 3, .mv (.k .nilS), none⟩] [0, 3] [] [])
        (.seq
          (.seq
            (.region [
              ⟨some 4, .mv (.k (.int .i64 0)), none⟩] [0, 3, 4] [] [])
            (.block 0
              (.loop [0, 3, 4]
                (.seq
                  (.seq
                    (.region [
                      ⟨some 6, .mv (.t 4), none⟩,
                      ⟨some 7, .mv (.t 0), none⟩,
                      ⟨some 8, .len 0 (.t 7), none⟩,
                      ⟨some 9, .bin .lss (.t 6) (.t 8), none⟩] [0, 3, 4, 9] [] [[], [], [7]])
                    (.cond (.t 9)
                      .skip
                      (.exit 0)))
                  (.seq
                    (.block 1
                      (.seq
                        (.region [
                          ⟨some 12, .mv (.t 0), none⟩,
                          ⟨some 13, .mv (.t 4), none⟩,
                          ⟨some 14, .iStr (.t 12) (.t 13), none⟩,
                          ⟨some 5, .mv (.t 14), none⟩] [0, 3, 4, 5] [] [[], [], [12, 13]])
                        (.block 2
                          (.seq
                            (.region [
                              ⟨some 20, .mv (.t 5), none⟩,
                              ⟨some 21, .bin .leq (.k (.int .u8 65)) (.t 20), none⟩,
                              ⟨some 22, .mv (.t 21), none⟩,
                              ⟨some 23, .mv (.t 5), some (22, true)⟩,
                              ⟨some 24, .bin .leq (.t 23) (.k (.int .u8 90)), some (22, true)⟩,
                              ⟨some 25, .pick (.t 22) (.t 24) (.k (.bool false)), none⟩,
                              ⟨some 19, .mv (.t 25), none⟩] [0, 3, 4, 5, 19] [] [[], [20], [21], [], [23], [22, 24]])
                            (.cond (.t 19)
                              (.region [
                                ⟨some 26, .mv (.t 3), none⟩,
                                ⟨some 27, .mv (.t 5), none⟩,
                                ⟨some 28, .bin .add (.t 27) (.k (.int .u8 97)), none⟩,
                                ⟨some 29, .bin .sub (.t 28) (.k (.int .u8 65)), none⟩,
                                ⟨some 30, .mkSl 1 1 [(.int .u8 0)] [(0, (.t 29))], none⟩,
                                ⟨some 31, .app 1 1 (.t 26) (.t 30), none⟩,
                                ⟨some 3, .mv (.t 31), none⟩] [0, 3, 4] [30] [[], [5], [27], [28], [29], [26, 30]])
                              (.seq
                                (.region [
                                  ⟨some 33, .mv (.t 0), none⟩,
                                  ⟨some 34, .len 0 (.t 33), none⟩,
                                  ⟨some 35, .mv (.t 4), none⟩,
                                  ⟨some 36, .bin .sub (.t 34) (.t 35), none⟩,
                                  ⟨some 37, .bin .geq (.t 36) (.k (.int .i64 3)), none⟩,
                                  ⟨some 38, .mv (.t 37), none⟩,
                                  ⟨some 39, .mv (.t 0), some (38, true)⟩,
                                  ⟨some 40, .mv (.t 4), some (38, true)⟩,
                                  ⟨some 41, .mv (.t 4), some (38, true)⟩,
                                  ⟨some 42, .bin .add (.t 41) (.k (.int .i64 3)), some (38, true)⟩,
                                  ⟨some 43, .slStr (.t 39) (some (.t 40)) (some (.t 42)), some (38, true)⟩,
                                  ⟨some 44, .bin .eql (.t 43) (.k (.str [226, 132, 170])), some (38, true)⟩,
                                  ⟨some 45, .pick (.t 38) (.t 44) (.k (.bool false)), none⟩,
                                  ⟨some 32, .mv (.t 45), none⟩] [0, 3, 4, 5, 32] [] [[], [33], [], [34, 35], [36], [37], [], [], [], [41], [39, 40, 42], [43], [38, 44]])
                                (.cond (.t 32)
                                  (.seq
                                    (.region [
                                      ⟨some 46, .mv (.t 3), none⟩,
                                      ⟨some 47, .mkSl 1 1 [(.int .u8 0)] [(0, (.k (.int .u8 107)))], none⟩,
                                      ⟨some 48, .app 1 1 (.t 46) (.t 47), none⟩,
                                      ⟨some 3, .mv (.t 48), none⟩] [0, 3, 4] [47] [[], [], [46, 47]])
                                    (.region [
                                      ⟨some 49, .mv (.t 4), none⟩,
                                      ⟨some 50, .bin .add (.t 49) (.k (.int .i64 2)), none⟩,
                                      ⟨some 4, .mv (.t 50), none⟩] [0, 3, 4] [] [[], [49]]))
                                  (.region [
                                    ⟨some 15, .mv (.t 3), none⟩,
                                    ⟨some 16, .mv (.t 5), none⟩,
                                    ⟨some 17, .mkSl 1 1 [(.int .u8 0)] [(0, (.t 16))], none⟩,
                                    ⟨some 18, .app 1 1 (.t 15) (.t 17), none⟩,
                                    ⟨some 3, .mv (.t 18), none⟩] [0, 3, 4] [17] [[], [5], [16], [15, 17]]))))))))
                    (.region [
                      ⟨some 10, .mv (.t 4), none⟩,
                      ⟨some 11, .bin .add (.t 10) (.k (.int .i64 1)), none⟩,
                      ⟨some 4, .mv (.t 11), none⟩] [0, 3, 4] [] [[], [10]]))))))
          (.seq
            (.region [
              ⟨some 51, .mv (.t 3), none⟩,
              ⟨some 52, .cBytesStr (.t 51), none⟩,
              ⟨some 2, .mv (.t 52), none⟩] [2] [18, 31, 48] [[3], [51]])
            .ret)))),
  [.t 2]⟩

def l_dkim_zzToLower : Lay := { rg := [(0, ([0], [])), (1, ([0, 3], [])), (2, ([0, 3, 4], [])), (3, ([0, 3, 4, 9], [])), (4, ([0, 3, 4], [])), (5, ([0, 3, 4, 5], [])), (6, ([0, 3, 4], [17])), (7, ([0, 3, 4, 5, 19], [])), (8, ([0, 3, 4], [30])), (9, ([0, 3, 4, 5, 32], [])), (10, ([0, 3, 4], [47])), (11, ([0, 3, 4], [])), (12, ([2], [18, 31, 48])), (1000003, ([0, 3, 4], []))], dd := [(3, [[], [], [7]]), (4, [[], [10]]), (5, [[], [], [12, 13]]), (6, [[], [5], [16], [15, 17]]), (7, [[], [20], [21], [], [23], [22, 24]]), (8, [[], [5], [27], [28], [29], [26, 30]]), (9, [[], [33], [], [34, 35], [36], [37], [], [], [], [41], [39, 40, 42], [43], [38, 44]]), (10, [[], [], [46, 47]]), (11, [[], [49]]), (12, [[3], [51]])] }

/- dkim.zzTrimSpace -/
def b_dkim_zzTrimSpace_1 : SCode :=
  (.seq
    (.region [
      ⟨some 17, .nextS (.t 16), none⟩,
      ⟨some 18, .extr (.t 17) 0, none⟩] [0, 3, 4, 16, 17, 18] [] [])
    (.seq
      (.cond (.t 18)
        .skip
        (.exit 0))
      (.block 1
        (.seq
          (.region [
            ⟨some 19, .extr (.t 17) 1, none⟩,
            ⟨some 20, .extr (.t 17) 2, none⟩,
            ⟨some 5, .mv (.t 19), none⟩,
            ⟨some 6, .mv (.t 20), none⟩] [0, 3, 4, 5, 6, 16] [] [[], [17], [19]])
          (.seq
            (.region [
              ⟨some 21, .mv (.t 6), none⟩,
              ⟨some 22, .call 23 [(.t 21)], none⟩,
              ⟨some 23, .un .not (.t 22), none⟩] [0, 3, 4, 5, 16, 23] [] [[6], [21]])
            (.cond (.t 23)
              (.seq
                (.region [
                  ⟨some 24, .mv (.t 5), none⟩,
                  ⟨some 3, .mv (.t 24), none⟩] [0, 3, 4] [16] [[5]])
                (.exit 0))
              .skip))))))

def b_dkim_zzTrimSpace_2 : SCode :=
  (.seq
    (.seq
      (.region [
        ⟨some 30, .mv (.t 8), none⟩,
        ⟨some 31, .bin .lss (.t 30) (.k (.int .i64 4)), none⟩,
        ⟨some 32, .mv (.t 31), none⟩,
        ⟨some 33, .mv (.t 7), some (32, true)⟩,
        ⟨some 34, .mv (.t 8), some (32, true)⟩,
        ⟨some 35, .bin .add (.t 33) (.t 34), some (32, true)⟩,
        ⟨some 36, .mv (.t 0), some (32, true)⟩,
        ⟨some 37, .len 0 (.t 36), some (32, true)⟩,
        ⟨some 38, .bin .lss (.t 35) (.t 37), some (32, true)⟩,
        ⟨some 39, .pick (.t 32) (.t 38) (.k (.bool false)), none⟩,
        ⟨some 40, .mv (.t 39), none⟩,
        ⟨some 41, .mv (.t 0), some (40, true)⟩,
        ⟨some 42, .mv (.t 7), some (40, true)⟩,
        ⟨some 43, .iStr (.t 41) (.t 42), some (40, true)⟩,
        ⟨some 44, .bin .geq (.t 43) (.k (.int .u8 192)), some (40, true)⟩,
        ⟨some 45, .pick (.t 40) (.t 44) (.k (.bool false)), none⟩,
        ⟨some 46, .mv (.t 45), none⟩,
        ⟨some 47, .mv (.t 0), some (46, true)⟩,
        ⟨some 48, .mv (.t 7), some (46, true)⟩,
        ⟨some 49, .mv (.t 8), some (46, true)⟩,
        ⟨some 50, .bin .add (.t 48) (.t 49), some (46, true)⟩,
        ⟨some 51, .iStr (.t 47) (.t 50), some (46, true)⟩,
        ⟨some 52, .bin .and (.t 51) (.k (.int .u8 192)), some (46, true)⟩,
        ⟨some 53, .bin .eql (.t 52) (.k (.int .u8 128)), some (46, true)⟩,
        ⟨some 54, .pick (.t 46) (.t 53) (.k (.bool false)), none⟩] [0, 3, 4, 7, 8, 54] [] [[], [30], [31], [], [], [33, 34], [], [36], [35, 37], [32, 38], [39], [], [], [41, 42], [43], [40, 44], [45], [], [], [], [48, 49], [47, 50], [51], [52]])
      (.cond (.t 54)
        .skip
        (.exit 4)))
    (.block 5
      (.region [
        ⟨some 55, .mv (.t 8), none⟩,
        ⟨some 56, .bin .add (.t 55) (.k (.int .i64 1)), none⟩,
        ⟨some 8, .mv (.t 56), none⟩] [0, 3, 4, 7, 8] [] [[], [55]])))

def t_dkim_zzTrimSpace_3 : SCode :=
  (.seq
    (.seq
      (.region [
        ⟨some 57, .mv (.t 0), none⟩,
        ⟨some 58, .mv (.t 7), none⟩,
        ⟨some 59, .mv (.t 7), none⟩,
        ⟨some 60, .mv (.t 8), none⟩,
        ⟨some 61, .bin .add (.t 59) (.t 60), none⟩,
        ⟨some 62, .slStr (.t 57) (some (.t 58)) (some (.t 61)), none⟩,
        ⟨some 63, .cStrRunes (.t 62), none⟩,
        ⟨some 9, .mv (.t 63), none⟩] [0, 3, 4, 7, 8, 9] [] [[], [], [], [], [59, 60], [57, 58, 61], [62]])
      (.seq
        (.region [
          ⟨some 64, .mv (.t 9), none⟩,
          ⟨some 65, .len 1 (.t 64), none⟩,
          ⟨some 66, .bin .gtr (.t 65) (.k (.int .i64 1)), none⟩] [0, 3, 4, 7, 8, 66] [63] [[9], [64]])
        (.cond (.t 66)
          (.region [
            ⟨some 8, .mv (.k (.int .i64 1)), none⟩] [0, 3, 4, 7, 8] [] [])
          .skip)))
    (.seq
      (.seq
        (.region [
          ⟨some 67, .mv (.t 0), none⟩,
          ⟨some 68, .mv (.t 7), none⟩,
          ⟨some 69, .mv (.t 7), none⟩,
          ⟨some 70, .mv (.t 8), none⟩,
          ⟨some 71, .bin .add (.t 69) (.t 70), none⟩,
          ⟨some 72, .slStr (.t 67) (some (.t 68)) (some (.t 71)), none⟩,
          ⟨some 73, .cStrRunes (.t 72), none⟩,
          ⟨some 10, .mv (.t 73), none⟩] [0, 3, 4, 7, 8, 10] [] [[], [], [], [], [69, 70], [67, 68, 71], [72]])
        (.seq
          (.region [
            ⟨some 74, .mv (.t 10), none⟩,
            ⟨some 75, .len 1 (.t 74), none⟩,
            ⟨some 76, .bin .neq (.t 75) (.k (.int .i64 1)), none⟩,
            ⟨some 77, .mv (.t 76), none⟩,
            ⟨some 78, .mv (.t 10), some (77, false)⟩,
            ⟨some 79, .iAddr 1 (.t 78) (.k (.int .i64 0)), some (77, false)⟩,
            ⟨some 80, .load none (.t 79), some (77, false)⟩,
            ⟨some 81, .call 23 [(.t 80)], some (77, false)⟩,
            ⟨some 82, .un .not (.t 81), some (77, false)⟩,
            ⟨some 83, .pick (.t 77) (.k (.bool true)) (.t 82), none⟩] [0, 3, 4, 7, 8, 83] [73] [[], [74], [75], [76], [10], [78], [79], [80], [81]])
          (.cond (.t 83)
            (.region [
              ⟨some 84, .mv (.t 7), none⟩,
              ⟨some 85, .mv (.t 8), none⟩,
              ⟨some 86, .bin .add (.t 84) (.t 85), none⟩,
              ⟨some 4, .mv (.t 86), none⟩] [0, 3, 4, 7, 8] [] [[], [], [84, 85]])
            .skip)))
      (.region [
        ⟨some 87, .mv (.t 7), none⟩,
        ⟨some 88, .mv (.t 8), none⟩,
        ⟨some 89, .bin .add (.t 87) (.t 88), none⟩,
        ⟨some 7, .mv (.t 89), none⟩] [0, 3, 4, 7] [] [[], [8], [87, 88]])))

def b_dkim_zzTrimSpace_4 : SCode :=
  (.seq
    (.seq
      (.region [
        ⟨some 26, .mv (.t 7), none⟩,
        ⟨some 27, .mv (.t 0), none⟩,
        ⟨some 28, .len 0 (.t 27), none⟩,
        ⟨some 29, .bin .lss (.t 26) (.t 28), none⟩] [0, 3, 4, 7, 29] [] [[], [], [27]])
      (.cond (.t 29)
        .skip
        (.exit 2)))
    (.block 3
      (.seq
        (.region [
          ⟨some 8, .mv (.k (.int .i64 1)), none⟩] [0, 3, 4, 7, 8] [] [])
        (.seq
          (.block 4
            (.loop [0, 3, 4, 7, 8]
              b_dkim_zzTrimSpace_2))
          t_dkim_zzTrimSpace_3))))

def t_dkim_zzTrimSpace_5 : SCode :=
  (.seq
    (.seq
      (.region [
        ⟨some 90, .mv (.t 3), none⟩,
        ⟨some 91, .mv (.t 0), none⟩,
        ⟨some 92, .len 0 (.t 91), none⟩,
        ⟨some 93, .bin .eql (.t 90) (.t 92), none⟩] [0, 3, 4, 93] [] [[], [], [91]])
      (.cond (.t 93)
        (.seq
          (.region [
            ⟨some 2, .mv (.k (.str [])), none⟩] [2] [] [])
          .ret)
        .skip))
    (.seq
      (.region [
        ⟨some 94, .mv (.t 0), none⟩,
        ⟨some 95, .mv (.t 3), none⟩,
        ⟨some 96, .mv (.t 4), none⟩,
        ⟨some 97, .slStr (.t 94) (some (.t 95)) (some (.t 96)), none⟩,
        ⟨some 2, .mv (.t 97), none⟩] [2] [] [[0], [3], [4], [94, 95, 96]])
      .ret))

def t_dkim_zzTrimSpace_6 : SCode :=
  (.seq
    (.seq
      (.region [
        ⟨some 25, .mv (.t 3), none⟩,
        ⟨some 7, .mv (.t 25), none⟩] [0, 3, 4, 7] [16] [])
      (.block 2
        (.loop [0, 3, 4, 7]
          b_dkim_zzTrimSpace_4)))
    t_dkim_zzTrimSpace_5)

def c_dkim_zzTrimSpace : SFn := ⟨1,
    (.seq
      (.region [
        ⟨some 2, .mv (.k (.str [])), none⟩] [0] [] [])
      (.seq
        (.region [
          ⟨some 11, .mv (.t 0), none⟩,
          ⟨some 12, .len 0 (.t 11), none⟩,
          ⟨some 13, .mv (.t 0), none⟩,
          ⟨some 14, .len 0 (.t 13), none⟩,
          ⟨some 3, .mv (.t 12), none⟩,
          ⟨some 4, .mv (.t 14), none⟩] [0, 3, 4] [] [[], [11], [], [13], [12]])
        (.seq
          (.seq
            (.region [
              ⟨some 15, .mv (.t 0), none⟩,
              ⟨some 16, .rangeS (.t 15), none⟩] [0, 3, 4, 16] [] [])
            (.block 0
              (.loop [0, 3, 4, 16]
                b_dkim_zzTrimSpace_1)))
          t_dkim_zzTrimSpace_6))),
  [.t 2]⟩

def l_dkim_zzTrimSpace : Lay := { rg := [(0, ([0], [])), (1, ([0, 3, 4], [])), (2, ([0, 3, 4, 16], [])), (3, ([0, 3, 4, 16, 17, 18], [])), (4, ([0, 3, 4, 5, 6, 16], [])), (5, ([0, 3, 4, 5, 16, 23], [])), (6, ([0, 3, 4], [16])), (7, ([0, 3, 4, 7], [16])), (8, ([0, 3, 4, 7, 29], [])), (9, ([0, 3, 4, 7, 8], [])), (10, ([0, 3, 4, 7, 8, 54], [])), (11, ([0, 3, 4, 7, 8], [])), (12, ([0, 3, 4, 7, 8, 9], [])), (13, ([0, 3, 4, 7, 8, 66], [63])), (14, ([0, 3, 4, 7, 8], [])), (15, ([0, 3, 4, 7, 8, 10], [])), (16, ([0, 3, 4, 7, 8, 83], [73])), (17, ([0, 3, 4, 7, 8], [])), (18, ([0, 3, 4, 7], [])), (19, ([0, 3, 4, 93], [])), (20, ([2], [])), (21, ([2], [])), (1000003, ([0, 3, 4, 16], [])), (1000008, ([0, 3, 4, 7], [])), (1000010, ([0, 3, 4, 7, 8], []))], dd := [(1, [[], [11], [], [13], [12]]), (4, [[], [17], [19]]), (5, [[6], [21]]), (6, [[5]]), (8, [[], [], [27]]), (10, [[], [30], [31], [], [], [33, 34], [], [36], [35, 37], [32, 38], [39], [], [], [41, 42], [43], [40, 44], [45], [], [], [], [48, 49], [47, 50], [51], [52]]), (11, [[], [55]]), (12, [[], [], [], [], [59, 60], [57, 58, 61], [62]]), (13, [[9], [64]]), (15, [[], [], [], [], [69, 70], [67, 68, 71], [72]]), (16, [[], [74], [75], [76], [10], [78], [79], [80], [81]]), (17, [[], [], [84, 85]]), (18, [[], [8], [87, 88]]), (19, [[], [], [91]]), (21, [[0], [3], [4], [94, 95, 96]])] }

/- dkim.zzIsSpace -/
def c_dkim_zzIsSpace : SFn := ⟨1,
    (.seq
      (.region [
        ⟨some 2, .mv (.k (.bool false)), none⟩] [0] [] [])
      (.seq
        (.block 0
          (.seq
            (.seq
              (.region [
                ⟨some 4, .mv (.t 0), none⟩,
                ⟨some 5, .bin .geq (.t 4) (.k (.int .i32 9)), none⟩,
                ⟨some 6, .mv (.t 5), none⟩,
                ⟨some 7, .mv (.t 0), some (6, true)⟩,
                ⟨some 8, .bin .leq (.t 7) (.k (.int .i32 13)), some (6, true)⟩,
                ⟨some 9, .pick (.t 6) (.t 8) (.k (.bool false)), none⟩,
                ⟨some 3, .mv (.t 9), none⟩] [0, 3] [] [[], [4], [5], [], [7], [6, 8]])
              (.cond (.t 3)
                .skip
                (.seq
                  (.region [
                    ⟨some 10, .mv (.t 0), none⟩,
                    ⟨some 11, .bin .eql (.t 10) (.k (.int .i32 32)), none⟩,
                    ⟨some 3, .mv (.t 11), none⟩] [0, 3] [] [[], [10]])
                  (.cond (.t 3)
                    .skip
                    (.seq
                      (.region [
                        ⟨some 12, .mv (.t 0), none⟩,
                        ⟨some 13, .bin .eql (.t 12) (.k (.int .i32 133)), none⟩,
                        ⟨some 3, .mv (.t 13), none⟩] [0, 3] [] [[], [12]])
                      (.cond (.t 3)
                        .skip
                        (.seq
                          (.region [
                            ⟨some 14, .mv (.t 0), none⟩,
                            ⟨some 15, .bin .eql (.t 14) (.k (.int .i32 160)), none⟩,
                            ⟨some 3, .mv (.t 15), none⟩] [0, 3] [] [[], [14]])
                          (.cond (.t 3)
                            .skip
                            (.seq
                              (.region [
                                ⟨some 16, .mv (.t 0), none⟩,
                                ⟨some 17, .bin .eql (.t 16) (.k (.int .i32 5760)), none⟩,
                                ⟨some 3, .mv (.t 17), none⟩] [0, 3] [] [[], [16]])
                              (.cond (.t 3)
                                .skip
                                (.seq
                                  (.region [
                                    ⟨some 18, .mv (.t 0), none⟩,
                                    ⟨some 19, .bin .geq (.t 18) (.k (.int .i32 8192)), none⟩,
                                    ⟨some 20, .mv (.t 19), none⟩,
                                    ⟨some 21, .mv (.t 0), some (20, true)⟩,
                                    ⟨some 22, .bin .leq (.t 21) (.k (.int .i32 8202)), some (20, true)⟩,
                                    ⟨some 23, .pick (.t 20) (.t 22) (.k (.bool false)), none⟩,
                                    ⟨some 3, .mv (.t 23), none⟩] [0, 3] [] [[], [18], [19], [], [21], [20, 22]])
                                  (.cond (.t 3)
                                    .skip
                                    (.seq
                                      (.region [
                                        ⟨some 24, .mv (.t 0), none⟩,
                                        ⟨some 25, .bin .eql (.t 24) (.k (.int .i32 8232)), none⟩,
                                        ⟨some 3, .mv (.t 25), none⟩] [0, 3] [] [[], [24]])
                                      (.cond (.t 3)
                                        .skip
                                        (.seq
                                          (.region [
                                            ⟨some 26, .mv (.t 0), none⟩,
                                            ⟨some 27, .bin .eql (.t 26) (.k (.int .i32 8233)), none⟩,
                                            ⟨some 3, .mv (.t 27), none⟩] [0, 3] [] [[], [26]])
                                          (.cond (.t 3)
                                            .skip
                                            (.seq
                                              (.region [
                                                ⟨some 28, .mv (.t 0), none⟩,
                                                ⟨some 29, .bin .eql (.t 28) (.k (.int .i32 8239)), none⟩,
                                                ⟨some 3, .mv (.t 29), none⟩] [0, 3] [] [[], [28]])
                                              (.cond (.t 3)
                                                .skip
                                                (.seq
                                                  (.region [
                                                    ⟨some 30, .mv (.t 0), none⟩,
                                                    ⟨some 31, .bin .eql (.t 30) (.k (.int .i32 8287)), none⟩,
                                                    ⟨some 3, .mv (.t 31), none⟩] [0, 3] [] [[], [30]])
                                                  (.cond (.t 3)
                                                    .skip
                                                    (.region [
                                                      ⟨some 32, .mv (.t 0), none⟩,
                                                      ⟨some 33, .bin .eql (.t 32) (.k (.int .i32 12288)), none⟩,
                                                      ⟨some 3, .mv (.t 33), none⟩] [3] [] [[0], [32]])))))))))))))))))))))
            (.cond (.t 3)
              (.seq
                (.region [
                  ⟨some 2, .mv (.k (.bool true)), none⟩] [2] [] [])
                .ret)
              .skip)))
        (.seq
          (.region [
            ⟨some 2, .mv (.k (.bool false)), none⟩] [2] [] [])
          .ret))),
  [.t 2]⟩

def l_dkim_zzIsSpace : Lay := { rg := [(0, ([0], [])), (1, ([0, 3], [])), (2, ([0, 3], [])), (3, ([0, 3], [])), (4, ([0, 3], [])), (5, ([0, 3], [])), (6, ([0, 3], [])), (7, ([0, 3], [])), (8, ([0, 3], [])), (9, ([0, 3], [])), (10, ([0, 3], [])), (11, ([3], [])), (12, ([2], [])), (13, ([2], []))], dd := [(1, [[], [4], [5], [], [7], [6, 8]]), (2, [[], [10]]), (3, [[], [12]]), (4, [[], [14]]), (5, [[], [16]]), (6, [[], [18], [19], [], [21], [20, 22]]), (7, [[], [24]]), (8, [[], [26]]), (9, [[], [28]]), (10, [[], [30]]), (11, [[0], [32]])] }

/- dkim.TagList -/
def c_dkim_TagList : SFn := ⟨1,
    (.seq
      (.region [
        ⟨some 2, .mv (.k .nilS), none⟩] [0] [] [])
      (.seq
        (.region [
          ⟨some 3, .mv (.t 0), none⟩,
          ⟨some 4, .call 24 [(.t 3)], none⟩,
          ⟨some 2, .mv (.t 4), none⟩] [2] [] [[0], [3]])
        .ret)),
  [.t 2]⟩

def l_dkim_TagList : Lay := { rg := [(0, ([0], [])), (1, ([2], []))], dd := [(1, [[0], [3]])] }

/- dkim.parseTagList -/
def b_dkim_parseTagList_1 : SCode :=
  (.seq
    (.region [
      ⟨some 11, .bin .lss (.t 10) (.t 9), none⟩] [3, 8, 9, 10, 11] [] [])
    (.seq
      (.cond (.t 11)
        .skip
        (.exit 0))
      (.seq
        (.block 1
          (.seq
            (.region [
              ⟨some 12, .mv (.t 10), none⟩,
              ⟨some 13, .iAddr 1 (.t 8) (.t 10), none⟩,
              ⟨some 14, .load none (.t 13), none⟩,
              ⟨some 4, .mv (.t 12), none⟩,
              ⟨some 5, .mv (.t 14), none⟩] [3, 4, 5, 8, 9, 10] [] [[], [], [13], [12]])
            (.region [
              ⟨some 15, .mv (.t 3), none⟩,
              ⟨some 16, .mv (.t 4), none⟩,
              ⟨some 17, .mv (.t 5), none⟩,
              ⟨some 18, .call 26 [(.t 17)], none⟩,
              ⟨some 19, .iAddr 1 (.t 15) (.t 16), none⟩,
              ⟨none, .store 1 (.t 19) (.t 18), none⟩] [3, 8, 9, 10] [] [[], [4], [5], [17], [15, 16]])))
        (.region [
          ⟨some 20, .bin .add (.t 10) (.k (.int .i64 1)), none⟩,
          ⟨some 10, .mv (.t 20), none⟩] [3, 8, 9, 10] [] []))))

def t_dkim_parseTagList_2 : SCode :=
  (.seq
    (.region [
      ⟨some 21, .mv (.t 3), none⟩,
      ⟨some 2, .mv (.t 21), none⟩] [2] [] [[3]])
    .ret)

def c_dkim_parseTagList : SFn := ⟨1,
    (.seq
      (.region [
        ⟨some 2, .mv (.k .nilS), none⟩] [0] [] [])
      (.seq
        (.region [
          ⟨some 6, .mv (.t 0), none⟩,
          ⟨some 7, .callS 25 [(.t 6), (.k (.str [58]))], none⟩,
          ⟨some 3, .mv (.t 7), none⟩] [3] [] [[0], [6]])
        (.seq
          (.seq
            (.region [
              ⟨some 8, .mv (.t 3), none⟩,
              ⟨some 9, .len 1 (.t 8), none⟩,
              ⟨some 10, .mv (.k (.int .i64 0)), none⟩] [3, 8, 9, 10] [] [])
            (.block 0
              (.loop [3, 8, 9, 10]
                b_dkim_parseTagList_1)))
          t_dkim_parseTagList_2))),
  [.t 2]⟩

def l_dkim_parseTagList : Lay := { rg := [(0, ([0], [])), (1, ([3], [])), (2, ([3, 8, 9, 10], [])), (3, ([3, 8, 9, 10, 11], [])), (4, ([3, 4, 5, 8, 9, 10], [])), (5, ([3, 8, 9, 10], [])), (6, ([3, 8, 9, 10], [])), (7, ([2], [])), (1000003, ([3, 8, 9, 10], []))], dd := [(1, [[0], [6]]), (4, [[], [], [13], [12]]), (5, [[], [4], [5], [17], [15, 16]]), (7, [[3]])], sf := [25] }

/- dkim.zzSplit -/
def b_dkim_zzSplit_1 : SCode :=
  (.seq
    (.region [
      ⟨some 14, .nextS (.t 13), none⟩,
      ⟨some 15, .extr (.t 14) 0, none⟩] [0, 5, 6, 13, 14, 15] [] [])
    (.seq
      (.cond (.t 15)
        .skip
        (.exit 0))
      (.block 1
        (.seq
          (.region [
            ⟨some 16, .extr (.t 14) 1, none⟩,
            ⟨some 7, .mv (.t 16), none⟩] [0, 5, 6, 7, 13] [] [[14]])
          (.seq
            (.region [
              ⟨some 17, .mv (.t 7), none⟩,
              ⟨some 18, .bin .gtr (.t 17) (.k (.int .i64 0)), none⟩] [0, 5, 6, 7, 13, 18] [] [])
            (.cond (.t 18)
              (.seq
                (.region [
                  ⟨some 19, .mv (.t 5), none⟩,
                  ⟨some 20, .mv (.t 0), none⟩,
                  ⟨some 21, .mv (.t 6), none⟩,
                  ⟨some 22, .mv (.t 7), none⟩,
                  ⟨some 23, .slStr (.t 20) (some (.t 21)) (some (.t 22)), none⟩,
                  ⟨some 24, .mkSl 1 1 [(.str [])] [(0, (.t 23))], none⟩,
                  ⟨some 25, .app 1 16 (.t 19) (.t 24), none⟩,
                  ⟨some 5, .mv (.t 25), none⟩] [0, 5, 7, 13] [24] [[], [], [6], [], [20, 21, 22], [23], [19, 24]])
                (.region [
                  ⟨some 26, .mv (.t 7), none⟩,
                  ⟨some 6, .mv (.t 26), none⟩] [0, 5, 6, 13] [] [[7]]))
              .skip))))))

def t_dkim_zzSplit_2 : SCode :=
  (.seq
    (.seq
      (.region [
        ⟨some 27, .mv (.t 0), none⟩,
        ⟨some 28, .len 0 (.t 27), none⟩,
        ⟨some 29, .bin .gtr (.t 28) (.k (.int .i64 0)), none⟩] [0, 5, 6, 29] [13] [[], [27]])
      (.cond (.t 29)
        (.region [
          ⟨some 30, .mv (.t 5), none⟩,
          ⟨some 31, .mv (.t 0), none⟩,
          ⟨some 32, .mv (.t 6), none⟩,
          ⟨some 33, .slStr (.t 31) (some (.t 32)) none, none⟩,
          ⟨some 34, .mkSl 1 1 [(.str [])] [(0, (.t 33))], none⟩,
          ⟨some 35, .app 1 16 (.t 30) (.t 34), none⟩,
          ⟨some 5, .mv (.t 35), none⟩] [5] [34] [[], [0], [6], [31, 32], [33], [30, 34]])
        .skip))
    (.seq
      (.region [
        ⟨some 36, .mv (.t 5), none⟩,
        ⟨some 4, .mv (.t 36), none⟩] [4] [] [[5]])
      .ret))

def b_dkim_zzSplit_3 : SCode :=
  (.block 3
    (.seq
      (.region [
        ⟨some 37, .mv (.t 0), none⟩,
        ⟨some 38, .mv (.t 1), none⟩,
        ⟨some 39, .call 22 [(.t 37), (.t 38)], none⟩,
        ⟨some 8, .mv (.t 39), none⟩] [0, 1, 5, 8] [] [[], [], [37, 38]])
      (.seq
        (.seq
          (.region [
            ⟨some 40, .mv (.t 8), none⟩,
            ⟨some 41, .bin .lss (.t 40) (.k (.int .i64 0)), none⟩] [0, 1, 5, 8, 41] [] [])
          (.cond (.t 41)
            (.seq
              (.region [
                ⟨some 42, .mv (.t 5), none⟩,
                ⟨some 43, .mv (.t 0), none⟩,
                ⟨some 44, .mkSl 1 1 [(.str [])] [(0, (.t 43))], none⟩,
                ⟨some 45, .app 1 16 (.t 42) (.t 44), none⟩,
                ⟨some 4, .mv (.t 45), none⟩] [4] [44] [[5], [0], [43], [42, 44]])
              .ret)
            .skip))
        (.seq
          (.region [
            ⟨some 46, .mv (.t 5), none⟩,
            ⟨some 47, .mv (.t 0), none⟩,
            ⟨some 48, .mv (.t 8), none⟩,
            ⟨some 49, .slStr (.t 47) none (some (.t 48)), none⟩,
            ⟨some 50, .mkSl 1 1 [(.str [])] [(0, (.t 49))], none⟩,
            ⟨some 51, .app 1 16 (.t 46) (.t 50), none⟩,
            ⟨some 5, .mv (.t 51), none⟩] [0, 1, 5, 8] [50] [[], [], [], [47, 48], [49], [46, 50]])
          (.region [
            ⟨some 52, .mv (.t 0), none⟩,
            ⟨some 53, .mv (.t 8), none⟩,
            ⟨some 54, .mv (.t 1), none⟩,
            ⟨some 55, .len 0 (.t 54), none⟩,
            ⟨some 56, .bin .add (.t 53) (.t 55), none⟩,
            ⟨some 57, .slStr (.t 52) (some (.t 56)) none, none⟩,
            ⟨some 0, .mv (.t 57), none⟩] [0, 1, 5] [] [[], [8], [], [54], [53, 55], [52, 56]])))))

def t_dkim_zzSplit_4 : SCode :=
  (.block 2
    (.loop [0, 1, 5]
      b_dkim_zzSplit_3))

def c_dkim_zzSplit : SFn := ⟨2,
    (.seq
      (.region [
        ⟨some 4, .mv (.k .nilS), none⟩] [0, 1] [] [])
      (.seq
        (.region [
          ⟨some 5, .mv (.k .nilS), none⟩] [0, 1, 5] [] [])
        (.seq
          (.seq
            (.region [
              ⟨some 9, .mv (.t 1), none⟩,
              ⟨some 10, .len 0 (.t 9), none⟩,
              ⟨some 11, .bin .eql (.t 10) (.k (.int .i64 0)), none⟩] [0, 1, 5, 11] [] [[], [9]])
            (.cond (.t 11)
              (.seq
                (.region [
                  ⟨some 6, .mv (.k (.int .i64 0)), none⟩] [0, 5, 6] [] [])
                (.seq
                  (.seq
                    (.region [
                      ⟨some 12, .mv (.t 0), none⟩,
                      ⟨some 13, .rangeS (.t 12), none⟩] [0, 5, 6, 13] [] [])
                    (.block 0
                      (.loop [0, 5, 6, 13]
                        b_dkim_zzSplit_1)))
                  t_dkim_zzSplit_2))
              .skip))
          t_dkim_zzSplit_4))),
  [.t 4]⟩

def l_dkim_zzSplit : Lay := { rg := [(0, ([0, 1], [])), (1, ([0, 1, 5], [])), (2, ([0, 1, 5, 11], [])), (3, ([0, 5, 6], [])), (4, ([0, 5, 6, 13], [])), (5, ([0, 5, 6, 13, 14, 15], [])), (6, ([0, 5, 6, 7, 13], [])), (7, ([0, 5, 6, 7, 13, 18], [])), (8, ([0, 5, 7, 13], [24])), (9, ([0, 5, 6, 13], [])), (10, ([0, 5, 6, 29], [13])), (11, ([5], [34])), (12, ([4], [])), (13, ([0, 1, 5, 8], [])), (14, ([0, 1, 5, 8, 41], [])), (15, ([4], [44])), (16, ([0, 1, 5, 8], [50])), (17, ([0, 1, 5], [])), (1000005, ([0, 5, 6, 13], [])), (1000013, ([0, 1, 5], []))], dd := [(2, [[], [9]]), (6, [[14]]), (8, [[], [], [6], [], [20, 21, 22], [23], [19, 24]]), (9, [[7]]), (10, [[], [27]]), (11, [[], [0], [6], [31, 32], [33], [30, 34]]), (12, [[5]]), (13, [[], [], [37, 38]]), (15, [[5], [0], [43], [42, 44]]), (16, [[], [], [], [47, 48], [49], [46, 50]]), (17, [[], [8], [], [54], [53, 55], [52, 56]])] }

/- dkim.stripWhitespace -/
def b_dkim_stripWhitespace_1 : SCode :=
  (.seq
    (.region [
      ⟨some 8, .nextS (.t 7), none⟩,
      ⟨some 9, .extr (.t 8) 0, none⟩] [3, 7, 8, 9] [] [])
    (.seq
      (.cond (.t 9)
        .skip
        (.exit 0))
      (.block 1
        (.seq
          (.region [
            ⟨some 10, .extr (.t 8) 2, none⟩,
            ⟨some 5, .mv (.t 10), none⟩] [3, 5, 7] [] [[8]])
          (.seq
            (.region [
              ⟨some 11, .mv (.t 5), none⟩,
              ⟨some 12, .call 23 [(.t 11)], none⟩,
              ⟨some 13, .un .not (.t 12), none⟩] [3, 5, 7, 13] [] [[], [11]])
            (.cond (.t 13)
              (.region [
                ⟨some 14, .mv (.t 3), none⟩,
                ⟨some 15, .mv (.t 5), none⟩,
                ⟨some 16, .cIntStr (.t 15), none⟩,
                ⟨some 17, .app 1 1 (.t 14) (.t 16), none⟩,
                ⟨some 3, .mv (.t 17), none⟩] [3, 7] [] [[], [5], [15], [14, 16]])
              .skip))))))

def t_dkim_stripWhitespace_2 : SCode :=
  (.seq
    (.region [
      ⟨some 18, .mv (.t 3), none⟩,
      ⟨some 19, .cBytesStr (.t 18), none⟩,
      ⟨some 2, .mv (.t 19), none⟩] [2] [7, 17] [[3], [18]])
    .ret)

def c_dkim_stripWhitespace : SFn := ⟨1,
    (.seq
      (.region [
        ⟨some 2, .mv (.k (.str [])), none⟩] [0] [] [])
      (.seq
        (.region [
          ⟨some 3, .mv (.k .nilS), none⟩] [0, 3] [] [])
        (.seq
          (.seq
            (.region [
              ⟨some 6, .mv (.t 0), none⟩,
              ⟨some 7, .rangeS (.t 6), none⟩] [3, 7] [] [[0]])
            (.block 0
              (.loop [3, 7]
                b_dkim_stripWhitespace_1)))
          t_dkim_stripWhitespace_2))),
  [.t 2]⟩

def l_dkim_stripWhitespace : Lay := { rg := [(0, ([0], [])), (1, ([0, 3], [])), (2, ([3, 7], [])), (3, ([3, 7, 8, 9], [])), (4, ([3, 5, 7], [])), (5, ([3, 5, 7, 13], [])), (6, ([3, 7], [])), (7, ([2], [7, 17])), (1000003, ([3, 7], []))], dd := [(2, [[0]]), (4, [[8]]), (5, [[], [11]]), (6, [[], [5], [15], [14, 16]]), (7, [[3], [18]])] }

/- strings.FieldsFunc -/
def b_strings_FieldsFunc_1 : SCode :=
  (.seq
    (.region [
      ⟨some 15, .nextS (.t 14), none⟩,
      ⟨some 16, .extr (.t 15) 0, none⟩] [0, 1, 5, 6, 14, 15, 16] [] [])
    (.seq
      (.cond (.t 16)
        .skip
        (.exit 0))
      (.block 1
        (.seq
          (.region [
            ⟨some 17, .extr (.t 15) 1, none⟩,
            ⟨some 18, .extr (.t 15) 2, none⟩,
            ⟨some 7, .mv (.t 17), none⟩,
            ⟨some 8, .mv (.t 18), none⟩] [0, 1, 5, 6, 7, 8, 14] [] [[], [15], [17]])
          (.seq
            (.region [
              ⟨some 19, .mv (.t 1), none⟩,
              ⟨some 20, .mv (.t 8), none⟩,
              ⟨some 21, .callV (.t 19) [(.t 20)], none⟩] [0, 1, 5, 6, 7, 14, 21] [] [[], [8]])
            (.cond (.t 21)
              (.seq
                (.region [
                  ⟨some 22, .mv (.t 6), none⟩,
                  ⟨some 23, .bin .geq (.t 22) (.k (.int .i64 0)), none⟩] [0, 1, 5, 6, 7, 14, 23] [] [])
                (.cond (.t 23)
                  (.seq
                    (.region [
                      ⟨some 24, .mv (.t 5), none⟩,
                      ⟨some 25, .mv (.t 6), none⟩,
                      ⟨some 26, .mv (.t 7), none⟩,
                      ⟨some 27, .agg [(.int .i64 0), (.int .i64 0)] [(0, 1, (.t 25)), (1, 1, (.t 26))], none⟩,
                      ⟨some 28, .mkSl 2 1 [(.int .i64 0), (.int .i64 0)] [(0, (.t 27))], none⟩,
                      ⟨some 29, .app 2 16 (.t 24) (.t 28), none⟩,
                      ⟨some 5, .mv (.t 29), none⟩] [0, 1, 5, 6, 14] [28] [[], [], [7], [25, 26], [27], [24, 28]])
                    (.region [
                      ⟨some 30, .mv (.t 6), none⟩,
                      ⟨some 31, .un .xor (.t 30), none⟩,
                      ⟨some 6, .mv (.t 31), none⟩] [0, 1, 5, 6, 14] [] [[], [30]]))
                  .skip))
              (.seq
                (.region [
                  ⟨some 32, .mv (.t 6), none⟩,
                  ⟨some 33, .bin .lss (.t 32) (.k (.int .i64 0)), none⟩] [0, 1, 5, 6, 7, 14, 33] [] [])
                (.cond (.t 33)
                  (.region [
                    ⟨some 34, .mv (.t 7), none⟩,
                    ⟨some 6, .mv (.t 34), none⟩] [0, 1, 5, 6, 14] [] [[7]])
                  .skip))))))))

def b_strings_FieldsFunc_2 : SCode :=
  (.seq
    (.region [
      ⟨some 50, .bin .lss (.t 49) (.t 48), none⟩] [0, 9, 47, 48, 49, 50] [] [])
    (.seq
      (.cond (.t 50)
        .skip
        (.exit 2))
      (.seq
        (.block 3
          (.seq
            (.region [
              ⟨some 51, .mv (.t 49), none⟩,
              ⟨some 52, .iAddr 2 (.t 47) (.t 49), none⟩,
              ⟨some 53, .load (some 2) (.t 52), none⟩,
              ⟨some 11, .alloc [(.int .i64 0), (.int .i64 0)], none⟩,
              ⟨some 10, .mv (.t 51), none⟩,
              ⟨none, .store 2 (.t 11) (.t 53), none⟩] [0, 9, 10, 11, 47, 48, 49] [] [[], [], [52], [], [51]])
            (.region [
              ⟨some 54, .mv (.t 9), none⟩,
              ⟨some 55, .mv (.t 10), none⟩,
              ⟨some 56, .mv (.t 0), none⟩,
              ⟨some 57, .fAddr 0 (.t 11), none⟩,
              ⟨some 58, .load none (.t 57), none⟩,
              ⟨some 59, .fAddr 1 (.t 11), none⟩,
              ⟨some 60, .load none (.t 59), none⟩,
              ⟨some 61, .slStr (.t 56) (some (.t 58)) (some (.t 60)), none⟩,
              ⟨some 62, .iAddr 1 (.t 54) (.t 55), none⟩,
              ⟨none, .store 1 (.t 62) (.t 61), none⟩] [0, 9, 47, 48, 49] [11] [[], [10], [], [], [57], [11], [59], [56, 58, 60], [54, 55]])))
        (.region [
          ⟨some 63, .bin .add (.t 49) (.k (.int .i64 1)), none⟩,
          ⟨some 49, .mv (.t 63), none⟩] [0, 9, 47, 48, 49] [] []))))

def t_strings_FieldsFunc_3 : SCode :=
  (.seq
    (.region [
      ⟨some 64, .mv (.t 9), none⟩,
      ⟨some 4, .mv (.t 64), none⟩] [4] [12, 29, 43] [[9]])
    .ret)

def t_strings_FieldsFunc_4 : SCode :=
  (.seq
    (.seq
      (.region [
        ⟨some 35, .mv (.t 6), none⟩,
        ⟨some 36, .bin .geq (.t 35) (.k (.int .i64 0)), none⟩] [0, 5, 6, 36] [14] [])
      (.cond (.t 36)
        (.region [
          ⟨some 37, .mv (.t 5), none⟩,
          ⟨some 38, .mv (.t 6), none⟩,
          ⟨some 39, .mv (.t 0), none⟩,
          ⟨some 40, .len 0 (.t 39), none⟩,
          ⟨some 41, .agg [(.int .i64 0), (.int .i64 0)] [(0, 1, (.t 38)), (1, 1, (.t 40))], none⟩,
          ⟨some 42, .mkSl 2 1 [(.int .i64 0), (.int .i64 0)] [(0, (.t 41))], none⟩,
          ⟨some 43, .app 2 16 (.t 37) (.t 42), none⟩,
          ⟨some 5, .mv (.t 43), none⟩] [0, 5] [42] [[], [6], [], [39], [38, 40], [41], [37, 42]])
        .skip))
    (.seq
      (.region [
        ⟨some 44, .mv (.t 5), none⟩,
        ⟨some 45, .len 1 (.t 44), none⟩,
        ⟨some 46, .mkSlice 1 16 [(.str [])] (.t 45) (.t 45), none⟩,
        ⟨some 9, .mv (.t 46), none⟩] [0, 5, 9] [] [[], [44], [45]])
      (.seq
        (.seq
          (.region [
            ⟨some 47, .mv (.t 5), none⟩,
            ⟨some 48, .len 1 (.t 47), none⟩,
            ⟨some 49, .mv (.k (.int .i64 0)), none⟩] [0, 9, 47, 48, 49] [] [[5]])
          (.block 2
            (.loop [0, 9, 47, 48, 49]
              b_strings_FieldsFunc_2)))
        t_strings_FieldsFunc_3)))

def c_strings_FieldsFunc : SFn := ⟨2,
    (.seq
      (.region [
        ⟨some 4, .mv (.k .nilS), none⟩] [0, 1] [] [])
      (.seq
        (.region [
          ⟨some 12, .mkSlice 2 16 [(.int .i64 0), (.int .i64 0)] (.k (.int .i64 0)) (.k (.int .i64 32)), none⟩,
          ⟨some 5, .mv (.t 12), none⟩] [0, 1, 5] [] [])
        (.seq
          (.region [
            ⟨some 6, .mv (.k (.int .i64 (-1))), none⟩] [0, 1, 5, 6] [] [])
          (.seq
            (.seq
              (.region [
                ⟨some 13, .mv (.t 0), none⟩,
                ⟨some 14, .rangeS (.t 13), none⟩] [0, 1, 5, 6, 14] [] [])
              (.block 0
                (.loop [0, 1, 5, 6, 14]
                  b_strings_FieldsFunc_1)))
            t_strings_FieldsFunc_4)))),
  [.t 4]⟩

def l_strings_FieldsFunc : Lay := { rg := [(0, ([0, 1], [])), (1, ([0, 1, 5], [])), (2, ([0, 1, 5, 6], [])), (3, ([0, 1, 5, 6, 14], [])), (4, ([0, 1, 5, 6, 14, 15, 16], [])), (5, ([0, 1, 5, 6, 7, 8, 14], [])), (6, ([0, 1, 5, 6, 7, 14, 21], [])), (7, ([0, 1, 5, 6, 7, 14, 23], [])), (8, ([0, 1, 5, 6, 14], [28])), (9, ([0, 1, 5, 6, 14], [])), (10, ([0, 1, 5, 6, 7, 14, 33], [])), (11, ([0, 1, 5, 6, 14], [])), (12, ([0, 5, 6, 36], [14])), (13, ([0, 5], [42])), (14, ([0, 5, 9], [])), (15, ([0, 9, 47, 48, 49], [])), (16, ([0, 9, 47, 48, 49, 50], [])), (17, ([0, 9, 10, 11, 47, 48, 49], [])), (18, ([0, 9, 47, 48, 49], [11])), (19, ([0, 9, 47, 48, 49], [])), (20, ([4], [12, 29, 43])), (1000004, ([0, 1, 5, 6, 14], [])), (1000016, ([0, 9, 47, 48, 49], []))], dd := [(5, [[], [15], [17]]), (6, [[], [8]]), (8, [[], [], [7], [25, 26], [27], [24, 28]]), (9, [[], [30]]), (11, [[7]]), (13, [[], [6], [], [39], [38, 40], [41], [37, 42]]), (14, [[], [44], [45]]), (15, [[5]]), (17, [[], [], [52], [], [51]]), (18, [[], [10], [], [], [57], [11], [59], [56, 58, 60], [54, 55]]), (20, [[9]])] }

/- laws.zzFits7 -/
def b_laws_zzFits7_1 : SCode :=
  (.seq
    (.region [
      ⟨some 11, .bin .lss (.t 10) (.t 9), none⟩] [8, 9, 10, 11] [] [])
    (.seq
      (.cond (.t 11)
        .skip
        (.exit 0))
      (.seq
        (.block 1
          (.seq
            (.region [
              ⟨some 12, .iAddr 1 (.t 8) (.t 10), none⟩,
              ⟨some 13, .load none (.t 12), none⟩,
              ⟨some 4, .mv (.t 13), none⟩] [4, 8, 9, 10] [] [[], [12]])
            (.seq
              (.region [
                ⟨some 14, .mv (.t 4), none⟩,
                ⟨some 15, .len 0 (.t 14), none⟩,
                ⟨some 16, .bin .gtr (.t 15) (.k (.int .i64 2147483647)), none⟩] [8, 9, 10, 16] [] [[4], [14]])
              (.cond (.t 16)
                (.seq
                  (.region [
                    ⟨some 2, .mv (.k (.bool false)), none⟩] [2] [] [])
                  .ret)
                .skip))))
        (.region [
          ⟨some 17, .bin .add (.t 10) (.k (.int .i64 1)), none⟩,
          ⟨some 10, .mv (.t 17), none⟩] [8, 9, 10] [] []))))

def t_laws_zzFits7_2 : SCode :=
  (.seq
    (.region [
      ⟨some 2, .mv (.k (.bool true)), none⟩] [2] [] [])
    .ret)

def c_laws_zzFits7 : SFn := ⟨1,
    (.seq
      (.region [
        ⟨some 2, .mv (.k (.bool false)), none⟩] [0] [] [])
      (.seq
        (.seq
          (.region [
            ⟨some 5, .mv (.t 0), none⟩,
            ⟨some 6, .len 1 (.t 5), none⟩,
            ⟨some 7, .bin .gtr (.t 6) (.k (.int .i64 2147483647)), none⟩] [0, 7] [] [[], [5]])
          (.cond (.t 7)
            (.seq
              (.region [
                ⟨some 2, .mv (.k (.bool false)), none⟩] [2] [] [])
              .ret)
            .skip))
        (.seq
          (.seq
            (.region [
              ⟨some 8, .mv (.t 0), none⟩,
              ⟨some 9, .len 1 (.t 8), none⟩,
              ⟨some 10, .mv (.k (.int .i64 0)), none⟩] [8, 9, 10] [] [[0]])
            (.block 0
              (.loop [8, 9, 10]
                b_laws_zzFits7_1)))
          t_laws_zzFits7_2))),
  [.t 2]⟩

def l_laws_zzFits7 : Lay := { rg := [(0, ([0], [])), (1, ([0, 7], [])), (2, ([2], [])), (3, ([8, 9, 10], [])), (4, ([8, 9, 10, 11], [])), (5, ([4, 8, 9, 10], [])), (6, ([8, 9, 10, 16], [])), (7, ([2], [])), (8, ([8, 9, 10], [])), (9, ([2], [])), (1000004, ([8, 9, 10], []))], dd := [(1, [[], [5]]), (3, [[0]]), (5, [[], [12]]), (6, [[4], [14]])] }

/- laws.FnDCanonAgain -/
def b_laws_FnDCanonAgain_1 : SCode :=
  (.seq
    (.seq
      (.region [
        ⟨some 57, .mv (.t 7), none⟩,
        ⟨some 58, .mv (.t 0), none⟩,
        ⟨some 59, .len 0 (.t 58), none⟩,
        ⟨some 60, .bin .lss (.t 57) (.t 59), none⟩] [0, 1, 2, 7, 60] [] [[], [], [58]])
      (.cond (.t 60)
        .skip
        (.exit 0)))
    (.seq
      (.block 1
        (.seq
          (.region [
            ⟨some 63, .mv (.t 0), none⟩,
            ⟨some 64, .mv (.t 7), none⟩,
            ⟨some 65, .iStr (.t 63) (.t 64), none⟩,
            ⟨some 8, .mv (.t 65), none⟩] [0, 1, 2, 7, 8] [] [[], [], [63, 64]])
          (.seq
            (.region [
              ⟨some 66, .mv (.t 8), none⟩,
              ⟨some 67, .bin .leq (.t 66) (.k (.int .u8 32)), none⟩,
              ⟨some 68, .mv (.t 67), none⟩,
              ⟨some 69, .mv (.t 8), some (68, false)⟩,
              ⟨some 70, .bin .eql (.t 69) (.k (.int .u8 58)), some (68, false)⟩,
              ⟨some 71, .pick (.t 68) (.k (.bool true)) (.t 70), none⟩,
              ⟨some 72, .mv (.t 71), none⟩,
              ⟨some 73, .mv (.t 8), some (72, false)⟩,
              ⟨some 74, .bin .eql (.t 73) (.k (.int .u8 127)), some (72, false)⟩,
              ⟨some 75, .pick (.t 72) (.k (.bool true)) (.t 74), none⟩] [0, 1, 2, 7, 75] [] [[], [66], [67], [], [69], [68, 70], [71], [8], [73]])
            (.cond (.t 75)
              (.seq
                (.region [
                  ⟨some 76, .call 11 [], none⟩,
                  ⟨some 6, .mv (.t 76), none⟩] [6] [] [])
                .ret)
              .skip))))
      (.region [
        ⟨some 61, .mv (.t 7), none⟩,
        ⟨some 62, .bin .add (.t 61) (.k (.int .i64 1)), none⟩,
        ⟨some 7, .mv (.t 62), none⟩] [0, 1, 2, 7] [] [[], [61]])))

def b_laws_FnDCanonAgain_2 : SCode :=
  (.seq
    (.seq
      (.region [
        ⟨some 77, .mv (.t 9), none⟩,
        ⟨some 78, .mv (.t 1), none⟩,
        ⟨some 79, .len 1 (.t 78), none⟩,
        ⟨some 80, .bin .lss (.t 77) (.t 79), none⟩] [0, 1, 2, 9, 80] [] [[], [], [78]])
      (.cond (.t 80)
        .skip
        (.exit 2)))
    (.seq
      (.block 3
        (.seq
          (.region [
            ⟨some 83, .mv (.t 1), none⟩,
            ⟨some 84, .mv (.t 9), none⟩,
            ⟨some 85, .iAddr 1 (.t 83) (.t 84), none⟩,
            ⟨some 86, .load none (.t 85), none⟩,
            ⟨some 87, .call 27 [(.t 86)], none⟩,
            ⟨some 88, .mv (.t 1), none⟩,
            ⟨some 89, .mv (.t 9), none⟩,
            ⟨some 90, .iAddr 1 (.t 88) (.t 89), none⟩,
            ⟨some 91, .load none (.t 90), none⟩,
            ⟨some 92, .bin .neq (.t 87) (.t 91), none⟩,
            ⟨some 93, .mv (.t 92), none⟩,
            ⟨some 94, .mv (.t 1), some (93, false)⟩,
            ⟨some 95, .mv (.t 9), some (93, false)⟩,
            ⟨some 96, .iAddr 1 (.t 94) (.t 95), some (93, false)⟩,
            ⟨some 97, .load none (.t 96), some (93, false)⟩,
            ⟨some 98, .bin .eql (.t 97) (.k (.str [])), some (93, false)⟩,
            ⟨some 99, .pick (.t 93) (.k (.bool true)) (.t 98), none⟩] [0, 1, 2, 9, 99] [] [])
          (.cond (.t 99)
            (.seq
              (.region [
                ⟨some 100, .call 11 [], none⟩,
                ⟨some 6, .mv (.t 100), none⟩] [6] [] [])
              .ret)
            .skip)))
      (.region [
        ⟨some 81, .mv (.t 9), none⟩,
        ⟨some 82, .bin .add (.t 81) (.k (.int .i64 1)), none⟩,
        ⟨some 9, .mv (.t 82), none⟩] [0, 1, 2, 9] [] [[], [81]])))

def b_laws_FnDCanonAgain_3 : SCode :=
  (.seq
    (.seq
      (.region [
        ⟨some 101, .mv (.t 10), none⟩,
        ⟨some 102, .mv (.t 2), none⟩,
        ⟨some 103, .len 1 (.t 102), none⟩,
        ⟨some 104, .bin .lss (.t 101) (.t 103), none⟩] [0, 1, 2, 10, 104] [] [[], [], [102]])
      (.cond (.t 104)
        .skip
        (.exit 4)))
    (.seq
      (.block 5
        (.seq
          (.region [
            ⟨some 107, .mv (.t 2), none⟩,
            ⟨some 108, .mv (.t 10), none⟩,
            ⟨some 109, .iAddr 1 (.t 107) (.t 108), none⟩,
            ⟨some 110, .load none (.t 109), none⟩,
            ⟨some 111, .call 27 [(.t 110)], none⟩,
            ⟨some 112, .bin .neq (.t 111) (.k (.str [])), none⟩,
            ⟨some 113, .mv (.t 112), none⟩,
            ⟨some 114, .mv (.t 2), some (113, false)⟩,
            ⟨some 115, .mv (.t 10), some (113, false)⟩,
            ⟨some 116, .iAddr 1 (.t 114) (.t 115), some (113, false)⟩,
            ⟨some 117, .load none (.t 116), some (113, false)⟩,
            ⟨some 118, .bin .eql (.t 117) (.k (.str [])), some (113, false)⟩,
            ⟨some 119, .pick (.t 113) (.k (.bool true)) (.t 118), none⟩] [0, 1, 2, 10, 119] [] [[], [], [107, 108], [109], [110], [111], [112], [], [], [114, 115], [116], [117]])
          (.cond (.t 119)
            (.seq
              (.region [
                ⟨some 120, .call 11 [], none⟩,
                ⟨some 6, .mv (.t 120), none⟩] [6] [] [])
              .ret)
            .skip)))
      (.region [
        ⟨some 105, .mv (.t 10), none⟩,
        ⟨some 106, .bin .add (.t 105) (.k (.int .i64 1)), none⟩,
        ⟨some 10, .mv (.t 106), none⟩] [0, 1, 2, 10] [] [[], [105]])))

def b_laws_FnDCanonAgain_4 : SCode :=
  (.seq
    (.seq
      (.region [
        ⟨some 129, .mv (.t 13), none⟩,
        ⟨some 130, .mv (.t 1), none⟩,
        ⟨some 131, .len 1 (.t 130), none⟩,
        ⟨some 132, .bin .lss (.t 129) (.t 131), none⟩] [0, 1, 2, 11, 12, 13, 132] [] [[], [], [130]])
      (.cond (.t 132)
        .skip
        (.exit 6)))
    (.seq
      (.block 7
        (.seq
          (.seq
            (.region [
              ⟨some 135, .mv (.t 13), none⟩,
              ⟨some 136, .bin .gtr (.t 135) (.k (.int .i64 0)), none⟩] [0, 1, 2, 11, 12, 13, 136] [] [])
            (.cond (.t 136)
              (.region [
                ⟨some 137, .mv (.t 11), none⟩,
                ⟨some 138, .bin .add (.t 137) (.k (.str [32])), none⟩,
                ⟨some 11, .mv (.t 138), none⟩] [0, 1, 2, 11, 12, 13] [] [[], [137]])
              .skip))
          (.seq
            (.region [
              ⟨some 139, .mv (.t 11), none⟩,
              ⟨some 140, .mv (.t 1), none⟩,
              ⟨some 141, .mv (.t 13), none⟩,
              ⟨some 142, .iAddr 1 (.t 140) (.t 141), none⟩,
              ⟨some 143, .load none (.t 142), none⟩,
              ⟨some 144, .bin .add (.t 139) (.t 143), none⟩,
              ⟨some 11, .mv (.t 144), none⟩] [0, 1, 2, 11, 12, 13] [] [[], [], [], [140, 141], [142], [139, 143]])
            (.region [
              ⟨some 145, .mv (.t 12), none⟩,
              ⟨some 146, .mv (.t 2), none⟩,
              ⟨some 147, .mv (.t 13), none⟩,
              ⟨some 148, .mv (.t 2), none⟩,
              ⟨some 149, .len 1 (.t 148), none⟩,
              ⟨some 150, .bin .rem (.t 147) (.t 149), none⟩,
              ⟨some 151, .iAddr 1 (.t 146) (.t 150), none⟩,
              ⟨some 152, .load none (.t 151), none⟩,
              ⟨some 153, .bin .add (.t 145) (.t 152), none⟩,
              ⟨some 154, .mv (.t 1), none⟩,
              ⟨some 155, .mv (.t 13), none⟩,
              ⟨some 156, .iAddr 1 (.t 154) (.t 155), none⟩,
              ⟨some 157, .load none (.t 156), none⟩,
              ⟨some 158, .bin .add (.t 153) (.t 157), none⟩,
              ⟨some 12, .mv (.t 158), none⟩] [0, 1, 2, 11, 12, 13] [] []))))
      (.region [
        ⟨some 133, .mv (.t 13), none⟩,
        ⟨some 134, .bin .add (.t 133) (.k (.int .i64 1)), none⟩,
        ⟨some 13, .mv (.t 134), none⟩] [0, 1, 2, 11, 12, 13] [] [[], [133]])))

def t_laws_FnDCanonAgain_5 : SCode :=
  (.seq
    (.region [
      ⟨some 159, .mv (.t 11), none⟩,
      ⟨some 160, .bin .add (.t 159) (.k (.str [13, 10])), none⟩,
      ⟨some 161, .call 8 [(.k (.str [114, 101, 108, 97, 120, 101, 100])), (.t 160)], none⟩,
      ⟨some 14, .mv (.t 161), none⟩] [0, 2, 11, 12, 14] [] [[], [159], [160]])
    (.seq
      (.region [
        ⟨some 162, .mv (.t 12), none⟩,
        ⟨some 163, .mv (.t 2), none⟩,
        ⟨some 164, .iAddr 1 (.t 163) (.k (.int .i64 0)), none⟩,
        ⟨some 165, .load none (.t 164), none⟩,
        ⟨some 166, .bin .add (.t 162) (.t 165), none⟩,
        ⟨some 167, .bin .add (.t 166) (.k (.str [13, 10])), none⟩,
        ⟨some 168, .call 8 [(.k (.str [114, 101, 108, 97, 120, 101, 100])), (.t 167)], none⟩,
        ⟨some 169, .mv (.t 14), none⟩,
        ⟨some 170, .bin .eql (.t 168) (.t 169), none⟩,
        ⟨some 171, .mv (.t 170), none⟩,
        ⟨some 172, .mv (.t 14), some (171, true)⟩,
        ⟨some 173, .call 8 [(.k (.str [114, 101, 108, 97, 120, 101, 100])), (.t 172)], some (171, true)⟩,
        ⟨some 174, .mv (.t 14), some (171, true)⟩,
        ⟨some 175, .bin .eql (.t 173) (.t 174), some (171, true)⟩,
        ⟨some 176, .pick (.t 171) (.t 175) (.k (.bool false)), none⟩,
        ⟨some 177, .mv (.t 176), none⟩,
        ⟨some 178, .mv (.t 14), some (177, true)⟩,
        ⟨some 179, .mv (.t 0), some (177, true)⟩,
        ⟨some 180, .call 4 [(.t 179)], some (177, true)⟩,
        ⟨some 181, .mv (.t 11), some (177, true)⟩,
        ⟨some 182, .mv (.t 0), some (177, true)⟩,
        ⟨some 183, .len 0 (.t 182), some (177, true)⟩,
        ⟨some 184, .slStr (.t 181) (some (.t 183)) none, some (177, true)⟩,
        ⟨some 185, .bin .add (.t 180) (.t 184), some (177, true)⟩,
        ⟨some 186, .bin .add (.t 185) (.k (.str [13, 10])), some (177, true)⟩,
        ⟨some 187, .bin .eql (.t 178) (.t 186), some (177, true)⟩,
        ⟨some 188, .pick (.t 177) (.t 187) (.k (.bool false)), none⟩,
        ⟨some 6, .mv (.t 188), none⟩] [6] [] [])
      .ret))

def t_laws_FnDCanonAgain_6 : SCode :=
  (.seq
    (.region [
      ⟨some 121, .mv (.t 0), none⟩,
      ⟨some 122, .bin .add (.t 121) (.k (.str [58])), none⟩,
      ⟨some 123, .mv (.t 0), none⟩,
      ⟨some 124, .mv (.t 2), none⟩,
      ⟨some 125, .iAddr 1 (.t 124) (.k (.int .i64 0)), none⟩,
      ⟨some 126, .load none (.t 125), none⟩,
      ⟨some 127, .bin .add (.t 123) (.t 126), none⟩,
      ⟨some 128, .bin .add (.t 127) (.k (.str [58])), none⟩,
      ⟨some 11, .mv (.t 122), none⟩,
      ⟨some 12, .mv (.t 128), none⟩] [0, 1, 2, 11, 12] [] [])
    (.seq
      (.seq
        (.region [
          ⟨some 13, .mv (.k (.int .i64 0)), none⟩] [0, 1, 2, 11, 12, 13] [] [])
        (.block 6
          (.loop [0, 1, 2, 11, 12, 13]
            b_laws_FnDCanonAgain_4)))
      t_laws_FnDCanonAgain_5))

def t_laws_FnDCanonAgain_7 : SCode :=
  (.seq
    (.seq
      (.region [
        ⟨some 10, .mv (.k (.int .i64 0)), none⟩] [0, 1, 2, 10] [] [])
      (.block 4
        (.loop [0, 1, 2, 10]
          b_laws_FnDCanonAgain_3)))
    t_laws_FnDCanonAgain_6)

def t_laws_FnDCanonAgain_8 : SCode :=
  (.seq
    (.seq
      (.region [
        ⟨some 9, .mv (.k (.int .i64 0)), none⟩] [0, 1, 2, 9] [] [])
      (.block 2
        (.loop [0, 1, 2, 9]
          b_laws_FnDCanonAgain_2)))
    t_laws_FnDCanonAgain_7)

def c_laws_FnDCanonAgain : SFn := ⟨3,
    (.seq
      (.region [
        ⟨some 6, .mv (.k (.bool false)), none⟩] [0, 1, 2] [] [])
      (.seq
        (.seq
          (.region [
            ⟨some 15, .mv (.t 0), none⟩,
            ⟨some 16, .len 0 (.t 15), none⟩,
            ⟨some 17, .bin .gtr (.t 16) (.k (.int .i64 2147483647)), none⟩,
            ⟨some 18, .mv (.t 17), none⟩,
            ⟨some 19, .mv (.t 1), some (18, false)⟩,
            ⟨some 20, .call 32 [(.t 19)], some (18, false)⟩,
            ⟨some 21, .un .not (.t 20), some (18, false)⟩,
            ⟨some 22, .pick (.t 18) (.k (.bool true)) (.t 21), none⟩,
            ⟨some 23, .mv (.t 22), none⟩,
            ⟨some 24, .mv (.t 2), some (23, false)⟩,
            ⟨some 25, .call 32 [(.t 24)], some (23, false)⟩,
            ⟨some 26, .un .not (.t 25), some (23, false)⟩,
            ⟨some 27, .pick (.t 23) (.k (.bool true)) (.t 26), none⟩] [0, 1, 2, 27] [] [[], [15], [16], [17], [], [19], [20], [18, 21], [22], [], [24], [25]])
          (.cond (.t 27)
            (.seq
              (.region [
                ⟨some 6, .mv (.k (.bool true)), none⟩] [6] [] [])
              .ret)
            .skip))
        (.seq
          (.seq
            (.region [
              ⟨some 28, .mv (.t 0), none⟩,
              ⟨some 29, .mkSl 1 1 [(.str [])] [(0, (.t 28))], none⟩,
              ⟨some 30, .call 10 [(.k (.int .i64 200)), (.t 29)], none⟩,
              ⟨some 31, .un .not (.t 30), none⟩,
              ⟨some 32, .mv (.t 31), none⟩,
              ⟨some 33, .mv (.t 1), some (32, false)⟩,
              ⟨some 34, .call 10 [(.k (.int .i64 200)), (.t 33)], some (32, false)⟩,
              ⟨some 35, .un .not (.t 34), some (32, false)⟩,
              ⟨some 36, .pick (.t 32) (.k (.bool true)) (.t 35), none⟩,
              ⟨some 37, .mv (.t 36), none⟩,
              ⟨some 38, .mv (.t 2), some (37, false)⟩,
              ⟨some 39, .call 10 [(.k (.int .i64 20)), (.t 38)], some (37, false)⟩,
              ⟨some 40, .un .not (.t 39), some (37, false)⟩,
              ⟨some 41, .pick (.t 37) (.k (.bool true)) (.t 40), none⟩,
              ⟨some 42, .mv (.t 41), none⟩,
              ⟨some 43, .mv (.t 0), some (42, false)⟩,
              ⟨some 44, .bin .eql (.t 43) (.k (.str [])), some (42, false)⟩,
              ⟨some 45, .pick (.t 42) (.k (.bool true)) (.t 44), none⟩,
              ⟨some 46, .mv (.t 45), none⟩,
              ⟨some 47, .mv (.t 1), some (46, false)⟩,
              ⟨some 48, .len 1 (.t 47), some (46, false)⟩,
              ⟨some 49, .bin .eql (.t 48) (.k (.int .i64 0)), some (46, false)⟩,
              ⟨some 50, .pick (.t 46) (.k (.bool true)) (.t 49), none⟩,
              ⟨some 51, .mv (.t 50), none⟩,
              ⟨some 52, .mv (.t 2), some (51, false)⟩,
              ⟨some 53, .len 1 (.t 52), some (51, false)⟩,
              ⟨some 54, .bin .eql (.t 53) (.k (.int .i64 0)), some (51, false)⟩,
              ⟨some 55, .pick (.t 51) (.k (.bool true)) (.t 54), none⟩] [0, 1, 2, 55] [29] [[], [28], [29], [30], [31], [], [33], [34], [32, 35], [36], [], [38], [39], [37, 40], [41], [], [43], [42, 44], [45], [], [47], [48], [46, 49], [50], [], [52], [53]])
            (.cond (.t 55)
              (.seq
                (.region [
                  ⟨some 56, .call 11 [], none⟩,
                  ⟨some 6, .mv (.t 56), none⟩] [6] [] [])
                .ret)
              .skip))
          (.seq
            (.seq
              (.region [
                ⟨some 7, .mv (.k (.int .i64 0)), none⟩] [0, 1, 2, 7] [] [])
              (.block 0
                (.loop [0, 1, 2, 7]
                  b_laws_FnDCanonAgain_1)))
            t_laws_FnDCanonAgain_8)))),
  [.t 6]⟩

def l_laws_FnDCanonAgain : Lay := { rg := [(0, ([0, 1, 2], [])), (1, ([0, 1, 2, 27], [])), (2, ([6], [])), (3, ([0, 1, 2, 55], [29])), (4, ([6], [])), (5, ([0, 1, 2, 7], [])), (6, ([0, 1, 2, 7, 60], [])), (7, ([0, 1, 2, 7], [])), (8, ([0, 1, 2, 7, 8], [])), (9, ([0, 1, 2, 7, 75], [])), (10, ([6], [])), (11, ([0, 1, 2, 9], [])), (12, ([0, 1, 2, 9, 80], [])), (13, ([0, 1, 2, 9], [])), (14, ([0, 1, 2, 9, 99], [])), (15, ([6], [])), (16, ([0, 1, 2, 10], [])), (17, ([0, 1, 2, 10, 104], [])), (18, ([0, 1, 2, 10], [])), (19, ([0, 1, 2, 10, 119], [])), (20, ([6], [])), (21, ([0, 1, 2, 11, 12], [])), (22, ([0, 1, 2, 11, 12, 13], [])), (23, ([0, 1, 2, 11, 12, 13, 132], [])), (24, ([0, 1, 2, 11, 12, 13], [])), (25, ([0, 1, 2, 11, 12, 13, 136], [])), (26, ([0, 1, 2, 11, 12, 13], [])), (27, ([0, 1, 2, 11, 12, 13], [])), (28, ([0, 1, 2, 11, 12, 13], [])), (29, ([0, 2, 11, 12, 14], [])), (30, ([6], [])), (1000006, ([0, 1, 2, 7], [])), (1000012, ([0, 1, 2, 9], [])), (1000017, ([0, 1, 2, 10], [])), (1000023, ([0, 1, 2, 11, 12, 13], []))], dd := [(1, [[], [15], [16], [17], [], [19], [20], [18, 21], [22], [], [24], [25]]), (3, [[], [28], [29], [30], [31], [], [33], [34], [32, 35], [36], [], [38], [39], [37, 40], [41], [], [43], [42, 44], [45], [], [47], [48], [46, 49], [50], [], [52], [53]]), (6, [[], [], [58]]), (7, [[], [61]]), (8, [[], [], [63, 64]]), (9, [[], [66], [67], [], [69], [68, 70], [71], [8], [73]]), (12, [[], [], [78]]), (13, [[], [81]]), (17, [[], [], [102]]), (18, [[], [105]]), (19, [[], [], [107, 108], [109], [110], [111], [112], [], [], [114, 115], [116], [117]]), (23, [[], [], [130]]), (24, [[], [133]]), (26, [[], [137]]), (27, [[], [], [], [140, 141], [142], [139, 143]]), (29, [[], [159], [160]])] }

/- laws.FnDPicks -/
def c_laws_FnDPicks : SFn := ⟨2,
    (.seq
      (.region [
        ⟨some 4, .mv (.k (.bool false)), none⟩] [0, 1] [] [])
      (.seq
        (.seq
          (.region [
            ⟨some 5, .mv (.t 0), none⟩,
            ⟨some 6, .call 32 [(.t 5)], none⟩,
            ⟨some 7, .un .not (.t 6), none⟩,
            ⟨some 8, .mv (.t 7), none⟩,
            ⟨some 9, .mv (.t 1), some (8, false)⟩,
            ⟨some 10, .call 32 [(.t 9)], some (8, false)⟩,
            ⟨some 11, .un .not (.t 10), some (8, false)⟩,
            ⟨some 12, .pick (.t 8) (.k (.bool true)) (.t 11), none⟩] [0, 1, 12] [] [[], [5], [6], [7], [], [9], [10]])
          (.cond (.t 12)
            (.seq
              (.region [
                ⟨some 4, .mv (.k (.bool true)), none⟩] [4] [] [])
              .ret)
            .skip))
        (.seq
          (.seq
            (.region [
              ⟨some 13, .mv (.t 0), none⟩,
              ⟨some 14, .call 10 [(.k (.int .i64 1000)), (.t 13)], none⟩,
              ⟨some 15, .un .not (.t 14), none⟩,
              ⟨some 16, .mv (.t 15), none⟩,
              ⟨some 17, .mv (.t 1), some (16, false)⟩,
              ⟨some 18, .call 10 [(.k (.int .i64 1000)), (.t 17)], some (16, false)⟩,
              ⟨some 19, .un .not (.t 18), some (16, false)⟩,
              ⟨some 20, .pick (.t 16) (.k (.bool true)) (.t 19), none⟩,
              ⟨some 21, .mv (.t 20), none⟩,
              ⟨some 22, .mv (.t 0), some (21, false)⟩,
              ⟨some 23, .len 1 (.t 22), some (21, false)⟩,
              ⟨some 24, .bin .gtr (.t 23) (.k (.int .i64 50)), some (21, false)⟩,
              ⟨some 25, .pick (.t 21) (.k (.bool true)) (.t 24), none⟩,
              ⟨some 26, .mv (.t 25), none⟩,
              ⟨some 27, .mv (.t 1), some (26, false)⟩,
              ⟨some 28, .len 1 (.t 27), some (26, false)⟩,
              ⟨some 29, .bin .gtr (.t 28) (.k (.int .i64 50)), some (26, false)⟩,
              ⟨some 30, .pick (.t 26) (.k (.bool true)) (.t 29), none⟩] [0, 1, 30] [] [[], [13], [14], [15], [], [17], [18], [16, 19], [20], [], [22], [23], [21, 24], [25], [], [27], [28]])
            (.cond (.t 30)
              (.seq
                (.region [
                  ⟨some 31, .call 11 [], none⟩,
                  ⟨some 4, .mv (.t 31), none⟩] [4] [] [])
                .ret)
              .skip))
          (.seq
            (.region [
              ⟨some 32, .mv (.t 0), none⟩,
              ⟨some 33, .mv (.t 1), none⟩,
              ⟨some 34, .call 33 [(.t 32), (.t 33)], none⟩,
              ⟨some 35, .mv (.t 0), none⟩,
              ⟨some 36, .mv (.t 1), none⟩,
              ⟨some 37, .call 34 [(.t 35), (.t 36)], none⟩,
              ⟨some 38, .call 35 [(.t 34), (.t 37)], none⟩,
              ⟨some 39, .mv (.t 38), none⟩,
              ⟨some 40, .mkSlF 1 1 [(.str [])] [(0, (.k (.str [65, 58, 32, 98, 13, 10])))], some (39, true)⟩,
              ⟨some 41, .mkSlF 1 1 [(.str [])] [(0, (.k (.str [97])))], some (39, true)⟩,
              ⟨some 42, .call 33 [(.t 40), (.t 41)], some (39, true)⟩,
              ⟨some 43, .len 1 (.t 42), some (39, true)⟩,
              ⟨some 44, .bin .eql (.t 43) (.k (.int .i64 1)), some (39, true)⟩,
              ⟨some 45, .pick (.t 39) (.t 44) (.k (.bool false)), none⟩,
              ⟨some 4, .mv (.t 45), none⟩] [4] [] [[], [], [32, 33], [0], [1], [35, 36], [34, 37], [38], [], [], [40, 41], [42], [43], [39, 44]])
            .ret)))),
  [.t 4]⟩

def l_laws_FnDPicks : Lay := { rg := [(0, ([0, 1], [])), (1, ([0, 1, 12], [])), (2, ([4], [])), (3, ([0, 1, 30], [])), (4, ([4], [])), (5, ([4], []))], dd := [(1, [[], [5], [6], [7], [], [9], [10]]), (3, [[], [13], [14], [15], [], [17], [18], [16, 19], [20], [], [22], [23], [21, 24], [25], [], [27], [28]]), (5, [[], [], [32, 33], [0], [1], [35, 36], [34, 37], [38], [], [], [40, 41], [42], [43], [39, 44]])], fz := [40, 41] }

/- laws.dSameTexts -/
def b_laws_dSameTexts_1 : SCode :=
  (.seq
    (.seq
      (.region [
        ⟨some 11, .mv (.t 5), none⟩,
        ⟨some 12, .mv (.t 0), none⟩,
        ⟨some 13, .len 1 (.t 12), none⟩,
        ⟨some 14, .bin .lss (.t 11) (.t 13), none⟩] [0, 1, 5, 14] [] [[], [], [12]])
      (.cond (.t 14)
        .skip
        (.exit 0)))
    (.seq
      (.block 1
        (.seq
          (.region [
            ⟨some 17, .mv (.t 0), none⟩,
            ⟨some 18, .mv (.t 5), none⟩,
            ⟨some 19, .iAddr 1 (.t 17) (.t 18), none⟩,
            ⟨some 20, .load none (.t 19), none⟩,
            ⟨some 21, .mv (.t 1), none⟩,
            ⟨some 22, .mv (.t 5), none⟩,
            ⟨some 23, .iAddr 1 (.t 21) (.t 22), none⟩,
            ⟨some 24, .load none (.t 23), none⟩,
            ⟨some 25, .bin .neq (.t 20) (.t 24), none⟩] [0, 1, 5, 25] [] [])
          (.cond (.t 25)
            (.seq
              (.region [
                ⟨some 4, .mv (.k (.bool false)), none⟩] [4] [] [])
              .ret)
            .skip)))
      (.region [
        ⟨some 15, .mv (.t 5), none⟩,
        ⟨some 16, .bin .add (.t 15) (.k (.int .i64 1)), none⟩,
        ⟨some 5, .mv (.t 16), none⟩] [0, 1, 5] [] [[], [15]])))

def t_laws_dSameTexts_2 : SCode :=
  (.seq
    (.region [
      ⟨some 4, .mv (.k (.bool true)), none⟩] [4] [] [])
    .ret)

def c_laws_dSameTexts : SFn := ⟨2,
    (.seq
      (.region [
        ⟨some 4, .mv (.k (.bool false)), none⟩] [0, 1] [] [])
      (.seq
        (.seq
          (.region [
            ⟨some 6, .mv (.t 0), none⟩,
            ⟨some 7, .len 1 (.t 6), none⟩,
            ⟨some 8, .mv (.t 1), none⟩,
            ⟨some 9, .len 1 (.t 8), none⟩,
            ⟨some 10, .bin .neq (.t 7) (.t 9), none⟩] [0, 1, 10] [] [[], [6], [], [8]])
          (.cond (.t 10)
            (.seq
              (.region [
                ⟨some 4, .mv (.k (.bool false)), none⟩] [4] [] [])
              .ret)
            .skip))
        (.seq
          (.seq
            (.region [
              ⟨some 5, .mv (.k (.int .i64 0)), none⟩] [0, 1, 5] [] [])
            (.block 0
              (.loop [0, 1, 5]
                b_laws_dSameTexts_1)))
          t_laws_dSameTexts_2))),
  [.t 4]⟩

def l_laws_dSameTexts : Lay := { rg := [(0, ([0, 1], [])), (1, ([0, 1, 10], [])), (2, ([4], [])), (3, ([0, 1, 5], [])), (4, ([0, 1, 5, 14], [])), (5, ([0, 1, 5], [])), (6, ([0, 1, 5, 25], [])), (7, ([4], [])), (8, ([4], [])), (1000004, ([0, 1, 5], []))], dd := [(1, [[], [6], [], [8]]), (4, [[], [], [12]]), (5, [[], [15]])] }

/- impl.DPick -/
def c_impl_DPick : SFn := ⟨2,
    (.seq
      (.region [
        ⟨some 4, .mv (.k .nilS), none⟩] [0, 1] [] [])
      (.seq
        (.region [
          ⟨some 5, .mv (.t 0), none⟩,
          ⟨some 6, .call 36 [(.t 5)], none⟩,
          ⟨some 7, .mv (.t 1), none⟩,
          ⟨some 8, .call 37 [(.t 6), (.t 7)], none⟩,
          ⟨some 4, .mv (.t 8), none⟩] [4] [] [[0], [5], [1], [6, 7]])
        .ret)),
  [.t 4]⟩

def l_impl_DPick : Lay := { rg := [(0, ([0, 1], [])), (1, ([4], []))], dd := [(1, [[0], [5], [1], [6, 7]])] }

/- spec.DPicked -/
def b_spec_DPicked_1 : SCode :=
  (.seq
    (.seq
      (.region [
        ⟨some 22, .mv (.t 9), none⟩,
        ⟨some 23, .bin .geq (.t 22) (.k (.int .i64 0)), none⟩] [0, 1, 5, 6, 7, 8, 9, 23] [] [])
      (.cond (.t 23)
        .skip
        (.exit 2)))
    (.seq
      (.block 3
        (.seq
          (.region [
            ⟨some 26, .mv (.t 5), none⟩,
            ⟨some 27, .mv (.t 9), none⟩,
            ⟨some 28, .iAddr 1 (.t 26) (.t 27), none⟩,
            ⟨some 29, .load none (.t 28), none⟩,
            ⟨some 30, .un .not (.t 29), none⟩,
            ⟨some 31, .mv (.t 30), none⟩,
            ⟨some 32, .mv (.t 0), some (31, true)⟩,
            ⟨some 33, .mv (.t 9), some (31, true)⟩,
            ⟨some 34, .iAddr 1 (.t 32) (.t 33), some (31, true)⟩,
            ⟨some 35, .load none (.t 34), some (31, true)⟩,
            ⟨some 36, .call 28 [(.t 35)], some (31, true)⟩,
            ⟨some 37, .call 4 [(.t 36)], some (31, true)⟩,
            ⟨some 38, .mv (.t 1), some (31, true)⟩,
            ⟨some 39, .mv (.t 7), some (31, true)⟩,
            ⟨some 40, .iAddr 1 (.t 38) (.t 39), some (31, true)⟩,
            ⟨some 41, .load none (.t 40), some (31, true)⟩,
            ⟨some 42, .call 4 [(.t 41)], some (31, true)⟩,
            ⟨some 43, .bin .eql (.t 37) (.t 42), some (31, true)⟩,
            ⟨some 44, .pick (.t 31) (.t 43) (.k (.bool false)), none⟩] [0, 1, 5, 6, 7, 8, 9, 44] [] [])
          (.cond (.t 44)
            (.seq
              (.region [
                ⟨some 45, .mv (.t 5), none⟩,
                ⟨some 46, .mv (.t 9), none⟩,
                ⟨some 47, .mv (.t 0), none⟩,
                ⟨some 48, .mv (.t 9), none⟩,
                ⟨some 49, .iAddr 1 (.t 47) (.t 48), none⟩,
                ⟨some 50, .load none (.t 49), none⟩,
                ⟨some 8, .mv (.t 50), none⟩,
                ⟨some 51, .iAddr 1 (.t 45) (.t 46), none⟩,
                ⟨none, .store 1 (.t 51) (.k (.bool true)), none⟩] [0, 1, 5, 6, 7, 8] [] [[], [], [], [9], [47, 48], [49], [50], [45, 46]])
              (.exit 2))
            .skip)))
      (.region [
        ⟨some 24, .mv (.t 9), none⟩,
        ⟨some 25, .bin .sub (.t 24) (.k (.int .i64 1)), none⟩,
        ⟨some 9, .mv (.t 25), none⟩] [0, 1, 5, 6, 7, 8, 9] [] [[], [24]])))

def t_spec_DPicked_2 : SCode :=
  (.region [
    ⟨some 52, .mv (.t 6), none⟩,
    ⟨some 53, .mv (.t 8), none⟩,
    ⟨some 54, .mkSl 1 1 [(.str [])] [(0, (.t 53))], none⟩,
    ⟨some 55, .app 1 16 (.t 52) (.t 54), none⟩,
    ⟨some 6, .mv (.t 55), none⟩] [0, 1, 5, 6, 7] [54] [[], [8], [53], [52, 54]])

def t_spec_DPicked_3 : SCode :=
  (.region [
    ⟨some 17, .mv (.t 7), none⟩,
    ⟨some 18, .bin .add (.t 17) (.k (.int .i64 1)), none⟩,
    ⟨some 7, .mv (.t 18), none⟩] [0, 1, 5, 6, 7] [] [[], [17]])

def b_spec_DPicked_4 : SCode :=
  (.seq
    (.seq
      (.region [
        ⟨some 13, .mv (.t 7), none⟩,
        ⟨some 14, .mv (.t 1), none⟩,
        ⟨some 15, .len 1 (.t 14), none⟩,
        ⟨some 16, .bin .lss (.t 13) (.t 15), none⟩] [0, 1, 5, 6, 7, 16] [] [[], [], [14]])
      (.cond (.t 16)
        .skip
        (.exit 0)))
    (.seq
      (.block 1
        (.seq
          (.region [
            ⟨some 8, .mv (.k (.str [])), none⟩] [0, 1, 5, 6, 7, 8] [] [])
          (.seq
            (.seq
              (.region [
                ⟨some 19, .mv (.t 0), none⟩,
                ⟨some 20, .len 1 (.t 19), none⟩,
                ⟨some 21, .bin .sub (.t 20) (.k (.int .i64 1)), none⟩,
                ⟨some 9, .mv (.t 21), none⟩] [0, 1, 5, 6, 7, 8, 9] [] [[], [19], [20]])
              (.block 2
                (.loop [0, 1, 5, 6, 7, 8, 9]
                  b_spec_DPicked_1)))
            t_spec_DPicked_2)))
      t_spec_DPicked_3))

def t_spec_DPicked_5 : SCode :=
  (.seq
    (.region [
      ⟨some 56, .mv (.t 6), none⟩,
      ⟨some 4, .mv (.t 56), none⟩] [4] [12] [[6]])
    .ret)

def c_spec_DPicked : SFn := ⟨2,
    (.seq
      (.region [
        ⟨some 4, .mv (.k .nilS), none⟩] [0, 1] [] [])
      (.seq
        (.region [
          ⟨some 10, .mv (.t 0), none⟩,
          ⟨some 11, .len 1 (.t 10), none⟩,
          ⟨some 12, .mkSlice 1 1 [(.bool false)] (.t 11) (.t 11), none⟩,
          ⟨some 5, .mv (.t 12), none⟩] [0, 1, 5] [] [[], [10], [11]])
        (.seq
          (.region [
            ⟨some 6, .mv (.k .nilS), none⟩] [0, 1, 5, 6] [] [])
          (.seq
            (.seq
              (.region [
                ⟨some 7, .mv (.k (.int .i64 0)), none⟩] [0, 1, 5, 6, 7] [] [])
              (.block 0
                (.loop [0, 1, 5, 6, 7]
                  b_spec_DPicked_4)))
            t_spec_DPicked_5)))),
  [.t 4]⟩

def l_spec_DPicked : Lay := { rg := [(0, ([0, 1], [])), (1, ([0, 1, 5], [])), (2, ([0, 1, 5, 6], [])), (3, ([0, 1, 5, 6, 7], [])), (4, ([0, 1, 5, 6, 7, 16], [])), (5, ([0, 1, 5, 6, 7], [])), (6, ([0, 1, 5, 6, 7, 8], [])), (7, ([0, 1, 5, 6, 7, 8, 9], [])), (8, ([0, 1, 5, 6, 7, 8, 9, 23], [])), (9, ([0, 1, 5, 6, 7, 8, 9], [])), (10, ([0, 1, 5, 6, 7, 8, 9, 44], [])), (11, ([0, 1, 5, 6, 7, 8], [])), (12, ([0, 1, 5, 6, 7], [54])), (13, ([4], [12])), (1000004, ([0, 1, 5, 6, 7], [])), (1000008, ([0, 1, 5, 6, 7, 8, 9], []))], dd := [(1, [[], [10], [11]]), (4, [[], [], [14]]), (5, [[], [17]]), (7, [[], [19], [20]]), (9, [[], [24]]), (11, [[], [], [], [9], [47, 48], [49], [50], [45, 46]]), (12, [[], [8], [53], [52, 54]]), (13, [[6]])] }

/- dkim.Pick -/
def b_dkim_Pick_1 : SCode :=
  (.seq
    (.region [
      ⟨some 14, .bin .lss (.t 13) (.t 12), none⟩] [5, 6, 11, 12, 13, 14] [] [])
    (.seq
      (.cond (.t 14)
        .skip
        (.exit 0))
      (.seq
        (.block 1
          (.seq
            (.region [
              ⟨some 15, .iAddr 1 (.t 11) (.t 13), none⟩,
              ⟨some 16, .load none (.t 15), none⟩,
              ⟨some 8, .mv (.t 16), none⟩] [5, 6, 8, 11, 12, 13] [] [[], [15]])
            (.region [
              ⟨some 17, .mv (.t 6), none⟩,
              ⟨some 18, .mv (.t 5), none⟩,
              ⟨some 19, .mv (.t 8), none⟩,
              ⟨some 20, .callS 39 [(.t 18), (.t 19)], none⟩,
              ⟨some 21, .mkSl 1 1 [(.str [])] [(0, (.t 20))], none⟩,
              ⟨some 22, .app 1 16 (.t 17) (.t 21), none⟩,
              ⟨some 6, .mv (.t 22), none⟩] [5, 6, 11, 12, 13] [21] [[], [], [8], [18, 19], [20], [17, 21]])))
        (.region [
          ⟨some 23, .bin .add (.t 13) (.k (.int .i64 1)), none⟩,
          ⟨some 13, .mv (.t 23), none⟩] [5, 6, 11, 12, 13] [] []))))

def t_dkim_Pick_2 : SCode :=
  (.seq
    (.region [
      ⟨some 24, .mv (.t 6), none⟩,
      ⟨some 4, .mv (.t 24), none⟩] [4] [] [[6]])
    .ret)

def c_dkim_Pick : SFn := ⟨2,
    (.seq
      (.region [
        ⟨some 4, .mv (.k .nilS), none⟩] [0, 1] [] [])
      (.seq
        (.region [
          ⟨some 9, .mv (.t 0), none⟩,
          ⟨some 10, .callS 38 [(.t 9)], none⟩,
          ⟨some 5, .mv (.t 10), none⟩] [1, 5] [] [[0], [9]])
        (.seq
          (.region [
            ⟨some 6, .mv (.k .nilS), none⟩] [1, 5, 6] [] [])
          (.seq
            (.seq
              (.region [
                ⟨some 11, .mv (.t 1), none⟩,
                ⟨some 12, .len 1 (.t 11), none⟩,
                ⟨some 13, .mv (.k (.int .i64 0)), none⟩] [5, 6, 11, 12, 13] [] [[1]])
              (.block 0
                (.loop [5, 6, 11, 12, 13]
                  b_dkim_Pick_1)))
            t_dkim_Pick_2)))),
  [.t 4]⟩

def l_dkim_Pick : Lay := { rg := [(0, ([0, 1], [])), (1, ([1, 5], [])), (2, ([1, 5, 6], [])), (3, ([5, 6, 11, 12, 13], [])), (4, ([5, 6, 11, 12, 13, 14], [])), (5, ([5, 6, 8, 11, 12, 13], [])), (6, ([5, 6, 11, 12, 13], [21])), (7, ([5, 6, 11, 12, 13], [])), (8, ([4], [])), (1000004, ([5, 6, 11, 12, 13], []))], dd := [(1, [[0], [9]]), (3, [[1]]), (5, [[], [15]]), (6, [[], [], [8], [18, 19], [20], [17, 21]]), (8, [[6]])], sf := [38, 39] }

/- dkim.newHeaderPicker -/
def c_dkim_newHeaderPicker : SFn := ⟨1,
    (.seq
      (.region [
        ⟨some 2, .mv (.k .nilP), none⟩] [0] [] [])
      (.seq
        (.region [
          ⟨some 3, .mv (.t 0), none⟩,
          ⟨some 4, .mkMap, none⟩,
          ⟨some 5, .agg [.nilS, .nilM] [(0, 1, (.t 3)), (1, 1, (.t 4))], none⟩,
          ⟨some 6, .box (.t 5), none⟩,
          ⟨some 2, .mv (.t 6), none⟩] [2] [] [[0], [], [3, 4], [5]])
        .ret)),
  [.t 2]⟩

def l_dkim_newHeaderPicker : Lay := { rg := [(0, ([0], [])), (1, ([2], []))], dd := [(1, [[0], [], [3, 4], [5]])] }

/- dkim.headerPicker).Pick -/
def b_dkim_headerPicker_Pick_1 : SCode :=
  (.seq
    (.seq
      (.region [
        ⟨some 24, .mv (.t 6), none⟩,
        ⟨some 25, .bin .geq (.t 24) (.k (.int .i64 0)), none⟩] [0, 1, 5, 6, 25] [] [])
      (.cond (.t 25)
        .skip
        (.exit 0)))
    (.seq
      (.block 1
        (.seq
          (.region [
            ⟨some 28, .mv (.t 0), none⟩,
            ⟨some 29, .chk (.t 28), none⟩,
            ⟨some 30, .fAddr 0 (.t 29), none⟩,
            ⟨some 31, .load none (.t 30), none⟩,
            ⟨some 32, .mv (.t 6), none⟩,
            ⟨some 33, .iAddr 1 (.t 31) (.t 32), none⟩,
            ⟨some 34, .load none (.t 33), none⟩,
            ⟨some 7, .mv (.t 34), none⟩] [0, 1, 5, 6, 7] [] [[], [28], [29], [30], [], [31, 32], [33]])
          (.seq
            (.region [
              ⟨some 36, .mv (.t 7), none⟩,
              ⟨some 37, .call 40 [(.t 36)], none⟩,
              ⟨some 35, .mv (.t 37), none⟩,
              ⟨some 38, .extr (.t 35) 0, none⟩,
              ⟨some 39, .extr (.t 35) 1, none⟩,
              ⟨some 8, .mv (.t 38), none⟩,
              ⟨some 9, .mv (.t 39), none⟩] [0, 1, 5, 6, 7, 8] [] [[], [36], [37], [], [35], [38]])
            (.seq
              (.seq
                (.region [
                  ⟨some 40, .mv (.t 8), none⟩,
                  ⟨some 41, .mv (.t 1), none⟩,
                  ⟨some 42, .call 41 [(.t 40), (.t 41)], none⟩,
                  ⟨some 43, .un .not (.t 42), none⟩] [0, 1, 5, 6, 7, 43] [] [[8], [], [40, 41]])
                (.cond (.t 43)
                  (.exit 1)
                  .skip))
              (.seq
                (.seq
                  (.region [
                    ⟨some 44, .mv (.t 5), none⟩,
                    ⟨some 45, .bin .eql (.t 44) (.k (.int .i64 0)), none⟩] [0, 1, 5, 6, 7, 45] [] [])
                  (.cond (.t 45)
                    (.seq
                      (.region [
                        ⟨some 46, .mv (.t 0), none⟩,
                        ⟨some 47, .chk (.t 46), none⟩,
                        ⟨some 48, .fAddr 1 (.t 47), none⟩,
                        ⟨some 49, .load none (.t 48), none⟩,
                        ⟨some 50, .mv (.t 1), none⟩,
                        ⟨some 51, .look (.int .i64 0) false (.t 49) (.t 50), none⟩,
                        ⟨some 52, .bin .add (.t 51) (.k (.int .i64 1)), none⟩,
                        ⟨none, .mput (.t 49) (.t 50) (.t 52), none⟩] [7] [] [[0], [46], [47], [48], [1], [], [51]])
                      (.seq
                        (.region [
                          ⟨some 53, .mv (.t 7), none⟩,
                          ⟨some 4, .mv (.t 53), none⟩] [4] [] [[7]])
                        .ret))
                    .skip))
                (.region [
                  ⟨some 54, .mv (.t 5), none⟩,
                  ⟨some 55, .bin .sub (.t 54) (.k (.int .i64 1)), none⟩,
                  ⟨some 5, .mv (.t 55), none⟩] [0, 1, 5, 6] [] [[], [54]]))))))
      (.region [
        ⟨some 26, .mv (.t 6), none⟩,
        ⟨some 27, .bin .sub (.t 26) (.k (.int .i64 1)), none⟩,
        ⟨some 6, .mv (.t 27), none⟩] [0, 1, 5, 6] [] [[], [26]])))

def t_dkim_headerPicker_Pick_2 : SCode :=
  (.seq
    (.region [
      ⟨some 4, .mv (.k (.str [])), none⟩] [4] [] [])
    .ret)

def c_dkim_headerPicker_Pick : SFn := ⟨2,
    (.seq
      (.region [
        ⟨some 4, .mv (.k (.str [])), none⟩] [0, 1] [] [])
      (.seq
        (.region [
          ⟨some 10, .mv (.t 1), none⟩,
          ⟨some 11, .call 17 [(.t 10)], none⟩,
          ⟨some 1, .mv (.t 11), none⟩] [0, 1] [] [[], [10]])
        (.seq
          (.region [
            ⟨some 12, .mv (.t 0), none⟩,
            ⟨some 13, .chk (.t 12), none⟩,
            ⟨some 14, .fAddr 1 (.t 13), none⟩,
            ⟨some 15, .load none (.t 14), none⟩,
            ⟨some 16, .mv (.t 1), none⟩,
            ⟨some 17, .look (.int .i64 0) false (.t 15) (.t 16), none⟩,
            ⟨some 5, .mv (.t 17), none⟩] [0, 1, 5] [] [[], [12], [13], [14], [], [15, 16]])
          (.seq
            (.seq
              (.region [
                ⟨some 18, .mv (.t 0), none⟩,
                ⟨some 19, .chk (.t 18), none⟩,
                ⟨some 20, .fAddr 0 (.t 19), none⟩,
                ⟨some 21, .load none (.t 20), none⟩,
                ⟨some 22, .len 1 (.t 21), none⟩,
                ⟨some 23, .bin .sub (.t 22) (.k (.int .i64 1)), none⟩,
                ⟨some 6, .mv (.t 23), none⟩] [0, 1, 5, 6] [] [[], [18], [19], [20], [21], [22]])
              (.block 0
                (.loop [0, 1, 5, 6]
                  b_dkim_headerPicker_Pick_1)))
            t_dkim_headerPicker_Pick_2)))),
  [.t 4]⟩

def l_dkim_headerPicker_Pick : Lay := { rg := [(0, ([0, 1], [])), (1, ([0, 1], [])), (2, ([0, 1, 5], [])), (3, ([0, 1, 5, 6], [])), (4, ([0, 1, 5, 6, 25], [])), (5, ([0, 1, 5, 6], [])), (6, ([0, 1, 5, 6, 7], [])), (7, ([0, 1, 5, 6, 7, 8], [])), (8, ([0, 1, 5, 6, 7, 43], [])), (9, ([0, 1, 5, 6, 7, 45], [])), (10, ([7], [])), (11, ([4], [])), (12, ([0, 1, 5, 6], [])), (13, ([4], [])), (1000004, ([0, 1, 5, 6], []))], dd := [(1, [[], [10]]), (2, [[], [12], [13], [14], [], [15, 16]]), (3, [[], [18], [19], [20], [21], [22]]), (5, [[], [26]]), (6, [[], [28], [29], [30], [], [31, 32], [33]]), (7, [[], [36], [37], [], [35], [38]]), (8, [[8], [], [40, 41]]), (10, [[0], [46], [47], [48], [1], [], [51]]), (11, [[7]]), (12, [[], [54]])] }

/- dkim.parseHeaderField -/
def c_dkim_parseHeaderField : SFn := ⟨1,
    (.seq
      (.region [
        ⟨some 2, .mv (.k (.str [])), none⟩,
        ⟨some 3, .mv (.k (.str [])), none⟩] [0] [] [[2]])
      (.seq
        (.region [
          ⟨some 8, .mv (.t 0), none⟩,
          ⟨some 9, .call 16 [(.t 8), (.k (.str [58]))], none⟩,
          ⟨some 7, .mv (.t 9), none⟩,
          ⟨some 10, .extr (.t 7) 0, none⟩,
          ⟨some 11, .extr (.t 7) 1, none⟩,
          ⟨some 12, .extr (.t 7) 2, none⟩,
          ⟨some 4, .mv (.t 10), none⟩,
          ⟨some 5, .mv (.t 11), none⟩,
          ⟨some 6, .mv (.t 12), none⟩] [4, 5] [] [[0], [8], [9], [], [], [7], [10], [11]])
        (.seq
          (.region [
            ⟨some 13, .mv (.t 4), none⟩,
            ⟨some 14, .call 18 [(.t 13)], none⟩,
            ⟨some 15, .mv (.t 5), none⟩,
            ⟨some 16, .call 18 [(.t 15)], none⟩,
            ⟨some 2, .mv (.t 14), none⟩,
            ⟨some 3, .mv (.t 16), none⟩] [2, 3] [] [[4], [13], [5], [15], [14]])
          .ret))),
  [.t 2, .t 3]⟩

def l_dkim_parseHeaderField : Lay := { rg := [(0, ([0], [])), (1, ([4, 5], [])), (2, ([2, 3], []))], dd := [(0, [[2]]), (1, [[0], [8], [9], [], [], [7], [10], [11]]), (2, [[4], [13], [5], [15], [14]])] }

/- dkim.zzEqualFold -/
def b_dkim_zzEqualFold_1 : SCode :=
  (.seq
    (.region [
      ⟨some 23, .bin .lss (.t 22) (.t 21), none⟩] [6, 7, 21, 22, 23] [] [])
    (.seq
      (.cond (.t 23)
        .skip
        (.exit 0))
      (.seq
        (.block 1
          (.seq
            (.region [
              ⟨some 24, .mv (.t 22), none⟩,
              ⟨some 8, .mv (.t 24), none⟩] [6, 7, 8, 21, 22] [] [])
            (.seq
              (.region [
                ⟨some 25, .mv (.t 6), none⟩,
                ⟨some 26, .mv (.t 8), none⟩,
                ⟨some 27, .iAddr 1 (.t 25) (.t 26), none⟩,
                ⟨some 28, .load none (.t 27), none⟩,
                ⟨some 29, .mv (.t 7), none⟩,
                ⟨some 30, .mv (.t 8), none⟩,
                ⟨some 31, .iAddr 1 (.t 29) (.t 30), none⟩,
                ⟨some 32, .load none (.t 31), none⟩,
                ⟨some 33, .bin .neq (.t 28) (.t 32), none⟩] [6, 7, 21, 22, 33] [] [])
              (.cond (.t 33)
                (.seq
                  (.region [
                    ⟨some 4, .mv (.k (.bool false)), none⟩] [4] [] [])
                  .ret)
                .skip))))
        (.region [
          ⟨some 34, .bin .add (.t 22) (.k (.int .i64 1)), none⟩,
          ⟨some 22, .mv (.t 34), none⟩] [6, 7, 21, 22] [] []))))

def t_dkim_zzEqualFold_2 : SCode :=
  (.seq
    (.region [
      ⟨some 4, .mv (.k (.bool true)), none⟩] [4] [] [])
    .ret)

def c_dkim_zzEqualFold : SFn := ⟨2,
    (.seq
      (.region [
        ⟨some 4, .mv (.k (.bool false)), none⟩] [0, 1] [] [])
      (.seq
        (.region [
          ⟨some 5, .mv (.k (.fn 42 [])), none⟩] [0, 1, 5] [] [])
        (.seq
          (.region [
            ⟨some 9, .mv (.t 5), none⟩,
            ⟨some 10, .mv (.t 0), none⟩,
            ⟨some 11, .callV (.t 9) [(.t 10)], none⟩,
            ⟨some 12, .mv (.t 5), none⟩,
            ⟨some 13, .mv (.t 1), none⟩,
            ⟨some 14, .callV (.t 12) [(.t 13)], none⟩,
            ⟨some 6, .mv (.t 11), none⟩,
            ⟨some 7, .mv (.t 14), none⟩] [6, 7] [] [[], [0], [9, 10], [5], [1], [12, 13], [11]])
          (.seq
            (.seq
              (.region [
                ⟨some 15, .mv (.t 6), none⟩,
                ⟨some 16, .len 1 (.t 15), none⟩,
                ⟨some 17, .mv (.t 7), none⟩,
                ⟨some 18, .len 1 (.t 17), none⟩,
                ⟨some 19, .bin .neq (.t 16) (.t 18), none⟩] [6, 7, 19] [] [[], [15], [], [17]])
              (.cond (.t 19)
                (.seq
                  (.region [
                    ⟨some 4, .mv (.k (.bool false)), none⟩] [4] [] [])
                  .ret)
                .skip))
            (.seq
              (.seq
                (.region [
                  ⟨some 20, .mv (.t 6), none⟩,
                  ⟨some 21, .len 1 (.t 20), none⟩,
                  ⟨some 22, .mv (.k (.int .i64 0)), none⟩] [6, 7, 21, 22] [] [[], [20]])
                (.block 0
                  (.loop [6, 7, 21, 22]
                    b_dkim_zzEqualFold_1)))
              t_dkim_zzEqualFold_2))))),
  [.t 4]⟩

def l_dkim_zzEqualFold : Lay := { rg := [(0, ([0, 1], [])), (1, ([0, 1, 5], [])), (2, ([6, 7], [])), (3, ([6, 7, 19], [])), (4, ([4], [])), (5, ([6, 7, 21, 22], [])), (6, ([6, 7, 21, 22, 23], [])), (7, ([6, 7, 8, 21, 22], [])), (8, ([6, 7, 21, 22, 33], [])), (9, ([4], [])), (10, ([6, 7, 21, 22], [])), (11, ([4], [])), (1000006, ([6, 7, 21, 22], []))], dd := [(2, [[], [0], [9, 10], [5], [1], [12, 13], [11]]), (3, [[], [15], [], [17]]), (5, [[], [20]])] }

/- dkim.zzEqualFold$1 -/
def b_dkim_zzEqualFold_1_1 : SCode :=
  (.seq
    (.region [
      ⟨some 8, .nextS (.t 7), none⟩,
      ⟨some 9, .extr (.t 8) 0, none⟩] [3, 7, 8, 9] [] [])
    (.seq
      (.cond (.t 9)
        .skip
        (.exit 0))
      (.block 1
        (.seq
          (.region [
            ⟨some 10, .extr (.t 8) 2, none⟩,
            ⟨some 5, .mv (.t 10), none⟩] [3, 5, 7] [] [[8]])
          (.seq
            (.block 2
              (.seq
                (.region [
                  ⟨some 12, .mv (.t 5), none⟩,
                  ⟨some 13, .bin .leq (.k (.int .i32 65)) (.t 12), none⟩,
                  ⟨some 14, .mv (.t 13), none⟩,
                  ⟨some 15, .mv (.t 5), some (14, true)⟩,
                  ⟨some 16, .bin .leq (.t 15) (.k (.int .i32 90)), some (14, true)⟩,
                  ⟨some 17, .pick (.t 14) (.t 16) (.k (.bool false)), none⟩,
                  ⟨some 11, .mv (.t 17), none⟩] [3, 5, 7, 11] [] [[], [12], [13], [], [15], [14, 16]])
                (.cond (.t 11)
                  (.region [
                    ⟨some 18, .mv (.t 5), none⟩,
                    ⟨some 19, .bin .add (.t 18) (.k (.int .i32 32)), none⟩,
                    ⟨some 5, .mv (.t 19), none⟩] [3, 5, 7] [] [[], [18]])
                  (.seq
                    (.region [
                      ⟨some 21, .mv (.t 5), none⟩,
                      ⟨some 22, .bin .eql (.t 21) (.k (.int .i32 383)), none⟩,
                      ⟨some 20, .mv (.t 22), none⟩] [3, 5, 7, 20] [] [[], [21]])
                    (.cond (.t 20)
                      (.region [
                        ⟨some 5, .mv (.k (.int .i32 115)), none⟩] [3, 5, 7] [] [])
                      (.seq
                        (.region [
                          ⟨some 24, .mv (.t 5), none⟩,
                          ⟨some 25, .bin .eql (.t 24) (.k (.int .i32 8490)), none⟩,
                          ⟨some 23, .mv (.t 25), none⟩] [3, 5, 7, 23] [] [[], [24]])
                        (.cond (.t 23)
                          (.region [
                            ⟨some 5, .mv (.k (.int .i32 107)), none⟩] [3, 5, 7] [] [])
                          .skip)))))))
            (.region [
              ⟨some 26, .mv (.t 3), none⟩,
              ⟨some 27, .mv (.t 5), none⟩,
              ⟨some 28, .mkSl 1 1 [(.int .i32 0)] [(0, (.t 27))], none⟩,
              ⟨some 29, .app 1 4 (.t 26) (.t 28), none⟩,
              ⟨some 3, .mv (.t 29), none⟩] [3, 7] [28] [[], [5], [27], [26, 28]]))))))

def t_dkim_zzEqualFold_1_2 : SCode :=
  (.seq
    (.region [
      ⟨some 30, .mv (.t 3), none⟩,
      ⟨some 2, .mv (.t 30), none⟩] [2] [7] [[3]])
    .ret)

def c_dkim_zzEqualFold_1 : SFn := ⟨1,
    (.seq
      (.region [
        ⟨some 2, .mv (.k .nilS), none⟩] [0] [] [])
      (.seq
        (.region [
          ⟨some 3, .mv (.k .nilS), none⟩] [0, 3] [] [])
        (.seq
          (.seq
            (.region [
              ⟨some 6, .mv (.t 0), none⟩,
              ⟨some 7, .rangeS (.t 6), none⟩] [3, 7] [] [[0]])
            (.block 0
              (.loop [3, 7]
                b_dkim_zzEqualFold_1_1)))
          t_dkim_zzEqualFold_1_2))),
  [.t 2]⟩

def l_dkim_zzEqualFold_1 : Lay := { rg := [(0, ([0], [])), (1, ([0, 3], [])), (2, ([3, 7], [])), (3, ([3, 7, 8, 9], [])), (4, ([3, 5, 7], [])), (5, ([3, 5, 7, 11], [])), (6, ([3, 5, 7], [])), (7, ([3, 5, 7, 20], [])), (8, ([3, 5, 7], [])), (9, ([3, 5, 7, 23], [])), (10, ([3, 5, 7], [])), (11, ([3, 7], [28])), (12, ([2], [7])), (1000003, ([3, 7], []))], dd := [(2, [[0]]), (4, [[8]]), (5, [[], [12], [13], [], [15], [14, 16]]), (6, [[], [18]]), (7, [[], [21]]), (9, [[], [24]]), (11, [[], [5], [27], [26, 28]]), (12, [[3]])] }

end Wax

/- Contracts, one behind the other. -/
namespace Wax
open Go Go.RowKit

/-- No contract; methods by a table. -/
def gam0 (ms : List (Nat × String × Nat)) : Gam := ⟨fun _ _ => none, fun t name => (ms.find? fun m => m.1 == t && m.2.1 == name).map (·.2.2), fun _ _ _ => none⟩

def Gam.add (Γ : Gam) (g : Nat) (c : List AV → Option AV) : Gam := ⟨fun h => if h = g then c else Γ.fn h, Γ.mth, Γ.st⟩

def Gam.addS (Γ : Gam) (g : Nat) (c : List AV → List (Nat × AObj) → Option (AV × List (Nat × AObj))) : Gam := ⟨Γ.fn, Γ.mth, fun h => if h = g then c else Γ.st h⟩

@[simp] theorem add_fn_same {Γ : Gam} {g : Nat} {c : List AV → Option AV} : (Γ.add g c).fn g = c := by simp [Gam.add]
theorem add_fn_other {Γ : Gam} {g h : Nat} {c : List AV → Option AV} (e : h ≠ g) : (Γ.add g c).fn h = Γ.fn h := by simp [Gam.add, e]
@[simp] theorem add_mth {Γ : Gam} {g : Nat} {c : List AV → Option AV} : (Γ.add g c).mth = Γ.mth := rfl

@[simp] theorem add_st {Γ : Gam} {g : Nat} {c : List AV → Option AV} : (Γ.add g c).st = Γ.st := rfl
@[simp] theorem addS_fn {Γ : Gam} {g : Nat} {c} : (Γ.addS g c).fn = Γ.fn := rfl
@[simp] theorem addS_mth {Γ : Gam} {g : Nat} {c} : (Γ.addS g c).mth = Γ.mth := rfl
@[simp] theorem addS_st_same {Γ : Gam} {g : Nat} {c} : (Γ.addS g c).st g = c := by simp [Gam.addS]
theorem addS_st_other {Γ : Gam} {g h : Nat} {c} (e : h ≠ g) : (Γ.addS g c).st h = Γ.st h := by simp [Gam.addS, e]

def injB (l : List (Nat × Nat)) : Bool := l.all fun p => l.all fun q => p.2 != q.2 || p.1 == q.1

theorem lkN_mem : ∀ {l : List (Nat × Nat)} {i v : Nat}, lkN l i = some v → (i, v) ∈ l
  | (j, u) :: r, i, v, h => by
    simp only [lkN] at h
    split at h
    · rename_i e; simp at e h; subst e; subst h; simp
    · exact List.mem_cons_of_mem _ (lkN_mem h)

theorem injB_spec {l : List (Nat × Nat)} (h : injB l = true) {i j v : Nat} (hi : lkN l i = some v) (hj : lkN l j = some v) : i = j := by
  simp only [injB, List.all_eq_true] at h
  have := h _ (lkN_mem hi) _ (lkN_mem hj)
  simpa using this

theorem tinj {T : Tab} (h : injB T.tys = true) : TInj T := fun _ _ _ ht hu => injB_spec h ht hu

/-- The method of this name, of values of this type, is this function: told by looking. -/
def mthB (P : Program) (t : TypeId) (name : String) (f : FuncId) : Bool :=
  match P.info? t with
  | none => false
  | some i => match i.methods.find? (·.name == name) with
    | none => false
    | some m => m.path.size == 0 && (match m.func with
      | some (g, pr) => g == f && (match P.underlying t with
        | some (.pointer _) => pr
        | some _ => !pr
        | none => false)
      | none => false)

theorem mthB_spec {P : Program} {t : TypeId} {name : String} {f : FuncId} (h : mthB P t name f = true) : MthOk P t name f := by
  intro v w
  simp only [mthB] at h
  cases hi : P.info? t with
  | none => simp [hi] at h
  | some i =>
    simp only [hi] at h
    cases hm : i.methods.find? (·.name == name) with
    | none => simp [hm] at h
    | some m =>
      simp only [hm, Bool.and_eq_true, beq_iff_eq] at h
      obtain ⟨hp, h⟩ := h
      cases hf : m.func with
      | none => simp [hf] at h
      | some gp =>
        obtain ⟨g, pr⟩ := gp
        simp only [hf, Bool.and_eq_true, beq_iff_eq] at h
        obtain ⟨rfl, h⟩ := h
        have hpl : m.path.toList = [] := by
          have : m.path.toList.length = 0 := by simpa using hp
          exact List.length_eq_zero_iff.1 this
        have hrec : ∀ wr, (receiverAt t (.val v) pr wr).run P w = .ok v w := by
          intro wr
          cases hu : P.underlying t with
          | none => simp [hu] at h
          | some d =>
            simp only [hu] at h
            simp only [receiverAt, Sem.run_bind, rUnder hu, Result.andThen_ok]
            cases d <;> cases pr <;> simp at h <;> simp [Place.get]
        have e : P.types.size + Made.depth = (P.types.size + 99) + 1 := rfl
        rw [e]
        generalize P.types.size + 99 = fuel
        simp only [method, Sem.run_bind, rInfo hi, Result.andThen_ok, hm, hpl, follow, Sem.run_pure, hf, hrec]

/-- The empty table of contracts. -/
theorem gam0_ok {P : Program} {T : Tab} {ms : List (Nat × String × Nat)} (h : ∀ t g name q, lkN T.tys t = some g → (gam0 ms).mth g name = some q → ∃ f, lkN T.fns f = some q ∧ MthOk P t name f) : GamOk P T (gam0 ms) :=
  ⟨fun f g args r _ h => by simp [gam0] at h, h, fun f g args hp q _ h => by simp [gam0] at h⟩

def mthsB (P : Program) (T : Tab) (ms : List (Nat × String × Nat)) : Bool :=
  T.tys.all fun tg => ms.all fun m => m.1 != tg.2 || T.fns.any fun fg => fg.2 == m.2.2 && lkN T.fns fg.1 == some m.2.2 && mthB P tg.1 m.2.1 fg.1

theorem mthsB_spec {P : Program} {T : Tab} {ms : List (Nat × String × Nat)} (h : mthsB P T ms = true) : GamOk P T (gam0 ms) := by
  refine gam0_ok ?_
  intro t g name q ht hm
  simp only [gam0, Option.map_eq_some_iff] at hm
  obtain ⟨m, hm, rfl⟩ := hm
  have h1 := List.mem_of_find?_eq_some hm
  have h2 := List.find?_some hm
  simp only [Bool.and_eq_true, beq_iff_eq] at h2
  simp only [mthsB, List.all_eq_true, List.any_eq_true] at h
  have h3 := h _ (lkN_mem ht) m h1
  simp only [Bool.or_eq_true, bne_iff_ne, ne_eq] at h3
  rcases h3 with h3 | h3
  · exact absurd h2.1 h3
  · simp only [List.any_eq_true, Bool.and_eq_true, beq_iff_eq] at h3
    obtain ⟨fg, _, ⟨_, h5⟩, h6⟩ := h3
    exact ⟨fg.1, h5, by rw [← h2.2]; exact mthB_spec h6⟩

/-- One contract more. -/
theorem GamOk.add {P : Program} {T : Tab} {Γ : Gam} (G : GamOk P T Γ) (hF : injB T.fns = true) {f g : Nat} (hf : lkN T.fns f = some g) (hb : hasBody P f = true) {c : List AV → Option AV} (h : ∀ args r, c args = some r → OkCall P T f args r) :
    GamOk P T (Γ.add g c) where
  fn := by
    intro f' g' args r hf' hc
    by_cases e : g' = g
    · subst e
      have := injB_spec hF hf' hf; subst this
      rw [add_fn_same] at hc
      exact ⟨hb, h args r hc⟩
    · rw [add_fn_other e] at hc
      exact G.fn f' g' args r hf' hc
  mth := G.mth
  st := G.st

theorem GamOk.addS {P : Program} {T : Tab} {Γ : Gam} (G : GamOk P T Γ) (hF : injB T.fns = true) {f g : Nat} (hf : lkN T.fns f = some g) (hb : hasBody P f = true) {c : List AV → List (Nat × AObj) → Option (AV × List (Nat × AObj))} (h : ∀ args hp q, c args hp = some q → OkS P T f args hp q.1 q.2) :
    GamOk P T (Γ.addS g c) where
  fn := G.fn
  mth := G.mth
  st := by
    intro f' g' args hp q hf' hc
    by_cases e : g' = g
    · subst e
      have := injB_spec hF hf' hf; subst this
      rw [addS_st_same] at hc
      exact ⟨hb, h args hp q hc⟩
    · rw [addS_st_other e] at hc
      exact G.st f' g' args hp q hf' hc

/-- One function more, walked. -/
theorem GamOk.walk {P : Program} {T : Tab} {Γ : Gam} (G : GamOk P T Γ) (hT : injB T.tys = true) (hF : injB T.fns = true) {f g : Nat} (hf : lkN T.fns f = some g) (hb : hasBody P f = true) {L : Lay} {fn : Func} {sfn : SFn}
    (hfn : P.funcs[f]? = some fn) (hc : compFn P T L fn = some sfn) {c : List AV → Option AV} (h : ∀ args r, c args = some r → runs Γ sfn args (fun v => v = r)) : GamOk P T (Γ.add g c) :=
  G.add hF hf hb fun args r hr => fn_sound (tinj hT) G hfn hc (h args r hr)

/-- One function more that sees objects, walked. -/
theorem GamOk.walkS {P : Program} {T : Tab} {Γ : Gam} (G : GamOk P T Γ) (hT : injB T.tys = true) (hF : injB T.fns = true) {f g : Nat} (hf : lkN T.fns f = some g) (hb : hasBody P f = true) {L : Lay} {fn : Func} {sfn : SFn}
    (hfn : P.funcs[f]? = some fn) (hc : compFn P T L fn = some sfn) {c : List AV → List (Nat × AObj) → Option (AV × List (Nat × AObj))} (h : ∀ args hp q, c args hp = some q → runsS Γ sfn args hp (fun v => v = some q)) : GamOk P T (Γ.addS g c) :=
  G.addS hF hf hb fun args hp q hr => fnS_sound (tinj hT) G hfn hc (h args hp q hr)
end Wax

/- Bytes as cells. -/
namespace Wax
open Go (IntKind)

section
theorem ite_some {α : Type} {p : Prop} [Decidable p] {a r : α} (h : (if p then some a else none) = some r) : p ∧ a = r := by
  by_cases e : p <;> simp [e] at h ⊢; exact h
@[simp] theorem bcA_nil : bcA [] = [] := rfl
@[simp] theorem bcA_cons {b : UInt8} {s : List UInt8} : bcA (b :: s) = .int .u8 (b.toNat : Int) :: bcA s := rfl
@[simp] theorem bcA_app {s t : List UInt8} : bcA (s ++ t) = bcA s ++ bcA t := by simp [bcA]
@[simp] theorem bcA_length {s : List UInt8} : (bcA s).length = s.length := by simp [bcA]
@[simp] theorem bcA_get {s : List UInt8} {i : Nat} : (bcA s)[i]? = s[i]?.map fun b => AV.int .u8 (b.toNat : Int) := by simp [bcA]
@[simp] theorem bcA_drop {s : List UInt8} {i : Nat} : (bcA s).drop i = bcA (s.drop i) := by simp [bcA, List.map_drop]
@[simp] theorem bcA_take {s : List UInt8} {i : Nat} : (bcA s).take i = bcA (s.take i) := by simp [bcA, List.map_take]
@[simp] theorem atoms_app {a b : List AV} : atoms (a ++ b) = (atoms a && atoms b) := by
  induction a with
  | nil => simp
  | cons x r ih => simp [ih, Bool.and_assoc]
@[simp] theorem atoms_bcA {s : List UInt8} : atoms (bcA s) = true := by induction s <;> simp_all
@[simp] theorem killL_app {d : Nat} {a b : List AV} : killL d (a ++ b) = killL d a ++ killL d b := by
  induction a with
  | nil => simp
  | cons x r ih => simp [ih]
@[simp] theorem killL_bcA {d : Nat} {s : List UInt8} : killL d (bcA s) = bcA s := by induction s <;> simp_all
@[simp] theorem killL_length {d : Nat} {s : List AV} : (killL d s).length = s.length := by induction s <;> simp_all
@[simp] theorem toBytes_bcA {s : List UInt8} : toBytes (bcA s) = some s := by
  induction s with
  | nil => rfl
  | cons b r ih => simp [toBytes, ih]
@[simp] theorem loadC_drop {cs : List AV} {i : Nat} : loadC none (cs.drop i) = cs[i]?.bind fun c => if atom c = true then some c else none := by
  cases h : cs[i]? with
  | none =>
    have : cs.drop i = [] := List.drop_eq_nil_of_le (by simpa using h)
    simp [this]
  | some c =>
    have hl : i < cs.length := by
      rcases Nat.lt_or_ge i cs.length with h' | h'
      · exact h'
      · rw [List.getElem?_eq_none h'] at h; simp at h
    rw [List.drop_eq_getElem_cons hl]
    have : cs[i] = c := by rw [List.getElem?_eq_getElem hl] at h; simpa using h
    simp [this]
@[simp] theorem spliceL_one {cs : List AV} {i : Nat} {x : AV} : spliceL cs i [x] = cs.set i x := rfl
@[simp] theorem spliceL_nil {cs : List AV} {i : Nat} : spliceL cs i [] = cs := rfl
@[simp] theorem toBytes_nil : toBytes [] = some [] := rfl
@[simp] theorem toBytes_byte {b : UInt8} {r : List AV} : toBytes (.int .u8 (b.toNat : Int) :: r) = (toBytes r).map (b :: ·) := by
  simp [toBytes]
@[simp] theorem made_o2 {hp : List (Nat × AObj)} {d : Nat} {o : AObj} {v : AV} : made hp d o v = some (o2 hp d v o) := rfl
/-- A slice of bytes that grows from nil: the value, the object behind it. -/
def outV (d : Nat) (out : List UInt8) : AV := match out with | [] => .nilS | _ => .msl d 1 0 out.length
def outH (d : Nat) (out : List UInt8) : List (Nat × AObj) := match out with | [] => [] | _ => [(d, .cells (bcA out))]
@[simp] theorem outV_nil {d : Nat} : outV d [] = .nilS := rfl
@[simp] theorem outH_nil {d : Nat} : outH d [] = [] := rfl
theorem outV_ne {d : Nat} {out : List UInt8} (h : out ≠ []) : outV d out = .msl d 1 0 out.length := by cases out <;> first | exact absurd rfl h | rfl
theorem outH_ne {d : Nat} {out : List UInt8} (h : out ≠ []) : outH d out = [(d, .cells (bcA out))] := by cases out <;> first | exact absurd rfl h | rfl
@[simp] theorem toNat_ofNat {n : Nat} : (n : Int).toNat = n := by simp
end
end Wax

/- The plain functions of the set's reference: what each answers. -/
namespace Wax
open Go (IntKind)

def big : Nat := 4611686018427387904

def isWs (n : Int) : Bool := decide (n = 32 ∨ n = 9 ∨ n = 13 ∨ n = 10)

def con_dBlank : List AV → Option AV
  | [.int .u8 n] => some (.bool (isWs n))
  | _ => none

theorem ok_dBlank (Γ : Gam) : ∀ args r, con_dBlank args = some r → runs Γ c_spec_dBlank args (fun v => v = r) := by
  intro args r h
  simp only [con_dBlank] at h
  split at h <;> simp at h
  rename_i b
  subst h
  simp [c_spec_dBlank, isWs]
  refine ⟨fun h => ⟨fun h2 => ⟨fun h3 => ?_, fun h3 => ?_⟩, fun h2 => ?_⟩, fun h => ?_⟩ <;> simp [*]

def cutAt (c : Int) : List UInt8 → Option (List UInt8 × List UInt8)
  | [] => none
  | x :: r => if (x.toNat : Int) = c then some ([], r) else (cutAt c r).map fun p => (x :: p.1, p.2)

def noB (c : Int) (s : List UInt8) : Prop := ∀ x ∈ s, (x.toNat : Int) ≠ c

theorem cutAt_app (c : Int) : ∀ (pre post : List UInt8), noB c pre → cutAt c (pre ++ post) = (cutAt c post).map fun p => (pre ++ p.1, p.2)
  | [], post, _ => by simp
  | x :: r, post, h => by
    have h1 : (x.toNat : Int) ≠ c := h x (by simp)
    have h2 : noB c r := fun y hy => h y (by simp [hy])
    simp only [List.cons_append, cutAt, if_neg h1, cutAt_app c r post h2, Option.map_map]
    rfl

def cutV (c : Int) (s : List UInt8) : AV :=
  match cutAt c s with
  | some p => .tup [.str p.1, .str p.2, .bool true]
  | none => .tup [.str s, .str [], .bool false]

def con_dCut : List AV → Option AV
  | [.str s, .int .u8 c] => if s.length < big then some (cutV c s) else none
  | _ => none

theorem ok_dCut (Γ : Gam) : ∀ args r, con_dCut args = some r → runs Γ c_spec_dCut args (fun v => v = r) := by
  intro args r h
  simp only [con_dCut] at h
  split at h <;> simp [big] at h
  rename_i s c
  obtain ⟨hs, rfl⟩ := ite_some h
  simp [c_spec_dCut]
  refine awp_loop (σ := List UInt8 × List UInt8) (fun p => ⟨[(0, .str s), (1, .int .u8 c), (7, .int .i64 p.1.length)], []⟩) (fun p => s = p.1 ++ p.2 ∧ noB c p.1) (fun p => p.2.length) ([], s) (by simp) (by simp [noB]) ?_
  rintro ⟨pre, post⟩ ⟨hs1, hs2⟩
  simp only at hs1 hs2
  subst hs1
  cases post with
  | nil =>
    have e : cutAt c pre = none := by have := cutAt_app c pre [] hs2; simpa [cutAt] using this
    simp [cutV, e]
  | cons x post =>
    simp at hs
    simp
    refine ⟨fun hlt => ?_, fun hge => by omega⟩
    simp (disch := omega) [wrap64]
    refine ⟨fun he => ?_, fun hne => ?_⟩
    · have e1 : (0 : Int) ≤ (pre.length : Int) + 1 ∧ (pre.length : Int) + 1 ≤ (pre.length : Int) + ((post.length : Int) + 1) := by omega
      have e2 : ((pre.length : Int) + 1).toNat = pre.length + 1 := by omega
      simp [cutV, cutAt_app _ _ _ hs2, cutAt, e1, e2, he]
      omega
    · refine ⟨(pre ++ [x], post), by simp, ⟨by simp, ?_⟩, by simp⟩
      intro y hy
      simp at hy
      rcases hy with hy | rfl
      · exact hs2 y hy
      · exact hne

def plainB (b : UInt8) : Bool := decide ((b.toNat : Int) < 128 ∧ (b.toNat : Int) ≠ 11 ∧ (b.toNat : Int) ≠ 12)
theorem plainB_true {b : UInt8} (h : (b.toNat : Int) < 128 ∧ ¬ (b.toNat : Int) = 11 ∧ ¬ (b.toNat : Int) = 12) : plainB b = true := decide_eq_true h
theorem plainB_false {b : UInt8} (h : ¬ ((b.toNat : Int) < 128 ∧ ¬ (b.toNat : Int) = 11 ∧ ¬ (b.toNat : Int) = 12)) : plainB b = false := decide_eq_false h
def dPlain (most : Int) (s : List UInt8) : Bool := s.all plainB && decide ((s.length : Int) ≤ most)

def con_DPlain : List AV → Option AV
  | [.str s, .int .i64 m] => if s.length < big then some (.bool (dPlain m s)) else none
  | _ => none

theorem ok_DPlain (Γ : Gam) : ∀ args r, con_DPlain args = some r → runs Γ c_spec_DPlain args (fun v => v = r) := by
  intro args r h
  simp only [con_DPlain] at h
  split at h <;> simp [big] at h
  rename_i s m
  obtain ⟨hs, rfl⟩ := ite_some h
  clear h
  simp [c_spec_DPlain]
  refine awp_loop (σ := List UInt8 × List UInt8) (fun p => ⟨[(0, .str s), (1, .int .i64 m), (5, .int .i64 p.1.length)], []⟩) (fun p => s = p.1 ++ p.2 ∧ p.1.all plainB = true) (fun p => p.2.length) ([], s) (by simp) (by simp) ?_
  rintro ⟨pre, post⟩ ⟨hs1, hs2⟩
  simp only at hs1 hs2
  subst hs1
  cases post with
  | nil => simp [dPlain, hs2]
  | cons x post =>
    simp at hs
    have bad : plainB x = false → dPlain m (pre ++ x :: post) = false := by intro h; simp [dPlain, h]
    have good : plainB x = true → loopQ [0, 1, 5] (fun p : List UInt8 × List UInt8 => ⟨[(0, .str (pre ++ x :: post)), (1, .int .i64 m), (5, .int .i64 p.1.length)], []⟩) (fun p => pre ++ x :: post = p.1 ++ p.2 ∧ p.1.all plainB = true) (fun p => p.2.length) (pre, x :: post)
        ⟨[(0, .str (pre ++ x :: post)), (1, .int .i64 m), (5, .int .i64 (IntKind.i64.wrap (pre.length + 1)))], []⟩ := by
      intro h
      exact ⟨(pre ++ [x], post), by simp (disch := omega) [wrap64], ⟨by simp, by simp only [List.all_append, hs2, List.all_cons, h]; rfl⟩, by simp⟩
    generalize hl : loopQ [0, 1, 5] (fun p : List UInt8 × List UInt8 => (⟨[(0, .str (pre ++ x :: post)), (1, .int .i64 m), (5, .int .i64 p.1.length)], []⟩ : St)) (fun p => pre ++ x :: post = p.1 ++ p.2 ∧ p.1.all plainB = true) (fun p => p.2.length) (pre, x :: post) = LQ at good ⊢
    simp
    refine ⟨fun hlt => ⟨fun h1 => ⟨fun h2 => ⟨fun h3 => ?_, fun h3 => ?_⟩, fun h2 => ?_⟩, fun h1 => ?_⟩, fun hge => by omega⟩
    · exact bad (plainB_false fun h => h.2.2 h3)
    · exact good (plainB_true ⟨h1, h2, h3⟩)
    · exact bad (plainB_false fun h => h.2.1 h2)
    · exact bad (plainB_false fun h => by omega)

def trimL (s : List UInt8) : List UInt8 := s.dropWhile fun b => isWs b.toNat
def trimR (s : List UInt8) : List UInt8 := (s.reverse.dropWhile fun b => isWs b.toNat).reverse
def trimS (s : List UInt8) : List UInt8 := trimR (trimL s)

def con_DTrim : List AV → Option AV
  | [.str s] => if s.length < big then some (.str (trimS s)) else none
  | _ => none

theorem ok_DTrim (Γ : Gam) (h1 : Γ.fn 1 = con_dBlank) : ∀ args r, con_DTrim args = some r → runs Γ c_spec_DTrim args (fun v => v = r) := by
  intro args r h
  simp only [con_DTrim] at h
  split at h <;> simp [big] at h
  rename_i s
  obtain ⟨hs, rfl⟩ := ite_some h
  clear h
  simp [c_spec_DTrim]
  refine awp_loop (σ := List UInt8) (fun p => ⟨[(0, .str p)], []⟩) (fun p => trimL p = trimL s ∧ p.length < 4611686018427387904) (fun p => p.length) s (by simp) (by simp [hs]) ?_
  rintro p ⟨hp, hlen⟩
  have second : ∀ v9, (trimL p = p) → awp Γ t_spec_DTrim_4 (finQ [.t 2] fun v => v = AV.str (trimS s)) ⟨[(0, .str p), (9, v9)], []⟩ := by
    intro v9 htl
    simp [t_spec_DTrim_4]
    refine awp_loop (σ := List UInt8) (fun q => ⟨[(0, .str q.reverse)], []⟩) (fun q => trimR q.reverse = trimR p ∧ q.length < 4611686018427387904) (fun q => q.length) p.reverse (by simp) (by simpa using hlen) ?_
    rintro q ⟨hq, hql⟩
    cases q with
    | nil =>
      simp [b_spec_DTrim_2, t_spec_DTrim_3]
      rw [trimS, ← hp, htl, ← hq]; rfl
    | cons x q =>
      simp at hql
      simp (disch := omega) [b_spec_DTrim_2, t_spec_DTrim_3, wrap64]
      refine gO_bind (b := x) (by rw [List.getElem?_append_right (by simp)]; simp) ?_
      simp (disch := omega) [acall, h1, con_dBlank, wrap64]
      refine ⟨fun hw => ⟨q, by simp, ⟨?_, by omega⟩, by simp⟩, fun hw => ?_⟩
      · rw [← hq]; simp [trimR, hw]
      · rw [trimS, ← hp, htl, ← hq]; simp [trimR, hw]
  cases p with
  | nil =>
    simp [b_spec_DTrim_1]
    exact second _ rfl
  | cons x p =>
    simp at hlen
    simp [b_spec_DTrim_1, acall, h1, con_dBlank]
    refine ⟨fun hw => ⟨by omega, p, by simp, ⟨?_, by omega⟩, by simp⟩, fun hw => second _ ?_⟩
    · rw [← hp]; simp [trimL, hw]
    · simp [trimL, hw]

def lowB (b : UInt8) : UInt8 := if 65 ≤ b.toNat ∧ b.toNat ≤ 90 then b + 32 else b

theorem lowB_toNat (b : UInt8) : ((lowB b).toNat : Int) = if 65 ≤ (b.toNat : Int) ∧ (b.toNat : Int) ≤ 90 then (b.toNat : Int) + 32 else (b.toNat : Int) := by
  unfold lowB
  by_cases h : 65 ≤ b.toNat ∧ b.toNat ≤ 90
  · rw [if_pos h, if_pos (by omega), UInt8.toNat_add]
    have : (32 : UInt8).toNat = 32 := rfl
    rw [this]; omega
  · rw [if_neg h, if_neg (by omega)]

def lowS (s : List UInt8) : List UInt8 := s.map lowB

@[simp] theorem lowS_length {s : List UInt8} : (lowS s).length = s.length := by simp [lowS]
@[simp] theorem lowS_nil : lowS [] = [] := rfl
@[simp] theorem lowS_app {s t : List UInt8} : lowS (s ++ t) = lowS s ++ lowS t := by simp [lowS]
@[simp] theorem lowS_cons {b : UInt8} {s : List UInt8} : lowS (b :: s) = lowB b :: lowS s := rfl

def con_DLower : List AV → Option AV
  | [.str s] => if s.length < big then some (.str (lowS s)) else none
  | _ => none

theorem ok_DLower (Γ : Gam) : ∀ args r, con_DLower args = some r → runs Γ c_spec_DLower args (fun v => v = r) := by
  intro args r h
  simp only [con_DLower] at h
  split at h <;> simp [big] at h
  rename_i s
  obtain ⟨hs, rfl⟩ := ite_some h
  clear h
  simp [c_spec_DLower, hs]
  refine awp_loop (σ := List UInt8 × List UInt8) (fun p => ⟨[(3, .msl 6 1 0 s.length), (4, .int .i64 p.1.length)], [(6, .cells (bcA (lowS p.1 ++ p.2)))]⟩) (fun p => s = p.1 ++ p.2) (fun p => p.2.length) ([], s) (by simp) (by simp) ?_
  rintro ⟨pre, post⟩ hs1
  simp only at hs1
  subst hs1
  cases post with
  | nil =>
    have e : List.take pre.length (lowS pre) = lowS pre := List.take_of_length_le (by simp)
    simp [e]
  | cons x post =>
    simp at hs
    have hx := lowB_toNat x
    have fin : ∀ n : Int, n = (lowB x).toNat → loopQ [3, 4] (fun p : List UInt8 × List UInt8 => ⟨[(3, .msl 6 1 0 (pre ++ x :: post).length), (4, .int .i64 p.1.length)], [(6, .cells (bcA (lowS p.1 ++ p.2)))]⟩) (fun p => pre ++ x :: post = p.1 ++ p.2) (fun p => p.2.length) (pre, x :: post)
        ⟨[(3, .msl 6 1 0 (pre ++ x :: post).length), (4, .int .i64 (IntKind.i64.wrap (pre.length + 1)))], [(6, .cells (bcA (lowS pre) ++ .int .u8 n :: bcA post))]⟩ := by
      intro n hn
      refine ⟨(pre ++ [x], post), ?_, by simp, by simp⟩
      subst hn
      simp (disch := omega) [wrap64]
    simp at fin
    simp
    refine ⟨fun hlt => ⟨fun h1 => ⟨fun h2 => ?_, fun h2 => ?_⟩, fun h1 => ?_⟩, fun hge => by omega⟩
    · rw [hx, if_pos ⟨h1, h2⟩, ← Go.IntWalk.u8_in ((x.toNat : Int) + 32) ⟨by omega, by omega⟩] at fin
      exact fin
    · rw [hx, if_neg (by omega)] at fin
      exact fin
    · rw [hx, if_neg (by omega)] at fin
      exact fin
end Wax

/- The plain functions of the set's reference (2). -/
namespace Wax
open Go (IntKind)

def mid : Nat := 1099511627776

def joinGo : List UInt8 → Bool → List UInt8 → List UInt8
  | out, _, [] => out
  | out, w, x :: r => if isWs x.toNat then joinGo out (decide (0 < out.length)) r else joinGo ((if w then out ++ [32] else out) ++ [x]) false r

def con_dJoined : List AV → Option AV
  | [.str s] => if s.length < mid then some (.str (joinGo [] false s)) else none
  | _ => none

theorem ok_dJoined (Γ : Gam) (h1 : Γ.fn 1 = con_dBlank) : ∀ args r, con_dJoined args = some r → runs Γ c_spec_dJoined args (fun v => v = r) := by
  intro args r h
  simp only [con_dJoined] at h
  split at h <;> simp [mid] at h
  rename_i s
  obtain ⟨hs, rfl⟩ := ite_some h
  clear h
  simp [c_spec_dJoined]
  refine awp_loop (σ := List UInt8 × List UInt8 × List UInt8 × Bool) (fun p => ⟨[(0, .str s), (3, outV 28 p.2.2.1), (4, .bool p.2.2.2), (5, .int .i64 p.1.length)], outH 28 p.2.2.1⟩)
    (fun p => s = p.1 ++ p.2.1 ∧ joinGo p.2.2.1 p.2.2.2 p.2.1 = joinGo [] false s ∧ p.2.2.1.length ≤ 2 * p.1.length ∧ (p.2.2.2 = true → p.2.2.1 ≠ [])) (fun p => p.2.1.length) ([], s, [], false) (by simp [outV, outH]) (by simp) ?_
  rintro ⟨pre, post, out, w⟩ ⟨hs1, hs2, hs3, hs4⟩
  simp only at hs1 hs2 hs3 hs4
  cases post with
  | nil =>
    simp [joinGo] at hs2 hs1
    subst hs1
    by_cases ho : out = []
    · subst ho; simp [← hs2]
    · simp [outV_ne ho, outH_ne ho, ← hs2]
  | cons x post =>
    subst hs1
    simp at hs
    have step : ∀ out' w', joinGo out' w' post = joinGo [] false (pre ++ x :: post) → out'.length ≤ 2 * pre.length + 2 → (w' = true → out' ≠ []) →
        loopQ [0, 3, 4, 5] (fun p : List UInt8 × List UInt8 × List UInt8 × Bool => ⟨[(0, .str (pre ++ x :: post)), (3, outV 28 p.2.2.1), (4, .bool p.2.2.2), (5, .int .i64 p.1.length)], outH 28 p.2.2.1⟩)
          (fun p => pre ++ x :: post = p.1 ++ p.2.1 ∧ joinGo p.2.2.1 p.2.2.2 p.2.1 = joinGo [] false (pre ++ x :: post) ∧ p.2.2.1.length ≤ 2 * p.1.length ∧ (p.2.2.2 = true → p.2.2.1 ≠ [])) (fun p => p.2.1.length) (pre, x :: post, out, w)
          ⟨[(0, .str (pre ++ x :: post)), (3, outV 28 out'), (4, .bool w'), (5, .int .i64 (IntKind.i64.wrap (pre.length + 1)))], outH 28 out'⟩ := by
      intro out' w' h1 h2 h3
      exact ⟨(pre ++ [x], post, out', w'), by simp (disch := omega) [wrap64], ⟨by simp, h1, by simp; omega, h3⟩, by simp⟩
    generalize hl : loopQ [0, 3, 4, 5] (fun p : List UInt8 × List UInt8 × List UInt8 × Bool => (⟨[(0, .str (pre ++ x :: post)), (3, outV 28 p.2.2.1), (4, .bool p.2.2.2), (5, .int .i64 p.1.length)], outH 28 p.2.2.1⟩ : St))
          (fun p => pre ++ x :: post = p.1 ++ p.2.1 ∧ joinGo p.2.2.1 p.2.2.2 p.2.1 = joinGo [] false (pre ++ x :: post) ∧ p.2.2.1.length ≤ 2 * p.1.length ∧ (p.2.2.2 = true → p.2.2.1 ≠ [])) (fun p => p.2.1.length) (pre, x :: post, out, w) = LQ at step ⊢
    clear hl
    simp only [joinGo] at hs2
    by_cases ho : out = []
    · subst ho
      have hw : w = false := by cases w <;> simp at hs4 ⊢
      subst hw
      simp [acall, h1, con_dBlank]
      refine ⟨fun hlt => ⟨fun hb => ?_, fun hb => ?_⟩, fun hge => by omega⟩
      · rw [if_pos hb] at hs2
        exact step [] false (by simpa using hs2) (by simp) (by simp)
      · rw [if_neg (by simp [hb])] at hs2
        exact step [x] false (by simpa using hs2) (by simp) (by simp)
    · have hol : 0 < out.length := List.length_pos_iff.2 ho
      simp [outV_ne ho, outH_ne ho, acall, h1, con_dBlank, List.take_of_length_le]
      refine ⟨fun hlt => ⟨fun hb => ?_, fun hb => ⟨fun hw => ⟨by omega, by omega, ?_⟩, fun hw => ⟨by omega, ?_⟩⟩⟩, fun hge => by omega⟩
      · rw [if_pos hb] at hs2
        have := step out (decide (0 < out.length)) hs2 (by omega) (fun _ => ho)
        rw [outV_ne ho, outH_ne ho] at this
        exact this
      · rw [if_neg (by simp [hb]), if_pos hw] at hs2
        have := step (out ++ [32] ++ [x]) false hs2 (by simp; omega) (by simp)
        rw [outV_ne (by simp), outH_ne (by simp)] at this
        simpa using this
      · rw [if_neg (by simp [hb]), if_neg (by simp [hw])] at hs2
        have := step (out ++ [x]) false hs2 (by simp; omega) (by simp)
        rw [outV_ne (by simp), outH_ne (by simp)] at this
        subst hw
        simpa using this
end Wax

/- The plain functions of the set's reference (3), and of the program's small ones. -/
namespace Wax
open Go (IntKind)

def simpleB : List UInt8 := [115, 105, 109, 112, 108, 101]
def relaxedB : List UInt8 := [114, 101, 108, 97, 120, 101, 100]

def con_dForm : List AV → Option AV
  | [.str s] => some (.bool (decide (s = simpleB ∨ s = relaxedB)))
  | _ => none

theorem ok_dForm (Γ : Gam) : ∀ args r, con_dForm args = some r → runs Γ c_laws_dForm args (fun v => v = r) := by
  intro args r h
  simp only [con_dForm] at h
  split at h <;> simp at h
  rename_i s
  subst h
  simp [c_laws_dForm, simpleB, relaxedB]
  refine ⟨fun h => ?_, fun h => by simp [h]⟩
  by_cases h2 : s = [114, 101, 108, 97, 120, 101, 100]
  · subst h2; rfl
  · simp [h, h2]

def strsA (l : List (List UInt8)) : List AV := l.map .str

def asStrs : List AV → Option (List (List UInt8))
  | [] => some []
  | .str s :: r => (asStrs r).map (s :: ·)
  | _ :: _ => none

theorem asStrs_spec : ∀ {xs : List AV} {l : List (List UInt8)}, asStrs xs = some l → xs = strsA l
  | [], l, h => by simp [asStrs] at h; subst h; rfl
  | .str s :: r, l, h => by
    simp only [asStrs] at h
    cases hr : asStrs r with
    | none => simp [hr] at h
    | some q => simp [hr] at h; subst h; rw [asStrs_spec hr]; rfl
  | .junk :: _, _, h => by simp [asStrs] at h
  | .bool _ :: _, _, h => by simp [asStrs] at h
  | .int _ _ :: _, _, h => by simp [asStrs] at h
  | .nilI :: _, _, h => by simp [asStrs] at h
  | .nilP :: _, _, h => by simp [asStrs] at h
  | .nilF :: _, _, h => by simp [asStrs] at h
  | .nilM :: _, _, h => by simp [asStrs] at h
  | .nilS :: _, _, h => by simp [asStrs] at h
  | .sl _ _ :: _, _, h => by simp [asStrs] at h
  | .ptr _ :: _, _, h => by simp [asStrs] at h
  | .agg _ :: _, _, h => by simp [asStrs] at h
  | .tup _ :: _, _, h => by simp [asStrs] at h
  | .ifc _ _ :: _, _, h => by simp [asStrs] at h
  | .fn _ _ :: _, _, h => by simp [asStrs] at h
  | .mp _ :: _, _, h => by simp [asStrs] at h
  | .ref _ _ :: _, _, h => by simp [asStrs] at h
  | .msl _ _ _ _ :: _, _, h => by simp [asStrs] at h
  | .mref _ :: _, _, h => by simp [asStrs] at h

@[simp] theorem strsA_length {l : List (List UInt8)} : (strsA l).length = l.length := by simp [strsA]
@[simp] theorem strsA_get {l : List (List UInt8)} {i : Nat} : (strsA l)[i]? = l[i]?.map .str := by simp [strsA]
@[simp] theorem asStrs_strsA {l : List (List UInt8)} : asStrs (strsA l) = some l := by induction l <;> simp_all [strsA, asStrs]

/-- A slice of texts, nil or not, as it comes in. -/
def slStrs : AV → Option (List (List UInt8))
  | .nilS => some []
  | .sl es xs => if es = 1 then asStrs xs else none
  | _ => none

def dShort (m : Int) (l : List (List UInt8)) : Bool := l.all (dPlain m) && decide ((l.length : Int) ≤ 200)

def con_dShort : List AV → Option AV
  | [.int .i64 m, v] => match slStrs v with
    | some l => if l.length < big ∧ ∀ s ∈ l, s.length < big then some (.bool (dShort m l)) else none
    | none => none
  | _ => none

theorem ok_dShort (Γ : Gam) (h6 : Γ.fn 6 = con_DPlain) : ∀ args r, con_dShort args = some r → runs Γ c_laws_dShort args (fun v => v = r) := by
  intro args r h
  simp only [con_dShort] at h
  split at h <;> (try simp at h; done)
  rename_i m v
  split at h <;> (try simp at h; done)
  rename_i l hl
  obtain ⟨⟨hlen, hall⟩, rfl⟩ := ite_some h
  clear h
  simp [big] at hlen hall
  have hv : (v = .nilS ∧ l = []) ∨ v = .sl 1 (strsA l) := by
    cases v <;> simp [slStrs] at hl
    · left; exact ⟨rfl, hl⟩
    · right; obtain ⟨e, hl⟩ := hl; rw [asStrs_spec hl, e]
  rcases hv with ⟨rfl, rfl⟩ | rfl
  · simp [c_laws_dShort]
    refine awp_loop (σ := Unit) (fun p => ⟨[(0, .int .i64 m), (1, .nilS), (5, .int .i64 0)], []⟩) (fun _ => True) (fun _ => 0) () (by simp) (by simp) ?_
    intro _ _
    simp [dShort]
  · simp [c_laws_dShort]
    refine awp_loop (σ := List (List UInt8) × List (List UInt8)) (fun p => ⟨[(0, .int .i64 m), (1, .sl 1 (strsA l)), (5, .int .i64 p.1.length)], []⟩) (fun p => l = p.1 ++ p.2 ∧ p.1.all (dPlain m) = true) (fun p => p.2.length) ([], l) (by simp) (by simp) ?_
    rintro ⟨pre, post⟩ ⟨hs1, hs2⟩
    simp only at hs1 hs2
    subst hs1
    cases post with
    | nil => simp [dShort, hs2]
    | cons x post =>
      simp at hlen
      have hx : x.length < 4611686018427387904 := hall x (by simp)
      have bad : dPlain m x = false → dShort m (pre ++ x :: post) = false := by intro h; simp [dShort, h]
      have good : dPlain m x = true → loopQ [0, 1, 5] (fun p : List (List UInt8) × List (List UInt8) => ⟨[(0, .int .i64 m), (1, .sl 1 (strsA (pre ++ x :: post))), (5, .int .i64 p.1.length)], []⟩) (fun p => pre ++ x :: post = p.1 ++ p.2 ∧ p.1.all (dPlain m) = true) (fun p => p.2.length) (pre, x :: post)
          ⟨[(0, .int .i64 m), (1, .sl 1 (strsA (pre ++ x :: post))), (5, .int .i64 (IntKind.i64.wrap (pre.length + 1)))], []⟩ := by
        intro h
        exact ⟨(pre ++ [x], post), by simp (disch := omega) [wrap64], ⟨by simp, by simp only [List.all_append, hs2, List.all_cons, h]; rfl⟩, by simp⟩
      generalize hl : loopQ [0, 1, 5] (fun p : List (List UInt8) × List (List UInt8) => (⟨[(0, .int .i64 m), (1, .sl 1 (strsA (pre ++ x :: post))), (5, .int .i64 p.1.length)], []⟩ : St)) (fun p => pre ++ x :: post = p.1 ++ p.2 ∧ p.1.all (dPlain m) = true) (fun p => p.2.length) (pre, x :: post) = LQ at good ⊢
      simp [acall, h6, con_DPlain, big, hx]
      exact ⟨fun _ => ⟨bad, good⟩, fun hge => by omega⟩

theorem trimL_length (s : List UInt8) : (trimL s).length ≤ s.length := by
  unfold trimL
  exact (List.dropWhile_sublist _).length_le
theorem trimR_length (s : List UInt8) : (trimR s).length ≤ s.length := by
  unfold trimR
  have := (List.dropWhile_sublist (fun b : UInt8 => isWs b.toNat) (l := s.reverse)).length_le
  simpa using this
theorem trimS_length (s : List UInt8) : (trimS s).length ≤ s.length := Nat.le_trans (trimR_length _) (trimL_length _)

theorem cutAt_length {c : Int} : ∀ {s a b : List UInt8}, cutAt c s = some (a, b) → s.length = a.length + b.length + 1
  | [], a, b, h => by simp [cutAt] at h
  | x :: r, a, b, h => by
    simp only [cutAt] at h
    split at h
    · simp at h; obtain ⟨rfl, rfl⟩ := h; simp
    · cases hr : cutAt c r with
      | none => simp [hr] at h
      | some p =>
        simp [hr] at h
        obtain ⟨rfl, rfl⟩ := h
        have := cutAt_length (a := p.1) (b := p.2) hr
        simp; omega

theorem joinGo_length : ∀ (s out : List UInt8) (w : Bool), (joinGo out w s).length ≤ out.length + 2 * s.length
  | [], out, w => by simp [joinGo]
  | x :: r, out, w => by
    simp only [joinGo]
    split
    · have := joinGo_length r out (decide (0 < out.length)); simp; omega
    · have := joinGo_length r ((if w then out ++ [32] else out) ++ [x]) false
      have h2 : ((if w then out ++ [32] else out) ++ [x]).length ≤ out.length + 2 := by split <;> simp
      simp only [List.length_cons]; omega

/-- A field in a canonical form. -/
def fieldOf (form field : List UInt8) : List UInt8 :=
  if form = simpleB then field else match cutAt 58 field with
    | none => trimS (lowS field) ++ [58, 13, 10]
    | some p => trimS (lowS p.1) ++ [58] ++ joinGo [] false p.2 ++ [13, 10]

def con_DFieldOf : List AV → Option AV
  | [.str form, .str field] => if field.length < mid then some (.str (fieldOf form field)) else none
  | _ => none

theorem ok_DFieldOf (Γ : Gam) (h2 : Γ.fn 2 = con_dCut) (h3 : Γ.fn 3 = con_DTrim) (h4 : Γ.fn 4 = con_DLower) (h5 : Γ.fn 5 = con_dJoined) : ∀ args r, con_DFieldOf args = some r → runs Γ c_spec_DFieldOf args (fun v => v = r) := by
  intro args r h
  simp only [con_DFieldOf] at h
  split at h <;> (try simp at h; done)
  rename_i form field
  obtain ⟨hlen, rfl⟩ := ite_some h
  clear h
  simp only [mid] at hlen
  have e1 : field.length < big := by unfold big; omega
  have t1 := trimS_length (lowS field)
  simp at t1
  simp [c_spec_DFieldOf]
  refine ⟨fun h => by simp [fieldOf, simpleB, h], fun h => ?_⟩
  simp [acall, h2, con_dCut, e1]
  cases hc : cutAt 58 field with
  | none =>
    simp [cutV, hc, acall, h4, con_DLower, e1, h3, con_DTrim]
    have : trimS (lowS field) ++ [58, 13, 10] = fieldOf form field := by simp [fieldOf, simpleB, h, hc]
    refine ⟨by omega, this⟩
  | some p =>
    obtain ⟨n, v⟩ := p
    have hl := cutAt_length hc
    have e2 : n.length < big := by unfold big; omega
    have e3 : v.length < mid := by unfold mid; omega
    have t2 := trimS_length (lowS n)
    simp at t2
    have t3 := joinGo_length v [] false
    simp at t3
    simp [cutV, hc, acall, h4, con_DLower, e2, h3, con_DTrim, h5, con_dJoined, e3]
    refine ⟨by omega, by omega, by omega, ?_⟩
    simp [fieldOf, simpleB, h, hc]
end Wax

/- The program's own functions: searching, cutting, letters, white space. -/
namespace Wax
open Go (IntKind)

/-- Where a text stands first in another. -/
def findAt (sub : List UInt8) : List UInt8 → Nat → Option Nat
  | [], n => if sub = [] then some n else none
  | x :: r, n => if sub.isPrefixOf (x :: r) then some n else findAt sub r (n + 1)

def idxV (sub s : List UInt8) : Int := match findAt sub s 0 with | some n => (n : Int) | none => -1

def con_zzIndex : List AV → Option AV
  | [.str s, .str sub] => if s.length < big ∧ sub.length < big then some (.int .i64 (idxV sub s)) else none
  | _ => none

theorem isPrefixOf_take (sub : List UInt8) (s : List UInt8) (h : sub.length ≤ s.length) : sub.isPrefixOf s = decide (s.take sub.length = sub) := by
  induction sub generalizing s with
  | nil => simp
  | cons a r ih =>
    cases s with
    | nil => simp at h
    | cons b s =>
      simp at h
      simp only [List.isPrefixOf, ih s h, List.length_cons, List.take_succ_cons]
      by_cases e : a = b
      · subst e; simp
      · have e' : ¬ b = a := fun x => e x.symm
        simp [e, e']

theorem isPrefixOf_long (sub : List UInt8) (s : List UInt8) (h : s.length < sub.length) : sub.isPrefixOf s = false := by
  induction sub generalizing s with
  | nil => simp at h
  | cons a r ih =>
    cases s with
    | nil => simp [List.isPrefixOf]
    | cons b s =>
      simp at h
      simp [List.isPrefixOf, ih s h]

theorem findAt_none (sub : List UInt8) : ∀ (s : List UInt8) (n : Nat), s.length < sub.length → findAt sub s n = none
  | [], n, h => by
    have : sub ≠ [] := by intro e; subst e; simp at h
    simp [findAt, this]
  | x :: r, n, h => by
    simp only [findAt, isPrefixOf_long sub (x :: r) h, Bool.false_eq_true, if_false]
    exact findAt_none sub r (n + 1) (by simp at h; omega)

theorem ok_zzIndex (Γ : Gam) : ∀ args r, con_zzIndex args = some r → runs Γ c_dkim_zzIndex args (fun v => v = r) := by
  intro args r h
  simp only [con_zzIndex] at h
  split at h <;> (try simp at h; done)
  rename_i s sub
  obtain ⟨⟨hs, hb⟩, rfl⟩ := ite_some h
  clear h
  simp only [big] at hs hb
  simp [c_dkim_zzIndex]
  refine awp_loop (σ := List UInt8 × List UInt8) (fun p => ⟨[(0, .str s), (1, .str sub), (5, .int .i64 p.1.length)], []⟩) (fun p => s = p.1 ++ p.2 ∧ findAt sub s 0 = findAt sub p.2 p.1.length) (fun p => p.2.length) ([], s) (by simp) (by simp) ?_
  rintro ⟨pre, post⟩ ⟨hs1, hs2⟩
  simp only at hs1 hs2
  subst hs1
  simp at hs
  simp (disch := omega) [wrap64]
  refine ⟨fun hle => ?_, fun hlt => ?_⟩
  · have et : ((pre.length : Int) + (sub.length : Int)).toNat = pre.length + sub.length := by omega
    have e : List.drop pre.length (List.take (pre.length + sub.length) (pre ++ post)) = post.take sub.length := by
      rw [List.take_length_add_append, List.drop_left]
    rw [et, e]
    refine ⟨⟨by omega, hle⟩, fun h => ?_, fun h => ?_⟩
    · rw [idxV, hs2]
      cases post with
      | nil =>
        have : sub = [] := by cases sub <;> simp at hle ⊢
        simp [findAt, this]
      | cons x post => simp only [findAt, isPrefixOf_take sub (x :: post) hle, h, decide_true, if_true]
    · cases post with
      | nil =>
        have : sub = [] := by cases sub <;> simp at hle ⊢
        subst this; simp at h
      | cons x post =>
        refine ⟨(pre ++ [x], post), by simp, ⟨by simp, ?_⟩, by simp⟩
        rw [hs2]
        simp only [findAt, isPrefixOf_take sub (x :: post) hle, h, decide_false, Bool.false_eq_true, if_false]
        simp
  · rw [idxV, hs2, findAt_none sub post _ (by omega)]

/-- Of a text of one byte. -/
theorem findAt_one (c : UInt8) : ∀ (s : List UInt8) (n : Nat), findAt [c] s n = (cutAt c.toNat s).map fun p => n + p.1.length
  | [], n => by simp [findAt, cutAt]
  | x :: r, n => by
    simp only [findAt, cutAt, List.isPrefixOf, Bool.and_true]
    by_cases e : x = c
    · subst e; simp
    · have e1 : ¬ (x.toNat : Int) = (c.toNat : Int) := fun h => e (UInt8.toNat_inj.1 (by omega))
      have e2 : (c == x) = false := by simp; exact fun h => e h.symm
      simp only [e2, Bool.false_eq_true, if_false, if_neg e1, findAt_one c r (n + 1), Option.map_map]
      congr 1; funext p; simp; omega

theorem cutAt_eq {c : Int} : ∀ {s a b : List UInt8}, cutAt c s = some (a, b) → ∃ x : UInt8, (x.toNat : Int) = c ∧ s = a ++ x :: b ∧ noB c a
  | [], a, b, h => by simp [cutAt] at h
  | x :: r, a, b, h => by
    simp only [cutAt] at h
    split at h
    · rename_i e; simp at h; obtain ⟨rfl, rfl⟩ := h; exact ⟨x, e, by simp, by simp [noB]⟩
    · rename_i e
      cases hr : cutAt c r with
      | none => simp [hr] at h
      | some p =>
        simp [hr] at h
        obtain ⟨rfl, rfl⟩ := h
        obtain ⟨y, h1, h2, h3⟩ := cutAt_eq (a := p.1) (b := p.2) hr
        refine ⟨y, h1, by rw [h2]; simp, ?_⟩
        intro z hz
        simp at hz
        rcases hz with rfl | hz
        · exact e
        · exact h3 z hz

/-- Cut at a text of one byte. -/
def con_zzCut : List AV → Option AV
  | [.str s, .str [c]] => if s.length < big then some (cutV c.toNat s) else none
  | _ => none

theorem ok_zzCut (Γ : Gam) (h22 : Γ.fn 22 = con_zzIndex) : ∀ args r, con_zzCut args = some r → runs Γ c_dkim_zzCut args (fun v => v = r) := by
  intro args r h
  simp only [con_zzCut] at h
  split at h <;> (try simp at h; done)
  rename_i s c
  obtain ⟨hs, rfl⟩ := ite_some h
  clear h
  simp [c_dkim_zzCut]
  have h1 : 1 < big := by decide
  simp [acall, h22, con_zzIndex, hs, h1]
  simp only [big] at hs
  simp only [idxV, findAt_one]
  cases hc : cutAt c.toNat s with
  | none => simp [cutV, hc]
  | some p =>
    obtain ⟨a, b⟩ := p
    obtain ⟨x, hx1, hx2, hx3⟩ := cutAt_eq hc
    subst hx2
    simp at hs
    simp (disch := omega) [cutV, hc, wrap64]
    have e2 : ((a.length : Int) + 1).toNat = a.length + 1 := by omega
    omega
end Wax

/- The program's own functions (2): letters, white space, of texts of ASCII. -/
namespace Wax
open Go (IntKind)

def ascii (s : List UInt8) : Bool := s.all fun b => decide (b.toNat < 128)

theorem ascii_cons {x : UInt8} {s : List UInt8} : ascii (x :: s) = (decide (x.toNat < 128) && ascii s) := rfl
theorem ascii_app {s t : List UInt8} : ascii (s ++ t) = (ascii s && ascii t) := by simp [ascii]

def con_zzToLower : List AV → Option AV
  | [.str s] => if s.length < mid ∧ ascii s = true then some (.str (lowS s)) else none
  | _ => none

theorem ok_zzToLower (Γ : Gam) : ∀ args r, con_zzToLower args = some r → runs Γ c_dkim_zzToLower args (fun v => v = r) := by
  intro args r h
  simp only [con_zzToLower] at h
  split at h <;> (try simp at h; done)
  rename_i s
  obtain ⟨⟨hs, ha⟩, rfl⟩ := ite_some h
  clear h
  simp only [mid] at hs
  simp [c_dkim_zzToLower]
  refine awp_loop (σ := List UInt8 × List UInt8 × Nat) (fun p => ⟨[(0, .str s), (3, outV p.2.2 (lowS p.1)), (4, .int .i64 p.1.length)], outH p.2.2 (lowS p.1)⟩)
    (fun p => s = p.1 ++ p.2.1 ∧ (p.2.2 = 18 ∨ p.2.2 = 31)) (fun p => p.2.1.length) ([], s, 18) (by simp) (by simp) ?_
  rintro ⟨pre, post, d⟩ ⟨hs1, hd⟩
  simp only at hs1 hd
  subst hs1
  cases post with
  | nil =>
    by_cases ho : pre = []
    · subst ho; simp
    · have hne : lowS pre ≠ [] := by intro e; apply ho; simpa [lowS] using e
      have e : List.take pre.length (lowS pre) = lowS pre := List.take_of_length_le (by simp)
      simp [outV_ne hne, outH_ne hne, e]
  | cons x post =>
    simp at hs
    have hx : x.toNat < 128 := by
      have := (by simpa [ascii_app, ascii_cons] using ha : ascii pre = true ∧ x.toNat < 128 ∧ ascii post = true)
      exact this.2.1
    have hl := lowB_toNat x
    have step : ∀ (n : Int) d', n = (lowB x).toNat → (d' = 18 ∨ d' = 31) →
        loopQ [0, 3, 4] (fun p : List UInt8 × List UInt8 × Nat => ⟨[(0, .str (pre ++ x :: post)), (3, outV p.2.2 (lowS p.1)), (4, .int .i64 p.1.length)], outH p.2.2 (lowS p.1)⟩)
          (fun p => pre ++ x :: post = p.1 ++ p.2.1 ∧ (p.2.2 = 18 ∨ p.2.2 = 31)) (fun p => p.2.1.length) (pre, x :: post, d)
          ⟨[(0, .str (pre ++ x :: post)), (3, .msl d' 1 0 (pre.length + 1)), (4, .int .i64 (IntKind.i64.wrap (pre.length + 1)))], [(d', .cells (bcA (lowS pre) ++ [.int .u8 n]))]⟩ := by
      intro n d' hn h1
      subst hn
      refine ⟨(pre ++ [x], post, d'), ?_, ⟨by simp, h1⟩, by simp⟩
      have e1 : outV d' (lowS (pre ++ [x])) = .msl d' 1 0 (pre.length + 1) := by rw [outV_ne (by simp)]; simp
      have e2 : outH d' (lowS (pre ++ [x])) = [(d', .cells (bcA (lowS pre) ++ [.int .u8 (lowB x).toNat]))] := by rw [outH_ne (by simp)]; simp
      simp (disch := omega) only [e1, e2]
      simp (disch := omega) [wrap64]
    generalize hl2 : loopQ [0, 3, 4] (fun p : List UInt8 × List UInt8 × Nat => (⟨[(0, .str (pre ++ x :: post)), (3, outV p.2.2 (lowS p.1)), (4, .int .i64 p.1.length)], outH p.2.2 (lowS p.1)⟩ : St))
          (fun p => pre ++ x :: post = p.1 ++ p.2.1 ∧ (p.2.2 = 18 ∨ p.2.2 = 31)) (fun p => p.2.1.length) (pre, x :: post, d) = LQ at step ⊢
    clear hl2
    by_cases hlow : 65 ≤ (x.toNat : Int) ∧ (x.toNat : Int) ≤ 90
    · obtain ⟨l1, l2⟩ := hlow
      rw [if_pos ⟨l1, l2⟩] at hl
      have w1 : IntKind.u8.wrap ((x.toNat : Int) + 97) = (x.toNat : Int) + 97 := Go.IntWalk.u8_in _ ⟨by omega, by omega⟩
      have w2 : IntKind.u8.wrap ((x.toNat : Int) + 97 - 65) = (x.toNat : Int) + 97 - 65 := Go.IntWalk.u8_in _ ⟨by omega, by omega⟩
      have st := step ((x.toNat : Int) + 97 - 65) 31 (by omega) (.inr rfl)
      have tk : List.take pre.length (lowS pre) = lowS pre := List.take_of_length_le (by simp)
      by_cases ho : pre = []
      · subst ho
        simp [w1, w2, l1, l2]
        simpa using st
      · have hne : lowS pre ≠ [] := by intro e; apply ho; simpa [lowS] using e
        rcases hd with rfl | rfl
        · simp [outV_ne hne, outH_ne hne, w1, w2, l1, l2, tk]
          exact ⟨fun _ => ⟨by omega, st⟩, by omega⟩
        · simp [outV_ne hne, outH_ne hne, w1, w2, l1, l2, tk]
          exact ⟨fun _ => ⟨by omega, st⟩, by omega⟩
    · rw [if_neg hlow] at hl
      have st := step (x.toNat : Int) 18 (by omega) (.inl rfl)
      have tk : List.take pre.length (lowS pre) = lowS pre := List.take_of_length_le (by simp)
      have hx226 : ¬ x = 226 := by intro e; subst e; simp at hx
      have et : ((pre.length : Int) + 3).toNat = pre.length + 3 := by omega
      have e3 : List.drop pre.length (List.take (pre.length + 3) (pre ++ x :: post)) = x :: post.take 2 := by
        rw [List.take_length_add_append, List.drop_left]; rfl
      have ew : ((pre.length : Int) + ((post.length : Int) + 1) - (pre.length : Int)) = (post.length : Int) + 1 := by omega
      have hcase : (¬ 65 ≤ (x.toNat : Int)) ∨ ((65 ≤ (x.toNat : Int)) ∧ ¬ (x.toNat : Int) ≤ 90) := by omega
      have ewr : IntKind.i64.wrap ((pre.length : Int) + 1) = (pre.length : Int) + 1 := wrap64 (by omega) (by omega)
      rw [ewr] at st
      by_cases ho : pre = []
      · subst ho
        simp at st e3
        rcases hcase with l1 | ⟨l1, l2⟩
        · simp [l1]
          simp (disch := omega) [wrap64, l1, hx226, e3]
          exact ⟨fun h => ⟨h, st⟩, fun _ => st⟩
        · simp [l1, l2]
          simp (disch := omega) [wrap64, l1, l2, hx226, e3]
          exact ⟨fun h => ⟨h, st⟩, fun _ => st⟩
      · have hne : lowS pre ≠ [] := by intro e; apply ho; simpa [lowS] using e
        rcases hcase with l1 | ⟨l1, l2⟩
        · rcases hd with rfl | rfl
          · simp [outV_ne hne, outH_ne hne, l1]
            simp (disch := omega) [tk, wrap64, l1, hx226, et, e3, ew]
            exact ⟨fun _ => ⟨fun h => ⟨⟨by omega, h⟩, by omega, st⟩, fun _ => ⟨by omega, st⟩⟩, by omega⟩
          · simp [outV_ne hne, outH_ne hne, l1]
            simp (disch := omega) [tk, wrap64, l1, hx226, et, e3, ew]
            exact ⟨fun _ => ⟨fun h => ⟨⟨by omega, h⟩, by omega, st⟩, fun _ => ⟨by omega, st⟩⟩, by omega⟩
        · rcases hd with rfl | rfl
          · simp [outV_ne hne, outH_ne hne, l1, l2]
            simp (disch := omega) [tk, wrap64, l1, l2, hx226, et, e3, ew]
            exact ⟨fun _ => ⟨fun h => ⟨⟨by omega, h⟩, by omega, st⟩, fun _ => ⟨by omega, st⟩⟩, by omega⟩
          · simp [outV_ne hne, outH_ne hne, l1, l2]
            simp (disch := omega) [tk, wrap64, l1, l2, hx226, et, e3, ew]
            exact ⟨fun _ => ⟨fun h => ⟨⟨by omega, h⟩, by omega, st⟩, fun _ => ⟨by omega, st⟩⟩, by omega⟩
end Wax

