/- The machine by which the functions are read, and what is proved of them (part 5): no premise. -/
import Derived.WideShapes
import Derived.SliceStrings
import Derived.OpenShut
import Derived.Lib.LaidTab
import Derived.ChangeSlices
import Derived.ChangeArms
import Derived.Test.YthiehlcbjcejcaaGreatDoorWd
set_option linter.all false
namespace Wax
open Go (IntKind)

/-- Where a text stands first in another. -/
def findAt (sub : List UInt8) : List UInt8 → Nat → Option Nat
  | [], n => if sub = [] then some n else none
  | x :: r, n => if sub.isPrefixOf (x :: r) then some n else findAt sub r (n + 1)

def idxV (sub s : List UInt8) : Int := match findAt sub s 0 with | some n => (n : Int) | none => -1

def con_zzIndex : List AV → Option AV
  | [.str s, .str sub] => if s.length < big ∧ sub.length < big then some (.int .i64 (idxV sub s)) else none
  | _ => none

theorem isPrefixOf_take (sub : List UInt8) (s : List UInt8) (h : sub.length ≤ s.length) : sub.isPrefixOf s = decide (s.take sub.length = sub) := by
  induction sub generalizing s with
  | nil => simp
  | cons a r ih =>
    cases s with
    | nil => simp at h
    | cons b s =>
      simp at h
      simp only [List.isPrefixOf, ih s h, List.length_cons, List.take_succ_cons]
      by_cases e : a = b
      · subst e; simp
      · have e' : ¬ b = a := fun x => e x.symm
        simp [e, e']

theorem isPrefixOf_long (sub : List UInt8) (s : List UInt8) (h : s.length < sub.length) : sub.isPrefixOf s = false := by
  induction sub generalizing s with
  | nil => simp at h
  | cons a r ih =>
    cases s with
    | nil => simp [List.isPrefixOf]
    | cons b s =>
      simp at h
      simp [List.isPrefixOf, ih s h]

theorem findAt_none (sub : List UInt8) : ∀ (s : List UInt8) (n : Nat), s.length < sub.length → findAt sub s n = none
  | [], n, h => by
    have : sub ≠ [] := by intro e; subst e; simp at h
    simp [findAt, this]
  | x :: r, n, h => by
    simp only [findAt, isPrefixOf_long sub (x :: r) h, Bool.false_eq_true, if_false]
    exact findAt_none sub r (n + 1) (by simp at h; omega)

/-- Of a text of one byte. -/
theorem findAt_one (c : UInt8) : ∀ (s : List UInt8) (n : Nat), findAt [c] s n = (cutAt c.toNat s).map fun p => n + p.1.length
  | [], n => by simp [findAt, cutAt]
  | x :: r, n => by
    simp only [findAt, cutAt, List.isPrefixOf, Bool.and_true]
    by_cases e : x = c
    · subst e; simp
    · have e1 : ¬ (x.toNat : Int) = (c.toNat : Int) := fun h => e (UInt8.toNat_inj.1 (by omega))
      have e2 : (c == x) = false := by simp; exact fun h => e h.symm
      simp only [e2, Bool.false_eq_true, if_false, if_neg e1, findAt_one c r (n + 1), Option.map_map]
      congr 1; funext p; simp; omega

theorem cutAt_eq {c : Int} : ∀ {s a b : List UInt8}, cutAt c s = some (a, b) → ∃ x : UInt8, (x.toNat : Int) = c ∧ s = a ++ x :: b ∧ noB c a
  | [], a, b, h => by simp [cutAt] at h
  | x :: r, a, b, h => by
    simp only [cutAt] at h
    split at h
    · rename_i e; simp at h; obtain ⟨rfl, rfl⟩ := h; exact ⟨x, e, by simp, by simp [noB]⟩
    · rename_i e
      cases hr : cutAt c r with
      | none => simp [hr] at h
      | some p =>
        simp [hr] at h
        obtain ⟨rfl, rfl⟩ := h
        obtain ⟨y, h1, h2, h3⟩ := cutAt_eq (a := p.1) (b := p.2) hr
        refine ⟨y, h1, by rw [h2]; simp, ?_⟩
        intro z hz
        simp at hz
        rcases hz with rfl | hz
        · exact e
        · exact h3 z hz

end Wax


namespace Wax
open Go (IntKind)

/-- What stands between the places of a byte. -/
def splitB (b : UInt8) : List UInt8 → List (List UInt8)
  | [] => [[]]
  | x :: r => if x = b then [] :: splitB b r else match splitB b r with
    | [] => [[x]]
    | h :: t => (x :: h) :: t

theorem splitB_ne (b : UInt8) (s : List UInt8) : splitB b s ≠ [] := by
  cases s with
  | nil => simp [splitB]
  | cons x r => simp only [splitB]; split; simp; split <;> simp

theorem splitB_cut (b : UInt8) : ∀ (s : List UInt8), splitB b s = match cutAt b.toNat s with | none => [s] | some (a, c) => a :: splitB b c
  | [] => rfl
  | x :: r => by
    have ih := splitB_cut b r
    simp only [splitB, cutAt]
    by_cases e : x = b
    · subst e; simp
    · have e1 : ¬ (x.toNat : Int) = (b.toNat : Int) := fun h => e (UInt8.toNat_inj.1 (by omega))
      rw [if_neg e, if_neg e1, ih]
      cases cutAt b.toNat r with
      | none => rfl
      | some p => rfl

theorem splitB_length (b : UInt8) : ∀ (s : List UInt8), (splitB b s).length ≤ s.length + 1
  | [] => by simp [splitB]
  | x :: r => by
    have ih := splitB_length b r
    simp only [splitB]
    split
    · simp; omega
    · split
      · simp
      · rename_i h t e; rw [e] at ih; simp at ih ⊢; omega

theorem splitB_mem_length (b : UInt8) : ∀ (s p : List UInt8), p ∈ splitB b s → p.length ≤ s.length
  | [], p, h => by simp [splitB] at h; subst h; simp
  | x :: r, p, h => by
    have ih := splitB_mem_length b r
    simp only [splitB] at h
    split at h
    · rcases List.mem_cons.1 h with e | h
      · subst e; simp
      · have := ih p h; simp; omega
    · split at h
      · simp at h; subst h; simp
      · rename_i hd t e
        rcases List.mem_cons.1 h with e' | h
        · subst e'
          have := ih hd (by rw [e]; simp); simp; omega
        · have := ih p (by rw [e]; simp [h]); simp; omega

def con_zzSplit : List AV → List (Nat × AObj) → Option (AV × List (Nat × AObj))
  | [.str s, .str [b]], [] => if s.length < mid then some (.msl 0 1 0 (splitB b s).length, [(0, .cells (strsA (splitB b s)))]) else none
  | _, _ => none

end Wax


namespace Wax
open Go (IntKind)

def isSp (n : Int) : Bool := decide ((9 ≤ n ∧ n ≤ 13) ∨ n = 32)

def con_zzIsSpace : List AV → Option AV
  | [.int .i32 n] => if n < 128 then some (.bool (isSp n)) else none
  | _ => none

/-- The parts of a text between white space. -/
def wordsGo : List UInt8 → List UInt8 → List (List UInt8)
  | cur, [] => if cur = [] then [] else [cur]
  | cur, x :: r => if isWs x.toNat then (if cur = [] then wordsGo [] r else cur :: wordsGo [] r) else wordsGo (cur ++ [x]) r
def wordsOf (s : List UInt8) : List (List UInt8) := wordsGo [] s

def plain (s : List UInt8) : Bool := s.all plainB

def con_zzTrimSpace : List AV → Option AV
  | [.str s] => if s.length < mid ∧ plain s = true then some (.str (trimS s)) else none
  | _ => none

end Wax


namespace Wax
open Go (IntKind)

theorem slStrs_cases {v : AV} {l : List (List UInt8)} (h : slStrs v = some l) : (v = .nilS ∧ l = []) ∨ v = .sl 1 (strsA l) := by
  cases v <;> simp [slStrs] at h
  · left; exact ⟨rfl, h⟩
  · right; obtain ⟨e, h⟩ := h; rw [asStrs_spec h, e]

end Wax


namespace Wax
open Go (IntKind)

theorem decR_ascii {x : UInt8} {r : List UInt8} (h : x.toNat < 128) : decR (x :: r) = (x.toNat, 1) := by
  have e : (⟨(x :: r).toArray⟩ : ByteArray).get! 0 = x := by
    show (x :: r).toArray[0]! = x
    simp
  simp [decR, Go.Utf8.decode, e, h]

theorem plainB_lt {x : UInt8} (h : plainB x = true) : x.toNat < 128 := by
  have := of_decide_eq_true h
  omega

theorem isSp_ws {x : UInt8} (h : plainB x = true) : isSp x.toNat = isWs x.toNat := by
  have := of_decide_eq_true h
  unfold isSp isWs
  apply decide_eq_decide.2
  omega

theorem plain_app {s t : List UInt8} : plain (s ++ t) = (plain s && plain t) := by simp [plain]

theorem trimR_ws {c : List UInt8} {x : UInt8} (h : isWs x.toNat = true) : trimR (c ++ [x]) = trimR c := by simp [trimR, h]
theorem trimR_nw {c : List UInt8} {x : UInt8} (h : isWs x.toNat = false) : trimR (c ++ [x]) = c ++ [x] := by simp [trimR, h]

theorem trimR_prefix (c : List UInt8) : ∃ t, c = trimR c ++ t := by
  obtain ⟨t, ht⟩ := List.dropWhile_suffix (fun b : UInt8 => isWs b.toNat) (l := c.reverse)
  refine ⟨t.reverse, ?_⟩
  have := congrArg List.reverse ht
  simpa [trimR] using this.symm

theorem trimL_app {a b : List UInt8} (ha : ∀ x ∈ a, isWs x.toNat = true) : trimL (a ++ b) = trimL b := by
  induction a with
  | nil => rfl
  | cons x r ih =>
    have h1 := ha x (by simp)
    simp only [trimL, List.cons_append, List.dropWhile_cons, h1, if_true]
    exact ih fun y hy => ha y (by simp [hy])

theorem trimL_nw {b : List UInt8} (hb : ∀ x r, b = x :: r → isWs x.toNat = false) : trimL b = b := by
  cases b with
  | nil => rfl
  | cons x r => simp [trimL, hb x r rfl]

def toV (n : Nat) (a c : List UInt8) : Int := if c = [] then (n : Int) else (a.length : Int) + ((trimR c).length : Int)

end Wax


namespace Wax
open Go (IntKind)

theorem cutAt_le {c : Int} {s : List UInt8} {p : List UInt8 × List UInt8} (h : cutAt c s = some p) : p.1.length + p.2.length < s.length ∧ ∃ x, s = p.1 ++ x :: p.2 := by
  obtain ⟨a, b⟩ := p
  obtain ⟨x, hx1, hx2, _⟩ := cutAt_eq h
  subst hx2
  simp

attribute [local simp] lowS_cons lowS_nil lowS_app
@[simp] theorem lowS_len {l : List UInt8} : (lowS l).length = l.length := by simp [lowS]

end Wax


namespace Wax
open Go (IntKind)

/-- What an evaluation asks of a slice of texts. -/
theorem slf_alen {u : AV} {l : List (List UInt8)} (h : slStrs u = some l) (hp : List (Nat × AObj)) : alen hp 1 u = some l.length := by
  rcases slStrs_cases h with ⟨rfl, rfl⟩ | rfl <;> simp
theorem slf_ref {u : AV} {l : List (List UInt8)} (h : slStrs u = some l) : hasRef u = false := by
  rcases slStrs_cases h with ⟨rfl, rfl⟩ | rfl <;> simp
theorem slf_cells {u : AV} {l : List (List UInt8)} (h : slStrs u = some l) : cells u = [u] := by
  rcases slStrs_cases h with ⟨rfl, rfl⟩ | rfl <;> simp
theorem slf_ne {u : AV} {l : List (List UInt8)} (h : slStrs u = some l) (hl : l ≠ []) : u = .sl 1 (strsA l) := by
  rcases slStrs_cases h with ⟨rfl, rfl⟩ | rfl
  · exact absurd rfl hl
  · rfl

theorem plain_sub {s t : List UInt8} (h : ∀ x ∈ t, x ∈ s) (hs : plain s = true) : plain t = true := by
  simp only [plain, List.all_eq_true] at hs ⊢
  exact fun x hx => hs x (h x hx)

theorem trimS_sub {t : List UInt8} : ∀ x ∈ trimS t, x ∈ t := by
  intro x hx
  simp only [trimS, trimR, trimL, List.mem_reverse] at hx
  have := (List.dropWhile_suffix _).mem hx
  rw [List.mem_reverse] at this
  exact (List.dropWhile_suffix _).mem this

end Wax


namespace Wax
open Go (IntKind)

def cutS (s : List UInt8) (p : Nat × Nat) : List UInt8 := (s.take p.2).drop p.1

structure FF (s pre post : List UInt8) (sp : List (Nat × Nat)) (cur : List UInt8) (v : Int) : Prop where
  cut : s = pre ++ post
  words : wordsOf s = sp.map (cutS s) ++ wordsGo cur post
  none : cur = [] → v < 0 ∧ -1099511627777 < v
  some : cur ≠ [] → ∃ p, pre = p ++ cur ∧ v = p.length
  ok : ∀ p ∈ sp, p.1 ≤ p.2 ∧ p.2 ≤ s.length
  len : sp.length ≤ pre.length

theorem FF.on {s pre post : List UInt8} {sp : List (Nat × Nat)} {cur : List UInt8} {v : Int} {x : UInt8} (h : FF s pre (x :: post) sp cur v) (hw : isWs x.toNat = false) (hc : cur ≠ []) : FF s (pre ++ [x]) post sp (cur ++ [x]) v := by
  refine ⟨by rw [h.cut]; simp, ?_, fun hn => by simp at hn, fun _ => ?_, h.ok, by have := h.len; simp; omega⟩
  · have := h.words
    simpa [wordsGo, hw] using this
  · obtain ⟨p, hp, hv⟩ := h.some hc
    exact ⟨p, by rw [hp]; simp, hv⟩

end Wax


namespace Wax
open Go (IntKind)

def con_errorsNew : List AV → Option AV
  | [.str s] => some (.ifc 3 (.ptr [.str s]))
  | _ => none

theorem ok_errorsNew (Γ : Gam) : ∀ args r, con_errorsNew args = some r → runs Γ c_errors_New args (fun v => v = r) := by
  intro args r h
  simp only [con_errorsNew] at h
  split at h <;> (try simp at h; done)
  injection h with h; subst h
  simp [c_errors_New]

/-- A map of texts, as it was written. -/
def pmA (l : List (List UInt8 × List UInt8)) : List (List UInt8 × AV) := l.map fun p => (p.1, .str p.2)
def hasK (k : List UInt8) (l : List (List UInt8 × List UInt8)) : Bool := l.any fun p => decide (k = p.1)
theorem splitB_sub (b : UInt8) : ∀ (s p : List UInt8), p ∈ splitB b s → ∀ y ∈ p, y ∈ s
  | [], p, h, y, hy => by simp [splitB] at h; subst h; exact hy
  | x :: r, p, h, y, hy => by
    have ih := splitB_sub b r
    simp only [splitB] at h
    split at h
    · rcases List.mem_cons.1 h with e | h
      · subst e; simp at hy
      · exact List.mem_cons_of_mem _ (ih p h y hy)
    · split at h
      · simp at h; subst h; simp at hy; subst hy; simp
      · rename_i hd t e
        rcases List.mem_cons.1 h with e' | h
        · subst e'
          rcases List.mem_cons.1 hy with e2 | hy
          · subst e2; simp
          · exact List.mem_cons_of_mem _ (ih hd (by rw [e]; simp) y hy)
        · exact List.mem_cons_of_mem _ (ih p (by rw [e]; simp [h]) y hy)
theorem splitB_plain (b : UInt8) (s p : List UInt8) (hs : plain s = true) (h : p ∈ splitB b s) : plain p = true := plain_sub (splitB_sub b s p h) hs

end Wax


namespace Wax
open Go (IntKind)

def nonWs (s : List UInt8) : Prop := ∀ x ∈ s, isWs x.toNat = false
def allWs (s : List UInt8) : Prop := ∀ x ∈ s, isWs x.toNat = true

theorem trimS_word {n b : List UInt8} (hn : nonWs n) (hne : n ≠ []) (hb : allWs b) : trimS (n ++ b) = n := by
  have h1 : trimL (n ++ b) = n ++ b := by
    cases n with
    | nil => exact absurd rfl hne
    | cons x r => simp [trimL, hn x (by simp)]
  rw [trimS, h1, trimR, List.reverse_append, List.dropWhile_append_of_pos (by intro x hx; exact hb x (by simpa using hx))]
  have h2 : n.reverse.dropWhile (fun b => isWs b.toNat) = n.reverse := by
    cases hr : n.reverse with
    | nil => rfl
    | cons x r =>
      have : x ∈ n := by rw [← List.mem_reverse, hr]; simp
      simp [hn x this]
  rw [h2, List.reverse_reverse]

theorem cutAt_noB {c : UInt8} {n r : List UInt8} (h : noB c.toNat n) : cutAt c.toNat (n ++ c :: r) = some (n, r) := by
  rw [cutAt_app _ _ _ h]; simp [cutAt]

end Wax


namespace Wax
open Go (IntKind)

abbrev L8 := List UInt8
abbrev KVp := List UInt8 × List UInt8

def tokStop : L8 := [40, 41, 60, 62, 64, 44, 59, 58, 92, 34, 47, 91, 93, 63, 61]
def tokB (c : UInt8) : Bool := decide (32 < c.toNat) && decide (c.toNat < 127) && !tokStop.contains c
def mTok (s : L8) : Bool := s.all tokB && decide (s ≠ [])
def kwB (c : UInt8) : Bool := decide ((97 ≤ c.toNat ∧ c.toNat ≤ 122) ∨ (65 ≤ c.toNat ∧ c.toNat ≤ 90) ∨ (48 ≤ c.toNat ∧ c.toNat ≤ 57) ∨ c.toNat = 45)
def mKw (s : L8) : Bool := s.all kwB && decide (s ≠ []) && decide (s.head? ≠ some 45) && decide (s.getLast? ≠ some 45)
def mDom (s : L8) : Bool := (splitB 46 s).all (fun p => mKw p && decide (p.length ≤ 63)) && decide (s.length ≤ 253)
def digB (c : UInt8) : Bool := decide (48 ≤ c.toNat ∧ c.toNat ≤ 57)
def numW (n : Int) (s : L8) : Int := s.foldl (fun n c => IntKind.i64.wrap (IntKind.i64.wrap (10 * n) + ((c.toNat : Int) - 48))) n
def mNum (s : L8) (most : Int) : Int × Bool := if s.all digB = true then (numW 0 s, decide (s ≠ []) && decide ((s.length : Int) ≤ most)) else (0, false)

def sNone : L8 := [110, 111, 110, 101]
def sQuar : L8 := [113, 117, 97, 114, 97, 110, 116, 105, 110, 101]
def sReject : L8 := [114, 101, 106, 101, 99, 116]
def polB (s : L8) : Bool := decide (s = sNone ∨ s = sQuar ∨ s = sReject)
def sMailto : L8 := [109, 97, 105, 108, 116, 111, 58]
def sKmgt : L8 := [107, 109, 103, 116]
def s01ds : L8 := [48, 49, 100, 115]
def sAfrf : L8 := [97, 102, 114, 102]

def addrB (s : L8) : Bool := match cutAt 64 s with
  | some p => mTok p.1 && mDom p.2
  | none => false
/-- A size's digits. -/
def sizeOff (s : L8) : L8 := match s.getLast? with
  | some c => if sKmgt.contains c then s.dropLast else s
  | none => s
def muri (s : L8) : Bool := decide (8 ≤ s.length) && decide (s.take 7 = sMailto) && (match cutAt 33 (s.drop 7) with
  | some p => (mNum (sizeOff p.2) 9).2 && addrB p.1
  | none => addrB (s.drop 7))

def kAdkim : L8 := [97, 100, 107, 105, 109]
def kAspf : L8 := [97, 115, 112, 102]
def kFo : L8 := [102, 111]
def kPct : L8 := [112, 99, 116]
def kRf : L8 := [114, 102]
def kRi : L8 := [114, 105]
def kRua : L8 := [114, 117, 97]
def kRuf : L8 := [114, 117, 102]
def kSp : L8 := [115, 112]
def kP : L8 := [112]
def kV : L8 := [118]
def sDM : L8 := [68, 77, 65, 82, 67, 49]
def sR : L8 := [114]
def sS : L8 := [115]

/-- A record, as the door of the program has it. -/
structure MR where
  adkim : L8
  aspf : L8
  fo : Int
  p : L8
  pct : Int
  has : Bool
  rf : Option (List L8)
  ri : Int
  rua : Option (List L8)
  ruf : Option (List L8)
  sp : L8
  deriving DecidableEq

def slO : Option (List L8) → AV
  | none => .nilS
  | some l => .sl 1 (strsA l)
def MR.cells (r : MR) : List AV := [.str r.adkim, .str r.aspf, .int .i64 r.fo, .str r.p, .int .i64 r.pct, .bool r.has, slO r.rf, .int .i64 r.ri, slO r.rua, slO r.ruf, .str r.sp]
def mr0 : MR := ⟨[], [], 0, [], 0, false, none, 0, none, none, []⟩

def alignB (s : L8) : Bool := decide (s = sR ∨ s = sS)
def orI (x y : Int) : Int := IntKind.i64.wrap ((BitVec.ofInt 64 x ||| BitVec.ofInt 64 y).toNat : Int)
def foBit : L8 → Int
  | [c] => if c = 48 then 1 else if c = 49 then 2 else if c = 100 then 4 else 8
  | _ => 0
def foOk (s : L8) : Bool := match s with | [c] => s01ds.contains c | _ => false
def foOf (l : List L8) : Int := l.foldl (fun n x => orI n (foBit x)) 0
/-- The parts of a list, each of which must be right. -/
def mlist (b : UInt8) (right : L8 → Bool) (s : L8) : Option (List L8) := if (splitB b s).all right = true then some (splitB b s) else none

/-- Which values a tag may have. -/
def mOk (t : KVp) : Bool :=
  if t.1 = kAdkim then alignB t.2 else if t.1 = kAspf then alignB t.2 else if t.1 = kP then polB t.2 else if t.1 = kSp then polB t.2
  else if t.1 = kFo then (mlist 58 foOk t.2).isSome
  else if t.1 = kPct then (mNum t.2 3).2 && decide ((mNum t.2 3).1 ≤ 100)
  else if t.1 = kRf then (mlist 58 (fun s => decide (s = sAfrf)) t.2).isSome
  else if t.1 = kRi then (mNum t.2 10).2 && decide (0 < (mNum t.2 10).1) && decide ((mNum t.2 10).1 < 4294967296)
  else if t.1 = kRua then (mlist 44 muri t.2).isSome
  else if t.1 = kRuf then (mlist 44 muri t.2).isSome
  else true

/-- What a tag puts into a record. -/
def mPut (r : MR) (t : KVp) : MR :=
  if t.1 = kAdkim then { r with adkim := t.2 } else if t.1 = kAspf then { r with aspf := t.2 } else if t.1 = kP then { r with p := t.2 } else if t.1 = kSp then { r with sp := t.2 }
  else if t.1 = kFo then { r with fo := foOf ((mlist 58 foOk t.2).getD []) }
  else if t.1 = kPct then { r with pct := (mNum t.2 3).1, has := true }
  else if t.1 = kRf then { r with rf := mlist 58 (fun s => decide (s = sAfrf)) t.2 }
  else if t.1 = kRi then { r with ri := IntKind.i64.wrap ((mNum t.2 10).1 * 1000000000) }
  else if t.1 = kRua then { r with rua := mlist 44 muri t.2 }
  else if t.1 = kRuf then { r with ruf := mlist 44 muri t.2 }
  else r

def mKnown : List L8 := [kP, kAdkim, kAspf, kFo, kPct, kRf, kRi, kRua, kRuf, kSp]
/-- Are the fields of a name the same? -/
def mSameAt (k : L8) (a b : MR) : Bool :=
  if k = kAdkim then decide (a.adkim = b.adkim) else if k = kAspf then decide (a.aspf = b.aspf) else if k = kP then decide (a.p = b.p) else if k = kSp then decide (a.sp = b.sp)
  else if k = kFo then decide (a.fo = b.fo) else if k = kPct then a.has && decide (a.pct = b.pct) else if k = kRf then decide (a.rf.getD [] = b.rf.getD []) else if k = kRi then decide (a.ri = b.ri)
  else if k = kRua then decide (a.rua.getD [] = b.rua.getD []) else if k = kRuf then decide (a.ruf.getD [] = b.ruf.getD []) else true
def mHas (r : MR) (l : List KVp) : Bool := l.all fun t => mSameAt t.1 r (mPut mr0 t)
def psetL : List KVp → L8 → L8 → List KVp
  | [], k, v => [(k, v)]
  | (i, u) :: r, k, v => if k = i then (k, v) :: r else (i, u) :: psetL r k v
theorem mset_pmA : ∀ (l : List KVp) (k v : L8), mset (pmA l) k (.str v) = pmA (psetL l k v)
  | [], _, _ => rfl
  | (i, u) :: r, k, v => by
    have ih := mset_pmA r k v
    simp only [pmA, List.map_cons, mset, psetL] at ih ⊢
    by_cases h : k = i
    · simp [h]
    · simp only [if_neg h, List.map_cons, ih]
theorem psetL_new : ∀ {l : List KVp} {k v : L8}, hasK k l = false → psetL l k v = l ++ [(k, v)]
  | [], _, _, _ => rfl
  | (i, u) :: r, k, v, h => by
    simp only [hasK, List.any_cons, Bool.or_eq_false_iff, decide_eq_false_iff_not] at h
    simp only [psetL, if_neg h.1, List.cons_append]
    rw [psetL_new (l := r) h.2]

/-- A record, as the program's inner part has it. -/
structure DR where
  dk : L8
  sp : L8
  fo : Int
  p : L8
  pct : Option Int
  rf : Option (List L8)
  ri : Int
  rua : Option (List L8)
  ruf : Option (List L8)
  sub : L8

def recM (r : DR) : MR := ⟨r.dk, r.sp, r.fo, r.p, r.pct.getD 0, r.pct.isSome, if r.rf.getD [] = [] then none else r.rf, IntKind.i64.wrap (r.ri * 1000000000), r.rua, r.ruf, r.sub⟩

def fobit2 (s : L8) : Option Int := if trimS s = [48] then some 1 else if trimS s = [49] then some 2 else if trimS s = [100] then some 4 else if trimS s = [115] then some 8 else none
def fo2 : Int → List L8 → Option Int
  | n, [] => some n
  | n, x :: r => match fobit2 x with
    | some b => fo2 (orI n b) r
    | none => none
def uris (s : L8) : List L8 := (splitB 44 s).map trimS
end Wax


namespace Wax
open Go (IntKind)

def anyN (n : Int) (s : L8) : Bool := s.any fun b => decide ((b.toNat : Int) = n)

def con_MailAny : List AV → Option AV
  | [.int .u8 n, .str s] => if s.length < big then some (.bool (anyN n s)) else none
  | _ => none

theorem ok_MailAny (Γ : Gam) : ∀ args r, con_MailAny args = some r → runs Γ c_spec_MailAny args (fun v => v = r) := by
  intro args r h
  simp only [con_MailAny] at h
  split at h <;> (try simp at h; done)
  rename_i n s
  obtain ⟨hs, rfl⟩ := ite_some h
  clear h
  simp only [big] at hs
  simp -implicitDefEqProofs [c_spec_MailAny]
  refine awp_loop2 (σ := L8 × L8) (fun p => ⟨[(0, .int .u8 n), (1, .str s), (5, .int .i64 p.1.length)], []⟩) (fun p => s = p.1 ++ p.2 ∧ anyN n p.1 = false) (fun p => p.2.length) ([], s) (by simp) (by simp [anyN]) ?_
  rintro ⟨pre, post⟩ ⟨e1, e2⟩ LQ hLQ
  simp only at e1 e2
  subst e1
  cases post with
  | nil => simp -implicitDefEqProofs [b_spec_MailAny_1, t_spec_MailAny_2, e2]
  | cons x post =>
    simp at hs
    have hlt : (pre.length : Int) < (pre.length : Int) + ((post.length : Int) + 1) := by omega
    have ew : IntKind.i64.wrap ((pre.length : Int) + 1) = (pre.length : Int) + 1 := wrap64 (by omega) (by omega)
    by_cases h : (x.toNat : Int) = n
    · simp -implicitDefEqProofs [b_spec_MailAny_1, hlt, h, anyN]
    · simp -implicitDefEqProofs [b_spec_MailAny_1, hlt, h, ew]
      exact hLQ (pre ++ [x], post) ⟨by simp, by simp only [anyN, List.any_append, Bool.or_eq_false_iff] at e2 ⊢; exact ⟨e2, by simp [h]⟩⟩ (by simp) _ (by simp)

def con_mpolicy : List AV → Option AV
  | [.str s] => some (.bool (polB s))
  | _ => none

theorem ok_mpolicy (Γ : Gam) : ∀ args r, con_mpolicy args = some r → runs Γ c_spec_mpolicy args (fun v => v = r) := by
  intro args r h
  simp only [con_mpolicy] at h
  split at h <;> simp at h
  rename_i s
  subst h
  simp only [polB]
  by_cases h1 : s = sNone
  · subst h1; simp [c_spec_mpolicy, sNone]
  · by_cases h2 : s = sQuar
    · subst h2; simp [c_spec_mpolicy, sNone, sQuar]
    · have h1' := h1; have h2' := h2
      simp only [sNone, sQuar] at h1' h2'
      simp [c_spec_mpolicy, h1, h2, h1', h2', sReject]

def con_MPut1 : List AV → Option AV
  | [.str s] => if s.length < big then some (.bool (foOk s)) else none
  | _ => none

theorem ok_MPut1 (Γ : Gam) (h100 : Γ.fn 100 = con_MailAny) : ∀ args r, con_MPut1 args = some r → runs Γ c_spec_MPut_1 args (fun v => v = r) := by
  intro args r h
  simp only [con_MPut1] at h
  split at h <;> (try simp at h; done)
  rename_i s
  obtain ⟨hs, rfl⟩ := ite_some h
  clear h
  have k : ∀ c : UInt8, con_MailAny [.int .u8 c.toNat, .str [48, 49, 100, 115]] = some (.bool (s01ds.contains c)) := by
    intro c
    have e : anyN c.toNat [48, 49, 100, 115] = s01ds.contains c := by
      simp only [anyN, s01ds, List.any_cons, List.any_nil, List.contains_cons, List.contains_nil, Bool.or_false]
      have q : ∀ d : UInt8, decide ((d.toNat : Int) = (c.toNat : Int)) = (c == d) := by
        intro d
        rw [Bool.eq_iff_iff]; simp
        rw [← UInt8.toNat_inj]; omega
      simp only [q]
    simp only [con_MailAny, e]
    exact if_pos (by simp [big])
  match s with
  | [] => simp [c_spec_MPut_1, foOk]
  | [c] => simp [c_spec_MPut_1, foOk, acall, h100, k]
  | a :: b :: r =>
    simp at hs
    have e : ¬ ((r.length : Int) + 1 + 1 = 1) := by omega
    simp [c_spec_MPut_1, foOk, e]

def con_MPut2 : List AV → Option AV
  | [.str s] => some (.bool (decide (s = sAfrf)))
  | _ => none

theorem ok_MPut2 (Γ : Gam) : ∀ args r, con_MPut2 args = some r → runs Γ c_spec_MPut_2 args (fun v => v = r) := by
  intro args r h
  simp only [con_MPut2] at h
  split at h <;> simp at h
  subst h
  simp [c_spec_MPut_2, sAfrf]
  exact decide_eq_decide.2 Iff.rfl

theorem kwB_true {x : UInt8} (h : (97 ≤ (x.toNat : Int) ∧ (x.toNat : Int) ≤ 122) ∨ (65 ≤ (x.toNat : Int) ∧ (x.toNat : Int) ≤ 90) ∨ (48 ≤ (x.toNat : Int) ∧ (x.toNat : Int) ≤ 57) ∨ (x.toNat : Int) = 45) : kwB x = true := decide_eq_true (by omega)
theorem kwB_false {x : UInt8} (h : ¬ ((97 ≤ (x.toNat : Int) ∧ (x.toNat : Int) ≤ 122) ∨ (65 ≤ (x.toNat : Int) ∧ (x.toNat : Int) ≤ 90) ∨ (48 ≤ (x.toNat : Int) ∧ (x.toNat : Int) ≤ 57) ∨ (x.toNat : Int) = 45)) : kwB x = false := decide_eq_false (by omega)

def con_MailKeyword : List AV → Option AV
  | [.str s] => if s.length < big then some (.bool (mKw s)) else none
  | _ => none

theorem mKw_bad {pre post : L8} {x : UInt8} (h : kwB x = false) : mKw (pre ++ x :: post) = false := by simp [mKw, h]

theorem ok_MailKeyword (Γ : Gam) : ∀ args r, con_MailKeyword args = some r → runs Γ c_spec_MailKeyword args (fun v => v = r) := by
  intro args r h
  simp only [con_MailKeyword] at h
  split at h <;> (try simp at h; done)
  rename_i s
  obtain ⟨hs, rfl⟩ := ite_some h
  clear h
  simp only [big] at hs
  simp -implicitDefEqProofs [c_spec_MailKeyword]
  refine awp_loop2 (σ := L8 × L8) (fun p => ⟨[(0, .str s), (3, .int .i64 p.1.length)], []⟩) (fun p => s = p.1 ++ p.2 ∧ p.1.all kwB = true) (fun p => p.2.length) ([], s) (by simp) (by simp) ?_
  rintro ⟨pre, post⟩ ⟨e1, e2⟩ LQ hLQ
  simp only at e1 e2
  subst e1
  cases post with
  | nil =>
    simp at hs
    cases pre with
    | nil => simp -implicitDefEqProofs [b_spec_MailKeyword_1, t_spec_MailKeyword_2, mKw]
    | cons a pre =>
      simp at hs
      have ew : IntKind.i64.wrap (pre.length : Int) = pre.length := wrap64 (by omega) (by omega)
      obtain ⟨z, hz⟩ : ∃ z, (a :: pre)[pre.length]? = some z := ⟨(a :: pre)[pre.length]'(by simp), by simp⟩
      have hl : (a :: pre).getLast? = some z := by rw [List.getLast?_eq_getElem?]; simpa using hz
      have eI : ∀ c : UInt8, ((c.toNat : Int) = 45) ↔ c = 45 := by
        intro c; rw [← UInt8.toNat_inj]; simp; omega
      have hk : mKw (a :: pre) = (decide (¬ a = 45) && decide (¬ z = 45)) := by
        simp only [mKw, e2, hl]; simp
      simp only [List.append_nil]
      rw [hk]
      by_cases ha : a = 45
      · subst ha
        simp -implicitDefEqProofs [b_spec_MailKeyword_1, t_spec_MailKeyword_2]
      · have ha' : ¬ ((a.toNat : Int) = 45) := by rw [eI]; exact ha
        simp -implicitDefEqProofs [b_spec_MailKeyword_1, t_spec_MailKeyword_2, ha, ha', ew, hz, eI]
        rw [List.getElem?_eq_getElem (by simp)] at hz
        injection hz with hz
        rw [hz]
  | cons x post =>
    simp at hs
    have hlt : (pre.length : Int) < (pre.length : Int) + ((post.length : Int) + 1) := by omega
    have ew : IntKind.i64.wrap ((pre.length : Int) + 1) = (pre.length : Int) + 1 := wrap64 (by omega) (by omega)
    have good : kwB x = true → LQ ⟨[(0, .str (pre ++ x :: post)), (3, .int .i64 ((pre.length : Int) + 1))], []⟩ := fun h =>
      hLQ (pre ++ [x], post) ⟨by simp, by simp only [List.all_append, e2, List.all_cons, h]; rfl⟩ (by simp) _ (by simp)
    simp -implicitDefEqProofs [b_spec_MailKeyword_1, hlt, ew]
    repeat' (first | apply And.intro | intro _)
    all_goals first | exact good (kwB_true (by omega)) | exact mKw_bad (kwB_false (by omega))

set_option maxRecDepth 100000 in
theorem tokB_eq {x : UInt8} : tokB x = (decide (32 < (x.toNat : Int)) && decide ((x.toNat : Int) < 127) && !anyN x.toNat tokStop) := by
  have e : anyN x.toNat tokStop = tokStop.contains x := by
    rw [Bool.eq_iff_iff]
    simp only [anyN, List.any_eq_true, decide_eq_true_eq, List.contains_eq_mem]
    constructor
    · rintro ⟨y, hy, h⟩
      have : y = x := UInt8.toNat_inj.1 (by omega)
      exact this ▸ hy
    · intro h; exact ⟨x, h, rfl⟩
  rw [tokB, e]
  congr 2
  · congr 1; rw [eq_iff_iff]; omega
  · congr 1; rw [eq_iff_iff]; omega

def con_MailToken : List AV → Option AV
  | [.str s] => if s.length < big then some (.bool (mTok s)) else none
  | _ => none

set_option maxRecDepth 1000000 in
theorem ok_MailToken (Γ : Gam) (h100 : Γ.fn 100 = con_MailAny) : ∀ args r, con_MailToken args = some r → runs Γ c_spec_MailToken args (fun v => v = r) := by
  intro args r h
  simp only [con_MailToken] at h
  split at h <;> (try simp at h; done)
  rename_i s
  obtain ⟨hs, rfl⟩ := ite_some h
  clear h
  simp only [big] at hs
  have k : ∀ c : UInt8, con_MailAny [.int .u8 c.toNat, .str [40, 41, 60, 62, 64, 44, 59, 58, 92, 34, 47, 91, 93, 63, 61]] = some (.bool (anyN c.toNat tokStop)) := by
    intro c
    simp only [con_MailAny]
    exact if_pos (by simp [big])
  simp -implicitDefEqProofs [c_spec_MailToken]
  refine awp_loop2 (σ := L8 × L8) (fun p => ⟨[(0, .str s), (3, .int .i64 p.1.length)], []⟩) (fun p => s = p.1 ++ p.2 ∧ p.1.all tokB = true) (fun p => p.2.length) ([], s) (by simp) (by simp) ?_
  rintro ⟨pre, post⟩ ⟨e1, e2⟩ LQ hLQ
  simp only at e1 e2
  subst e1
  cases post with
  | nil => simp -implicitDefEqProofs [b_spec_MailToken_1, t_spec_MailToken_2, mTok, e2]
  | cons x post =>
    simp at hs
    have hlt : (pre.length : Int) < (pre.length : Int) + ((post.length : Int) + 1) := by omega
    have ew : IntKind.i64.wrap ((pre.length : Int) + 1) = (pre.length : Int) + 1 := wrap64 (by omega) (by omega)
    have good : tokB x = true → LQ ⟨[(0, .str (pre ++ x :: post)), (3, .int .i64 ((pre.length : Int) + 1))], []⟩ := fun h =>
      hLQ (pre ++ [x], post) ⟨by simp, by simp only [List.all_append, e2, List.all_cons, h]; rfl⟩ (by simp) _ (by simp)
    have bad : tokB x = false → mTok (pre ++ x :: post) = false := by intro h; simp [mTok, h]
    rw [tokB_eq] at good bad
    by_cases h1 : (x.toNat : Int) ≤ 32
    · have h1' : ¬ (32 < (x.toNat : Int)) := by omega
      have b := bad (by simp [h1'])
      simp -implicitDefEqProofs [b_spec_MailToken_1, hlt, ew, h1, b]
    · have h1' : 32 < (x.toNat : Int) := by omega
      by_cases h2 : 127 ≤ (x.toNat : Int)
      · have h2' : ¬ ((x.toNat : Int) < 127) := by omega
        have b := bad (by simp [h2'])
        simp -implicitDefEqProofs [b_spec_MailToken_1, hlt, ew, h1, h2, b]
      · have h2' : (x.toNat : Int) < 127 := by omega
        cases h3 : anyN x.toNat tokStop with
        | true =>
          have b := bad (by simp [h3])
          simp -implicitDefEqProofs [b_spec_MailToken_1, hlt, ew, h1, h2, acall, h100, k, h3, b]
        | false =>
          have g := good (by simp [h3, h1', h2'])
          simp -implicitDefEqProofs [b_spec_MailToken_1, hlt, ew, h1, h2, acall, h100, k, h3, g]

theorem digB_iff {x : UInt8} : digB x = true ↔ ¬ ((x.toNat : Int) < 48) ∧ ¬ (57 < (x.toNat : Int)) := by
  simp only [digB, decide_eq_true_eq]; omega

def numV2 (q : Int × Bool) : AV := .tup [.int .i64 q.1, .bool q.2]
def con_mnumber : List AV → Option AV
  | [.str s, .int .i64 m] => if s.length < big then some (numV2 (mNum s m)) else none
  | _ => none

theorem numW_app (a b : L8) (n : Int) : numW n (a ++ b) = numW (numW n a) b := by simp [numW]

theorem ok_mnumber (Γ : Gam) : ∀ args r, con_mnumber args = some r → runs Γ c_spec_mnumber args (fun v => v = r) := by
  intro args r h
  simp only [con_mnumber] at h
  split at h <;> (try simp at h; done)
  rename_i s m
  obtain ⟨hs, rfl⟩ := ite_some h
  clear h
  simp only [big] at hs
  simp -implicitDefEqProofs [c_spec_mnumber]
  refine awp_loop2 (σ := L8 × L8) (fun p => ⟨[(0, .str s), (1, .int .i64 m), (6, .int .i64 (numW 0 p.1)), (7, .int .i64 p.1.length)], []⟩) (fun p => s = p.1 ++ p.2 ∧ p.1.all digB = true) (fun p => p.2.length) ([], s) (by simp [numW]) (by simp) ?_
  rintro ⟨pre, post⟩ ⟨e1, e2⟩ LQ hLQ
  simp only at e1 e2
  subst e1
  cases post with
  | nil =>
    by_cases hp : pre = []
    · subst hp; simp -implicitDefEqProofs [b_spec_mnumber_1, t_spec_mnumber_2, mNum, numV2]
    · simp -implicitDefEqProofs [b_spec_mnumber_1, t_spec_mnumber_2, mNum, e2, hp, numV2]
  | cons x post =>
    simp at hs
    have hlt : (pre.length : Int) < (pre.length : Int) + ((post.length : Int) + 1) := by omega
    have ew : IntKind.i64.wrap ((pre.length : Int) + 1) = (pre.length : Int) + 1 := wrap64 (by omega) (by omega)
    have hxb := x.toNat_lt
    have bad : digB x = false → mNum (pre ++ x :: post) m = (0, false) := by
      intro h; simp only [mNum, List.all_append, List.all_cons, h]; simp
    by_cases h1 : (x.toNat : Int) < 48
    · have b := bad (by rw [Bool.eq_false_iff, ne_eq, digB_iff]; omega)
      simp -implicitDefEqProofs [b_spec_mnumber_1, hlt, ew, h1, b, numV2]
    · by_cases h2 : 57 < (x.toNat : Int)
      · have b := bad (by rw [Bool.eq_false_iff, ne_eq, digB_iff]; omega)
        simp -implicitDefEqProofs [b_spec_mnumber_1, hlt, ew, h1, h2, b, numV2]
      · have h3 : digB x = true := digB_iff.2 ⟨h1, h2⟩
        have ex : IntKind.u8.wrap ((x.toNat : Int) - 48) = (x.toNat : Int) - 48 := Go.IntWalk.u8_in _ ⟨by omega, by omega⟩
        have ex2 : IntKind.i64.wrap ((x.toNat : Int) - 48) = (x.toNat : Int) - 48 := wrap64 (by omega) (by omega)
        simp -implicitDefEqProofs [b_spec_mnumber_1, hlt, ew, h1, h2, ex, ex2]
        refine hLQ (pre ++ [x], post) ⟨by simp, by simp only [List.all_append, e2, List.all_cons, h3]; rfl⟩ (by simp) _ ?_
        simp [numW_app]
        simp [numW]
end Wax


namespace Wax
open Go (IntKind)

def con_MailLower : List AV → Option AV
  | [.str s] => if s.length < big then some (.str (lowS s)) else none
  | _ => none

theorem ok_MailLower (Γ : Gam) : ∀ args r, con_MailLower args = some r → runs Γ c_spec_MailLower args (fun v => v = r) := by
  intro args r h
  simp only [con_MailLower] at h
  split at h <;> (try simp at h; done)
  rename_i s
  obtain ⟨hs, rfl⟩ := ite_some h
  clear h
  simp only [big] at hs
  simp -implicitDefEqProofs [c_spec_MailLower, hs]
  refine awp_loop2 (σ := L8 × L8) (fun p => ⟨[(3, .msl 7 1 0 s.length), (8, .msl 7 1 0 s.length), (9, .int .i64 s.length), (10, .int .i64 p.1.length)], [(7, .cells (bcA (lowS p.1 ++ p.2)))]⟩) (fun p => s = p.1 ++ p.2) (fun p => p.2.length) ([], s) (by simp) (by simp) ?_
  rintro ⟨pre, post⟩ e1 LQ hLQ
  simp only at e1
  subst e1
  cases post with
  | nil =>
    have e : List.take pre.length (lowS pre) = lowS pre := List.take_of_length_le (by simp)
    simp -implicitDefEqProofs [b_spec_MailLower_1, t_spec_MailLower_2, e]
  | cons x post =>
    simp at hs
    have hlt : (pre.length : Int) < (pre.length : Int) + ((post.length : Int) + 1) := by omega
    have ew : IntKind.i64.wrap ((pre.length : Int) + 1) = (pre.length : Int) + 1 := wrap64 (by omega) (by omega)
    have hx := lowB_toNat x
    have fin : ∀ n : Int, n = (lowB x).toNat → LQ ⟨[(3, .msl 7 1 0 (pre.length + (post.length + 1))), (8, .msl 7 1 0 (pre.length + (post.length + 1))), (9, .int .i64 ((pre.length : Int) + ((post.length : Int) + 1))), (10, .int .i64 ((pre.length : Int) + 1))], [(7, .cells (bcA (lowS pre) ++ .int .u8 n :: bcA post))]⟩ := by
      intro n hn
      refine hLQ (pre ++ [x], post) (by simp) (by simp) _ ?_
      subst hn
      simp
    by_cases h : 65 ≤ (x.toNat : Int) ∧ (x.toNat : Int) ≤ 90
    · rw [if_pos h] at hx
      have eu : IntKind.u8.wrap ((x.toNat : Int) + 32) = (x.toNat : Int) + 32 := Go.IntWalk.u8_in _ ⟨by omega, by omega⟩
      have f := fin ((x.toNat : Int) + 32) hx.symm
      simp -implicitDefEqProofs [b_spec_MailLower_1, hlt, ew, h.1, h.2, eu]
      simpa using f
    · rw [if_neg h] at hx
      have f := fin (x.toNat : Int) hx.symm
      by_cases h1 : 65 ≤ (x.toNat : Int)
      · have h2 : ¬ ((x.toNat : Int) ≤ 90) := fun g => h ⟨h1, g⟩
        simp -implicitDefEqProofs [b_spec_MailLower_1, hlt, ew, h1, h2]
        simpa using f
      · simp -implicitDefEqProofs [b_spec_MailLower_1, hlt, ew, h1]
        simpa using f

def con_MailHalves : List AV → Option AV
  | [.str s, .int .u8 c] => if s.length < big then some (cutV c s) else none
  | _ => none

theorem ok_MailHalves (Γ : Gam) : ∀ args r, con_MailHalves args = some r → runs Γ c_spec_MailHalves args (fun v => v = r) := by
  intro args r h
  simp only [con_MailHalves] at h
  split at h <;> (try simp at h; done)
  rename_i s c
  obtain ⟨hs, rfl⟩ := ite_some h
  clear h
  simp only [big] at hs
  simp -implicitDefEqProofs [c_spec_MailHalves]
  refine awp_loop2 (σ := L8 × L8) (fun p => ⟨[(0, .str s), (1, .int .u8 c), (7, .int .i64 p.1.length)], []⟩) (fun p => s = p.1 ++ p.2 ∧ noB c p.1) (fun p => p.2.length) ([], s) (by simp) (by simp [noB]) ?_
  rintro ⟨pre, post⟩ ⟨e1, e2⟩ LQ hLQ
  simp only at e1 e2
  subst e1
  cases post with
  | nil =>
    have e : cutAt c pre = none := by have := cutAt_app c pre [] e2; simpa [cutAt] using this
    simp -implicitDefEqProofs [b_spec_MailHalves_1, t_spec_MailHalves_2, cutV, e]
  | cons x post =>
    simp at hs
    have hlt : (pre.length : Int) < (pre.length : Int) + ((post.length : Int) + 1) := by omega
    have ew : IntKind.i64.wrap ((pre.length : Int) + 1) = (pre.length : Int) + 1 := wrap64 (by omega) (by omega)
    by_cases h : (x.toNat : Int) = c
    · have g1 : (0 : Int) ≤ (pre.length : Int) + 1 ∧ (pre.length : Int) + 1 ≤ (pre.length : Int) + ((post.length : Int) + 1) := by omega
      have g2 : ((pre.length : Int) + 1).toNat = pre.length + 1 := by omega
      simp -implicitDefEqProofs [b_spec_MailHalves_1, hlt, h, ew, cutV, cutAt_app _ _ _ e2, cutAt, g1, g2]
    · simp -implicitDefEqProofs [b_spec_MailHalves_1, hlt, h, ew]
      refine hLQ (pre ++ [x], post) ⟨by simp, ?_⟩ (by simp) _ (by simp)
      intro y hy
      simp at hy
      rcases hy with hy | rfl
      · exact e2 y hy
      · exact h

def con_MailSplit : List AV → Option AV
  | [.str s, .int .u8 n] => if s.length < mid ∧ 0 ≤ n ∧ n < 256 then some (.sl 1 (strsA (splitB (UInt8.ofNat n.toNat) s))) else none
  | _ => none

theorem byteOf {n : Int} (h0 : 0 ≤ n) (h : n < 256) : ∃ b : UInt8, n = (b.toNat : Int) := ⟨UInt8.ofNat n.toNat, by
  have : (UInt8.ofNat n.toNat).toNat = n.toNat := by simp; omega
  rw [this]; omega⟩
theorem byteOf_back (b : UInt8) : UInt8.ofNat (b.toNat : Int).toNat = b := by simp

theorem splitB_app {b : UInt8} {cur post : L8} (h : noB b.toNat cur) : splitB b (cur ++ b :: post) = cur :: splitB b post := by
  rw [splitB_cut, cutAt_noB h]
theorem splitB_only {b : UInt8} {cur : L8} (h : noB b.toNat cur) : splitB b cur = [cur] := by
  have e : cutAt b.toNat cur = none := by have := cutAt_app b.toNat cur [] h; simpa [cutAt] using this
  rw [splitB_cut, e]

/-- Where a text is being split: what is out, where the part begins, where it is looked; or all is out. -/
def SplitAt (b : UInt8) (s : L8) (outs : List L8) (fr i : Int) : Prop :=
  (∃ p cur post, s = p ++ (cur ++ post) ∧ fr = (p.length : Int) ∧ i = (p.length : Int) + (cur.length : Int) ∧ noB b.toNat cur ∧ outs.length ≤ p.length ∧ splitB b s = outs ++ splitB b (cur ++ post)) ∨
  (i = (s.length : Int) + 1 ∧ splitB b s = outs)

theorem noB_snoc {c : Int} {cur : L8} {x : UInt8} (h : noB c cur) (hx : (x.toNat : Int) ≠ c) : noB c (cur ++ [x]) := by
  intro y hy
  simp at hy
  rcases hy with hy | rfl
  · exact h y hy
  · exact hx

set_option maxHeartbeats 1000000 in
theorem ok_MailSplit (Γ : Gam) : ∀ args r, con_MailSplit args = some r → runs Γ c_spec_MailSplit args (fun v => v = r) := by
  intro args r h
  simp only [con_MailSplit] at h
  split at h <;> (try simp at h; done)
  rename_i s n
  obtain ⟨⟨hs, hn0, hn⟩, rfl⟩ := ite_some h
  clear h
  obtain ⟨b, rfl⟩ := byteOf hn0 hn
  rw [byteOf_back]
  clear hn0 hn
  simp only [mid] at hs
  simp -implicitDefEqProofs [c_spec_MailSplit]
  refine awp_loop2 (σ := List L8 × Int × Int) (fun p => ⟨[(0, .str s), (1, .int .u8 b.toNat), (5, grV 31 1 p.1.length), (6, .int .i64 p.2.1), (7, .int .i64 p.2.2)], grH 31 p.1.length (strsA p.1)⟩)
    (fun p => SplitAt b s p.1 p.2.1 p.2.2) (fun p => ((s.length : Int) + 1 - p.2.2).toNat) ([], 0, 0) (by simp) (.inl ⟨[], [], s, by simp [noB]⟩) ?_
  rintro ⟨outs, fr, i⟩ hS LQ hLQ
  simp only at hS
  rcases hS with ⟨p, cur, post, g1, rfl, rfl, g2, g3, g4⟩ | ⟨rfl, g4⟩
  · have hlen : s.length = p.length + (cur.length + post.length) := by rw [g1]; simp
    have hle : (p.length : Int) + (cur.length : Int) ≤ (s.length : Int) := by omega
    have ew : IntKind.i64.wrap ((p.length : Int) + (cur.length : Int) + 1) = (p.length : Int) + (cur.length : Int) + 1 := wrap64 (by omega) (by omega)
    have hcut : List.drop p.length (List.take (p.length + cur.length) s) = cur := by
      rw [g1, ← List.append_assoc, show p.length + cur.length = (p ++ cur).length by simp, List.take_left' rfl, List.drop_left' rfl]
    have e1 : ((p.length : Int) + (cur.length : Int)).toNat = p.length + cur.length := by omega
    have hb0 : (p.length : Int) ≤ (p.length : Int) + (cur.length : Int) := by omega
    have hb1 : (0 : Int) ≤ (p.length : Int) + (cur.length : Int) := by omega
    cases post with
    | nil =>
      have hq : (p.length : Int) + (cur.length : Int) = (s.length : Int) := by simp at hlen; omega
      have fin : ∀ st, norm [0, 1, 5, 6, 7] st = ⟨[(0, .str s), (1, .int .u8 b.toNat), (5, .msl 31 1 0 (outs.length + 1)), (6, .int .i64 ((p.length : Int) + (cur.length : Int) + 1)), (7, .int .i64 ((p.length : Int) + (cur.length : Int) + 1))], [(31, .cells (strsA outs ++ [.str cur]))]⟩ → LQ st := by
        intro st hst
        exact hLQ (outs ++ [cur], (p.length : Int) + (cur.length : Int) + 1, (p.length : Int) + (cur.length : Int) + 1) (.inr ⟨by simp only; omega, by rw [g4]; simp [splitB_only g2]⟩) (by simp only; omega) st (by simpa using hst)
      have hd : decide ((p.length : Int) + (cur.length : Int) = (s.length : Int)) = true := decide_eq_true hq
      cases outs with
      | nil =>
        simp -implicitDefEqProofs [b_spec_MailSplit_1, hle, hd, ew, e1, hcut, hb0, hb1]
        exact fin _ (by simp)
      | cons o outs =>
        simp at g3
        simp -implicitDefEqProofs [b_spec_MailSplit_1, hle, hd, ew, e1, hcut, hb0, hb1]
        exact ⟨by omega, fin _ (by simp)⟩
    | cons x post =>
      simp at hlen
      have hd : decide ((p.length : Int) + (cur.length : Int) = (s.length : Int)) = false := decide_eq_false (by omega)
      have gx : s[p.length + cur.length]? = some x := by rw [g1, ← List.append_assoc]; exact get_mid (by simp)
      by_cases hx : (x.toNat : Int) = (b.toNat : Int)
      · have hxb : x = b := UInt8.toNat_inj.1 (by omega)
        subst hxb
        have fin : ∀ st, norm [0, 1, 5, 6, 7] st = ⟨[(0, .str s), (1, .int .u8 x.toNat), (5, .msl 31 1 0 (outs.length + 1)), (6, .int .i64 ((p.length : Int) + (cur.length : Int) + 1)), (7, .int .i64 ((p.length : Int) + (cur.length : Int) + 1))], [(31, .cells (strsA outs ++ [.str cur]))]⟩ → LQ st := by
          intro st hst
          refine hLQ (outs ++ [cur], (p.length : Int) + (cur.length : Int) + 1, (p.length : Int) + (cur.length : Int) + 1) (.inl ⟨p ++ cur ++ [x], [], post, by rw [g1]; simp, by simp; omega, by simp; omega, by simp [noB], by simp; omega, ?_⟩) (by simp only; omega) st (by simpa using hst)
          rw [g4, splitB_app g2]; simp
        cases outs with
        | nil =>
          simp -implicitDefEqProofs [b_spec_MailSplit_1, hle, hd, ew, e1, hcut, hb0, hb1, gx]
          exact fin _ (by simp)
        | cons o outs =>
          simp at g3
          simp -implicitDefEqProofs [b_spec_MailSplit_1, hle, hd, ew, e1, hcut, hb0, hb1, gx]
          exact ⟨by omega, fin _ (by simp)⟩
      · have fin : ∀ st, norm [0, 1, 5, 6, 7] st = ⟨[(0, .str s), (1, .int .u8 b.toNat), (5, grV 31 1 outs.length), (6, .int .i64 (p.length : Int)), (7, .int .i64 ((p.length : Int) + (cur.length : Int) + 1))], grH 31 outs.length (strsA outs)⟩ → LQ st := by
          intro st hst
          exact hLQ (outs, (p.length : Int), (p.length : Int) + (cur.length : Int) + 1) (.inl ⟨p, cur ++ [x], post, by rw [g1]; simp, rfl, by simp; omega, noB_snoc g2 hx, g3, by rw [g4]; simp⟩) (by simp only; omega) st (by simpa using hst)
        cases outs with
        | nil =>
          simp -implicitDefEqProofs [b_spec_MailSplit_1, hle, hd, ew, e1, hb0, hb1, gx, hx]
          exact fin _ (by simp)
        | cons o outs =>
          simp -implicitDefEqProofs [b_spec_MailSplit_1, hle, hd, ew, e1, hb0, hb1, gx, hx]
          exact fin _ (by simp)
  · have hnle : ¬ ((s.length : Int) + 1 ≤ (s.length : Int)) := by omega
    have hne := splitB_ne b s
    rw [g4] at hne
    obtain ⟨o, outs, rfl⟩ : ∃ o os, outs = o :: os := by cases outs <;> first | exact absurd rfl hne | exact ⟨_, _, rfl⟩
    simp -implicitDefEqProofs [b_spec_MailSplit_1, t_spec_MailSplit_2, hnle, g4, List.take_of_length_le]
end Wax


namespace Wax
open Go (IntKind)

def labB (p : L8) : Bool := mKw p && decide (p.length ≤ 63)
theorem mDom_eq (s : L8) : mDom s = ((splitB 46 s).all labB && decide (s.length ≤ 253)) := rfl

def con_MailDomain : List AV → Option AV
  | [.str s] => if s.length < mid then some (.bool (mDom s)) else none
  | _ => none

set_option maxHeartbeats 1000000 in
theorem ok_MailDomain (Γ : Gam) (h99 : Γ.fn 99 = con_MailKeyword) : ∀ args r, con_MailDomain args = some r → runs Γ c_spec_MailDomain args (fun v => v = r) := by
  intro args r h
  simp only [con_MailDomain] at h
  split at h <;> (try simp at h; done)
  rename_i s
  obtain ⟨hs, rfl⟩ := ite_some h
  clear h
  simp only [mid] at hs
  rw [mDom_eq]
  simp -implicitDefEqProofs [c_spec_MailDomain]
  refine awp_loop2 (σ := List L8 × Int × Int) (fun p => ⟨[(0, .str s), (3, .int .i64 p.2.1), (4, .int .i64 p.2.2)], []⟩)
    (fun p => SplitAt 46 s p.1 p.2.1 p.2.2 ∧ p.1.all labB = true) (fun p => ((s.length : Int) + 1 - p.2.2).toNat) ([], 0, 0) (by simp) ⟨.inl ⟨[], [], s, by simp [noB]⟩, rfl⟩ ?_
  rintro ⟨outs, fr, i⟩ ⟨hS, hA⟩ LQ hLQ
  simp only at hS hA
  rcases hS with ⟨p, cur, post, g1, rfl, rfl, g2, g3, g4⟩ | ⟨rfl, g4⟩
  · have hlen : s.length = p.length + (cur.length + post.length) := by rw [g1]; simp
    have hle : (p.length : Int) + (cur.length : Int) ≤ (s.length : Int) := by omega
    have ew : IntKind.i64.wrap ((p.length : Int) + (cur.length : Int) + 1) = (p.length : Int) + (cur.length : Int) + 1 := wrap64 (by omega) (by omega)
    have ew2 : IntKind.i64.wrap ((p.length : Int) + (cur.length : Int) - (p.length : Int)) = (cur.length : Int) := by rw [wrap64 (by omega) (by omega)]; omega
    have hcut : List.drop p.length (List.take (p.length + cur.length) s) = cur := by
      rw [g1, ← List.append_assoc, show p.length + cur.length = (p ++ cur).length by simp, List.take_left' rfl, List.drop_left' rfl]
    have e1 : ((p.length : Int) + (cur.length : Int)).toNat = p.length + cur.length := by omega
    have hb0 : (p.length : Int) ≤ (p.length : Int) + (cur.length : Int) := by omega
    have hb1 : (0 : Int) ≤ (p.length : Int) + (cur.length : Int) := by omega
    have k99 : con_MailKeyword [.str cur] = some (.bool (mKw cur)) := if_pos (by simp only [big]; omega)
    cases post with
    | nil =>
      have hq : (p.length : Int) + (cur.length : Int) = (s.length : Int) := by simp at hlen; omega
      have hd : decide ((p.length : Int) + (cur.length : Int) = (s.length : Int)) = true := decide_eq_true hq
      simp only [List.append_nil] at g4
      rw [splitB_only (b := 46) g2] at g4
      have bad : labB cur = false → ((splitB 46 s).all labB && decide (s.length ≤ 253)) = false := by intro h; rw [g4]; simp [h]
      have fin : labB cur = true → LQ ⟨[(0, .str s), (3, .int .i64 ((p.length : Int) + (cur.length : Int) + 1)), (4, .int .i64 ((p.length : Int) + (cur.length : Int) + 1))], []⟩ := by
        intro h
        exact hLQ (outs ++ [cur], (p.length : Int) + (cur.length : Int) + 1, (p.length : Int) + (cur.length : Int) + 1) ⟨.inr ⟨by simp only; omega, g4⟩, by simp only [List.all_append, hA, List.all_cons, h]; rfl⟩ (by simp only; omega) _ (by simp)
      cases hk : mKw cur with
      | false =>
        have b := bad (by simp [labB, hk])
        simp -implicitDefEqProofs [b_spec_MailDomain_1, hle, hd, ew, e1, hcut, hb0, hb1, acall, h99, k99, hk, b]
      | true =>
        by_cases h63 : (63 : Int) < (cur.length : Int)
        · have b := bad (by simp [labB, hk]; omega)
          simp -implicitDefEqProofs [b_spec_MailDomain_1, hle, hd, ew, ew2, e1, hcut, hb0, hb1, acall, h99, k99, hk, b, h63]
        · have f := fin (by simp [labB, hk]; omega)
          simp -implicitDefEqProofs [b_spec_MailDomain_1, hle, hd, ew, ew2, e1, hcut, hb0, hb1, acall, h99, k99, hk, h63, f]
    | cons x post =>
      simp at hlen
      have hd : decide ((p.length : Int) + (cur.length : Int) = (s.length : Int)) = false := decide_eq_false (by omega)
      have gx : s[p.length + cur.length]? = some x := by rw [g1, ← List.append_assoc]; exact get_mid (by simp)
      by_cases hx : (x.toNat : Int) = 46
      · have hxb : x = 46 := UInt8.toNat_inj.1 (by simp; omega)
        subst hxb
        rw [splitB_app (b := 46) g2] at g4
        have bad : labB cur = false → ((splitB 46 s).all labB && decide (s.length ≤ 253)) = false := by intro h; rw [g4]; simp [h]
        have fin : labB cur = true → LQ ⟨[(0, .str s), (3, .int .i64 ((p.length : Int) + (cur.length : Int) + 1)), (4, .int .i64 ((p.length : Int) + (cur.length : Int) + 1))], []⟩ := by
          intro h
          exact hLQ (outs ++ [cur], (p.length : Int) + (cur.length : Int) + 1, (p.length : Int) + (cur.length : Int) + 1) ⟨.inl ⟨p ++ cur ++ [46], [], post, by rw [g1]; simp, by simp; omega, by simp; omega, by simp [noB], by simp; omega, by rw [g4]; simp⟩, by simp only [List.all_append, hA, List.all_cons, h]; rfl⟩ (by simp only; omega) _ (by simp)
        cases hk : mKw cur with
        | false =>
          have b := bad (by simp [labB, hk])
          simp -implicitDefEqProofs [b_spec_MailDomain_1, hle, hd, ew, e1, hcut, hb0, hb1, gx, acall, h99, k99, hk, b]
        | true =>
          by_cases h63 : (63 : Int) < (cur.length : Int)
          · have b := bad (by simp [labB, hk]; omega)
            simp -implicitDefEqProofs [b_spec_MailDomain_1, hle, hd, ew, ew2, e1, hcut, hb0, hb1, gx, acall, h99, k99, hk, b, h63]
          · have f := fin (by simp [labB, hk]; omega)
            simp -implicitDefEqProofs [b_spec_MailDomain_1, hle, hd, ew, ew2, e1, hcut, hb0, hb1, gx, acall, h99, k99, hk, h63, f]
      · have f : LQ ⟨[(0, .str s), (3, .int .i64 (p.length : Int)), (4, .int .i64 ((p.length : Int) + (cur.length : Int) + 1))], []⟩ :=
          hLQ (outs, (p.length : Int), (p.length : Int) + (cur.length : Int) + 1) ⟨.inl ⟨p, cur ++ [x], post, by rw [g1]; simp, rfl, by simp; omega, noB_snoc g2 hx, g3, by rw [g4]; simp⟩, hA⟩ (by simp only; omega) _ (by simp)
        simp -implicitDefEqProofs [b_spec_MailDomain_1, hle, hd, ew, e1, hb0, hb1, gx, hx, f]
  · have hnle : ¬ ((s.length : Int) + 1 ≤ (s.length : Int)) := by omega
    rw [g4, hA]
    simp -implicitDefEqProofs [b_spec_MailDomain_1, t_spec_MailDomain_2, hnle]
    omega

/-- Which function value means which test. -/
def rightOf (g : Nat) : Option (L8 → Bool) := if g = 108 then some foOk else if g = 109 then some (fun s => decide (s = sAfrf)) else if g = 110 then some muri else none
def mlV : Option (List L8) → AV
  | some l => .tup [.sl 1 (strsA l), .bool true]
  | none => .tup [.nilS, .bool false]
def con_mlist : List AV → Option AV
  | [.str s, .int .u8 n, .fn g []] => match rightOf g with
    | some right => if s.length < mid ∧ 0 ≤ n ∧ n < 256 then some (mlV (mlist (UInt8.ofNat n.toNat) right s)) else none
    | none => none
  | _ => none

def con_muri : List AV → Option AV
  | [.str s] => if s.length < mid then some (.bool (muri s)) else none
  | _ => none

theorem ok_mlist (Γ : Gam) (h101 : Γ.fn 101 = con_MailSplit) (h108 : Γ.fn 108 = con_MPut1) (h109 : Γ.fn 109 = con_MPut2) (h110 : Γ.fn 110 = con_muri) : ∀ args r, con_mlist args = some r → runs Γ c_spec_mlist args (fun v => v = r) := by
  intro args r h
  simp only [con_mlist] at h
  split at h <;> (try simp at h; done)
  rename_i s n g
  split at h <;> (try simp at h; done)
  rename_i right hr
  obtain ⟨⟨hs, hn0, hn⟩, rfl⟩ := ite_some h
  clear h
  have k101 : con_MailSplit [.str s, .int .u8 n] = some (.sl 1 (strsA (splitB (UInt8.ofNat n.toNat) s))) := if_pos ⟨hs, hn0, hn⟩
  have kr : ∀ p : L8, p.length ≤ s.length → acall Γ [] g [.str p] = some (.bool (right p)) := by
    intro p hp
    have hp2 : p.length < mid := by omega
    have hp3 : p.length < big := by simp only [mid] at hp2; simp only [big]; omega
    simp only [rightOf] at hr
    split at hr
    · rename_i e; subst e; injection hr with hr; subst hr
      have : con_MPut1 [.str p] = some (.bool (foOk p)) := if_pos hp3
      simp [acall, h108, this]
    · split at hr
      · rename_i e; subst e; injection hr with hr; subst hr
        simp [acall, h109, con_MPut2]
      · split at hr
        · rename_i e; subst e; injection hr with hr; subst hr
          have : con_muri [.str p] = some (.bool (muri p)) := if_pos hp2
          simp [acall, h110, this]
        · simp at hr
  have hml := splitB_mem_length (UInt8.ofNat n.toNat) s
  have hll := splitB_length (UInt8.ofNat n.toNat) s
  simp only [mlist]
  simp only [mid] at hs
  generalize splitB (UInt8.ofNat n.toNat) s = L at *
  have hR1 : L.all right = true → mlV (if L.all right = true then some L else none) = .tup [.sl 1 (strsA L), .bool true] := fun h => by rw [if_pos h]; rfl
  have hR2 : L.all right = false → mlV (if L.all right = true then some L else none) = .tup [.nilS, .bool false] := fun h => by rw [h]; rfl
  generalize mlV (if L.all right = true then some L else none) = R at *
  simp -implicitDefEqProofs [c_spec_mlist, acall, h101, k101]
  refine awp_loop2 (σ := List L8 × List L8) (fun p => ⟨[(2, .fn g []), (8, .sl 1 (strsA L)), (14, .sl 1 (strsA L)), (15, .int .i64 L.length), (16, .int .i64 p.1.length)], []⟩)
    (fun p => L = p.1 ++ p.2 ∧ p.1.all right = true) (fun p => p.2.length) ([], L) (by simp) (by simp) ?_
  rintro ⟨pre, post⟩ ⟨e1, e2⟩ LQ hLQ
  simp only at e1 e2
  subst e1
  cases post with
  | nil =>
    simp only [List.append_nil] at *
    rw [hR1 e2]
    simp -implicitDefEqProofs [b_spec_mlist_1, t_spec_mlist_2]
  | cons x post =>
    have hxl := hml x (by simp)
    simp at hll
    have k := kr x hxl
    have hlt : (pre.length : Int) < (pre.length : Int) + ((post.length : Int) + 1) := by omega
    have ew : IntKind.i64.wrap ((pre.length : Int) + 1) = (pre.length : Int) + 1 := wrap64 (by omega) (by omega)
    cases hx : right x with
    | false =>
      have : (pre ++ x :: post).all right = false := by simp [hx]
      rw [hR2 this]
      simp -implicitDefEqProofs [b_spec_mlist_1, hlt, k, hx]
    | true =>
      simp -implicitDefEqProofs [b_spec_mlist_1, hlt, k, hx, ew]
      exact hLQ (pre ++ [x], post) ⟨by simp, by simp only [List.all_append, e2, List.all_cons, hx]; rfl⟩ (by simp) _ (by simp)

theorem contains_any {c : UInt8} {l : L8} : l.contains c = anyN c.toNat l := by
  rw [Bool.eq_iff_iff]
  simp only [anyN, List.any_eq_true, decide_eq_true_eq, List.contains_eq_mem]
  constructor
  · intro h; exact ⟨c, h, rfl⟩
  · rintro ⟨y, hy, h⟩
    have : y = c := UInt8.toNat_inj.1 (by omega)
    exact this ▸ hy

theorem cutAt_lens {c : Int} {s : L8} {p : L8 × L8} (h : cutAt c s = some p) : p.1.length < s.length ∧ p.2.length < s.length := by
  have := (cutAt_le h).1
  omega

section
variable {Γ : Gam} (h100 : Γ.fn 100 = con_MailAny) (h102 : Γ.fn 102 = con_MailHalves) (h103 : Γ.fn 103 = con_mnumber) (h104 : Γ.fn 104 = con_MailToken) (h105 : Γ.fn 105 = con_MailDomain)
include h102 h104 h105

theorem mu_1 {Q : APost} (a : L8) (ex : List (Nat × AV)) (ha : a.length < mid) (hQ : Q .ret ⟨[(2, .bool (addrB a))], []⟩) : awp Γ f_spec_muri_2 Q ⟨(3, .str a) :: ex, []⟩ := by
  have ha' : a.length < big := by simp only [mid] at ha; simp only [big]; omega
  have k102 : con_MailHalves [.str a, .int .u8 64] = some (cutV 64 a) := if_pos ha'
  cases hc : cutAt 64 a with
  | none =>
    have e : addrB a = false := by simp [addrB, hc]
    rw [e] at hQ
    simp -implicitDefEqProofs [f_spec_muri_2, acall, h102, k102, cutV, hc, hQ]
  | some p =>
    obtain ⟨l1, l2⟩ := cutAt_lens hc
    have k104 : con_MailToken [.str p.1] = some (.bool (mTok p.1)) := if_pos (by omega)
    have k105 : con_MailDomain [.str p.2] = some (.bool (mDom p.2)) := if_pos (by omega)
    have e : addrB a = (mTok p.1 && mDom p.2) := by simp [addrB, hc]
    rw [e] at hQ
    cases ht : mTok p.1 with
    | false =>
      rw [ht] at hQ
      simp at hQ
      simp -implicitDefEqProofs [f_spec_muri_2, acall, h102, k102, cutV, hc, h104, k104, ht, hQ]
    | true =>
      rw [ht] at hQ
      simp at hQ
      simp -implicitDefEqProofs [f_spec_muri_2, acall, h102, k102, cutV, hc, h104, k104, ht, h105, k105, hQ]

include h103
theorem mu_2 {Q : APost} (a w : L8) (ex : List (Nat × AV)) (ha : a.length < mid) (hw : w.length < mid) (hQ : Q .ret ⟨[(2, .bool ((mNum w 9).2 && addrB a))], []⟩) : awp Γ f_spec_muri_1 (thenQ (awp Γ f_spec_muri_2 Q) Q) ⟨(3, .str a) :: (4, .str w) :: ex, []⟩ := by
  have m := fun ex => mu_1 h102 h104 h105 (Q := Q) a ex ha
  have hw' : w.length < big := by simp only [mid] at hw; simp only [big]; omega
  have k103 : con_mnumber [.str w, .int .i64 9] = some (numV2 (mNum w 9)) := if_pos hw'
  cases hn : (mNum w 9).2 with
  | false =>
    rw [hn] at hQ
    simp at hQ
    simp -implicitDefEqProofs [f_spec_muri_1, acall, h103, k103, numV2, hn, hQ]
  | true =>
    rw [hn] at hQ
    simp at hQ
    simp -implicitDefEqProofs [f_spec_muri_1, acall, h103, k103, numV2, hn]
    exact m _ hQ

include h100
theorem mu_3 {Q : APost} (a z : L8) (ha : a.length < mid) (hz : z.length < mid) (hQ : Q .ret ⟨[(2, .bool ((mNum (sizeOff z) 9).2 && addrB a))], []⟩) : awp Γ f_spec_muri_3 Q ⟨[(3, .str a), (4, .str z), (5, .bool true)], []⟩ := by
  rcases List.eq_nil_or_concat z with rfl | ⟨w, c, rfl⟩
  · have l := fun ex => mu_2 h102 h103 h104 h105 (Q := Q) a [] ex ha (by simp [mid]) hQ
    simp -implicitDefEqProofs [f_spec_muri_3]
    exact l _
  · rw [List.concat_eq_append] at *
    have hw : w.length + 1 < 1099511627776 := by simpa [mid] using hz
    have k100 : con_MailAny [.int .u8 c.toNat, .str [107, 109, 103, 116]] = some (.bool (decide (c ∈ sKmgt))) := by
      rw [← List.contains_eq_mem, contains_any]
      have h4 : ([107, 109, 103, 116] : L8).length < big := by decide
      simp only [con_MailAny, if_pos h4]; rfl
    have ew : IntKind.i64.wrap (w.length : Int) = w.length := wrap64 (by omega) (by omega)
    have g : (w ++ [c])[w.length]? = some c := get_mid rfl
    by_cases hk : c ∈ sKmgt
    · have e : sizeOff (w ++ [c]) = w := by simp [sizeOff, hk]
      rw [e] at hQ
      have l := fun ex => mu_2 h102 h103 h104 h105 (Q := Q) a w ex ha (by simp only [mid]; omega) hQ
      simp -implicitDefEqProofs [f_spec_muri_3, ew, g, acall, h100, k100, hk]
      exact l _
    · have e : sizeOff (w ++ [c]) = w ++ [c] := by simp [sizeOff, hk]
      rw [e] at hQ
      have l := fun ex => mu_2 h102 h103 h104 h105 (Q := Q) a (w ++ [c]) ex ha hz hQ
      simp -implicitDefEqProofs [f_spec_muri_3, ew, g, acall, h100, k100, hk]
      exact l _
end

set_option maxHeartbeats 1000000 in
theorem ok_muri (Γ : Gam) (h100 : Γ.fn 100 = con_MailAny) (h102 : Γ.fn 102 = con_MailHalves) (h103 : Γ.fn 103 = con_mnumber) (h104 : Γ.fn 104 = con_MailToken) (h105 : Γ.fn 105 = con_MailDomain) :
    ∀ args r, con_muri args = some r → runs Γ c_spec_muri args (fun v => v = r) := by
  intro args r h
  simp only [con_muri] at h
  split at h <;> (try simp at h; done)
  rename_i s
  obtain ⟨hs, rfl⟩ := ite_some h
  clear h
  have hs' := hs
  simp only [mid] at hs
  by_cases h8 : (s.length : Int) < 8
  · have : muri s = false := by
      have : ¬ 8 ≤ s.length := by omega
      simp [muri, this]
    simp -implicitDefEqProofs [c_spec_muri, h8, this]
  have h7 : (7 : Int) ≤ (s.length : Int) := by omega
  have e8 : 8 ≤ s.length := by omega
  by_cases hm : s.take 7 = sMailto
  · have hmu : muri s = (match cutAt 33 (s.drop 7) with | some p => (mNum (sizeOff p.2) 9).2 && addrB p.1 | none => addrB (s.drop 7)) := by
      simp only [muri, e8, hm, decide_true, Bool.true_and]
      try (cases cutAt 33 (s.drop 7) <;> rfl)
    rw [hmu]
    simp only [sMailto] at hm
    have k102 : con_MailHalves [.str (s.drop 7), .int .u8 33] = some (cutV 33 (s.drop 7)) := if_pos (by simp [big]; omega)
    have hdl : (s.drop 7).length < mid := by simp [mid]; omega
    cases hc : cutAt 33 (s.drop 7) with
    | none =>
      have m := fun ex hQ => mu_1 (Γ := Γ) h102 h104 h105 (Q := finQ [.t 2] fun v => v = .bool (addrB (s.drop 7))) (s.drop 7) ex hdl hQ
      simp -implicitDefEqProofs [c_spec_muri, h8, h7, hm, acall, h102, k102, cutV, hc]
      simp -implicitDefEqProofs [f_spec_muri_3]
      exact m _ (by simp)
    | some p =>
      obtain ⟨l1, l2⟩ := cutAt_lens hc
      have m := mu_3 (Γ := Γ) h100 h102 h103 h104 h105 (Q := finQ [.t 2] fun v => v = .bool ((mNum (sizeOff p.2) 9).2 && addrB p.1)) p.1 p.2 (by omega) (by omega) (by simp)
      simp -implicitDefEqProofs [c_spec_muri, h8, h7, hm, acall, h102, k102, cutV, hc]
      exact m
  · have : muri s = false := by simp [muri, hm]
    simp only [sMailto] at hm
    simp -implicitDefEqProofs [c_spec_muri, h8, h7, hm, this]

def con_MKnown : List AV → Option AV
  | [] => some (.sl 1 (strsA mKnown))
  | _ => none
def mSpace (n : Nat) : L8 := ([[], [], [32], [32, 32], [9], [32, 9]] : List L8).getD (n % 6) []
def blB (b : UInt8) : Bool := decide ((b.toNat : Int) = 32 ∨ (b.toNat : Int) = 9)
end Wax


namespace Wax
open Go (IntKind)

def asO : AV → Option (Option (List L8))
  | .nilS => some none
  | .sl es xs => if es = 1 then (asStrs xs).map some else none
  | _ => none
theorem asO_slO (x : Option (List L8)) : asO (slO x) = some x := by cases x <;> simp [slO, asO]
theorem asO_spec {v : AV} {x : Option (List L8)} (h : asO v = some x) : v = slO x := by
  cases v <;> simp [asO] at h
  · subst h; rfl
  · obtain ⟨rfl, l, h1, rfl⟩ := h
    rw [asStrs_spec h1]; rfl

def asMR : List AV → Option MR
  | [.str a, .str b, .int .i64 fo, .str p, .int .i64 pct, .bool has, rf, .int .i64 ri, rua, ruf, .str sp] => match asO rf, asO rua, asO ruf with
    | some rf, some rua, some ruf => some ⟨a, b, fo, p, pct, has, rf, ri, rua, ruf, sp⟩
    | _, _, _ => none
  | _ => none
theorem asMR_cells (r : MR) : asMR r.cells = some r := by simp [MR.cells, asMR, asO_slO]
theorem asMR_spec {cs : List AV} {r : MR} (h : asMR cs = some r) : cs = r.cells := by
  unfold asMR at h
  split at h
  · split at h
    · rename_i h1 h2 h3
      simp at h; subst h
      rw [asO_spec h1, asO_spec h2, asO_spec h3]; rfl
    · simp at h
  · simp at h

@[simp] theorem slO_atom (x : Option (List L8)) : atom (slO x) = true := by cases x <;> rfl
@[simp] theorem slO_ref (x : Option (List L8)) : hasRef (slO x) = false := by cases x <;> rfl
@[simp] theorem slO_refs (x : Option (List L8)) : refs (slO x) = [] := by cases x <;> rfl
@[simp] theorem slO_map (x : Option (List L8)) (g : Nat → Nat) : mapId g (slO x) = slO x := by cases x <;> rfl
@[simp] theorem slO_kill (x : Option (List L8)) (d : Nat) : kill d (slO x) = slO x := by cases x <;> rfl
@[simp] theorem slO_snapW (x : Option (List L8)) (g : AV → AV) : snapW g (slO x) = slO x := by cases x <;> rfl
@[simp] theorem slO_snap (x : Option (List L8)) (n : Nat) (hp : List (Nat × AObj)) : snap (n + 1) hp (slO x) = slO x := by cases x <;> rfl
@[simp] theorem slO_cells (x : Option (List L8)) : cells (slO x) = [slO x] := by cases x <;> rfl
@[simp] theorem slO_pure (x : Option (List L8)) : pureV (slO x) = true := by cases x <;> rfl
@[simp] theorem slO_none : slO none = .nilS := rfl
@[simp] theorem slO_flat (x : List L8) : slO (some x) = .sl 1 (strsA x) := rfl
def con_MPut : List AV → List (Nat × AObj) → Option (AV × List (Nat × AObj))
  | [.ref 0 0, .agg [.str n, .str v]], [(0, .cells cs)] => match asMR cs with
    | some r => if n.length < mid ∧ v.length < mid then some (.bool (mOk (n, v)), [(0, .cells (mPut r (n, v)).cells)]) else none
    | none => none
  | _, _ => none

/-- The bits of a byte, from a place on. -/
def foFrom (c : UInt8) : Nat → Int → Int
  | 0, n => foFrom1 c n
  | 1, n => foFrom2 c n
  | 2, n => foFrom3 c n
  | 3, n => if c = 115 then orI n 8 else n
  | _, n => n
where
  foFrom3 (c : UInt8) (n : Int) : Int := let m := if c = 100 then orI n 4 else n; if c = 115 then orI m 8 else m
  foFrom2 (c : UInt8) (n : Int) : Int := let m := if c = 49 then orI n 2 else n; foFrom3 c m
  foFrom1 (c : UInt8) (n : Int) : Int := let m := if c = 48 then orI n 1 else n; foFrom2 c m

theorem foFrom_ok {c : UInt8} {n : Int} (h : foOk [c] = true) : foFrom c 0 n = orI n (foBit [c]) := by
  simp [foOk, s01ds] at h
  rcases h with rfl | rfl | rfl | rfl <;> rfl

/-- The stored bits. -/
def withFo (r : MR) (n : Int) : MR := { r with fo := n }

theorem fo_inner {Γ : Gam} {Q : APost} (r : MR) (c : UInt8) (n0 : Int) (L : List L8) (i : Int) (ok : Bool)
    (hQ : Q (.exit 3) ⟨[(0, .ref 1000000 0), (7, .bool ok), (9, .str [c]), (79, .sl 1 (strsA L)), (80, .int .i64 L.length), (81, .int .i64 i), (86, .msl 85 1 0 4), (87, .int .i64 4), (88, .int .i64 4), (89, .bool false)], [(85, .cells [.int .u8 48, .int .u8 49, .int .u8 100, .int .u8 115]), (1000000, .cells (withFo r (foFrom c 0 n0)).cells)]⟩) :
    awp Γ (.loop [0, 7, 9, 79, 80, 81, 86, 87, 88] b_spec_MPut_1) Q ⟨[(0, .ref 1000000 0), (7, .bool ok), (9, .str [c]), (79, .sl 1 (strsA L)), (80, .int .i64 L.length), (81, .int .i64 i), (86, .msl 85 1 0 4), (87, .int .i64 4), (88, .int .i64 0)], [(85, .cells [.int .u8 48, .int .u8 49, .int .u8 100, .int .u8 115]), (1000000, .cells (withFo r n0).cells)]⟩ := by
  refine awp_loop2 (σ := Nat × Int) (fun p => ⟨[(0, .ref 1000000 0), (7, .bool ok), (9, .str [c]), (79, .sl 1 (strsA L)), (80, .int .i64 L.length), (81, .int .i64 i), (86, .msl 85 1 0 4), (87, .int .i64 4), (88, .int .i64 p.1)], [(85, .cells [.int .u8 48, .int .u8 49, .int .u8 100, .int .u8 115]), (1000000, .cells (withFo r p.2).cells)]⟩)
    (fun p => p.1 ≤ 4 ∧ foFrom c p.1 p.2 = foFrom c 0 n0) (fun p => 4 - p.1) (0, n0) (by simp) ⟨by simp, rfl⟩ ?_
  rintro ⟨k, n⟩ ⟨hk, hn⟩ LQ hLQ
  simp only at hk hn
  have st : ∀ (k' : Nat) (n' : Int), k' = k + 1 → k' ≤ 4 → foFrom c k' n' = foFrom c k n → LQ ⟨[(0, .ref 1000000 0), (7, .bool ok), (9, .str [c]), (79, .sl 1 (strsA L)), (80, .int .i64 L.length), (81, .int .i64 i), (86, .msl 85 1 0 4), (87, .int .i64 4), (88, .int .i64 k')], [(85, .cells [.int .u8 48, .int .u8 49, .int .u8 100, .int .u8 115]), (1000000, .cells (withFo r n').cells)]⟩ := by
    intro k' n' h1 h2 h3
    exact hLQ (k', n') ⟨h2, by rw [h3, hn]⟩ (by simp only; omega) _ (by simp)
  have eI : ∀ d : UInt8, ((c.toNat : Int) = (d.toNat : Int)) ↔ c = d := by
    intro d; rw [← UInt8.toNat_inj]; omega
  have e48 := eI 48
  have e49 := eI 49
  have e100 := eI 100
  have e115 := eI 115
  simp at e48 e49 e100 e115
  match k, hk with
  | 0, _ =>
    by_cases h : c = 48
    · have s := st 1 (orI n 1) rfl (by omega) (by simp [foFrom, foFrom.foFrom1, h])
      simp [withFo, MR.cells, orI, h] at s
      simp -implicitDefEqProofs [b_spec_MPut_1, withFo, MR.cells, h]
      exact s
    · have s := st 1 n rfl (by omega) (by simp [foFrom, foFrom.foFrom1, h])
      simp [withFo, MR.cells] at s
      simp -implicitDefEqProofs [b_spec_MPut_1, withFo, MR.cells, e48, h]
      exact s
  | 1, _ =>
    by_cases h : c = 49
    · have s := st 2 (orI n 2) rfl (by omega) (by simp [foFrom, foFrom.foFrom2, h])
      simp [withFo, MR.cells, orI, h] at s
      simp -implicitDefEqProofs [b_spec_MPut_1, withFo, MR.cells, h]
      exact s
    · have s := st 2 n rfl (by omega) (by simp [foFrom, foFrom.foFrom2, h])
      simp [withFo, MR.cells] at s
      simp -implicitDefEqProofs [b_spec_MPut_1, withFo, MR.cells, e49, h]
      exact s
  | 2, _ =>
    by_cases h : c = 100
    · have s := st 3 (orI n 4) rfl (by omega) (by simp [foFrom, foFrom.foFrom3, h])
      simp [withFo, MR.cells, orI, h] at s
      simp -implicitDefEqProofs [b_spec_MPut_1, withFo, MR.cells, h]
      exact s
    · have s := st 3 n rfl (by omega) (by simp [foFrom, foFrom.foFrom3, h])
      simp [withFo, MR.cells] at s
      simp -implicitDefEqProofs [b_spec_MPut_1, withFo, MR.cells, e100, h]
      exact s
  | 3, _ =>
    by_cases h : c = 115
    · have s := st 4 (orI n 8) rfl (by omega) (by simp [foFrom, h])
      simp [withFo, MR.cells, orI, h] at s
      simp -implicitDefEqProofs [b_spec_MPut_1, withFo, MR.cells, h]
      exact s
    · have s := st 4 n rfl (by omega) (by simp [foFrom, h])
      simp [withFo, MR.cells] at s
      simp -implicitDefEqProofs [b_spec_MPut_1, withFo, MR.cells, e115, h]
      exact s
  | 4, _ =>
    have hn' : n = foFrom c 0 n0 := hn
    rw [← hn'] at hQ
    simp [withFo, MR.cells] at hQ
    simp -implicitDefEqProofs [b_spec_MPut_1, withFo, MR.cells, hQ]

theorem fo_outer {Γ : Gam} {Q : APost} (r : MR) (ok : Bool) (V : AV) (L : List L8) (hV : slStrs V = some L) (hL : ∀ x ∈ L, foOk x = true) (hLl : L.length < 4611686018427387904)
    (hQ : Q (.exit 1) ⟨[(0, .ref 1000000 0), (7, .bool ok), (79, V), (80, .int .i64 L.length), (81, .int .i64 L.length), (82, .bool false)], [(1000000, .cells (withFo r (foOf L)).cells)]⟩) :
    awp Γ (.loop [0, 7, 79, 80, 81] b_spec_MPut_3) Q ⟨[(0, .ref 1000000 0), (7, .bool ok), (79, V), (80, .int .i64 L.length), (81, .int .i64 0)], [(1000000, .cells (withFo r 0).cells)]⟩ := by
  refine awp_loop2 (σ := List L8 × List L8 × Int) (fun p => ⟨[(0, .ref 1000000 0), (7, .bool ok), (79, V), (80, .int .i64 L.length), (81, .int .i64 p.1.length)], [(1000000, .cells (withFo r p.2.2).cells)]⟩)
    (fun p => L = p.1 ++ p.2.1 ∧ p.2.1.foldl (fun n x => orI n (foBit x)) p.2.2 = foOf L) (fun p => p.2.1.length) ([], L, 0) (by simp) ⟨by simp, rfl⟩ ?_
  rintro ⟨pre, post, n⟩ ⟨e1, e2⟩ LQ hLQ
  simp only at e1 e2
  cases post with
  | nil =>
    simp at e1 e2
    subst e1
    rw [← e2] at hQ
    simp [withFo, MR.cells] at hQ
    simp -implicitDefEqProofs [b_spec_MPut_3, withFo, MR.cells, hQ]
  | cons x post =>
    have hx := hL x (by rw [e1]; simp)
    obtain ⟨c, rfl⟩ : ∃ c, x = [c] := by
      match x, hx with
      | [c], _ => exact ⟨c, rfl⟩
    have hne : L ≠ [] := by rw [e1]; simp
    have hv := slf_ne hV hne
    subst hv
    have hlen : L.length = pre.length + (post.length + 1) := by rw [e1]; simp
    have hlt : (pre.length : Int) < (L.length : Int) := by omega
    have ew : IntKind.i64.wrap ((pre.length : Int) + 1) = (pre.length : Int) + 1 := wrap64 (by omega) (by omega)
    have g : L[pre.length]? = some [c] := by rw [e1]; exact get_mid rfl
    have fi := fo_inner (Γ := Γ) (Q := blockQ 3 (thenQ (awp Γ t_spec_MPut_2 (thenQ LQ Q)) (thenQ LQ Q))) r c n L (pre.length : Int) ok (by
      have l := hLQ (pre ++ [[c]], post, foFrom c 0 n) ⟨by rw [e1]; simp, by rw [foFrom_ok hx, ← e2]; rfl⟩ (by simp)
      have l2 := l ⟨[(0, .ref 1000000 0), (7, .bool ok), (79, .sl 1 (strsA L)), (80, .int .i64 L.length), (81, .int .i64 ((pre.length : Int) + 1))], [(1000000, .cells (withFo r (foFrom c 0 n)).cells)]⟩ (by simp)
      simp [withFo, MR.cells] at l2
      simp -implicitDefEqProofs [t_spec_MPut_2, withFo, MR.cells, ew, l2])
    simp [withFo, MR.cells] at fi
    simp -implicitDefEqProofs [b_spec_MPut_3, withFo, MR.cells, hlt, g]
    exact fi

theorem mnum_con {v : L8} {m : Int} (h : v.length < mid) : con_mnumber [.str v, .int .i64 m] = some (numV2 (mNum v m)) := if_pos (by simp only [mid] at h; simp only [big]; omega)

set_option maxHeartbeats 4000000 in
theorem ok_MPut (Γ : Gam) (h103 : Γ.fn 103 = con_mnumber) (h106 : Γ.fn 106 = con_mpolicy) (h107 : Γ.fn 107 = con_mlist) : ∀ args hp q, con_MPut args hp = some q → runsS Γ c_spec_MPut args hp (fun v => v = some q) := by
  intro args hp q h
  simp only [con_MPut] at h
  split at h <;> (try simp at h; done)
  rename_i n v cs
  split at h <;> (try simp at h; done)
  rename_i r hr
  obtain ⟨⟨hn, hv⟩, rfl⟩ := ite_some h
  clear h
  rw [asMR_spec hr]
  clear hr
  have kl : ∀ (b : Int) (g : Nat) (right : L8 → Bool), rightOf g = some right → 0 ≤ b → b < 256 → con_mlist [.str v, .int .u8 b, .fn g []] = some (mlV (mlist (UInt8.ofNat b.toNat) right v)) := by
    intro b g right hr h1 h2
    simp only [con_mlist, hr]
    exact if_pos ⟨hv, h1, h2⟩
  have al : alignB v = (decide (v = [114]) || decide (v = [115])) := by
    by_cases a : v = [114] <;> by_cases b : v = [115] <;> simp [alignB, sR, sS, a, b]
  by_cases c1 : n = kAdkim
  · subst c1
    simp only [mOk, mPut, if_true, al]
    by_cases h1 : v = [114]
    · subst h1; simp -implicitDefEqProofs [c_spec_MPut, reach_succ, kAdkim, MR.cells]
    · simp -implicitDefEqProofs [c_spec_MPut, reach_succ, kAdkim, MR.cells, h1]
  by_cases c2 : n = kAspf
  · subst c2
    simp only [mOk, mPut, if_neg c1, if_true, al]
    by_cases h1 : v = [114]
    · subst h1; simp -implicitDefEqProofs [c_spec_MPut, reach_succ, kAspf, MR.cells]
    · simp -implicitDefEqProofs [c_spec_MPut, reach_succ, kAspf, MR.cells, h1]
  by_cases c3 : n = kP
  · subst c3
    simp only [mOk, mPut, if_neg c1, if_neg c2, if_true]
    by_cases h1 : v = [114]
    · subst h1; simp -implicitDefEqProofs [c_spec_MPut, reach_succ, kP, MR.cells, acall, h106, con_mpolicy]
    · simp -implicitDefEqProofs [c_spec_MPut, reach_succ, kP, MR.cells, h1, acall, h106, con_mpolicy]
  by_cases c4 : n = kSp
  · subst c4
    simp only [mOk, mPut, if_neg c1, if_neg c2, if_neg c3, if_true]
    by_cases h1 : v = [114]
    · subst h1; simp -implicitDefEqProofs [c_spec_MPut, reach_succ, kSp, MR.cells, acall, h106, con_mpolicy]
    · simp -implicitDefEqProofs [c_spec_MPut, reach_succ, kSp, MR.cells, h1, acall, h106, con_mpolicy]
  by_cases c5 : n = kFo
  · subst c5
    simp only [mOk, mPut, if_neg c1, if_neg c2, if_neg c3, if_neg c4, if_true]
    have k := kl 58 108 foOk (by simp [rightOf]) (by omega) (by omega)
    have fin : ∀ (V : AV) (L : List L8) (ok : Bool), slStrs V = some L → (∀ x ∈ L, foOk x = true) → L.length < 4611686018427387904 → mlV (mlist 58 foOk v) = .tup [V, .bool ok] → (mlist 58 foOk v).isSome = ok → (mlist 58 foOk v).getD [] = L →
        runsS Γ c_spec_MPut [.ref 0 0, .agg [.str kFo, .str v]] [(0, .cells r.cells)] (fun v_1 => v_1 = some (.bool (mlist 58 foOk v).isSome, [(0, .cells (withFo r (foOf ((mlist 58 foOk v).getD []))).cells)])) := by
      intro V L ok h1 h2 h3 h4 h5 h6
      rw [show UInt8.ofNat (58 : Int).toNat = 58 from rfl, h4] at k
      rw [h5, h6]
      have hVc := slf_cells h1
      by_cases g1 : v = [114]
      · subst g1
        simp -implicitDefEqProofs [-alen, reach_succ, c_spec_MPut, kFo, MR.cells, acall, h107, k, slf_alen h1, slf_ref h1]
        refine fo_outer r ok V L h1 h2 h3 ?_
        simp -implicitDefEqProofs [t_spec_MPut_4, reach_succ, withFo, MR.cells]
      · simp -implicitDefEqProofs [-alen, reach_succ, c_spec_MPut, kFo, MR.cells, g1, acall, h107, k, slf_alen h1, slf_ref h1]
        refine fo_outer r ok V L h1 h2 h3 ?_
        simp -implicitDefEqProofs [t_spec_MPut_4, reach_succ, withFo, MR.cells]
    have hml := splitB_length 58 v
    cases hm : mlist 58 foOk v with
    | none =>
      rw [hm] at fin
      exact fin .nilS [] false rfl (by simp) (by simp) rfl rfl rfl
    | some L =>
      have hL : L = splitB 58 v ∧ (splitB 58 v).all foOk = true := by
        simp only [mlist] at hm
        split at hm
        · rename_i ha; injection hm with hm; exact ⟨hm.symm, ha⟩
        · simp at hm
      rw [hm] at fin
      refine fin (.sl 1 (strsA L)) L true (by simp [slStrs]) (by rw [hL.1]; simpa using hL.2) (by rw [hL.1]; simp only [mid] at hv; omega) rfl rfl rfl
  by_cases c6 : n = kPct
  · subst c6
    simp only [mOk, mPut, if_neg c1, if_neg c2, if_neg c3, if_neg c4, if_neg c5, if_true]
    have k := mnum_con (m := 3) hv
    cases ho : (mNum v 3).2 <;> by_cases h1 : v = [114]
    · subst h1; simp -implicitDefEqProofs [c_spec_MPut, reach_succ, kPct, MR.cells, acall, h103, k, numV2, ho]
    · simp -implicitDefEqProofs [c_spec_MPut, reach_succ, kPct, MR.cells, h1, acall, h103, k, numV2, ho]
    · subst h1; simp -implicitDefEqProofs [c_spec_MPut, reach_succ, kPct, MR.cells, acall, h103, k, numV2, ho]
    · simp -implicitDefEqProofs [c_spec_MPut, reach_succ, kPct, MR.cells, h1, acall, h103, k, numV2, ho]
  by_cases c7 : n = kRf
  · subst c7
    simp only [mOk, mPut, if_neg c1, if_neg c2, if_neg c3, if_neg c4, if_neg c5, if_neg c6, if_true]
    have k := kl 58 109 (fun s => decide (s = sAfrf)) (by simp [rightOf]) (by omega) (by omega)
    rw [show UInt8.ofNat (58 : Int).toNat = 58 from rfl] at k
    cases hm : mlist 58 (fun s => decide (s = sAfrf)) v <;> rw [hm] at k <;> by_cases h1 : v = [114]
    · subst h1; simp -implicitDefEqProofs [c_spec_MPut, reach_succ, kRf, MR.cells, acall, h107, k, mlV, slO_none]
    · simp -implicitDefEqProofs [c_spec_MPut, reach_succ, kRf, MR.cells, h1, acall, h107, k, mlV, slO_none]
    · subst h1; simp -implicitDefEqProofs [c_spec_MPut, reach_succ, kRf, MR.cells, acall, h107, k, mlV, slO_none]
    · simp -implicitDefEqProofs [c_spec_MPut, reach_succ, kRf, MR.cells, h1, acall, h107, k, mlV, slO_none]
  by_cases c8 : n = kRi
  · subst c8
    simp only [mOk, mPut, if_neg c1, if_neg c2, if_neg c3, if_neg c4, if_neg c5, if_neg c6, if_neg c7, if_true]
    have k := mnum_con (m := 10) hv
    cases ho : (mNum v 10).2 <;> by_cases h1 : v = [114]
    · subst h1; simp -implicitDefEqProofs [c_spec_MPut, reach_succ, kRi, MR.cells, acall, h103, k, numV2, ho]
    · simp -implicitDefEqProofs [c_spec_MPut, reach_succ, kRi, MR.cells, h1, acall, h103, k, numV2, ho]
    · subst h1
      by_cases h2 : 0 < (mNum [114] 10).1 <;> simp -implicitDefEqProofs [c_spec_MPut, reach_succ, kRi, MR.cells, acall, h103, k, numV2, ho, h2]
    · by_cases h2 : 0 < (mNum v 10).1 <;> simp -implicitDefEqProofs [c_spec_MPut, reach_succ, kRi, MR.cells, h1, acall, h103, k, numV2, ho, h2]
  by_cases c9 : n = kRua
  · subst c9
    simp only [mOk, mPut, if_neg c1, if_neg c2, if_neg c3, if_neg c4, if_neg c5, if_neg c6, if_neg c7, if_neg c8, if_true]
    have k := kl 44 110 muri (by simp [rightOf]) (by omega) (by omega)
    rw [show UInt8.ofNat (44 : Int).toNat = 44 from rfl] at k
    cases hm : mlist 44 muri v <;> rw [hm] at k <;> by_cases h1 : v = [114]
    · subst h1; simp -implicitDefEqProofs [c_spec_MPut, reach_succ, kRua, MR.cells, acall, h107, k, mlV, slO_none]
    · simp -implicitDefEqProofs [c_spec_MPut, reach_succ, kRua, MR.cells, h1, acall, h107, k, mlV, slO_none]
    · subst h1; simp -implicitDefEqProofs [c_spec_MPut, reach_succ, kRua, MR.cells, acall, h107, k, mlV, slO_none]
    · simp -implicitDefEqProofs [c_spec_MPut, reach_succ, kRua, MR.cells, h1, acall, h107, k, mlV, slO_none]
  by_cases c10 : n = kRuf
  · subst c10
    simp only [mOk, mPut, if_neg c1, if_neg c2, if_neg c3, if_neg c4, if_neg c5, if_neg c6, if_neg c7, if_neg c8, if_neg c9, if_true]
    have k := kl 44 110 muri (by simp [rightOf]) (by omega) (by omega)
    rw [show UInt8.ofNat (44 : Int).toNat = 44 from rfl] at k
    cases hm : mlist 44 muri v <;> rw [hm] at k <;> by_cases h1 : v = [114]
    · subst h1; simp -implicitDefEqProofs [c_spec_MPut, reach_succ, kRuf, MR.cells, acall, h107, k, mlV, slO_none]
    · simp -implicitDefEqProofs [c_spec_MPut, reach_succ, kRuf, MR.cells, h1, acall, h107, k, mlV, slO_none]
    · subst h1; simp -implicitDefEqProofs [c_spec_MPut, reach_succ, kRuf, MR.cells, acall, h107, k, mlV, slO_none]
    · simp -implicitDefEqProofs [c_spec_MPut, reach_succ, kRuf, MR.cells, h1, acall, h107, k, mlV, slO_none]
  · simp only [mOk, mPut, if_neg c1, if_neg c2, if_neg c3, if_neg c4, if_neg c5, if_neg c6, if_neg c7, if_neg c8, if_neg c9, if_neg c10]
    simp only [kAdkim, kAspf, kP, kSp, kFo, kPct, kRf, kRi, kRua, kRuf] at c1 c2 c3 c4 c5 c6 c7 c8 c9 c10
    by_cases h1 : v = [114]
    · subst h1; simp -implicitDefEqProofs [c_spec_MPut, reach_succ, t_spec_MPut_5, MR.cells, c1, c2, c3, c4, c5, c6, c7, c8, c9, c10]
    · simp -implicitDefEqProofs [c_spec_MPut, reach_succ, t_spec_MPut_5, MR.cells, h1, c1, c2, c3, c4, c5, c6, c7, c8, c9, c10]
end Wax


namespace Wax
open Go (IntKind)

theorem dm_ok_zzIndex (Γ : Gam) : ∀ args r, con_zzIndex args = some r → runs Γ c_dmarc_zzIndex args (fun v => v = r) := by
  intro args r h
  simp only [con_zzIndex] at h
  split at h <;> (try simp at h; done)
  rename_i s sub
  obtain ⟨⟨hs, hb⟩, rfl⟩ := ite_some h
  clear h
  simp only [big] at hs hb
  simp [c_dmarc_zzIndex]
  refine awp_loop (σ := List UInt8 × List UInt8) (fun p => ⟨[(0, .str s), (1, .str sub), (5, .int .i64 p.1.length)], []⟩) (fun p => s = p.1 ++ p.2 ∧ findAt sub s 0 = findAt sub p.2 p.1.length) (fun p => p.2.length) ([], s) (by simp) (by simp) ?_
  rintro ⟨pre, post⟩ ⟨hs1, hs2⟩
  simp only at hs1 hs2
  subst hs1
  simp at hs
  simp (disch := omega) [wrap64]
  refine ⟨fun hle => ?_, fun hlt => ?_⟩
  · have et : ((pre.length : Int) + (sub.length : Int)).toNat = pre.length + sub.length := by omega
    have e : List.drop pre.length (List.take (pre.length + sub.length) (pre ++ post)) = post.take sub.length := by
      rw [List.take_length_add_append, List.drop_left]
    rw [et, e]
    refine ⟨⟨by omega, hle⟩, fun h => ?_, fun h => ?_⟩
    · rw [idxV, hs2]
      cases post with
      | nil =>
        have : sub = [] := by cases sub <;> simp at hle ⊢
        simp [findAt, this]
      | cons x post => simp only [findAt, isPrefixOf_take sub (x :: post) hle, h, decide_true, if_true]
    · cases post with
      | nil =>
        have : sub = [] := by cases sub <;> simp at hle ⊢
        subst this; simp at h
      | cons x post =>
        refine ⟨(pre ++ [x], post), by simp, ⟨by simp, ?_⟩, by simp⟩
        rw [hs2]
        simp only [findAt, isPrefixOf_take sub (x :: post) hle, h, decide_false, Bool.false_eq_true, if_false]
        simp
  · rw [idxV, hs2, findAt_none sub post _ (by omega)]

/-- Of a text of one byte. -/

theorem dm_ok_zzSplit (Γ : Gam) (h22 : Γ.fn 161 = con_zzIndex) : ∀ args hp q, con_zzSplit args hp = some q → runsS Γ c_dmarc_zzSplit args hp (fun v => v = some q) := by
  intro args hp q h
  simp only [con_zzSplit] at h
  split at h <;> (try simp at h; done)
  rename_i s b
  obtain ⟨hs, rfl⟩ := ite_some h
  clear h
  simp only [mid] at hs
  have h1 : 1 < big := by decide
  simp [c_dmarc_zzSplit, t_dmarc_zzSplit_4]
  refine awp_loop2 (σ := List (List UInt8) × List UInt8) (fun p => ⟨[(0, .str p.2), (1, .str [b]), (5, grV 51 1 p.1.length)], grH 51 p.1.length (strsA p.1)⟩)
    (fun p => splitB b s = p.1 ++ splitB b p.2 ∧ p.1.length + p.2.length ≤ s.length) (fun p => p.2.length) ([], s) (by simp) (by simp) ?_
  rintro ⟨done, cur⟩ ⟨hs1, hs2⟩ LQ hLQ
  simp only at hs1 hs2
  have hcb : cur.length < big := by simp only [big]; omega
  simp [b_dmarc_zzSplit_3, acall, h22, con_zzIndex, hcb, h1]
  simp only [idxV, findAt_one]
  rw [splitB_cut b cur] at hs1
  cases hc : cutAt b.toNat cur with
  | none =>
    simp only [hc] at hs1
    rw [hs1]
    cases done with
    | nil => simp [reach_succ]
    | cons d0 dr =>
      simp [reach_succ]
      simp at hs2
      omega
  | some p =>
    obtain ⟨a, c⟩ := p
    simp only [hc] at hs1
    obtain ⟨x, hx1, hx2, hx3⟩ := cutAt_eq hc
    subst hx2
    simp at hs2
    have fin : ∀ st, norm [0, 1, 5] st = ⟨[(0, .str c), (1, .str [b]), (5, grV 51 1 (done ++ [a]).length)], grH 51 (done ++ [a]).length (strsA (done ++ [a]))⟩ → LQ st := by
      intro st hst
      exact hLQ (done ++ [a], c) ⟨by simpa using hs1, by simp; omega⟩ (by simp; omega) st hst
    have e2 : ((a.length : Int) + 1).toNat = a.length + 1 := by omega
    cases done with
    | nil =>
      simp (disch := omega) [wrap64]
      refine ⟨by omega, by omega, ⟨by omega, by omega⟩, fin _ ?_⟩
      simp
    | cons d0 dr =>
      simp at hs2
      simp (disch := omega) [wrap64]
      refine ⟨by omega, by omega, by omega, ⟨by omega, by omega⟩, fin _ ?_⟩
      simp

theorem dm_ok_zzIsSpace (Γ : Gam) : ∀ args r, con_zzIsSpace args = some r → runs Γ c_dmarc_zzIsSpace args (fun v => v = r) := by
  intro args r h
  simp only [con_zzIsSpace] at h
  split at h <;> (try simp at h; done)
  rename_i n
  obtain ⟨hn, rfl⟩ := ite_some h
  clear h
  have f1 : ¬ n = 133 := by omega
  have f2 : ¬ n = 160 := by omega
  have f3 : ¬ n = 5760 := by omega
  have f4 : ¬ 8192 ≤ n := by omega
  have f5 : ¬ n = 8232 := by omega
  have f6 : ¬ n = 8233 := by omega
  have f7 : ¬ n = 8239 := by omega
  have f8 : ¬ n = 8287 := by omega
  have f9 : ¬ n = 12288 := by omega
  have key : ∀ b : Bool, ((9 ≤ n ∧ n ≤ 13) ∨ n = 32 ↔ b = true) → b = isSp n := by
    intro b hb; unfold isSp; cases b <;> simp at hb ⊢ <;> omega
  by_cases h1 : 9 ≤ n <;> by_cases h2 : n ≤ 13 <;> by_cases h3 : n = 32 <;>
    simp [c_dmarc_zzIsSpace, f1, f2, f3, f4, f5, f6, f7, f8, f9, h1, h2, h3] <;> first | rfl | exact decide_eq_true (by omega) | exact decide_eq_false (by omega)

theorem dm_trim_inner (Γ : Gam) (Q : APost) (S : List UInt8) (x : UInt8) (i n : Nat) (f t : Int) (hn : S.length = n) (hi : S[i]? = some x) (hx : x.toNat < 128) (hb : n < 1099511627776) (hib : i < 1099511627776)
    (h : Q (.exit 4) ⟨[(0, .str S), (3, .int .i64 f), (4, .int .i64 t), (7, .int .i64 i), (8, .int .i64 1), (54, .bool false)], []⟩) :
    awp Γ b_dmarc_zzTrimSpace_2 Q ⟨[(0, .str S), (3, .int .i64 f), (4, .int .i64 t), (7, .int .i64 i), (8, .int .i64 1)], []⟩ := by
  have e192 : ¬ (192 : Int) ≤ (x.toNat : Int) := by omega
  have ew : IntKind.i64.wrap ((i : Int) + 1) = (i : Int) + 1 := wrap64 (by omega) (by omega)
  simp only [b_dmarc_zzTrimSpace_2, awp_seq]
  refine awp_region_to ⟨[(0, .str S), (3, .int .i64 f), (4, .int .i64 t), (7, .int .i64 i), (8, .int .i64 1), (54, .bool false)], []⟩ ?_ ?_
  · by_cases hlast : (i : Int) + 1 < (n : Int)
    · have h1 : ((i : Int) + 1 < (n : Int)) = True := eq_true hlast
      simp (maxSteps := 1000000) [ew, hn, hi, e192, h1]
    · have h1 : ((i : Int) + 1 < (n : Int)) = False := eq_false hlast
      simp (maxSteps := 1000000) [ew, hn, h1]
  · simpa using h

theorem dm_trim_loop2 (Γ : Gam) (h23 : Γ.fn 168 = con_zzIsSpace) (a b : List UInt8) (hp : plain (a ++ b) = true) (hs : (a ++ b).length < 1099511627776) (ha : ∀ x ∈ a, isWs x.toNat = true) (hb : ∀ x r, b = x :: r → isWs x.toNat = false) :
    awp Γ (.loop [0, 3, 4, 7] b_dmarc_zzTrimSpace_4) (blockQ 2 (thenQ (awp Γ t_dmarc_zzTrimSpace_5 (finQ [.t 2] fun v => v = .str (trimS (a ++ b)))) (finQ [.t 2] fun v => v = .str (trimS (a ++ b)))))
      ⟨[(0, .str (a ++ b)), (3, .int .i64 a.length), (4, .int .i64 (a ++ b).length), (7, .int .i64 a.length)], []⟩ := by
  have htrim : trimS (a ++ b) = trimR b := by rw [trimS, trimL_app ha, trimL_nw hb]
  rw [htrim]
  refine awp_loop (σ := List UInt8 × List UInt8) (fun p => ⟨[(0, .str (a ++ b)), (3, .int .i64 a.length), (4, .int .i64 (toV (a ++ b).length a p.1)), (7, .int .i64 (a.length + p.1.length))], []⟩)
    (fun p => b = p.1 ++ p.2) (fun p => p.2.length) ([], b) (by simp [toV]) (by simp) ?_
  rintro ⟨c, d⟩ hcd
  simp only at hcd
  subst hcd
  simp at hs
  cases d with
  | nil =>
    simp [b_dmarc_zzTrimSpace_4, t_dmarc_zzTrimSpace_5]
    refine ⟨fun h => ?_, fun h => ?_⟩
    · have : c = [] := List.length_eq_zero_iff.1 (by omega)
      subst this; simp [trimR]
    · have hc : c ≠ [] := by intro e; subst e; simp at h
      obtain ⟨t, ht⟩ := trimR_prefix c
      have hl : (trimR c).length ≤ c.length := trimR_length c
      have e1 : toV (a.length + c.length) a c = (a.length : Int) + ((trimR c).length : Int) := if_neg hc
      have e2 : ((a.length : Int) + ((trimR c).length : Int)).toNat = a.length + (trimR c).length := by omega
      rw [e1, e2]
      refine ⟨⟨by omega, by omega⟩, ?_⟩
      rw [List.take_length_add_append, List.drop_left]
      generalize trimR c = q at ht ⊢
      subst ht; simp
  | cons x d =>
    have hpx : plainB x = true := by
      have h1 : (plain a && (plain c && plain (x :: d))) = true := by rw [← plain_app, ← plain_app]; exact hp
      simp only [Bool.and_eq_true, plain, List.all_cons] at h1
      exact h1.2.2.1
    have hx := plainB_lt hpx
    have hx2 : (x.toNat : Int) < 128 := by omega
    have step : ∀ v : Int, v = toV (a ++ (c ++ x :: d)).length a (c ++ [x]) → loopQ [0, 3, 4, 7] (fun p : List UInt8 × List UInt8 => ⟨[(0, .str (a ++ (c ++ x :: d))), (3, .int .i64 a.length), (4, .int .i64 (toV (a ++ (c ++ x :: d)).length a p.1)), (7, .int .i64 (a.length + p.1.length))], []⟩)
        (fun p => c ++ x :: d = p.1 ++ p.2) (fun p => p.2.length) (c, x :: d)
        ⟨[(0, .str (a ++ (c ++ x :: d))), (3, .int .i64 a.length), (4, .int .i64 v), (7, .int .i64 (a.length + c.length + 1))], []⟩ := by
      intro v hv
      subst hv
      refine ⟨(c ++ [x], d), ?_, by simp, by simp⟩
      have : ((a.length : Int) + c.length + 1) = (a.length : Int) + ((c ++ [x]).length : Int) := by simp; omega
      rw [this]
      simp
    generalize hl : loopQ [0, 3, 4, 7] (fun p : List UInt8 × List UInt8 => (⟨[(0, .str (a ++ (c ++ x :: d))), (3, .int .i64 a.length), (4, .int .i64 (toV (a ++ (c ++ x :: d)).length a p.1)), (7, .int .i64 (a.length + p.1.length))], []⟩ : St))
        (fun p => c ++ x :: d = p.1 ++ p.2) (fun p => p.2.length) (c, x :: d) = LQ at step ⊢
    clear hl
    simp at hs
    have hget : (a ++ (c ++ x :: d))[a.length + c.length]? = some x := by
      rw [← List.append_assoc, List.getElem?_append_right (by simp)]; simp
    simp [b_dmarc_zzTrimSpace_4]
    refine ⟨fun _ => ?_, fun h => by omega⟩
    refine awp_loop (σ := Unit) (fun _ => ⟨[(0, .str (a ++ (c ++ x :: d))), (3, .int .i64 a.length), (4, .int .i64 (toV (a.length + (c.length + (d.length + 1))) a c)), (7, .int .i64 (a.length + c.length)), (8, .int .i64 1)], []⟩) (fun _ => True) (fun _ => 0) () (by simp) trivial ?_
    intro _ _
    have en : ((a.length : Int) + (c.length : Int)) = ((a.length + c.length : Nat) : Int) := by omega
    have ew : IntKind.i64.wrap ((a.length : Int) + c.length + 1) = (a.length : Int) + c.length + 1 := wrap64 (by omega) (by omega)
    rw [en]
    refine dm_trim_inner Γ _ (a ++ (c ++ x :: d)) x (a.length + c.length) (a.length + (c.length + (d.length + 1))) _ _ (by simp) hget hx (by omega) (by omega) ?_
    rw [← en]
    have en2 : ((a.length : Int) + (c.length : Int)).toNat = a.length + c.length := by omega
    have en3 : ((a.length : Int) + (c.length : Int) + 1).toNat = a.length + c.length + 1 := by omega
    have esl : List.drop (a.length + c.length) (List.take (a.length + c.length + 1) (a ++ (c ++ x :: d))) = [x] := by
      rw [← List.append_assoc, show a.length + c.length = (a ++ c).length by simp, List.take_length_add_append, List.drop_left]; rfl
    have erun : runesF 1 [x] = [x.toNat] := by simp [runesF, decR_ascii hx]
    simp [t_dmarc_zzTrimSpace_3, ew, en2, en3, esl, erun, rcA, acall, h23, con_zzIsSpace, hx2]
    refine ⟨⟨by omega, by omega, by omega⟩, fun hw => step _ ?_, fun hw => step _ ?_⟩
    · rw [isSp_ws hpx] at hw
      simp [toV, trimR_nw hw]
      try omega
    · rw [isSp_ws hpx] at hw
      have hc : c ≠ [] := by
        intro e; subst e
        rw [hb x d rfl] at hw; simp at hw
      simp [toV, hc, trimR_ws hw]

theorem dm_ok_zzTrimSpace (Γ : Gam) (h23 : Γ.fn 168 = con_zzIsSpace) : ∀ args r, con_zzTrimSpace args = some r → runs Γ c_dmarc_zzTrimSpace args (fun v => v = r) := by
  intro args r h
  simp only [con_zzTrimSpace] at h
  split at h <;> (try simp at h; done)
  rename_i s
  obtain ⟨⟨hs, hp⟩, rfl⟩ := ite_some h
  clear h
  simp only [mid] at hs
  simp [c_dmarc_zzTrimSpace]
  refine awp_loop (σ := List UInt8 × List UInt8) (fun p => ⟨[(0, .str s), (3, .int .i64 s.length), (4, .int .i64 s.length), (16, .ref 16 0)], [(16, .sit s p.1.length)]⟩)
    (fun p => s = p.1 ++ p.2 ∧ ∀ x ∈ p.1, isWs x.toNat = true) (fun p => p.2.length) ([], s) (by simp) (by simp) ?_
  rintro ⟨a, b⟩ ⟨hs1, ha⟩
  simp only at hs1 ha
  cases b with
  | nil =>
    simp at hs1
    subst hs1
    simp [b_dmarc_zzTrimSpace_1, t_dmarc_zzTrimSpace_6]
    have := dm_trim_loop2 Γ h23 s [] (by simpa using hp) (by simpa using hs) ha (by simp)
    simpa using this
  | cons x b =>
    subst hs1
    have hpx : plainB x = true ∧ plain b = true := by
      have : (plain a && plain (x :: b)) = true := by rw [← plain_app]; exact hp
      simp only [Bool.and_eq_true] at this
      have h2 := this.2
      simp only [plain, List.all_cons, Bool.and_eq_true] at h2
      exact h2
    have e1 : List.drop a.length (a ++ x :: b) = x :: b := by simp
    have hx := plainB_lt hpx.1
    have hx2 : (x.toNat : Int) < 128 := by omega
    simp [b_dmarc_zzTrimSpace_1, t_dmarc_zzTrimSpace_6, e1, decR_ascii hx, acall, h23, con_zzIsSpace, hx2]
    refine ⟨fun hw => ?_, fun hw => ?_⟩
    · have := dm_trim_loop2 Γ h23 a (x :: b) hp hs ha (fun y r e => by injection e with e1 e2; subst e1; rw [← isSp_ws hpx.1]; exact hw)
      simpa using this
    · refine ⟨(a ++ [x], b), by simp, ⟨by simp, ?_⟩, by simp⟩
      intro y hy
      simp at hy
      rcases hy with hy | rfl
      · exact ha y hy
      · rw [← isSp_ws hpx.1]; exact hw

def cutTwo (c : Int) (s : List UInt8) : List (List UInt8) := match cutAt c s with | none => [s] | some p => [p.1, p.2]

def con_dmCut2 : List AV → Option AV
  | [.str s, .int .u8 c] => if s.length < mid then some (.sl 1 (strsA (cutTwo c s))) else none
  | _ => none

theorem dm_ok_zzCut2 (Γ : Gam) : ∀ args r, con_dmCut2 args = some r → runs Γ c_dmarc_zzCut2 args (fun v => v = r) := by
  intro args r h
  simp only [con_dmCut2] at h
  split at h <;> (try simp at h; done)
  rename_i s c
  obtain ⟨hs, rfl⟩ := ite_some h
  clear h
  simp only [mid] at hs
  simp -implicitDefEqProofs [c_dmarc_zzCut2]
  refine awp_loop2 (σ := List UInt8 × List UInt8) (fun p => ⟨[(0, .str s), (1, .int .u8 c), (5, .int .i64 p.1.length)], []⟩) (fun p => s = p.1 ++ p.2 ∧ noB c p.1) (fun p => p.2.length) ([], s) (by simp) (by simp [noB]) ?_
  rintro ⟨pre, post⟩ ⟨hs1, hs2⟩ LQ hLQ
  simp only at hs1 hs2
  subst hs1
  cases post with
  | nil =>
    have e : cutAt c pre = none := by have := cutAt_app c pre [] hs2; simpa [cutAt] using this
    simp -implicitDefEqProofs [b_dmarc_zzCut2_1, t_dmarc_zzCut2_2, cutTwo, e]
  | cons x post =>
    simp at hs
    have ew : IntKind.i64.wrap ((pre.length : Int) + 1) = (pre.length : Int) + 1 := wrap64 (by omega) (by omega)
    have hlt : (pre.length : Int) < (pre.length : Int) + ((post.length : Int) + 1) := by omega
    by_cases he : (x.toNat : Int) = c
    · have e1 : (0 : Int) ≤ (pre.length : Int) + 1 ∧ (pre.length : Int) + 1 ≤ (pre.length : Int) + ((post.length : Int) + 1) := by omega
      have e2 : ((pre.length : Int) + 1).toNat = pre.length + 1 := by omega
      simp -implicitDefEqProofs [b_dmarc_zzCut2_1, ew, cutTwo, cutAt_app _ _ _ hs2, cutAt, e1, e2, he]
      omega
    · simp -implicitDefEqProofs [b_dmarc_zzCut2_1, ew, he, hlt]
      refine hLQ (pre ++ [x], post) ⟨by simp, ?_⟩ (by simp) _ (by simp)
      intro y hy
      simp at hy
      rcases hy with hy | rfl
      · exact hs2 y hy
      · exact he

end Wax


namespace Wax
open Go (IntKind)

/-- The value of a tag. -/
def findP : List (List UInt8 × List UInt8) → List UInt8 → Option (List UInt8)
  | [], _ => none
  | (i, v) :: r, k => if i = k then some v else findP r k

def valV : Option (List UInt8) → AV
  | some v => .tup [.str v, .bool true]
  | none => .tup [.str [], .bool false]

end Wax


namespace Wax
open Go (IntKind)

def eN (m : L8) : AV := .ifc 3 (.ptr [.str m])
def mBad : L8 := [100, 109, 97, 114, 99, 58, 32, 109, 97, 108, 102, 111, 114, 109, 101, 100, 32, 112, 97, 114, 97, 109, 115]

def prdV (x : List KVp × Bool) : AV := .tup [.mp (pmA x.1), if x.2 then .nilI else eN mBad]
/-- The tags of a text, as they are put into a map; false: one of its parts is none. -/
def prd2 : List L8 → List KVp → List KVp × Bool
  | [], acc => (acc, true)
  | p :: r, acc => match cutAt 61 p with
    | none => if trimS p = [] then prd2 r acc else (acc, false)
    | some q => prd2 r (psetL acc (trimS q.1) (trimS q.2))
def con_dmParams : List AV → Option AV
  | [.str s] => if s.length < mid ∧ plain s = true then some (prdV (prd2 (splitB 59 s) [])) else none
  | _ => none

set_option maxRecDepth 100000 in
theorem ok_dmParams (Γ : Gam) (s154 : Γ.st 154 = con_zzSplit) (h159 : Γ.fn 159 = con_dmCut2) (h160 : Γ.fn 160 = con_zzTrimSpace) (h50 : Γ.fn 50 = con_errorsNew) : ∀ args r, con_dmParams args = some r → runs Γ c_dmarc_parseParams args (fun v => v = r) := by
  intro args r h
  simp only [con_dmParams] at h
  split at h <;> (try simp at h; done)
  rename_i s
  obtain ⟨⟨hs, hp⟩, rfl⟩ := ite_some h
  clear h
  have hsp : con_zzSplit [.str s, .str [59]] [] = some (.msl 0 1 0 (splitB 59 s).length, [(0, .cells (strsA (splitB 59 s)))]) := if_pos hs
  have hl := splitB_length 59 s
  have hml := splitB_mem_length 59 s
  have hmp := fun p => splitB_plain 59 s p hp
  simp -implicitDefEqProofs [c_dmarc_parseParams, acallS, s154, hsp]
  clear hsp
  generalize splitB 59 s = L at *
  have hs' := hs
  simp only [mid] at hs'
  refine awp_loop2 (σ := List L8 × List L8 × List KVp) (fun p => ⟨[(5, .mref 11), (12, .msl 10 1 0 L.length), (13, .int .i64 L.length), (14, .int .i64 p.1.length)], [(11, .mp (pmA p.2.2)), (10, .cells (strsA L))]⟩)
    (fun p => L = p.1 ++ p.2.1 ∧ prd2 L [] = prd2 p.2.1 p.2.2) (fun p => p.2.1.length) ([], L, []) ?_ (by simp) ?_
  · simp [pmA]
  rintro ⟨pre, post, acc⟩ ⟨e1, e2⟩ LQ hLQ
  simp only at e1 e2
  cases post with
  | nil =>
    simp at e1
    rw [e2]
    simp -implicitDefEqProofs [b_dmarc_parseParams_1, t_dmarc_parseParams_2, e1, prd2, prdV]
  | cons x post =>
    have hxm : x ∈ L := by rw [e1]; simp
    have hxl := hml x hxm
    have hxp := hmp x hxm
    have hlen : L.length = pre.length + post.length + 1 := by rw [e1]; simp; omega
    have hlt : pre.length < L.length := by omega
    have g2 : List.drop pre.length L = x :: post := by rw [e1]; simp
    have g3 : L[pre.length]? = some x := by rw [e1]; exact get_mid rfl
    have ew : IntKind.i64.wrap ((pre.length : Int) + 1) = (pre.length : Int) + 1 := wrap64 (by omega) (by omega)
    have hlt' : (pre.length : Int) < (L.length : Int) := by omega
    have k159 : con_dmCut2 [.str x, .int .u8 61] = some (.sl 1 (strsA (cutTwo 61 x))) := by
      simp only [con_dmCut2]; exact if_pos (by omega)
    have k160 : ∀ t : L8, t.length ≤ s.length → plain t = true → con_zzTrimSpace [.str t] = some (.str (trimS t)) := by
      intro t ht hpt
      simp only [con_zzTrimSpace]; exact if_pos ⟨by omega, hpt⟩
    have fin : ∀ acc', prd2 (x :: post) acc = prd2 post acc' → ∀ st, norm [5, 12, 13, 14] st = ⟨[(5, .mref 11), (12, .msl 10 1 0 L.length), (13, .int .i64 L.length), (14, .int .i64 ((pre.length : Int) + 1))], [(11, .mp (pmA acc')), (10, .cells (strsA L))]⟩ → LQ st := by
      intro acc' he st hst
      exact hLQ (pre ++ [x], post, acc') ⟨by rw [e1]; simp, by rw [e2, he]⟩ (by simp) st (by simpa using hst)
    cases hc : cutAt 61 x with
    | none =>
      have kx := k160 x hxl hxp
      by_cases ht : trimS x = []
      · have f1 := fin acc (by simp [prd2, hc, ht])
        simp -implicitDefEqProofs [b_dmarc_parseParams_1, hlt, hlt', g2, g3, acall, h159, k159, cutTwo, hc, h160, kx, ht, ew]
        exact f1 _ (by simp)
      · rw [e2]
        simp -implicitDefEqProofs [b_dmarc_parseParams_1, hlt, hlt', g2, g3, acall, h159, k159, cutTwo, hc, h160, kx, ht, h50, con_errorsNew, prd2, prdV, mBad, eN]
    | some q =>
      obtain ⟨hql, y, hy⟩ := cutAt_le hc
      have hxp' := hxp
      rw [hy, plain_app] at hxp'
      simp only [Bool.and_eq_true] at hxp'
      have hp2 : plain q.2 = true := by
        have := hxp'.2
        simp only [plain, List.all_cons, Bool.and_eq_true] at this
        exact this.2
      have kk := k160 q.1 (by omega) hxp'.1
      have kv := k160 q.2 (by omega) hp2
      have f1 := fin (psetL acc (trimS q.1) (trimS q.2)) (by simp [prd2, hc])
      simp -implicitDefEqProofs [b_dmarc_parseParams_1, hlt, hlt', g2, g3, acall, h159, k159, cutTwo, hc, h160, kk, kv, mset_pmA, ew]
      exact f1 _ (by simp)

def mPol : L8 := [100, 109, 97, 114, 99, 58, 32, 105, 110, 118, 97, 108, 105, 100, 32, 112, 111, 108, 105, 99, 121, 32, 102, 111, 114, 32, 112, 97, 114, 97, 109, 101, 116, 101, 114, 32]
def mAlign : L8 := [100, 109, 97, 114, 99, 58, 32, 105, 110, 118, 97, 108, 105, 100, 32, 97, 108, 105, 103, 110, 109, 101, 110, 116, 32, 109, 111, 100, 101, 32, 102, 111, 114, 32, 112, 97, 114, 97, 109, 101, 116, 101, 114, 32]

def con_dmPolicy : List AV → Option AV
  | [.str s, .str p] => if p.length < mid then some (if polB s = true then .tup [.str s, .nilI] else .tup [.str [], eN (mPol ++ p)]) else none
  | _ => none
theorem ok_dmPolicy (Γ : Gam) (h50 : Γ.fn 50 = con_errorsNew) : ∀ args r, con_dmPolicy args = some r → runs Γ c_dmarc_parsePolicy args (fun v => v = r) := by
  intro args r h
  simp only [con_dmPolicy] at h
  split at h <;> (try simp at h; done)
  rename_i s p
  obtain ⟨hp, rfl⟩ := ite_some h
  clear h
  simp only [mid] at hp
  have hp2 : 36 + p.length < 4611686018427387904 := by omega
  by_cases h1 : s = sNone
  · subst h1
    simp -implicitDefEqProofs [c_dmarc_parsePolicy, sNone, polB]
  · by_cases h2 : s = sQuar
    · subst h2
      simp -implicitDefEqProofs [c_dmarc_parsePolicy, sNone, sQuar, polB]
    · by_cases h3 : s = sReject
      · subst h3
        simp -implicitDefEqProofs [c_dmarc_parsePolicy, sNone, sQuar, sReject, polB]
      · have e : polB s = false := by simp [polB, h1, h2, h3]
        simp only [sNone, sQuar, sReject] at h1 h2 h3
        simp -implicitDefEqProofs [c_dmarc_parsePolicy, h1, h2, h3, e, hp2, acall, h50, con_errorsNew, eN, mPol]
        try omega

def con_dmAlign : List AV → Option AV
  | [.str s, .str p] => if p.length < mid then some (if alignB s = true then .tup [.str s, .nilI] else .tup [.str [], eN (mAlign ++ p)]) else none
  | _ => none
theorem ok_dmAlign (Γ : Gam) (h50 : Γ.fn 50 = con_errorsNew) : ∀ args r, con_dmAlign args = some r → runs Γ c_dmarc_parseAlignmentMode args (fun v => v = r) := by
  intro args r h
  simp only [con_dmAlign] at h
  split at h <;> (try simp at h; done)
  rename_i s p
  obtain ⟨hp, rfl⟩ := ite_some h
  clear h
  simp only [mid] at hp
  by_cases h1 : s = sR
  · subst h1
    simp -implicitDefEqProofs [c_dmarc_parseAlignmentMode, sR, alignB]
  · by_cases h2 : s = sS
    · subst h2
      simp -implicitDefEqProofs [c_dmarc_parseAlignmentMode, sR, sS, alignB]
    · have e : alignB s = false := by simp [alignB, h1, h2]
      simp only [sR, sS] at h1 h2
      simp -implicitDefEqProofs [c_dmarc_parseAlignmentMode, h1, h2, e, acall, h50, con_errorsNew, eN, mAlign]
      try omega

def mFo : L8 := [100, 109, 97, 114, 99, 58, 32, 105, 110, 118, 97, 108, 105, 100, 32, 102, 97, 105, 108, 117, 114, 101, 32, 111, 112, 116, 105, 111, 110, 32, 105, 110, 32, 112, 97, 114, 97, 109, 101, 116, 101, 114, 32, 39, 102, 111, 39]
def foV (s : L8) : AV := match fo2 0 (splitB 58 s) with
  | some n => .tup [.int .i64 n, .nilI]
  | none => .tup [.int .i64 0, eN mFo]
def con_dmFo : List AV → Option AV
  | [.str s] => if s.length < mid ∧ plain s = true then some (foV s) else none
  | _ => none

set_option maxHeartbeats 1000000 in
theorem ok_dmFo (Γ : Gam) (s154 : Γ.st 154 = con_zzSplit) (h160 : Γ.fn 160 = con_zzTrimSpace) (h50 : Γ.fn 50 = con_errorsNew) : ∀ args r, con_dmFo args = some r → runs Γ c_dmarc_parseFailureOptions args (fun v => v = r) := by
  intro args r h
  simp only [con_dmFo] at h
  split at h <;> (try simp at h; done)
  rename_i s
  obtain ⟨⟨hs, hp⟩, rfl⟩ := ite_some h
  clear h
  have hsp : con_zzSplit [.str s, .str [58]] [] = some (.msl 0 1 0 (splitB 58 s).length, [(0, .cells (strsA (splitB 58 s)))]) := if_pos hs
  have hl := splitB_length 58 s
  have hml := splitB_mem_length 58 s
  have hmp := fun p => splitB_plain 58 s p hp
  simp only [foV]
  simp -implicitDefEqProofs [c_dmarc_parseFailureOptions, acallS, s154, hsp]
  clear hsp
  generalize splitB 58 s = L at *
  simp only [mid] at hs
  refine awp_loop2 (σ := List L8 × List L8 × Int) (fun p => ⟨[(5, .int .i64 p.2.2), (10, .msl 9 1 0 L.length), (11, .int .i64 L.length), (12, .int .i64 p.1.length)], [(9, .cells (strsA L))]⟩)
    (fun p => L = p.1 ++ p.2.1 ∧ fo2 0 L = fo2 p.2.2 p.2.1) (fun p => p.2.1.length) ([], L, 0) ?_ (by simp) ?_
  · simp
  rintro ⟨pre, post, n⟩ ⟨e1, e2⟩ LQ hLQ
  simp only at e1 e2
  cases post with
  | nil =>
    simp at e1
    rw [e2]
    simp -implicitDefEqProofs [b_dmarc_parseFailureOptions_1, t_dmarc_parseFailureOptions_2, e1, fo2]
  | cons x post =>
    have hxm : x ∈ L := by rw [e1]; simp
    have hxl := hml x hxm
    have hxp := hmp x hxm
    have hlen : L.length = pre.length + post.length + 1 := by rw [e1]; simp; omega
    have hlt' : (pre.length : Int) < (L.length : Int) := by omega
    have hlt : pre.length < L.length := by omega
    have g2 : List.drop pre.length L = x :: post := by rw [e1]; simp
    have g3 : L[pre.length]? = some x := by rw [e1]; exact get_mid rfl
    have ew : IntKind.i64.wrap ((pre.length : Int) + 1) = (pre.length : Int) + 1 := wrap64 (by omega) (by omega)
    have k160 : con_zzTrimSpace [.str x] = some (.str (trimS x)) := if_pos ⟨by simp only [mid]; omega, hxp⟩
    have fin : ∀ m, fo2 n (x :: post) = fo2 m post → ∀ st, norm [5, 10, 11, 12] st = ⟨[(5, .int .i64 m), (10, .msl 9 1 0 L.length), (11, .int .i64 L.length), (12, .int .i64 ((pre.length : Int) + 1))], [(9, .cells (strsA L))]⟩ → LQ st := by
      intro m he st hst
      exact hLQ (pre ++ [x], post, m) ⟨by rw [e1]; simp, by rw [e2, he]⟩ (by simp) st (by simpa using hst)
    generalize ht : trimS x = tx at *
    by_cases c1 : tx = [48]
    · have f := fin (orI n 1) (by simp [fo2, fobit2, ht, c1])
      simp -implicitDefEqProofs [b_dmarc_parseFailureOptions_1, hlt, hlt', g2, g3, acall, h160, k160, ew, c1]
      exact f _ (by simp [orI]; rfl)
    · by_cases c2 : tx = [49]
      · have f := fin (orI n 2) (by simp [fo2, fobit2, ht, c2])
        simp -implicitDefEqProofs [b_dmarc_parseFailureOptions_1, hlt, hlt', g2, g3, acall, h160, k160, ew, c2]
        exact f _ (by simp [orI]; rfl)
      · by_cases c3 : tx = [100]
        · have f := fin (orI n 4) (by simp [fo2, fobit2, ht, c3])
          simp -implicitDefEqProofs [b_dmarc_parseFailureOptions_1, hlt, hlt', g2, g3, acall, h160, k160, ew, c3]
          exact f _ (by simp [orI]; rfl)
        · by_cases c4 : tx = [115]
          · have f := fin (orI n 8) (by simp [fo2, fobit2, ht, c4])
            simp -implicitDefEqProofs [b_dmarc_parseFailureOptions_1, hlt, hlt', g2, g3, acall, h160, k160, ew, c4]
            exact f _ (by simp [orI]; rfl)
          · have e3 : fo2 0 L = none := by rw [e2]; simp [fo2, fobit2, ht, c1, c2, c3, c4]
            rw [e3]
            simp -implicitDefEqProofs [b_dmarc_parseFailureOptions_1, hlt, hlt', g2, g3, acall, h160, k160, c1, c2, c3, c4, h50, con_errorsNew, eN, mFo]

def con_dmURIs : List AV → Option AV
  | [.str s] => if s.length < mid ∧ plain s = true then some (.sl 1 (strsA (uris s))) else none
  | _ => none

theorem ok_dmURIs (Γ : Gam) (s154 : Γ.st 154 = con_zzSplit) (h160 : Γ.fn 160 = con_zzTrimSpace) : ∀ args r, con_dmURIs args = some r → runs Γ c_dmarc_parseURIList args (fun v => v = r) := by
  intro args r h
  simp only [con_dmURIs] at h
  split at h <;> (try simp at h; done)
  rename_i s
  obtain ⟨⟨hs, hp⟩, rfl⟩ := ite_some h
  clear h
  have hsp : con_zzSplit [.str s, .str [44]] [] = some (.msl 0 1 0 (splitB 44 s).length, [(0, .cells (strsA (splitB 44 s)))]) := if_pos hs
  have hl := splitB_length 44 s
  have hml := splitB_mem_length 44 s
  have hmp := fun p => splitB_plain 44 s p hp
  simp only [uris]
  simp -implicitDefEqProofs [c_dmarc_parseURIList, acallS, s154, hsp]
  clear hsp
  generalize splitB 44 s = L at *
  simp only [mid] at hs
  refine awp_loop2 (σ := List L8 × List L8) (fun p => ⟨[(3, .msl 7 1 0 L.length), (8, .msl 7 1 0 L.length), (9, .int .i64 L.length), (10, .int .i64 p.1.length)], [(7, .cells (strsA (p.1.map trimS ++ p.2)))]⟩)
    (fun p => L = p.1 ++ p.2) (fun p => p.2.length) ([], L) ?_ (by simp) ?_
  · simp
  rintro ⟨pre, post⟩ e1 LQ hLQ
  simp only at e1
  cases post with
  | nil =>
    simp at e1
    simp -implicitDefEqProofs [b_dmarc_parseURIList_1, t_dmarc_parseURIList_2, e1, snap, resolveA, List.take_of_length_le]
  | cons x post =>
    have hxm : x ∈ L := by rw [e1]; simp
    have hxl := hml x hxm
    have hxp := hmp x hxm
    have hlen : L.length = pre.length + post.length + 1 := by rw [e1]; simp; omega
    have hlt' : (pre.length : Int) < (L.length : Int) := by omega
    have hlt : pre.length < L.length := by omega
    have ew : IntKind.i64.wrap ((pre.length : Int) + 1) = (pre.length : Int) + 1 := wrap64 (by omega) (by omega)
    have k160 : con_zzTrimSpace [.str x] = some (.str (trimS x)) := if_pos ⟨by simp only [mid]; omega, hxp⟩
    simp (disch := first | omega | simp) [b_dmarc_parseURIList_1, hlt, hlt', acall, h160, k160, ew, get_mid, set_mid]
    refine hLQ (pre ++ [x], post) (by simp [e1]) (by simp) _ ?_
    simp
end Wax


namespace Wax
open Go (IntKind)

theorem lk_rmFi (ds : List Nat) (i : Nat) : ∀ fr : List (Nat × AV), lk (rmF ds fr) i = if ds.contains i = true then .junk else lk fr i
  | [] => by simp [rmF, lk]
  | (j, v) :: r => by
    have ih := lk_rmFi ds i r
    simp only [rmF]
    by_cases hj : ds.contains j = true
    · rw [if_pos hj, ih]
      by_cases hi : ds.contains i = true
      · rw [if_pos hi, if_pos hi]
      · rw [if_neg hi, if_neg hi]
        have : j ≠ i := fun e => hi (e ▸ hj)
        simp [lk, this]
    · rw [if_neg hj]
      by_cases e : j = i
      · subst e; simp only [lk, if_true, if_neg hj]
      · simp only [lk, if_neg e, ih]

theorem lookA_two : ∀ (l : List KVp) (k : L8), lookA (pmA l) k (.str []) true = valV (findP l k)
  | [], k => rfl
  | (i, v) :: r, k => by
    have ih := lookA_two r k
    by_cases h : k = i
    · simp [pmA, lookA, mfind, findP, h, valV]
    · have h' : ¬ i = k := fun e => h e.symm
      simp only [pmA, List.map_cons, lookA, mfind, findP, if_neg h, if_neg h'] at ih ⊢
      exact ih
theorem lookA_one : ∀ (l : List KVp) (k : L8), lookA (pmA l) k (.str []) false = .str ((findP l k).getD [])
  | [], k => rfl
  | (i, v) :: r, k => by
    have ih := lookA_one r k
    by_cases h : k = i
    · simp [pmA, lookA, mfind, findP, h]
    · have h' : ¬ i = k := fun e => h e.symm
      simp only [pmA, List.map_cons, lookA, mfind, findP, if_neg h, if_neg h'] at ih ⊢
      exact ih

def pctA : Option Int → AV
  | none => .nilP
  | some n => .ptr [.int .i64 n]
@[simp] theorem pctA_atom (x : Option Int) : atom (pctA x) = true := by cases x <;> rfl
@[simp] theorem pctA_ref (x : Option Int) : hasRef (pctA x) = false := by cases x <;> rfl
@[simp] theorem pctA_refs (x : Option Int) : refs (pctA x) = [] := by cases x <;> rfl
@[simp] theorem pctA_kill (x : Option Int) (d : Nat) : kill d (pctA x) = pctA x := by cases x <;> rfl
@[simp] theorem pctA_snapW (x : Option Int) (g : AV → AV) : snapW g (pctA x) = pctA x := by cases x <;> rfl
@[simp] theorem pctA_snap (x : Option Int) (n : Nat) (hp : List (Nat × AObj)) : snap (n + 1) hp (pctA x) = pctA x := by cases x <;> rfl
@[simp] theorem pctA_some (n : Int) : pctA (some n) = .ptr [.int .i64 n] := rfl
@[simp] theorem pctA_none : pctA none = .nilP := rfl

def DR.cells (r : DR) : List AV := [.str r.dk, .str r.sp, .int .i64 r.fo, .str r.p, pctA r.pct, slO r.rf, .int .i64 r.ri, slO r.rua, slO r.ruf, .str r.sub]
def dr0 : DR := ⟨[], [], 0, [], none, none, 0, none, none, []⟩

def mPct : L8 := [100, 109, 97, 114, 99, 58, 32, 105, 110, 118, 97, 108, 105, 100, 32, 112, 97, 114, 97, 109, 101, 116, 101, 114, 32, 39, 112, 99, 116, 39]
def mPct2 : L8 := mPct ++ [58, 32, 118, 97, 108, 117, 101, 32, 111, 117, 116, 32, 111, 102, 32, 98, 111, 117, 110, 100, 115]
def mRf : L8 := [100, 109, 97, 114, 99, 58, 32, 105, 110, 118, 97, 108, 105, 100, 32, 112, 97, 114, 97, 109, 101, 116, 101, 114, 32, 39, 114, 102, 39]
def mRi : L8 := [100, 109, 97, 114, 99, 58, 32, 105, 110, 118, 97, 108, 105, 100, 32, 112, 97, 114, 97, 109, 101, 116, 101, 114, 32, 39, 114, 105, 39]
def mRi2 : L8 := mRi ++ [58, 32, 110, 101, 103, 97, 116, 105, 118, 101, 32, 111, 114, 32, 122, 101, 114, 111, 32, 100, 117, 114, 97, 116, 105, 111, 110]
def mNoP : L8 := [100, 109, 97, 114, 99, 58, 32, 114, 101, 99, 111, 114, 100, 32, 105, 115, 32, 109, 105, 115, 115, 105, 110, 103, 32, 97, 32, 39, 112, 39, 32, 112, 97, 114, 97, 109, 101, 116, 101, 114]

section
variable (acc : List KVp)
def mdSp (r : DR) : AV ⊕ DR := match findP acc kSp with
  | none => .inr r
  | some v => if polB v = true then .inr { r with sub := v } else .inl (eN (mPol ++ kSp))
def mdRuf (r : DR) : AV ⊕ DR := mdSp acc (match findP acc kRuf with | none => r | some v => { r with ruf := some (uris v) })
def mdRua (r : DR) : AV ⊕ DR := mdRuf acc (match findP acc kRua with | none => r | some v => { r with rua := some (uris v) })
def mdRi (r : DR) : AV ⊕ DR := match findP acc kRi with
  | none => mdRua acc r
  | some v => match Go.Lib.atoiAll v with
    | .ok n => if n ≤ 0 then .inl (eN mRi2) else mdRua acc { r with ri := n }
    | _ => .inl (eN mRi)
def mdRf (r : DR) : AV ⊕ DR := match findP acc kRf with
  | none => mdRi acc r
  | some v => if (splitB 58 v).all (fun s => decide (s = sAfrf)) = true then mdRi acc { r with rf := some (splitB 58 v) } else .inl (eN mRf)
def mdPct (r : DR) : AV ⊕ DR := match findP acc kPct with
  | none => mdRf acc r
  | some v => match Go.Lib.atoiAll v with
    | .ok n => if n < 0 ∨ 100 < n then .inl (eN mPct2) else mdRf acc { r with pct := some n }
    | _ => .inl (eN mPct)
def mdFo (r : DR) : AV ⊕ DR := match findP acc kFo with
  | none => mdPct acc r
  | some v => match fo2 0 (splitB 58 v) with
    | some n => mdPct acc { r with fo := n }
    | none => .inl (eN mFo)
def mdAspf (r : DR) : AV ⊕ DR := match findP acc kAspf with
  | none => mdFo acc { r with sp := sR }
  | some v => if alignB v = true then mdFo acc { r with sp := v } else .inl (eN (mAlign ++ kAspf))
def mdAdkim (r : DR) : AV ⊕ DR := match findP acc kAdkim with
  | none => mdAspf acc { r with dk := sR }
  | some v => if alignB v = true then mdAspf acc { r with dk := v } else .inl (eN (mAlign ++ kAdkim))
def mdAll : AV ⊕ DR := if (findP acc kV).getD [] = sDM then (match findP acc kP with
  | none => .inl (eN mNoP)
  | some v => if polB v = true then mdAdkim acc { dr0 with p := v } else .inl (eN (mPol ++ kP))) else .inl (.ifc 3 .junk)
end

def mdV : AV ⊕ DR → AV
  | .inl e => .tup [.nilP, e]
  | .inr r => .tup [.ptr r.cells, .nilI]

abbrev mdQ (x : AV ⊕ DR) : APost := finQ [.t 2, .t 3] fun v => v = mdV x

/-- The values of the tags are plain, and not too long. -/
def valsOk (acc : List KVp) : Prop := ∀ q ∈ acc, q.2.length < mid ∧ plain q.2 = true
theorem findP_in : ∀ {l : List KVp} {k v : L8}, findP l k = some v → (k, v) ∈ l
  | [], _, _, h => by simp [findP] at h
  | (i, u) :: r, k, v, h => by
    simp only [findP] at h
    split at h
    · rename_i e; simp at h; subst e; subst h; simp
    · exact List.mem_cons_of_mem _ (findP_in h)

section
variable {Γ : Gam} (h150 : Γ.fn 150 = con_dmPolicy) (h151 : Γ.fn 151 = con_dmAlign) (h152 : Γ.fn 152 = con_dmFo) (h153 : Γ.fn 153 = con_Atoi) (s154 : Γ.st 154 = con_zzSplit) (h155 : Γ.fn 155 = con_dmURIs) (h50 : Γ.fn 50 = con_errorsNew)

theorem valV_tup {x : Option L8} {a b : AV} (h : valV x = .tup [a, b]) : (∀ g, snapW g a = a) ∧ (∀ g, snapW g b = b) ∧ (∀ d, kill d a = a) ∧ ∀ d, kill d b = b := by
  cases x <;> simp [valV] at h <;> obtain ⟨rfl, rfl⟩ := h <;> exact ⟨fun _ => rfl, fun _ => rfl, fun _ => rfl, fun _ => rfl⟩
@[simp] theorem drc_kill (r : DR) (d : Nat) : killL d r.cells = r.cells := by simp [DR.cells]
@[simp] theorem drc_snapW (r : DR) (g : AV → AV) : snapWL g r.cells = r.cells := by simp [DR.cells]
@[simp] theorem drc_ref (r : DR) : hasRefL r.cells = false := by simp [DR.cells]

theorem pd_4 (r : DR) (ex : List (Nat × AV)) (h6 : lk ex 6 = .ref 46 0) : awp Γ f_dmarc_Parse_4 (mdQ (.inr r)) ⟨ex, [(46, .cells r.cells)]⟩ := by
  simp -implicitDefEqProofs [f_dmarc_Parse_4, h6, mdV, DR.cells]

theorem pol_con {v p : L8} (hp : p.length < mid) : con_dmPolicy [.str v, .str p] = some (if polB v = true then .tup [.str v, .nilI] else .tup [.str [], eN (mPol ++ p)]) := if_pos hp
theorem align_con {v p : L8} (hp : p.length < mid) : con_dmAlign [.str v, .str p] = some (if alignB v = true then .tup [.str v, .nilI] else .tup [.str [], eN (mAlign ++ p)]) := if_pos hp

include h150
theorem pd_5 (acc : List KVp) (r : DR) (ex : List (Nat × AV)) (h4 : lk ex 4 = .mp (pmA acc)) (h6 : lk ex 6 = .ref 46 0) : awp Γ f_dmarc_Parse_5 (mdQ (mdSp acc r)) ⟨ex, [(46, .cells r.cells)]⟩ := by
  have hk := lookA_two acc [115, 112]
  simp only [mdSp, kSp]
  cases hf : findP acc [115, 112] with
  | none =>
    rw [hf] at hk
    simp only
    have e := fun ex h => pd_4 (Γ := Γ) r ex h
    simp -implicitDefEqProofs [f_dmarc_Parse_5, lk_rmFi, h4, h6, hk, valV]
    refine e _ ?_
    simp [lk_rmFi, h4, h6]
  | some v =>
    rw [hf] at hk
    have k := pol_con (v := v) (p := [115, 112]) (by decide)
    simp only
    cases hp : polB v with
    | false =>
      rw [hp] at k
      simp -implicitDefEqProofs [f_dmarc_Parse_5, lk_rmFi, h4, h6, hk, valV, acall, h150, k, eN, DR.cells, mdV]
    | true =>
      rw [hp] at k
      simp only [if_true]
      have e := fun ex h => pd_4 (Γ := Γ) { r with sub := v } ex h
      simp only [DR.cells] at e
      simp -implicitDefEqProofs [f_dmarc_Parse_5, lk_rmFi, h4, h6, hk, valV, acall, h150, k, DR.cells]
      refine e _ ?_
      simp [lk_rmFi, h4, h6]

include h155
theorem pd_6 (acc : List KVp) (ha : valsOk acc) (r : DR) (ex : List (Nat × AV)) (h4 : lk ex 4 = .mp (pmA acc)) (h6 : lk ex 6 = .ref 46 0) : awp Γ f_dmarc_Parse_6 (mdQ (mdRuf acc r)) ⟨ex, [(46, .cells r.cells)]⟩ := by
  have hk := lookA_two acc [114, 117, 102]
  simp only [mdRuf, kRuf]
  cases hf : findP acc [114, 117, 102] with
  | none =>
    rw [hf] at hk
    simp only
    have e := fun ex h h' => pd_5 (Γ := Γ) h150 acc r ex h h'
    simp -implicitDefEqProofs [f_dmarc_Parse_6, lk_rmFi, h4, h6, hk, valV]
    refine e _ ?_ ?_ <;> simp [lk_rmFi, h4, h6]
  | some v =>
    rw [hf] at hk
    have hv := ha _ (findP_in hf)
    have k : con_dmURIs [.str v] = some (.sl 1 (strsA (uris v))) := if_pos hv
    simp only
    have e := fun ex h h' => pd_5 (Γ := Γ) h150 acc { r with ruf := some (uris v) } ex h h'
    simp only [DR.cells] at e
    simp -implicitDefEqProofs [f_dmarc_Parse_6, lk_rmFi, h4, h6, hk, valV, acall, h155, k, DR.cells]
    refine e _ ?_ ?_ <;> simp [lk_rmFi, h4, h6]

theorem pd_7 (acc : List KVp) (ha : valsOk acc) (r : DR) (ex : List (Nat × AV)) (h4 : lk ex 4 = .mp (pmA acc)) (h6 : lk ex 6 = .ref 46 0) : awp Γ f_dmarc_Parse_7 (mdQ (mdRua acc r)) ⟨ex, [(46, .cells r.cells)]⟩ := by
  have hk := lookA_two acc [114, 117, 97]
  simp only [mdRua, kRua]
  cases hf : findP acc [114, 117, 97] with
  | none =>
    rw [hf] at hk
    simp only
    have e := fun ex h h' => pd_6 (Γ := Γ) h150 h155 acc ha r ex h h'
    simp -implicitDefEqProofs [f_dmarc_Parse_7, lk_rmFi, h4, h6, hk, valV]
    refine e _ ?_ ?_ <;> simp [lk_rmFi, h4, h6]
  | some v =>
    rw [hf] at hk
    have hv := ha _ (findP_in hf)
    have k : con_dmURIs [.str v] = some (.sl 1 (strsA (uris v))) := if_pos hv
    simp only
    have e := fun ex h h' => pd_6 (Γ := Γ) h150 h155 acc ha { r with rua := some (uris v) } ex h h'
    simp only [DR.cells] at e
    simp -implicitDefEqProofs [f_dmarc_Parse_7, lk_rmFi, h4, h6, hk, valV, acall, h155, k, DR.cells]
    refine e _ ?_ ?_ <;> simp [lk_rmFi, h4, h6]

include h153 h50
theorem pd_3 (acc : List KVp) (ha : valsOk acc) (r : DR) (a b : AV) (hab : valV (findP acc kRi) = .tup [a, b]) :
    awp Γ f_dmarc_Parse_3 (thenQ (awp Γ f_dmarc_Parse_7 (mdQ (mdRi acc r))) (mdQ (mdRi acc r))) ⟨[(4, .mp (pmA acc)), (6, .ref 46 0), (24, a), (25, b)], [(46, .cells r.cells)]⟩ := by
  simp only [mdRi]
  cases hf : findP acc kRi with
  | none =>
    rw [hf] at hab
    simp [valV] at hab
    obtain ⟨rfl, rfl⟩ := hab
    simp only
    simp -implicitDefEqProofs [f_dmarc_Parse_3]
    exact pd_7 h150 h155 acc ha r _ rfl rfl
  | some v =>
    rw [hf] at hab
    simp [valV] at hab
    obtain ⟨rfl, rfl⟩ := hab
    have hv := ha _ (findP_in hf)
    have k : con_Atoi [.str v] = some (atoiV v) := if_pos hv.1
    simp only [atoiV] at k
    simp only
    cases hq : Go.Lib.atoiAll v with
    | ok n =>
      rw [hq] at k
      simp only at k ⊢
      by_cases hn : n ≤ 0
      · rw [if_pos hn]
        simp -implicitDefEqProofs [f_dmarc_Parse_3, acall, h153, k, hn, h50, con_errorsNew, mdV, eN, mRi2, mRi]
      · rw [if_neg hn]
        have e := pd_7 (Γ := Γ) h150 h155 acc ha { r with ri := n } [(4, .mp (pmA acc)), (6, .ref 46 0)] rfl rfl
        simp only [DR.cells] at e
        simp -implicitDefEqProofs [f_dmarc_Parse_3, acall, h153, k, hn, DR.cells]
        exact e
    | range =>
      rw [hq] at k
      simp only at k ⊢
      simp -implicitDefEqProofs [f_dmarc_Parse_3, acall, h153, k, h50, con_errorsNew, mdV, eN, mRi]
    | _ =>
      rw [hq] at k
      simp only at k ⊢
      simp -implicitDefEqProofs [f_dmarc_Parse_3, acall, h153, k, h50, con_errorsNew, mdV, eN, mRi]

theorem pd_8 (acc : List KVp) (ha : valsOk acc) (r : DR) (ex : List (Nat × AV)) (h4 : lk ex 4 = .mp (pmA acc)) (h6 : lk ex 6 = .ref 46 0) : awp Γ f_dmarc_Parse_8 (mdQ (mdRi acc r)) ⟨ex, [(46, .cells r.cells)]⟩ := by
  have hk := lookA_two acc [114, 105]
  obtain ⟨a, b, hab⟩ : ∃ a b, valV (findP acc kRi) = .tup [a, b] := by cases findP acc kRi <;> exact ⟨_, _, rfl⟩
  have hab' := hab
  rw [kRi] at hab'
  rw [hab'] at hk
  obtain ⟨_, _, ha2, hb2⟩ := valV_tup hab
  simp -implicitDefEqProofs [f_dmarc_Parse_8, lk_rmFi, h4, h6, hk, ha2, hb2]
  exact pd_3 h150 h153 h155 h50 acc ha r a b hab

theorem pd_8b (acc : List KVp) (ha : valsOk acc) (r : DR) (L : List L8) (ex : List (Nat × AV)) (h4 : lk ex 4 = .mp (pmA acc)) (h6 : lk ex 6 = .ref 46 0) :
    awp Γ f_dmarc_Parse_8 (mdQ (mdRi acc { r with rf := some L })) ⟨ex, [(158, .cells (strsA L)), (154, .cells (strsA L)), (46, .cells [.str r.dk, .str r.sp, .int .i64 r.fo, .str r.p, pctA r.pct, .msl 158 1 0 L.length, .int .i64 r.ri, slO r.rua, slO r.ruf, .str r.sub])]⟩ := by
  have hk := lookA_two acc [114, 105]
  obtain ⟨a, b, hab⟩ : ∃ a b, valV (findP acc kRi) = .tup [a, b] := by cases findP acc kRi <;> exact ⟨_, _, rfl⟩
  have hab' := hab
  rw [kRi] at hab'
  obtain ⟨ha1, hb1, ha2, hb2⟩ := valV_tup hab
  rw [hab'] at hk
  have e := pd_3 h150 h153 h155 h50 acc ha { r with rf := some L } a b hab
  simp only [DR.cells] at e
  simp -implicitDefEqProofs [f_dmarc_Parse_8, lk_rmFi, h4, h6, hk, ha1, hb1, ha2, hb2, List.take_of_length_le]
  exact e

include s154
theorem pd_2 (acc : List KVp) (ha : valsOk acc) (r : DR) (a b : AV) (hab : valV (findP acc kRf) = .tup [a, b]) :
    awp Γ f_dmarc_Parse_2 (thenQ (awp Γ f_dmarc_Parse_8 (mdQ (mdRf acc r))) (mdQ (mdRf acc r))) ⟨[(4, .mp (pmA acc)), (6, .ref 46 0), (19, a), (20, b)], [(46, .cells r.cells)]⟩ := by
  simp only [mdRf]
  cases hf : findP acc kRf with
  | none =>
    rw [hf] at hab
    simp [valV] at hab
    obtain ⟨rfl, rfl⟩ := hab
    simp only
    simp -implicitDefEqProofs [f_dmarc_Parse_2]
    exact pd_8 h150 h153 h155 h50 acc ha r _ rfl rfl
  | some v =>
    rw [hf] at hab
    simp [valV] at hab
    obtain ⟨rfl, rfl⟩ := hab
    have hv := ha _ (findP_in hf)
    simp only at hv
    have hsp : con_zzSplit [.str v, .str [58]] [] = some (.msl 0 1 0 (splitB 58 v).length, [(0, .cells (strsA (splitB 58 v)))]) := if_pos hv.1
    have hl := splitB_length 58 v
    have hv1 := hv.1
    simp only [mid] at hv1
    simp only
    generalize splitB 58 v = L at *
    have hL1 : L.all (fun s => decide (s = sAfrf)) = true → (if L.all (fun s => decide (s = sAfrf)) = true then mdRi acc { r with rf := some L } else .inl (eN mRf)) = mdRi acc { r with rf := some L } := fun h => if_pos h
    have hL2 : L.all (fun s => decide (s = sAfrf)) = false → (if L.all (fun s => decide (s = sAfrf)) = true then mdRi acc { r with rf := some L } else .inl (eN mRf)) = .inl (eN mRf) := fun h => by rw [h]; rfl
    generalize (if L.all (fun s => decide (s = sAfrf)) = true then mdRi acc { r with rf := some L } else .inl (eN mRf)) = X at *
    have hbound : ((L.length : Int).toNat + 1) * 17 < 35184372088832 ∧ (L.length : Int).toNat < 35184372088832 := by omega
    simp -implicitDefEqProofs [f_dmarc_Parse_2, acallS, s154, hsp, DR.cells]
    refine ⟨by omega, ?_⟩
    refine awp_loop2 (σ := List L8 × List L8) (fun p => ⟨[(4, .mp (pmA acc)), (6, .ref 46 0), (161, .msl 154 1 0 L.length), (162, .int .i64 L.length), (163, .int .i64 p.1.length)], [(158, .cells (strsA p.1 ++ List.replicate p.2.length (.str []))), (154, .cells (strsA L)), (46, .cells [.str r.dk, .str r.sp, .int .i64 r.fo, .str r.p, pctA r.pct, .msl 158 1 0 L.length, .int .i64 r.ri, slO r.rua, slO r.ruf, .str r.sub])]⟩)
      (fun p => L = p.1 ++ p.2 ∧ p.1.all (fun s => decide (s = sAfrf)) = true) (fun p => p.2.length) ([], L) ?_ (by simp) ?_
    · simp
    rintro ⟨pre, post⟩ ⟨e1, e2⟩ LQ hLQ
    simp only at e1 e2
    cases post with
    | nil =>
      simp only [List.append_nil] at e1
      subst e1
      rw [hL1 e2]
      have e := fun ex h h' => pd_8b (Γ := Γ) h150 h153 h155 h50 acc ha r L ex h h'
      simp -implicitDefEqProofs [b_dmarc_Parse_1]
      refine e _ ?_ ?_ <;> simp
    | cons x post =>
      have hlen : L.length = pre.length + (post.length + 1) := by rw [e1]; simp
      have hlt' : (pre.length : Int) < (L.length : Int) := by omega
      have hlt : pre.length < L.length := by omega
      have g3 : L[pre.length]? = some x := by rw [e1]; exact get_mid rfl
      have ew : IntKind.i64.wrap ((pre.length : Int) + 1) = (pre.length : Int) + 1 := wrap64 (by omega) (by omega)
      by_cases hx : x = sAfrf
      · subst hx
        have hb : pre.length < pre.length + (post.length + 1) := by omega
        have fin : ∀ st, norm [4, 6, 161, 162, 163] st = ⟨[(4, .mp (pmA acc)), (6, .ref 46 0), (161, .msl 154 1 0 L.length), (162, .int .i64 L.length), (163, .int .i64 ((pre.length : Int) + 1))], [(158, .cells (strsA pre ++ (.str sAfrf :: List.replicate post.length (.str [])))), (154, .cells (strsA L)), (46, .cells [.str r.dk, .str r.sp, .int .i64 r.fo, .str r.p, pctA r.pct, .msl 158 1 0 L.length, .int .i64 r.ri, slO r.rua, slO r.ruf, .str r.sub])]⟩ → LQ st := by
          intro st hst
          refine hLQ (pre ++ [sAfrf], post) ⟨by rw [e1]; simp, by simp [e2]⟩ (by simp) st ?_
          rw [hst]; simp
        have gdrop : L.drop pre.length = sAfrf :: post := by rw [e1]; simp
        simp only [sAfrf] at g3 fin gdrop
        simp -implicitDefEqProofs [b_dmarc_Parse_1, hlt, hlt', g3, gdrop, ew, List.replicate_succ]
        exact fin _ (by simp)
      · have hf2 : L.all (fun s => decide (s = sAfrf)) = false := by rw [e1]; simp [hx]
        rw [hL2 hf2]
        have gdrop : L.drop pre.length = x :: post := by rw [e1]; simp
        simp only [sAfrf] at hx
        simp -implicitDefEqProofs [b_dmarc_Parse_1, hlt, hlt', g3, gdrop, hx, acall, h50, con_errorsNew, mdV, eN, mRf]
end
end Wax


namespace Wax
open Go (IntKind)

section
variable {Γ : Gam} (h149 : Γ.fn 149 = con_dmParams) (h150 : Γ.fn 150 = con_dmPolicy) (h151 : Γ.fn 151 = con_dmAlign) (h152 : Γ.fn 152 = con_dmFo) (h153 : Γ.fn 153 = con_Atoi) (s154 : Γ.st 154 = con_zzSplit) (h155 : Γ.fn 155 = con_dmURIs) (h50 : Γ.fn 50 = con_errorsNew)
include h150 h153 s154 h155 h50

theorem pd_9 (acc : List KVp) (ha : valsOk acc) (r : DR) (ex : List (Nat × AV)) (h4 : lk ex 4 = .mp (pmA acc)) (h6 : lk ex 6 = .ref 46 0) : awp Γ f_dmarc_Parse_9 (mdQ (mdRf acc r)) ⟨ex, [(46, .cells r.cells)]⟩ := by
  have hk := lookA_two acc [114, 102]
  obtain ⟨a, b, hab⟩ : ∃ a b, valV (findP acc kRf) = .tup [a, b] := by cases findP acc kRf <;> exact ⟨_, _, rfl⟩
  have hab' := hab
  rw [kRf] at hab'
  rw [hab'] at hk
  obtain ⟨_, _, ha2, hb2⟩ := valV_tup hab
  simp -implicitDefEqProofs [f_dmarc_Parse_9, lk_rmFi, h4, h6, hk, ha2, hb2]
  exact pd_2 h150 h153 s154 h155 h50 acc ha r a b hab

theorem pd_9b (acc : List KVp) (ha : valsOk acc) (r : DR) (n : Int) (ex : List (Nat × AV)) (h4 : lk ex 4 = .mp (pmA acc)) (h6 : lk ex 6 = .ref 46 0) :
    awp Γ f_dmarc_Parse_9 (mdQ (mdRf acc { r with pct := some n })) ⟨ex, [(17, .cells [.int .i64 n]), (46, .cells [.str r.dk, .str r.sp, .int .i64 r.fo, .str r.p, .ref 17 0, slO r.rf, .int .i64 r.ri, slO r.rua, slO r.ruf, .str r.sub])]⟩ := by
  have hk := lookA_two acc [114, 102]
  obtain ⟨a, b, hab⟩ : ∃ a b, valV (findP acc kRf) = .tup [a, b] := by cases findP acc kRf <;> exact ⟨_, _, rfl⟩
  have hab' := hab
  rw [kRf] at hab'
  rw [hab'] at hk
  obtain ⟨ha1, hb1, ha2, hb2⟩ := valV_tup hab
  have e := pd_2 h150 h153 s154 h155 h50 acc ha { r with pct := some n } a b hab
  simp only [DR.cells] at e
  simp -implicitDefEqProofs [f_dmarc_Parse_9, lk_rmFi, h4, h6, hk, ha1, hb1, ha2, hb2]
  exact e

theorem pd_10 (acc : List KVp) (ha : valsOk acc) (r : DR) (ex : List (Nat × AV)) (h4 : lk ex 4 = .mp (pmA acc)) (h6 : lk ex 6 = .ref 46 0) : awp Γ f_dmarc_Parse_10 (mdQ (mdPct acc r)) ⟨ex, [(46, .cells r.cells)]⟩ := by
  have hk := lookA_two acc [112, 99, 116]
  simp only [mdPct, kPct]
  cases hf : findP acc [112, 99, 116] with
  | none =>
    rw [hf] at hk
    simp only
    have e := fun ex h h' => pd_9 (Γ := Γ) h150 h153 s154 h155 h50 acc ha r ex h h'
    simp -implicitDefEqProofs [f_dmarc_Parse_10, lk_rmFi, h4, h6, hk, valV]
    refine e _ ?_ ?_ <;> simp [lk_rmFi, h4, h6]
  | some v =>
    rw [hf] at hk
    have hv := ha _ (findP_in hf)
    have k : con_Atoi [.str v] = some (atoiV v) := if_pos hv.1
    simp only [atoiV] at k
    simp only
    cases hq : Go.Lib.atoiAll v with
    | ok n =>
      rw [hq] at k
      simp only at k ⊢
      by_cases h1 : n < 0
      · rw [if_pos (.inl h1)]
        simp -implicitDefEqProofs [f_dmarc_Parse_10, lk_rmFi, h4, h6, hk, valV, acall, h153, k, h1, h50, con_errorsNew, mdV, eN, mPct2, mPct, DR.cells]
      · by_cases h2 : 100 < n
        · rw [if_pos (.inr h2)]
          simp -implicitDefEqProofs [f_dmarc_Parse_10, lk_rmFi, h4, h6, hk, valV, acall, h153, k, h1, h2, h50, con_errorsNew, mdV, eN, mPct2, mPct, DR.cells]
        · rw [if_neg (by omega)]
          have e := fun ex h h' => pd_9b (Γ := Γ) h150 h153 s154 h155 h50 acc ha r n ex h h'
          simp -implicitDefEqProofs [f_dmarc_Parse_10, lk_rmFi, h4, h6, hk, valV, acall, h153, k, h1, h2, DR.cells]
          refine e _ ?_ ?_ <;> simp [lk_rmFi, h4, h6]
    | range =>
      rw [hq] at k
      simp only at k ⊢
      simp -implicitDefEqProofs [f_dmarc_Parse_10, lk_rmFi, h4, h6, hk, valV, acall, h153, k, h50, con_errorsNew, mdV, eN, mPct, DR.cells]
    | _ =>
      rw [hq] at k
      simp only at k ⊢
      simp -implicitDefEqProofs [f_dmarc_Parse_10, lk_rmFi, h4, h6, hk, valV, acall, h153, k, h50, con_errorsNew, mdV, eN, mPct, DR.cells]

include h152
theorem pd_11 (acc : List KVp) (ha : valsOk acc) (r : DR) (ex : List (Nat × AV)) (h4 : lk ex 4 = .mp (pmA acc)) (h6 : lk ex 6 = .ref 46 0) : awp Γ f_dmarc_Parse_11 (mdQ (mdFo acc r)) ⟨ex, [(46, .cells r.cells)]⟩ := by
  have hk := lookA_two acc [102, 111]
  simp only [mdFo, kFo]
  cases hf : findP acc [102, 111] with
  | none =>
    rw [hf] at hk
    simp only
    have e := fun ex h h' => pd_10 (Γ := Γ) h150 h153 s154 h155 h50 acc ha r ex h h'
    simp -implicitDefEqProofs [f_dmarc_Parse_11, lk_rmFi, h4, h6, hk, valV]
    refine e _ ?_ ?_ <;> simp [lk_rmFi, h4, h6]
  | some v =>
    rw [hf] at hk
    have hv := ha _ (findP_in hf)
    have k : con_dmFo [.str v] = some (foV v) := if_pos hv
    simp only [foV] at k
    simp only
    cases hq : fo2 0 (splitB 58 v) with
    | some n =>
      rw [hq] at k
      simp only at k ⊢
      have e := fun ex h h' => pd_10 (Γ := Γ) h150 h153 s154 h155 h50 acc ha { r with fo := n } ex h h'
      simp only [DR.cells] at e
      simp -implicitDefEqProofs [f_dmarc_Parse_11, lk_rmFi, h4, h6, hk, valV, acall, h152, k, DR.cells]
      refine e _ ?_ ?_ <;> simp [lk_rmFi, h4, h6]
    | none =>
      rw [hq] at k
      simp only at k ⊢
      simp -implicitDefEqProofs [f_dmarc_Parse_11, lk_rmFi, h4, h6, hk, valV, acall, h152, k, mdV, eN, DR.cells]

include h151
theorem pd_12 (acc : List KVp) (ha : valsOk acc) (r : DR) (ex : List (Nat × AV)) (h4 : lk ex 4 = .mp (pmA acc)) (h6 : lk ex 6 = .ref 46 0) : awp Γ f_dmarc_Parse_12 (mdQ (mdAspf acc r)) ⟨ex, [(46, .cells r.cells)]⟩ := by
  have hk := lookA_two acc [97, 115, 112, 102]
  simp only [mdAspf, kAspf]
  cases hf : findP acc [97, 115, 112, 102] with
  | none =>
    rw [hf] at hk
    simp only
    have e := fun ex h h' => pd_11 (Γ := Γ) h150 h152 h153 s154 h155 h50 acc ha { r with sp := sR } ex h h'
    simp only [DR.cells, sR] at e
    simp -implicitDefEqProofs [f_dmarc_Parse_12, lk_rmFi, h4, h6, hk, valV, DR.cells]
    refine e _ ?_ ?_ <;> simp [lk_rmFi, h4, h6]
  | some v =>
    rw [hf] at hk
    have k := align_con (v := v) (p := [97, 115, 112, 102]) (by decide)
    simp only
    cases hp : alignB v with
    | false =>
      rw [hp] at k
      simp -implicitDefEqProofs [f_dmarc_Parse_12, lk_rmFi, h4, h6, hk, valV, acall, h151, k, eN, DR.cells, mdV]
    | true =>
      rw [hp] at k
      simp only [if_true]
      have e := fun ex h h' => pd_11 (Γ := Γ) h150 h152 h153 s154 h155 h50 acc ha { r with sp := v } ex h h'
      simp only [DR.cells] at e
      simp -implicitDefEqProofs [f_dmarc_Parse_12, lk_rmFi, h4, h6, hk, valV, acall, h151, k, DR.cells]
      refine e _ ?_ ?_ <;> simp [lk_rmFi, h4, h6]

theorem pd_13 (acc : List KVp) (ha : valsOk acc) (r : DR) (ex : List (Nat × AV)) (h4 : lk ex 4 = .mp (pmA acc)) (h6 : lk ex 6 = .ref 46 0) : awp Γ f_dmarc_Parse_13 (mdQ (mdAdkim acc r)) ⟨ex, [(46, .cells r.cells)]⟩ := by
  have hk := lookA_two acc [97, 100, 107, 105, 109]
  simp only [mdAdkim, kAdkim]
  cases hf : findP acc [97, 100, 107, 105, 109] with
  | none =>
    rw [hf] at hk
    simp only
    have e := fun ex h h' => pd_12 (Γ := Γ) h150 h151 h152 h153 s154 h155 h50 acc ha { r with dk := sR } ex h h'
    simp only [DR.cells, sR] at e
    simp -implicitDefEqProofs [f_dmarc_Parse_13, lk_rmFi, h4, h6, hk, valV, DR.cells]
    refine e _ ?_ ?_ <;> simp [lk_rmFi, h4, h6]
  | some v =>
    rw [hf] at hk
    have k := align_con (v := v) (p := [97, 100, 107, 105, 109]) (by decide)
    simp only
    cases hp : alignB v with
    | false =>
      rw [hp] at k
      simp -implicitDefEqProofs [f_dmarc_Parse_13, lk_rmFi, h4, h6, hk, valV, acall, h151, k, eN, DR.cells, mdV]
    | true =>
      rw [hp] at k
      simp only [if_true]
      have e := fun ex h h' => pd_12 (Γ := Γ) h150 h151 h152 h153 s154 h155 h50 acc ha { r with dk := v } ex h h'
      simp only [DR.cells] at e
      simp -implicitDefEqProofs [f_dmarc_Parse_13, lk_rmFi, h4, h6, hk, valV, acall, h151, k, DR.cells]
      refine e _ ?_ ?_ <;> simp [lk_rmFi, h4, h6]
end

/-- What is read of a text. -/
def mdText (s : L8) : AV ⊕ DR := if (prd2 (splitB 59 s) []).2 = true then mdAll (prd2 (splitB 59 s) []).1 else .inl (eN mBad)

theorem psetL_vals {l : List KVp} {k v : L8} (h : valsOk l) (hv : v.length < mid ∧ plain v = true) : valsOk (psetL l k v) := by
  induction l with
  | nil => intro q hq; simp [psetL] at hq; subst hq; exact hv
  | cons p r ih =>
    obtain ⟨i, u⟩ := p
    have hr : valsOk r := fun q hq => h q (by simp [hq])
    intro q hq
    simp only [psetL] at hq
    split at hq
    · rcases List.mem_cons.1 hq with rfl | hq
      · exact hv
      · exact h q (by simp [hq])
    · rcases List.mem_cons.1 hq with rfl | hq
      · exact h _ (by simp)
      · exact ih hr q hq

theorem trimS_plain {s : L8} (h : plain s = true) : plain (trimS s) = true := plain_sub (fun x hx => trimS_sub x hx) h

theorem prd2_vals (n : Nat) (hn : n < mid) : ∀ (L : List L8) (acc : List KVp), (∀ p ∈ L, p.length ≤ n ∧ plain p = true) → valsOk acc → valsOk (prd2 L acc).1
  | [], acc, _, h => h
  | p :: r, acc, hL, h => by
    have hr : ∀ p ∈ r, p.length ≤ n ∧ plain p = true := fun q hq => hL q (by simp [hq])
    obtain ⟨hpl, hpp⟩ := hL p (by simp)
    simp only [prd2]
    cases hc : cutAt 61 p with
    | none =>
      simp only
      by_cases ht : trimS p = []
      · rw [if_pos ht]; exact prd2_vals n hn r acc hr h
      · rw [if_neg ht]; exact h
    | some q =>
      obtain ⟨hql, y, hy⟩ := cutAt_le hc
      rw [hy, plain_app] at hpp
      simp only [Bool.and_eq_true] at hpp
      have hp2 : plain q.2 = true := by
        have := hpp.2
        simp only [plain, List.all_cons, Bool.and_eq_true] at this
        exact this.2
      have := trimS_length q.2
      exact prd2_vals n hn r _ hr (psetL_vals h ⟨by omega, trimS_plain hp2⟩)

def con_dmParse : List AV → Option AV
  | [.str s] => if s.length < mid ∧ plain s = true then some (mdV (mdText s)) else none
  | _ => none

set_option maxHeartbeats 1000000 in
theorem ok_dmParse (Γ : Gam) (h149 : Γ.fn 149 = con_dmParams) (h150 : Γ.fn 150 = con_dmPolicy) (h151 : Γ.fn 151 = con_dmAlign) (h152 : Γ.fn 152 = con_dmFo) (h153 : Γ.fn 153 = con_Atoi) (s154 : Γ.st 154 = con_zzSplit) (h155 : Γ.fn 155 = con_dmURIs) (h50 : Γ.fn 50 = con_errorsNew) :
    ∀ args r, con_dmParse args = some r → runs Γ c_dmarc_Parse args (fun v => v = r) := by
  intro args r h
  simp only [con_dmParse] at h
  split at h <;> (try simp at h; done)
  rename_i s
  obtain ⟨hs, rfl⟩ := ite_some h
  clear h
  have k149 : con_dmParams [.str s] = some (prdV (prd2 (splitB 59 s) [])) := if_pos hs
  have ha := prd2_vals s.length hs.1 (splitB 59 s) [] (fun p hp => ⟨splitB_mem_length 59 s p hp, splitB_plain 59 s p hs.2 hp⟩) (fun q hq => by simp at hq)
  simp only [mdText]
  generalize prd2 (splitB 59 s) [] = x at *
  obtain ⟨acc, ok⟩ := x
  cases ok with
  | false => simp -implicitDefEqProofs [c_dmarc_Parse, acall, h149, k149, prdV, eN, mdV]
  | true =>
    simp only [prdV] at k149
    simp only at ha
    have hk1 := lookA_one acc [118]
    have hk2 := lookA_two acc [112]
    by_cases hv : (findP acc kV).getD [] = sDM
    · have hv' : (findP acc [118]).getD [] = [68, 77, 65, 82, 67, 49] := hv
      rw [hv'] at hk1
      have hm : mdAll acc = (match findP acc [112] with
        | none => .inl (eN mNoP)
        | some v => if polB v = true then mdAdkim acc { dr0 with p := v } else .inl (eN (mPol ++ kP))) := if_pos hv
      rw [if_pos rfl, hm]
      cases hf : findP acc [112] with
      | none =>
        rw [hf] at hk2
        simp -implicitDefEqProofs [c_dmarc_Parse, acall, h149, k149, hk1, hk2, valV, h50, con_errorsNew, eN, mNoP, mdV]
      | some v =>
        rw [hf] at hk2
        have k := pol_con (v := v) (p := [112]) (by decide)
        simp only
        cases hp : polB v with
        | false =>
          rw [hp] at k
          simp -implicitDefEqProofs [c_dmarc_Parse, acall, h149, k149, hk1, hk2, valV, h150, k, eN, mdV, mPol, kP]
        | true =>
          rw [hp] at k
          have e := fun ex h h' => pd_13 (Γ := Γ) h150 h151 h152 h153 s154 h155 h50 acc ha { dr0 with p := v } ex h h'
          simp only [DR.cells, dr0] at e
          simp -implicitDefEqProofs [c_dmarc_Parse, acall, h149, k149, hk1, hk2, valV, h150, k]
          refine e _ ?_ ?_ <;> simp
    · have hv' : ¬ (findP acc [118]).getD [] = [68, 77, 65, 82, 67, 49] := hv
      have hm : mdAll acc = .inl (.ifc 3 .junk) := if_neg hv
      rw [if_pos rfl, hm]
      simp -implicitDefEqProofs [c_dmarc_Parse, acall, h149, k149, hk1, hv', eN, mdV]
end Wax


namespace Wax
open Go (IntKind)

def asDR : List AV → Option DR
  | [.str dk, .str sp, .int .i64 fo, .str p, pct, rf, .int .i64 ri, rua, ruf, .str sub] => match (match pct with | .nilP => some none | .ptr [.int .i64 n] => some (some n) | _ => none : Option (Option Int)), asO rf, asO rua, asO ruf with
    | some pct, some rf, some rua, some ruf => some ⟨dk, sp, fo, p, pct, rf, ri, rua, ruf, sub⟩
    | _, _, _, _ => none
  | _ => none
theorem asDR_cells (r : DR) : asDR r.cells = some r := by
  obtain ⟨dk, sp, fo, p, pct, rf, ri, rua, ruf, sub⟩ := r
  cases pct <;> simp [DR.cells, asDR, asO_slO]
theorem asDR_spec {cs : List AV} {r : DR} (h : asDR cs = some r) : cs = r.cells := by
  unfold asDR at h
  split at h
  · split at h
    · rename_i h0 h1 h2 h3
      simp at h; subst h
      rw [asO_spec h1, asO_spec h2, asO_spec h3]
      split at h0
      · simp at h0; subst h0; rfl
      · simp at h0; subst h0; rfl
      · simp at h0
    · simp at h
  · simp at h

def con_recordOf : List AV → Option AV
  | [.ptr c] => match asDR c with
    | some r => if (r.rf.getD []).length ≤ mid then some (.agg (recM r).cells) else none
    | none => none
  | _ => none
theorem rec_con {r : DR} (h : (r.rf.getD []).length ≤ mid) : con_recordOf [.ptr r.cells] = some (.agg (recM r).cells) := by
  simp only [con_recordOf, asDR_cells]
  exact if_pos h

theorem slO_alen (hp : List (Nat × AObj)) (x : Option (List L8)) : alen hp 1 (slO x) = some (x.getD []).length := by cases x <;> simp [slO]
def slN (l : List L8) : AV := if l = [] then .nilS else .sl 1 (strsA l)
@[simp] theorem slN_atom (x : List L8) : atom (slN x) = true := by unfold slN; split <;> rfl
@[simp] theorem slN_ref (x : List L8) : hasRef (slN x) = false := by unfold slN; split <;> rfl
@[simp] theorem slN_refs (x : List L8) : refs (slN x) = [] := by unfold slN; split <;> rfl
@[simp] theorem slN_kill (x : List L8) (d : Nat) : kill d (slN x) = slN x := by unfold slN; split <;> rfl
@[simp] theorem slN_snapW (x : List L8) (g : AV → AV) : snapW g (slN x) = slN x := by unfold slN; split <;> rfl
@[simp] theorem slN_cells (x : List L8) : cells (slN x) = [slN x] := by unfold slN; split <;> rfl

def slM (l : List L8) : AV := if l = [] then .nilS else .msl 66 1 0 l.length
def hpM (l : List L8) (h : List (Nat × AObj)) : List (Nat × AObj) := if l = [] then h else (66, .cells (strsA l)) :: h
theorem ro_loop {Γ : Gam} (dk sp : L8) (fo : Int) (p : L8) (P : Int) (hs : Bool) (rf : Option (List L8)) (ri : Int) (rua ruf : Option (List L8)) (sub : L8) (L : List L8) (hL : rf.getD [] = L) (hl : L.length ≤ 1099511627776) :
    awp Γ (SCode.loop [2, 3, 56, 57, 58] b_impl_recordOf_1) (blockQ 0 (thenQ (awp Γ t_impl_recordOf_2 (finQ [RV.c (some 11) 2] fun v => v = .agg (MR.cells ⟨dk, sp, fo, p, P, hs, if L = [] then none else rf, ri, rua, ruf, sub⟩)))
      (finQ [RV.c (some 11) 2] fun v => v = .agg (MR.cells ⟨dk, sp, fo, p, P, hs, if L = [] then none else rf, ri, rua, ruf, sub⟩))))
    ⟨[(2, AV.ref 2 0), (3, AV.ref 3 0), (56, slO rf), (57, AV.int IntKind.i64 L.length), (58, AV.int IntKind.i64 0)],
      [(3, AObj.cells [AV.str dk, AV.str sp, AV.int IntKind.i64 fo, AV.str p, AV.int IntKind.i64 P, AV.bool hs, AV.nilS, AV.int IntKind.i64 ri, slO rua, slO ruf, AV.str sub]),
       (2, AObj.cells [AV.str [], AV.str [], AV.int IntKind.i64 0, AV.str [], AV.int IntKind.i64 0, AV.bool false, AV.nilS, AV.int IntKind.i64 0, AV.nilS, AV.nilS, AV.str []])]⟩ := by
  have cu := slO_cells rua
  have cf := slO_cells ruf
  have cn := slO_cells (if L = [] then none else rf)
  simp only [cells] at cu cf cn
  refine awp_loop2 (σ := List L8 × List L8) (fun q => ⟨[(2, AV.ref 2 0), (3, AV.ref 3 0), (56, slO rf), (57, AV.int IntKind.i64 L.length), (58, AV.int IntKind.i64 q.1.length)],
      hpM q.1 [(3, AObj.cells [AV.str dk, AV.str sp, AV.int IntKind.i64 fo, AV.str p, AV.int IntKind.i64 P, AV.bool hs, slM q.1, AV.int IntKind.i64 ri, slO rua, slO ruf, AV.str sub]),
       (2, AObj.cells [AV.str [], AV.str [], AV.int IntKind.i64 0, AV.str [], AV.int IntKind.i64 0, AV.bool false, AV.nilS, AV.int IntKind.i64 0, AV.nilS, AV.nilS, AV.str []])]⟩)
    (fun q => L = q.1 ++ q.2) (fun q => q.2.length) ([], L) ?_ (by simp) ?_
  · simp [slM, hpM]
  rintro ⟨pre, post⟩ e1 LQ hLQ
  simp only at e1
  have hlen : L.length = pre.length + post.length := by rw [e1]; simp
  cases post with
  | nil =>
    simp only [List.append_nil] at e1
    subst e1
    by_cases hp : L = []
    · subst hp
      have hs' : slM [] = .nilS := rfl
      have hh : ∀ h, hpM [] h = h := fun h => rfl
      simp -implicitDefEqProofs [b_impl_recordOf_1, t_impl_recordOf_2, hs', hh, cu, cf, MR.cells]
    · have hs' : slM L = .msl 66 1 0 L.length := by simp [slM, hp]
      have hh : ∀ h, hpM L h = (66, .cells (strsA L)) :: h := fun h => by simp [hpM, hp]
      obtain rfl : rf = some L := by
        cases rf with
        | none => simp at hL; exact absurd hL hp
        | some l => simp at hL; rw [hL]
      simp -implicitDefEqProofs [b_impl_recordOf_1, t_impl_recordOf_2, hs', hh, cu, cf, hp, MR.cells]
  | cons x post =>
    obtain rfl : rf = some L := by
      cases rf with
      | none => simp at hL; rw [hL] at e1; simp at e1
      | some l => simp at hL; rw [hL]
    have hlen' : L.length = pre.length + (post.length + 1) := by rw [e1]; simp
    have hlt : (pre.length : Int) < (L.length : Int) := by omega
    have g : L[pre.length]? = some x := by rw [e1]; exact get_mid rfl
    have ew : IntKind.i64.wrap ((pre.length : Int) + 1) = (pre.length : Int) + 1 := wrap64 (by omega) (by omega)
    have fin := fun st => hLQ (pre ++ [x], post) (by rw [e1]; simp) (by simp) st
    have hs2 : slM (pre ++ [x]) = .msl 66 1 0 (pre.length + 1) := by simp [slM]
    have hh2 : ∀ h, hpM (pre ++ [x]) h = (66, .cells (strsA pre ++ [.str x])) :: h := fun h => by simp [hpM]
    simp only [hs2, hh2] at fin
    by_cases hp : pre = []
    · subst hp
      simp at g
      have h0 : 0 < L.length := by simp at hlen; omega
      have ew1 : IntKind.i64.wrap 1 = 1 := rfl
      have g0 : L[0] = x := by rw [List.getElem?_eq_getElem h0] at g; injection g
      have hs' : slM [] = .nilS := rfl
      have hh : ∀ h, hpM [] h = h := fun h => rfl
      simp -implicitDefEqProofs [b_impl_recordOf_1, h0, g0, hs', hh, ew1]
      refine fin _ ?_
      simp
    · have hs' : slM pre = .msl 66 1 0 pre.length := by simp [slM, hp]
      have hh : ∀ h, hpM pre h = (66, .cells (strsA pre)) :: h := fun h => by simp [hpM, hp]
      simp -implicitDefEqProofs [b_impl_recordOf_1, hlt, g, hs', hh, ew]
      refine ⟨by omega, ?_⟩
      refine fin _ ?_
      simp

set_option maxHeartbeats 1000000 in
theorem ok_recordOf (Γ : Gam) : ∀ args r, con_recordOf args = some r → runs Γ c_impl_recordOf args (fun v => v = r) := by
  intro args q h
  simp only [con_recordOf] at h
  split at h <;> (try simp at h; done)
  rename_i c
  split at h <;> (try simp at h; done)
  rename_i r hr
  obtain ⟨hl, rfl⟩ := ite_some h
  clear h
  rw [asDR_spec hr]
  clear hr
  obtain ⟨dk, sp, fo, p, pct, rf, ri, rua, ruf, sub⟩ := r
  simp only at hl
  have hl' := hl
  simp only [mid] at hl'
  generalize hL : rf.getD [] = L at *
  have hal : ∀ hp, alen hp 1 (slO rf) = some L.length := fun hp => by rw [slO_alen, hL]
  have hrec : recM ⟨dk, sp, fo, p, pct, rf, ri, rua, ruf, sub⟩ = ⟨dk, sp, fo, p, pct.getD 0, pct.isSome, if L = [] then none else rf, IntKind.i64.wrap (ri * 1000000000), rua, ruf, sub⟩ := by simp [recM, hL]
  have cu := slO_cells rua
  have cf := slO_cells ruf
  have cn := fun l => slN_cells l
  simp only [cells] at cu cf cn
  cases pct with
  | none =>
    simp -implicitDefEqProofs [-alen, c_impl_recordOf, DR.cells, hal, cu, cf]
    rw [hrec]
    exact ro_loop dk sp fo p 0 false rf _ rua ruf sub L hL hl'
  | some n =>
    simp -implicitDefEqProofs [-alen, c_impl_recordOf, DR.cells, hal, cu, cf]
    rw [hrec]
    exact ro_loop dk sp fo p n true rf _ rua ruf sub L hL hl'
/-- What Parse gives is one of its errors, or a record whose rf is short. -/
def mdOk : AV ⊕ DR → Prop
  | .inl e => e = .ifc 3 .junk ∨ ∃ m, e = eN m
  | .inr r => (r.rf.getD []).length ≤ mid

section
variable (acc : List KVp) (ha : valsOk acc)
theorem sp_ok {r : DR} (h : (r.rf.getD []).length ≤ mid) : mdOk (mdSp acc r) := by
  unfold mdSp
  split
  · exact h
  · split
    · exact h
    · exact .inr ⟨_, rfl⟩
theorem ruf_ok {r : DR} (h : (r.rf.getD []).length ≤ mid) : mdOk (mdRuf acc r) := by
  unfold mdRuf
  apply sp_ok
  split <;> exact h
theorem rua_ok {r : DR} (h : (r.rf.getD []).length ≤ mid) : mdOk (mdRua acc r) := by
  unfold mdRua
  apply ruf_ok
  split <;> exact h
theorem ri_ok {r : DR} (h : (r.rf.getD []).length ≤ mid) : mdOk (mdRi acc r) := by
  unfold mdRi
  split
  · exact rua_ok acc h
  · split
    · split
      · exact .inr ⟨_, rfl⟩
      · exact rua_ok acc h
    · exact .inr ⟨_, rfl⟩
include ha
theorem rf_ok {r : DR} (h : (r.rf.getD []).length ≤ mid) : mdOk (mdRf acc r) := by
  unfold mdRf
  split
  · exact ri_ok acc h
  · rename_i v hf
    have hv := ha _ (findP_in hf)
    have hl := splitB_length 58 v
    have hv1 := hv.1
    simp only at hv1
    split
    · rename_i hall
      refine ri_ok acc ?_
      simp only [Option.getD_some]
      omega
    · exact .inr ⟨_, rfl⟩
theorem pct_ok {r : DR} (h : (r.rf.getD []).length ≤ mid) : mdOk (mdPct acc r) := by
  unfold mdPct
  split
  · exact rf_ok acc ha h
  · split
    · split
      · exact .inr ⟨_, rfl⟩
      · exact rf_ok acc ha h
    · exact .inr ⟨_, rfl⟩
theorem fo_ok {r : DR} (h : (r.rf.getD []).length ≤ mid) : mdOk (mdFo acc r) := by
  unfold mdFo
  split
  · exact pct_ok acc ha h
  · split
    · exact pct_ok acc ha h
    · exact .inr ⟨_, rfl⟩
theorem aspf_ok {r : DR} (h : (r.rf.getD []).length ≤ mid) : mdOk (mdAspf acc r) := by
  unfold mdAspf
  split
  · exact fo_ok acc ha h
  · split
    · exact fo_ok acc ha h
    · exact .inr ⟨_, rfl⟩
theorem adkim_ok {r : DR} (h : (r.rf.getD []).length ≤ mid) : mdOk (mdAdkim acc r) := by
  unfold mdAdkim
  split
  · exact aspf_ok acc ha h
  · split
    · exact aspf_ok acc ha h
    · exact .inr ⟨_, rfl⟩
theorem all_ok : mdOk (mdAll acc) := by
  unfold mdAll
  split
  · split
    · exact .inr ⟨_, rfl⟩
    · split
      · exact adkim_ok acc ha (by simp [dr0])
      · exact .inr ⟨_, rfl⟩
  · exact .inl rfl
end
theorem text_ok {s : L8} (hs : s.length < mid) (hp : plain s = true) : mdOk (mdText s) := by
  have ha := prd2_vals s.length hs (splitB 59 s) [] (fun p hp' => ⟨splitB_mem_length 59 s p hp', splitB_plain 59 s p hp hp'⟩) (fun q hq => by simp at hq)
  unfold mdText
  split
  · exact all_ok _ ha
  · exact .inr ⟨_, rfl⟩

def mpV : AV ⊕ DR → AV
  | .inl _ => .tup [.agg mr0.cells, .bool false]
  | .inr r => .tup [.agg (recM r).cells, .bool true]
def con_MParse : List AV → Option AV
  | [.str s] => if s.length < mid ∧ plain s = true then some (mpV (mdText s)) else none
  | _ => none

theorem ok_MParse (Γ : Gam) (h142 : Γ.fn 142 = con_dmParse) (h143 : Γ.fn 143 = con_recordOf) : ∀ args r, con_MParse args = some r → runs Γ c_impl_MParse args (fun v => v = r) := by
  intro args q h
  simp only [con_MParse] at h
  split at h <;> (try simp at h; done)
  rename_i s
  obtain ⟨hs, rfl⟩ := ite_some h
  clear h
  have k : con_dmParse [.str s] = some (mdV (mdText s)) := if_pos hs
  have ho := text_ok hs.1 hs.2
  generalize mdText s = x at *
  cases x with
  | inl e =>
    rcases ho with rfl | ⟨m, rfl⟩ <;> simp -implicitDefEqProofs [c_impl_MParse, acall, h142, k, mdV, mpV, eN, MR.cells, mr0]
  | inr r =>
    have k2 := rec_con ho
    simp only [mpV]
    generalize recM r = R at *
    simp only [MR.cells] at k2
    have cu := slO_cells R.rua
    have cf := slO_cells R.ruf
    have cn := slO_cells R.rf
    simp only [cells] at cu cf cn
    simp -implicitDefEqProofs [c_impl_MParse, acall, h142, h143, k, k2, mdV, cu, cf, cn, MR.cells]
end Wax


namespace Wax
open Go (IntKind)
def tIn : L8 := [118, 61, 68, 77, 65, 82, 67, 49, 59, 32, 112, 61, 110, 111, 110, 101]
def con_awake : List AV → Option AV
  | [] => some (.bool true)
  | _ => none
theorem tIn_ok : mpV (mdText tIn) = .tup [.agg (MR.cells { mr0 with adkim := sR, aspf := sR, p := sNone }), .bool true] := by rfl
theorem ok_awake (Γ : Gam) (h144 : Γ.fn 144 = con_AParse0) (h133 : Γ.fn 133 = con_MParse) : ∀ args r, con_awake args = some r → runs Γ c_laws_awake args (fun v => v = r) := by
  intro args r h
  simp only [con_awake] at h
  split at h <;> (try simp at h; done)
  injection h with h
  subst h
  have k : con_AParse0 [.str [97, 59, 32, 100, 107, 105, 109, 61, 112, 97, 115, 115, 32, 104, 101, 97, 100, 101, 114, 46, 100, 61, 98]] = some aOut := rfl
  have k2 : con_MParse [.str tIn] = some (.tup [.agg (MR.cells { mr0 with adkim := sR, aspf := sR, p := sNone }), .bool true]) := by
    have e : tIn.length < mid ∧ plain tIn = true := ⟨by simp [tIn, mid], by kernel_rfl⟩
    simp only [con_MParse]
    rw [if_pos e, tIn_ok]
  simp only [aOut] at k
  simp only [MR.cells, mr0, slO_none, tIn, sR, sNone] at k2
  simp -implicitDefEqProofs [c_laws_awake, acall, h144, h133, k, k2, sNone]
end Wax


namespace Wax
open Go (IntKind)

section
variable {Γ : Gam} (h99 : Γ.fn 99 = con_MailKeyword) (h100 : Γ.fn 100 = con_MailAny) (s111 : Γ.st 111 = con_MPut) (h112 : Γ.fn 112 = con_MailLower) (h113 : Γ.fn 113 = con_MKnown)

theorem low_con {n : L8} (hn : n.length < mid) : con_MailLower [.str n] = some (.str (lowS n)) := if_pos (by simp only [mid] at hn; simp only [big]; omega)

include h112
include h100
include h113
end
end Wax


namespace Wax
open Go (IntKind)

@[simp] theorem mrc_refs (r : MR) : refsL r.cells = [] := by simp [MR.cells]
@[simp] theorem mrc_map (r : MR) (g : Nat → Nat) : mapIdL g r.cells = r.cells := by simp [MR.cells]
@[simp] theorem mrc_kill (r : MR) (d : Nat) : killL d r.cells = r.cells := by simp [MR.cells]
@[simp] theorem mrc_snapW (r : MR) (g : AV → AV) : snapWL g r.cells = r.cells := by simp [MR.cells]
@[simp] theorem mrc_len (r : MR) : r.cells.length = 11 := rfl

theorem kw_con {n : L8} (hn : n.length < mid) : con_MailKeyword [.str n] = some (.bool (mKw n)) := if_pos (by simp only [mid] at hn; simp only [big]; omega)

end Wax


namespace Wax
open Go (IntKind)

/-- The k-th row of blanks. -/
def spAt (fm : L8) (k : Nat) : L8 := if fm = [] then [] else mSpace (fm.getD (k % fm.length) 0).toNat
theorem mSpace_len (n : Nat) : (mSpace n).length ≤ 2 := by
  have h : n % 6 < 6 := Nat.mod_lt _ (by omega)
  simp only [mSpace]
  generalize n % 6 = q at *
  match q, h with
  | 0, _ => simp
  | 1, _ => simp
  | 2, _ => simp
  | 3, _ => simp
  | 4, _ => simp
  | 5, _ => simp
theorem spAt_len (fm : L8) (k : Nat) : (spAt fm k).length ≤ 2 := by
  unfold spAt
  split
  · simp
  · exact mSpace_len _

def oneT (fm : L8) (k : Nat) (t : KVp) : L8 := spAt fm (k + 1) ++ 59 :: (spAt fm (k + 2) ++ t.1 ++ spAt fm (k + 3) ++ 61 :: (spAt fm (k + 4) ++ t.2))
def tagsT (fm : L8) : Nat → List KVp → L8
  | _, [] => []
  | k, t :: r => oneT fm k t ++ tagsT fm (k + 4) r
def headT (fm : L8) : L8 := 118 :: (spAt fm 1 ++ 61 :: (spAt fm 2 ++ sDM))
def mText (fm : L8) (l : List KVp) (e : Bool) : L8 := headT fm ++ tagsT fm 2 l ++ (if e then spAt fm (2 + 4 * l.length + 1) ++ [59] else [])

theorem oneT_len {fm : L8} {k : Nat} {t : KVp} (h1 : t.1.length ≤ 20) (h2 : t.2.length ≤ 200) : (oneT fm k t).length ≤ 230 := by
  have a := spAt_len fm (k + 1)
  have b := spAt_len fm (k + 2)
  have c := spAt_len fm (k + 3)
  have d := spAt_len fm (k + 4)
  simp [oneT]; omega
theorem tagsT_len {fm : L8} : ∀ {l : List KVp} {k : Nat}, (∀ t ∈ l, t.1.length ≤ 20 ∧ t.2.length ≤ 200) → (tagsT fm k l).length ≤ 230 * l.length
  | [], _, _ => by simp [tagsT]
  | t :: l, k, h => by
    have h1 := h t (by simp)
    have := tagsT_len (fm := fm) (l := l) (k := k + 4) (fun t ht => h t (by simp [ht]))
    have o := oneT_len (fm := fm) (k := k) h1.1 h1.2
    simp only [tagsT, List.length_append, List.length_cons]; omega
theorem headT_len (fm : L8) : (headT fm).length ≤ 12 := by
  have a := spAt_len fm 1
  have b := spAt_len fm 2
  simp [headT, sDM]; omega

end Wax


namespace Wax
open Go (IntKind)

def gB (c : UInt8) : Prop := 32 < c.toNat ∧ c.toNat < 127 ∧ c ≠ 59
def allBl (s : L8) : Prop := ∀ x ∈ s, blB x = true
theorem blB_ws {x : UInt8} (h : blB x = true) : isWs x.toNat = true := by
  simp only [blB, decide_eq_true_eq] at h
  simp only [isWs, decide_eq_true_eq]
  omega
theorem gB_ws {x : UInt8} (h : gB x) : isWs x.toNat = false := by
  obtain ⟨h1, h2, _⟩ := h
  simp only [isWs, decide_eq_false_iff_not]
  omega
theorem allBl_ws {s : L8} (h : allBl s) : allWs s := fun x hx => blB_ws (h x hx)
theorem allBl_no {s : L8} (h : allBl s) {n : Int} (hn : 32 < n) : noB n s := by
  intro x hx
  have := h x hx
  simp only [blB, decide_eq_true_eq] at this
  omega
theorem allBl_nil : allBl [] := by intro x hx; simp at hx
theorem mSpace_bl (n : Nat) : allBl (mSpace n) := by
  have h : n % 6 < 6 := Nat.mod_lt _ (by omega)
  simp only [mSpace]
  generalize n % 6 = q at *
  match q, h with
  | 0, _ => simp [allBl, blB]
  | 1, _ => simp [allBl, blB]
  | 2, _ => simp [allBl, blB]
  | 3, _ => simp [allBl, blB]
  | 4, _ => simp [allBl, blB]
  | 5, _ => simp [allBl, blB]
theorem spAt_bl (fm : L8) (k : Nat) : allBl (spAt fm k) := by
  unfold spAt
  split
  · exact allBl_nil
  · exact mSpace_bl _
theorem trimS_mid {a n b : L8} (ha : allBl a) (hn : ∀ x ∈ n, gB x) (hne : n ≠ []) (hb : allBl b) : trimS (a ++ n ++ b) = n := by
  have e : trimS (a ++ n ++ b) = trimS (n ++ b) := by
    rw [List.append_assoc]
    simp only [trimS]
    rw [trimL_app (allBl_ws ha)]
  rw [e]
  exact trimS_word (fun x hx => gB_ws (hn x hx)) hne (allBl_ws hb)
theorem trimS_bl {a : L8} (ha : allBl a) : trimS a = [] := by
  have e := trimL_app (a := a) (b := []) (allBl_ws ha)
  simp only [List.append_nil] at e
  simp only [trimS, e]
  rfl

/-- A tag whose name and value are words. -/
structure Gt (t : KVp) : Prop where
  n1 : t.1 ≠ []
  n2 : ∀ x ∈ t.1, gB x ∧ x ≠ 61
  v1 : t.2 ≠ []
  v2 : ∀ x ∈ t.2, gB x

/-- A piece of a text that says a tag. -/
def Pc (p : L8) (t : KVp) : Prop := ∃ a b c d, allBl a ∧ allBl b ∧ allBl c ∧ allBl d ∧ p = a ++ t.1 ++ b ++ 61 :: (c ++ t.2 ++ d)

theorem prd2_pc {p : L8} {t : KVp} (h : Pc p t) (g : Gt t) {acc : List KVp} (hk : hasK t.1 acc = false) (r : List L8) : prd2 (p :: r) acc = prd2 r (acc ++ [t]) := by
  obtain ⟨a, b, c, d, ha, hb, hc, hd, rfl⟩ := h
  have hno : noB (61 : UInt8).toNat (a ++ t.1 ++ b) := by
    intro x hx
    simp only [List.mem_append] at hx
    rcases hx with (hx | hx) | hx
    · exact allBl_no ha (by decide) x hx
    · have := (g.n2 x hx).2
      intro e
      exact this (UInt8.toNat_inj.1 (by exact_mod_cast e))
    · exact allBl_no hb (by decide) x hx
  have e : cutAt 61 (a ++ t.1 ++ b ++ 61 :: (c ++ t.2 ++ d)) = some (a ++ t.1 ++ b, c ++ t.2 ++ d) := cutAt_noB hno
  simp only [prd2, e]
  rw [trimS_mid ha (fun x hx => (g.n2 x hx).1) g.n1 hb, trimS_mid hc g.v2 g.v1 hd, psetL_new hk]
theorem prd2_bl {p : L8} (h : allBl p) (r : List L8) (acc : List KVp) : prd2 (p :: r) acc = prd2 r acc := by
  have e : cutAt 61 p = none := by
    have := cutAt_app 61 p [] (allBl_no h (by decide))
    simpa [cutAt] using this
  simp only [prd2, e, trimS_bl h, if_true]

def tailT (fm : L8) (k : Nat) (e : Bool) : L8 := if e then spAt fm (k + 1) ++ [59] else []
def pcsL (fm : L8) : Nat → L8 → List KVp → Bool → List L8
  | k, cur, [], e => if e then [cur ++ spAt fm (k + 1), []] else [cur]
  | k, cur, t :: r, e => (cur ++ spAt fm (k + 1)) :: pcsL fm (k + 4) (spAt fm (k + 2) ++ t.1 ++ spAt fm (k + 3) ++ 61 :: (spAt fm (k + 4) ++ t.2)) r e
theorem noB_app {c : Int} {a b : L8} (ha : noB c a) (hb : noB c b) : noB c (a ++ b) := by
  intro x hx
  rcases List.mem_append.1 hx with hx | hx
  · exact ha x hx
  · exact hb x hx
theorem gB_no {s : L8} (h : ∀ x ∈ s, gB x) : noB 59 s := fun x hx e => (h x hx).2.2 (UInt8.toNat_inj.1 (by exact_mod_cast e))
theorem cur_no {fm : L8} {k : Nat} {t : KVp} (g : Gt t) : noB 59 (spAt fm (k + 2) ++ t.1 ++ spAt fm (k + 3) ++ 61 :: (spAt fm (k + 4) ++ t.2)) := by
  have h1 : noB 59 (61 :: (spAt fm (k + 4) ++ t.2)) := by
    intro x hx
    rcases List.mem_cons.1 hx with rfl | hx
    · decide
    · exact noB_app (allBl_no (spAt_bl fm _) (by decide)) (gB_no g.v2) x hx
  exact noB_app (noB_app (noB_app (allBl_no (spAt_bl fm _) (by decide)) (gB_no fun x hx => (g.n2 x hx).1)) (allBl_no (spAt_bl fm _) (by decide))) h1
theorem split_tags (fm : L8) (e : Bool) : ∀ (l : List KVp) (k : Nat) (cur : L8), noB 59 cur → (∀ t ∈ l, Gt t) → splitB 59 (cur ++ (tagsT fm k l ++ tailT fm (k + 4 * l.length) e)) = pcsL fm k cur l e
  | [], k, cur, hc, _ => by
    cases e with
    | false =>
      simp only [tagsT, tailT, pcsL]
      simpa using splitB_only (b := 59) hc
    | true =>
      have h := splitB_app (b := 59) (post := []) (noB_app hc (allBl_no (spAt_bl fm (k + 1)) (by decide)))
      simp only [tagsT, tailT, pcsL, List.nil_append, List.length_nil, Nat.mul_zero, Nat.add_zero, if_true]
      rw [← List.append_assoc]
      simpa [splitB] using h
  | t :: r, k, cur, hc, hg => by
    have ih := split_tags fm e r (k + 4) _ (cur_no (fm := fm) (k := k) (hg t (by simp))) (fun t' ht => hg t' (by simp [ht]))
    have h := splitB_app (b := 59) (post := (spAt fm (k + 2) ++ t.1 ++ spAt fm (k + 3) ++ 61 :: (spAt fm (k + 4) ++ t.2)) ++ (tagsT fm (k + 4) r ++ tailT fm (k + 4 + 4 * r.length) e)) (noB_app hc (allBl_no (spAt_bl fm (k + 1)) (by decide)))
    simp only [pcsL]
    rw [← ih, ← h]
    have e4 : k + 4 * (t :: r).length = k + 4 + 4 * r.length := by simp; omega
    rw [e4]
    congr 1
    simp [tagsT, oneT]
theorem prd2_pcsL (fm : L8) (e : Bool) : ∀ (l : List KVp) (k : Nat) (cur : L8) (t : KVp) (acc : List KVp), (∃ a b c, allBl a ∧ allBl b ∧ allBl c ∧ cur = a ++ t.1 ++ b ++ 61 :: (c ++ t.2)) → Gt t → (∀ t ∈ l, Gt t) → ((acc ++ t :: l).map (·.1)).Nodup → prd2 (pcsL fm k cur l e) acc = (acc ++ t :: l, true)
  | [], k, cur, t, acc, ⟨a, b, c, ha, hb, hc, hcur⟩, g, _, nd => by
    have hk : hasK t.1 acc = false := by
      simp only [hasK, List.any_eq_false, decide_eq_true_eq]
      intro u hu e
      rw [List.map_append, List.nodup_append] at nd
      exact nd.2.2 u.1 (List.mem_map.2 ⟨u, hu, rfl⟩) t.1 (by simp) e.symm
    cases e with
    | false =>
      simp only [pcsL]
      rw [if_neg (by simp), prd2_pc ⟨a, b, c, [], ha, hb, hc, allBl_nil, by simpa using hcur⟩ g hk]
      rfl
    | true =>
      simp only [pcsL, if_true]
      rw [prd2_pc ⟨a, b, c, spAt fm (k + 1), ha, hb, hc, spAt_bl _ _, by rw [hcur]; simp⟩ g hk, prd2_bl allBl_nil]
      rfl
  | t2 :: r, k, cur, t, acc, ⟨a, b, c, ha, hb, hc, hcur⟩, g, hg, nd => by
    have hk : hasK t.1 acc = false := by
      simp only [hasK, List.any_eq_false, decide_eq_true_eq]
      intro u hu e
      rw [List.map_append, List.nodup_append] at nd
      exact nd.2.2 u.1 (List.mem_map.2 ⟨u, hu, rfl⟩) t.1 (by simp) e.symm
    simp only [pcsL]
    rw [prd2_pc ⟨a, b, c, spAt fm (k + 1), ha, hb, hc, spAt_bl _ _, by rw [hcur]; simp⟩ g hk]
    rw [prd2_pcsL fm e r (k + 4) _ t2 (acc ++ [t]) ⟨spAt fm (k + 2), spAt fm (k + 3), spAt fm (k + 4), spAt_bl _ _, spAt_bl _ _, spAt_bl _ _, rfl⟩ (hg t2 (by simp)) (fun t' ht => hg t' (by simp [ht])) (by simpa using nd)]
    simp
theorem gt_v : Gt (kV, sDM) := ⟨by simp [kV], by simp only [kV, gB]; decide, by simp [sDM], by simp only [sDM, gB]; decide⟩
theorem mText_eq (fm : L8) (l : List KVp) (e : Bool) : mText fm l e = (spAt [] 0 ++ kV ++ spAt fm 1 ++ 61 :: (spAt fm 2 ++ sDM)) ++ (tagsT fm 2 l ++ tailT fm (2 + 4 * l.length) e) := by
  simp [mText, headT, tailT, kV, spAt]
/-- The text of tags, read. -/
theorem prd2_text (fm : L8) (l : List KVp) (e : Bool) (hg : ∀ t ∈ l, Gt t) (nd : (((kV, sDM) :: l).map (·.1)).Nodup) : prd2 (splitB 59 (mText fm l e)) [] = ((kV, sDM) :: l, true) := by
  have hno : noB 59 (spAt [] 0 ++ kV ++ spAt fm 1 ++ 61 :: (spAt fm 2 ++ sDM)) := by
    have h1 : noB 59 (61 :: (spAt fm 2 ++ sDM)) := by
      intro x hx
      rcases List.mem_cons.1 hx with rfl | hx
      · decide
      · exact noB_app (allBl_no (spAt_bl fm _) (by decide)) (gB_no gt_v.v2) x hx
    exact noB_app (noB_app (noB_app (allBl_no (spAt_bl [] _) (by decide)) (gB_no fun x hx => (gt_v.n2 x hx).1)) (allBl_no (spAt_bl fm _) (by decide))) h1
  rw [mText_eq, split_tags fm e l 2 _ hno hg]
  exact prd2_pcsL fm e l 2 _ (kV, sDM) [] ⟨spAt [] 0, spAt fm 1, spAt fm 2, spAt_bl _ _, spAt_bl _ _, spAt_bl _ _, rfl⟩ gt_v hg (by simpa using nd)
end Wax


namespace Wax
open Go (IntKind)

theorem pu_num : ∀ (l : L8) (acc : Nat), l.all digB = true → (acc + 1) * 10 ^ l.length ≤ 100000000000 → ∃ m : Nat, Go.Lib.parseUint10 acc l = .ok m ∧ numW (acc : Int) l = (m : Int) ∧ m + 1 ≤ 100000000000
  | [], acc, _, h => ⟨acc, rfl, rfl, by simpa using h⟩
  | c :: r, acc, hd, h => by
    simp only [List.all_cons, Bool.and_eq_true] at hd
    have hc := hd.1
    simp only [digB, decide_eq_true_eq] at hc
    have hp : 1 ≤ 10 ^ r.length := Nat.pos_of_ne_zero (by simp)
    have h2 : (acc + 1) * 10 * 10 ^ r.length ≤ 100000000000 := by
      have : (acc + 1) * 10 ^ (c :: r).length = (acc + 1) * 10 * 10 ^ r.length := by rw [List.length_cons, Nat.pow_succ]; simp [Nat.mul_assoc, Nat.mul_comm]
      omega
    have h3 : (acc + 1) * 10 ≤ 100000000000 := Nat.le_trans (Nat.le_mul_of_pos_right _ hp) h2
    have h4 : (acc * 10 + (c.toNat - 48) + 1) * 10 ^ r.length ≤ 100000000000 := Nat.le_trans (Nat.mul_le_mul_right _ (by omega)) h2
    obtain ⟨m, e1, e2, e3⟩ := pu_num r (acc * 10 + (c.toNat - 48)) hd.2 h4
    refine ⟨m, ?_, ?_, e3⟩
    · simp only [Go.Lib.parseUint10]
      rw [if_pos hc, if_neg (by omega), if_neg (by omega), e1]
    · rw [← e2]
      have w1 : IntKind.i64.wrap (10 * (acc : Int)) = 10 * (acc : Int) := wrap64 (by omega) (by omega)
      have w2 : IntKind.i64.wrap (10 * (acc : Int) + ((c.toNat : Int) - 48)) = ((acc * 10 + (c.toNat - 48) : Nat) : Int) := by
        rw [wrap64 (by omega) (by omega)]; omega
      simp only [numW, List.foldl_cons, w1, w2]
theorem num_atoi {v : L8} {n : Int} (h : (mNum v n).2 = true) (hn : n ≤ 10) : ∃ m : Nat, Go.Lib.atoiAll v = .ok (m : Int) ∧ (mNum v n).1 = (m : Int) ∧ m + 1 ≤ 100000000000 := by
  unfold mNum at h ⊢
  split at h
  · rename_i hd
    rw [if_pos hd]
    simp only [Bool.and_eq_true, decide_eq_true_eq] at h
    obtain ⟨h1, h2⟩ := h
    have hp : 10 ^ v.length ≤ 10 ^ 10 := Nat.pow_le_pow_right (by omega) (by omega)
    obtain ⟨m, e1, e2, e3⟩ := pu_num v 0 hd (by omega)
    refine ⟨m, ?_, by simpa using e2, e3⟩
    cases v with
    | nil => exact absurd rfl h1
    | cons c r =>
      simp only [List.all_cons, Bool.and_eq_true] at hd
      have hc := hd.1
      simp only [digB, decide_eq_true_eq] at hc
      have e0 : Go.Lib.parseMag (c :: r) = .ok m := by simp only [Go.Lib.parseMag]; rw [if_neg (by simp), e1]
      simp only [Go.Lib.atoiAll]
      rw [if_neg (by omega), e0]
      simp only
      rw [if_neg (by omega), if_neg (by omega), if_neg (by omega)]
  · simp at h

theorem tokB_g {c : UInt8} (h : tokB c = true) : gB c := by
  simp only [tokB, Bool.and_eq_true, decide_eq_true_eq, Bool.not_eq_true'] at h
  refine ⟨h.1.1, h.1.2, ?_⟩
  rintro rfl
  simp [tokStop] at h
theorem kwB_g {c : UInt8} (h : kwB c = true) : gB c ∧ c ≠ 61 := by
  simp only [kwB, decide_eq_true_eq] at h
  refine ⟨⟨by omega, by omega, ?_⟩, ?_⟩ <;> rintro rfl <;> simp at h
theorem digB_g {c : UInt8} (h : digB c = true) : gB c := by
  simp only [digB, decide_eq_true_eq] at h
  refine ⟨by omega, by omega, ?_⟩; rintro rfl; simp at h
theorem split_g {b : UInt8} (hb : gB b) : ∀ {v : L8}, (∀ p ∈ splitB b v, ∀ x ∈ p, gB x) → ∀ x ∈ v, gB x
  | [], _, x, hx => by simp at hx
  | c :: r, h, x, hx => by
    simp only [splitB] at h
    split at h
    · rename_i e
      rcases List.mem_cons.1 hx with rfl | hx
      · rw [e]; exact hb
      · exact split_g hb (v := r) (fun p hp => h p (by simp [hp])) x hx
    · cases hs : splitB b r with
      | nil => exact absurd hs (splitB_ne b r)
      | cons p t =>
        rw [hs] at h
        simp only at h
        rcases List.mem_cons.1 hx with rfl | hx
        · exact h (x :: p) (by simp) x (by simp)
        · refine split_g hb (v := r) ?_ x hx
          intro q hq y hy
          rw [hs] at hq
          rcases List.mem_cons.1 hq with rfl | hq
          · exact h (c :: q) (by simp) y (by simp [hy])
          · exact h q (by simp [hq]) y hy
theorem mlist_g {b : UInt8} (hb : gB b) {right : L8 → Bool} (hr : ∀ p, right p = true → ∀ x ∈ p, gB x) {v : L8} (h : (mlist b right v).isSome = true) : (∀ x ∈ v, gB x) ∧ mlist b right v = some (splitB b v) ∧ (splitB b v).all right = true := by
  unfold mlist at h ⊢
  split at h
  · rename_i ha
    rw [if_pos ha]
    refine ⟨split_g hb (fun p hp => hr p (List.all_eq_true.1 ha p hp)), rfl, ha⟩
  · simp at h
theorem dom_g {s : L8} (h : mDom s = true) : ∀ x ∈ s, gB x := by
  simp only [mDom, Bool.and_eq_true] at h
  refine split_g (b := 46) (by simp only [gB]; decide) (fun p hp x hx => ?_)
  have := List.all_eq_true.1 h.1 p hp
  simp only [Bool.and_eq_true, mKw] at this
  exact (kwB_g (List.all_eq_true.1 this.1.1.1.1 x hx)).1
theorem cut_mem {c : UInt8} {s : L8} {p : L8 × L8} (h : cutAt c.toNat s = some p) : s = p.1 ++ c :: p.2 := by
  obtain ⟨x, hx, e, _⟩ := cutAt_eq (a := p.1) (b := p.2) h
  have : x = c := UInt8.toNat_inj.1 (by exact_mod_cast hx)
  rw [e, this]
theorem addr_g {s : L8} (h : addrB s = true) : ∀ x ∈ s, gB x := by
  unfold addrB at h
  split at h
  · rename_i p hp
    simp only [Bool.and_eq_true, mTok] at h
    rw [cut_mem (c := 64) hp]
    intro x hx
    simp only [List.mem_append, List.mem_cons] at hx
    rcases hx with hx | rfl | hx
    · exact tokB_g (List.all_eq_true.1 h.1.1 x hx)
    · simp only [gB]; decide
    · exact dom_g h.2 x hx
  · simp at h
theorem mNum_g {v : L8} {n : Int} (h : (mNum v n).2 = true) : ∀ x ∈ v, gB x := by
  unfold mNum at h
  split at h
  · rename_i hd
    exact fun x hx => digB_g (List.all_eq_true.1 hd x hx)
  · simp at h
theorem size_g {s : L8} (h : ∀ x ∈ sizeOff s, gB x) : ∀ x ∈ s, gB x := by
  unfold sizeOff at h
  split at h
  · rename_i c hc
    split at h
    · rename_i hk
      have e : s = s.dropLast ++ [c] := by
        rw [List.getLast?_eq_some_iff] at hc
        obtain ⟨ys, rfl⟩ := hc
        simp
      rw [e]
      intro x hx
      simp only [List.mem_append, List.mem_singleton] at hx
      rcases hx with hx | rfl
      · exact h x hx
      · simp only [sKmgt, List.contains_eq_mem, decide_eq_true_eq, List.mem_cons, List.not_mem_nil, or_false] at hk
        rcases hk with rfl | rfl | rfl | rfl <;> (simp only [gB]; decide)
    · exact h
  · exact h
theorem muri_g {s : L8} (h : muri s = true) : ∀ x ∈ s, gB x := by
  simp only [muri, Bool.and_eq_true, decide_eq_true_eq] at h
  obtain ⟨⟨h1, h2⟩, h3⟩ := h
  have hd : ∀ x ∈ s.drop 7, gB x := by
    split at h3
    · rename_i p hp
      simp only [Bool.and_eq_true] at h3
      rw [cut_mem (c := 33) hp]
      intro x hx
      simp only [List.mem_append, List.mem_cons] at hx
      rcases hx with hx | rfl | hx
      · exact addr_g h3.2 x hx
      · simp only [gB]; decide
      · exact size_g (mNum_g h3.1) x hx
    · exact addr_g h3
  rw [← List.take_append_drop 7 s, h2]
  intro x hx
  rcases List.mem_append.1 hx with hx | hx
  · clear h3 hd h1 h2
    have hm : ∀ y ∈ sMailto, gB y := by simp only [sMailto, gB]; decide
    exact hm x hx
  · exact hd x hx
theorem foOk_c {s : L8} (h : foOk s = true) : ∃ c, s = [c] ∧ (c = 48 ∨ c = 49 ∨ c = 100 ∨ c = 115) := by
  unfold foOk at h
  split at h
  · rename_i c
    simp only [s01ds, List.contains_eq_mem, decide_eq_true_eq, List.mem_cons, List.not_mem_nil, or_false] at h
    exact ⟨c, rfl, h⟩
  · simp at h
theorem foOk_g {s : L8} (h : foOk s = true) : ∀ x ∈ s, gB x := by
  obtain ⟨c, rfl, rfl | rfl | rfl | rfl⟩ := foOk_c h <;> (simp only [gB]; decide)
/-- What is asked of tags, in whatever order. -/
structure Rd (l : List KVp) : Prop where
  ok : ∀ t ∈ l, mOk t = true ∧ Gt t
  nd : (((kV, sDM) :: l).map (·.1)).Nodup
  p : ∃ v, findP l kP = some v

def recOf (f : L8 → Option L8) : DR :=
  { dk := (f kAdkim).getD sR, sp := (f kAspf).getD sR, fo := (match f kFo with | none => 0 | some v => foOf (splitB 58 v)), p := (f kP).getD [], pct := (f kPct).map fun v => (mNum v 3).1,
    rf := (f kRf).map (splitB 58), ri := (match f kRi with | none => 0 | some v => (mNum v 10).1), rua := (f kRua).map (splitB 44), ruf := (f kRuf).map (splitB 44), sub := (f kSp).getD [] }

theorem fo2_of : ∀ (L : List L8) (n : Int), L.all foOk = true → fo2 n L = some (L.foldl (fun n x => orI n (foBit x)) n)
  | [], n, _ => rfl
  | x :: r, n, h => by
    simp only [List.all_cons, Bool.and_eq_true] at h
    have ih := fun m => fo2_of r m h.2
    obtain ⟨c, rfl, hc⟩ := foOk_c h.1
    have ht : trimS [c] = [c] := by rcases hc with rfl | rfl | rfl | rfl <;> decide
    have hb : fobit2 [c] = some (foBit [c]) := by
      simp only [fobit2, ht]
      rcases hc with rfl | rfl | rfl | rfl <;> decide
    simp only [fo2, hb, ih, List.foldl_cons]
theorem uris_of {v : L8} (h : (splitB 44 v).all muri = true) : uris v = splitB 44 v := by
  simp only [uris]
  have : ∀ (L : List L8), L.all muri = true → L.map trimS = L := by
    intro L
    induction L with
    | nil => intro _; rfl
    | cons x r ih =>
      intro h
      simp only [List.all_cons, Bool.and_eq_true] at h
      have hne : x ≠ [] := by rintro rfl; simp [muri] at h
      have := trimS_word (n := x) (b := []) (fun y hy => gB_ws (muri_g h.1 y hy)) hne (fun y hy => by simp at hy)
      simp only [List.append_nil] at this
      simp [this, ih h.2]
  exact this _ h

section
variable {acc : List KVp} (ha : ∀ k v, findP acc k = some v → k ≠ kV → mOk (k, v) = true)
include ha
theorem mdSp_of (r : DR) (hr : r.sub = []) : mdSp acc r = .inr { r with sub := (findP acc kSp).getD [] } := by
  unfold mdSp
  split
  · rename_i h; rw [h]; simp [← hr]
  · rename_i v h
    have := ha _ _ h (by decide)
    rw [h]
    have hp : polB v = true := by simpa [mOk, kSp, kAdkim, kAspf, kP] using this
    rw [if_pos hp]; rfl
theorem mdRuf_of (r : DR) (hr : r.sub = [] ∧ r.ruf = none) : mdRuf acc r = .inr { r with sub := (findP acc kSp).getD [], ruf := (findP acc kRuf).map (splitB 44) } := by
  unfold mdRuf
  cases h : findP acc kRuf with
  | none => simp only; rw [mdSp_of ha _ hr.1]; simp [← hr.2]
  | some v =>
    have := ha _ _ h (by decide)
    have hp : (mlist 44 muri v).isSome = true := by simpa [mOk, kSp, kAdkim, kAspf, kP, kFo, kPct, kRf, kRi, kRua, kRuf] using this
    have hu := (mlist_g (by simp only [gB]; decide) (fun p => muri_g) hp).2.2
    simp only
    rw [uris_of hu, mdSp_of ha]; rfl
    exact hr.1
theorem mdRua_of (r : DR) (hr : r.sub = [] ∧ r.ruf = none ∧ r.rua = none) : mdRua acc r = .inr { r with sub := (findP acc kSp).getD [], ruf := (findP acc kRuf).map (splitB 44), rua := (findP acc kRua).map (splitB 44) } := by
  unfold mdRua
  cases h : findP acc kRua with
  | none => simp only; rw [mdRuf_of ha _ ⟨hr.1, hr.2.1⟩]; simp [← hr.2.2]
  | some v =>
    have := ha _ _ h (by decide)
    have hp : (mlist 44 muri v).isSome = true := by simpa [mOk, kSp, kAdkim, kAspf, kP, kFo, kPct, kRf, kRi, kRua, kRuf] using this
    have hu := (mlist_g (by simp only [gB]; decide) (fun p => muri_g) hp).2.2
    simp only
    rw [uris_of hu, mdRuf_of ha]; rfl
    exact ⟨hr.1, hr.2.1⟩
theorem mdRi_of (r : DR) (hr : r.sub = [] ∧ r.ruf = none ∧ r.rua = none ∧ r.ri = 0) : mdRi acc r = .inr { r with sub := (findP acc kSp).getD [], ruf := (findP acc kRuf).map (splitB 44), rua := (findP acc kRua).map (splitB 44), ri := (match findP acc kRi with | none => 0 | some v => (mNum v 10).1) } := by
  unfold mdRi
  cases h : findP acc kRi with
  | none => simp only; rw [mdRua_of ha _ ⟨hr.1, hr.2.1, hr.2.2.1⟩]; simp [← hr.2.2.2]
  | some v =>
    have := ha _ _ h (by decide)
    have hp : ((mNum v 10).2 = true ∧ 0 < (mNum v 10).1) ∧ (mNum v 10).1 < 4294967296 := by simpa [mOk, kSp, kAdkim, kAspf, kP, kFo, kPct, kRf, kRi, kRua, kRuf] using this
    obtain ⟨m, e1, e2, e3⟩ := num_atoi hp.1.1 (by omega)
    simp only [e1, e2]
    rw [if_neg (by omega), mdRua_of ha]
    exact ⟨hr.1, hr.2.1, hr.2.2.1⟩
theorem mdRf_of (r : DR) (hr : r.sub = [] ∧ r.ruf = none ∧ r.rua = none ∧ r.ri = 0 ∧ r.rf = none) : mdRf acc r = .inr { r with sub := (findP acc kSp).getD [], ruf := (findP acc kRuf).map (splitB 44), rua := (findP acc kRua).map (splitB 44), ri := (match findP acc kRi with | none => 0 | some v => (mNum v 10).1), rf := (findP acc kRf).map (splitB 58) } := by
  unfold mdRf
  cases h : findP acc kRf with
  | none => simp only; rw [mdRi_of ha _ ⟨hr.1, hr.2.1, hr.2.2.1, hr.2.2.2.1⟩]; simp [← hr.2.2.2.2]
  | some v =>
    have := ha _ _ h (by decide)
    have hp : (mlist 58 (fun s => decide (s = sAfrf)) v).isSome = true := by simpa [mOk, kSp, kAdkim, kAspf, kP, kFo, kPct, kRf, kRi, kRua, kRuf] using this
    have hu : (splitB 58 v).all (fun s => decide (s = sAfrf)) = true := by
      unfold mlist at hp; split at hp
      · assumption
      · simp at hp
    simp only
    rw [if_pos hu, mdRi_of ha]; rfl
    exact ⟨hr.1, hr.2.1, hr.2.2.1, hr.2.2.2.1⟩
theorem mdPct_of (r : DR) (hr : r.sub = [] ∧ r.ruf = none ∧ r.rua = none ∧ r.ri = 0 ∧ r.rf = none ∧ r.pct = none) : mdPct acc r = .inr { r with sub := (findP acc kSp).getD [], ruf := (findP acc kRuf).map (splitB 44), rua := (findP acc kRua).map (splitB 44), ri := (match findP acc kRi with | none => 0 | some v => (mNum v 10).1), rf := (findP acc kRf).map (splitB 58), pct := (findP acc kPct).map fun v => (mNum v 3).1 } := by
  unfold mdPct
  cases h : findP acc kPct with
  | none => simp only; rw [mdRf_of ha _ ⟨hr.1, hr.2.1, hr.2.2.1, hr.2.2.2.1, hr.2.2.2.2.1⟩]; simp [← hr.2.2.2.2.2]
  | some v =>
    have := ha _ _ h (by decide)
    have hp : (mNum v 3).2 = true ∧ (mNum v 3).1 ≤ 100 := by simpa [mOk, kSp, kAdkim, kAspf, kP, kFo, kPct, kRf, kRi, kRua, kRuf] using this
    obtain ⟨m, e1, e2, e3⟩ := num_atoi hp.1 (by omega)
    simp only [e1, Option.map_some, e2]
    rw [if_neg (by omega), mdRf_of ha]
    exact ⟨hr.1, hr.2.1, hr.2.2.1, hr.2.2.2.1, hr.2.2.2.2.1⟩
theorem mdFo_of (r : DR) (hr : r.sub = [] ∧ r.ruf = none ∧ r.rua = none ∧ r.ri = 0 ∧ r.rf = none ∧ r.pct = none ∧ r.fo = 0) : mdFo acc r = .inr { r with sub := (findP acc kSp).getD [], ruf := (findP acc kRuf).map (splitB 44), rua := (findP acc kRua).map (splitB 44), ri := (match findP acc kRi with | none => 0 | some v => (mNum v 10).1), rf := (findP acc kRf).map (splitB 58), pct := (findP acc kPct).map (fun v => (mNum v 3).1), fo := (match findP acc kFo with | none => 0 | some v => foOf (splitB 58 v)) } := by
  have hr6 : r.sub = [] ∧ r.ruf = none ∧ r.rua = none ∧ r.ri = 0 ∧ r.rf = none ∧ r.pct = none := ⟨hr.1, hr.2.1, hr.2.2.1, hr.2.2.2.1, hr.2.2.2.2.1, hr.2.2.2.2.2.1⟩
  unfold mdFo
  cases h : findP acc kFo with
  | none => simp only; rw [mdPct_of ha _ hr6]; simp [← hr.2.2.2.2.2.2]
  | some v =>
    have := ha _ _ h (by decide)
    have hp : (mlist 58 foOk v).isSome = true := by simpa [mOk, kSp, kAdkim, kAspf, kP, kFo, kPct, kRf, kRi, kRua, kRuf] using this
    have hu := (mlist_g (by simp only [gB]; decide) (fun p => foOk_g) hp).2.2
    simp only [fo2_of _ 0 hu]
    rw [mdPct_of ha]; rfl
    exact hr6
theorem mdAspf_of (r : DR) (hr : r.sub = [] ∧ r.ruf = none ∧ r.rua = none ∧ r.ri = 0 ∧ r.rf = none ∧ r.pct = none ∧ r.fo = 0) : mdAspf acc r = .inr { r with sub := (findP acc kSp).getD [], ruf := (findP acc kRuf).map (splitB 44), rua := (findP acc kRua).map (splitB 44), ri := (match findP acc kRi with | none => 0 | some v => (mNum v 10).1), rf := (findP acc kRf).map (splitB 58), pct := (findP acc kPct).map (fun v => (mNum v 3).1), fo := (match findP acc kFo with | none => 0 | some v => foOf (splitB 58 v)), sp := (findP acc kAspf).getD sR } := by
  unfold mdAspf
  cases h : findP acc kAspf with
  | none => simp only; rw [mdFo_of ha]; rfl; exact hr
  | some v =>
    have := ha _ _ h (by decide)
    have hp : alignB v = true := by simpa [mOk, kSp, kAdkim, kAspf] using this
    simp only
    rw [if_pos hp, mdFo_of ha]; rfl; exact hr
theorem mdAdkim_of (r : DR) (hr : r.sub = [] ∧ r.ruf = none ∧ r.rua = none ∧ r.ri = 0 ∧ r.rf = none ∧ r.pct = none ∧ r.fo = 0) : mdAdkim acc r = .inr { r with sub := (findP acc kSp).getD [], ruf := (findP acc kRuf).map (splitB 44), rua := (findP acc kRua).map (splitB 44), ri := (match findP acc kRi with | none => 0 | some v => (mNum v 10).1), rf := (findP acc kRf).map (splitB 58), pct := (findP acc kPct).map (fun v => (mNum v 3).1), fo := (match findP acc kFo with | none => 0 | some v => foOf (splitB 58 v)), sp := (findP acc kAspf).getD sR, dk := (findP acc kAdkim).getD sR } := by
  unfold mdAdkim
  cases h : findP acc kAdkim with
  | none => simp only; rw [mdAspf_of ha]; rfl; exact hr
  | some v =>
    have := ha _ _ h (by decide)
    have hp : alignB v = true := by simpa [mOk, kSp, kAdkim] using this
    simp only
    rw [if_pos hp, mdAspf_of ha]; rfl; exact hr
end
theorem mdAll_of {acc : List KVp} (ha : ∀ k v, findP acc k = some v → k ≠ kV → mOk (k, v) = true) (hv : findP acc kV = some sDM) {v : L8} (hp : findP acc kP = some v) : mdAll acc = .inr (recOf (findP acc)) := by
  unfold mdAll
  have e : (some sDM : Option L8).getD [] = sDM := rfl
  rw [hv, if_pos e, hp]
  have := ha _ _ hp (by decide)
  have hpv : polB v = true := by simpa [mOk, kAdkim, kAspf, kP] using this
  simp only
  rw [if_pos hpv, mdAdkim_of ha]
  · simp only [recOf, hp, dr0, Option.getD_some]
    congr 1
  · simp [dr0]
end Wax


namespace Wax
open Go (IntKind)

/-- The lists within a record are not too long. -/
def MR.short (r : MR) : Prop := (r.rf.getD []).length < mid ∧ (r.rua.getD []).length < mid ∧ (r.ruf.getD []).length < mid
instance (r : MR) : Decidable r.short := by unfold MR.short; infer_instance

end Wax


namespace Wax
open Go (IntKind)

theorem findP_cons_ne {k i v : L8} {l : List KVp} (h : k ≠ i) : findP ((i, v) :: l) k = findP l k := by
  simp only [findP]; rw [if_neg (fun e => h e.symm)]
theorem findP_of_mem : ∀ {l : List KVp} {k v : L8}, (l.map (·.1)).Nodup → (k, v) ∈ l → findP l k = some v
  | [], _, _, _, h => by simp at h
  | (i, u) :: r, k, v, nd, h => by
    simp only [List.map_cons, List.nodup_cons] at nd
    rcases List.mem_cons.1 h with h2 | h2
    · injection h2 with h3 h4; subst h3; subst h4; simp [findP]
    · have hne : k ≠ i := fun e => nd.1 (List.mem_map.2 ⟨(k, v), h2, e⟩)
      rw [findP_cons_ne hne]
      exact findP_of_mem nd.2 h2
theorem recOf_congr {f g : L8 → Option L8} (h : ∀ k ∈ mKnown, f k = g k) : recOf f = recOf g := by
  have := fun k hk => h k hk
  simp only [recOf, h kAdkim (by decide), h kAspf (by decide), h kFo (by decide), h kP (by decide), h kPct (by decide), h kRf (by decide), h kRi (by decide), h kRua (by decide), h kRuf (by decide), h kSp (by decide)]
theorem known_ne {k : L8} (h : k ∈ mKnown) : k ≠ kV := by
  simp only [mKnown, List.mem_cons, List.not_mem_nil, or_false] at h
  rcases h with rfl | rfl | rfl | rfl | rfl | rfl | rfl | rfl | rfl | rfl <;> decide
theorem Rd.text {l : List KVp} (h : Rd l) (fm : L8) (e : Bool) : mdText (mText fm l e) = .inr (recOf (findP l)) := by
  have hp := prd2_text fm l e (fun t ht => (h.ok t ht).2) h.nd
  simp only [mdText, hp, if_true]
  obtain ⟨v, hv⟩ := h.p
  rw [mdAll_of (acc := (kV, sDM) :: l) (v := v) _ (by simp [findP]) (by rw [findP_cons_ne (by decide)]; exact hv)]
  · rw [recOf_congr (g := findP l)]
    intro k hk
    exact findP_cons_ne (known_ne hk)
  · intro k v hf hk
    rw [findP_cons_ne hk] at hf
    exact (h.ok _ (findP_in hf)).1

theorem gB_plain {x : UInt8} (h : gB x) : plainB x = true := plainB_true (by have := h.1; have := h.2.1; omega)
theorem allBl_plain {s : L8} (h : allBl s) : plain s = true := by
  simp only [plain, List.all_eq_true]
  intro x hx
  have := h x hx
  simp only [blB, decide_eq_true_eq] at this
  exact plainB_true (by omega)
theorem gt_plain {t : KVp} (g : Gt t) : plain t.1 = true ∧ plain t.2 = true := by
  simp only [plain, List.all_eq_true]
  exact ⟨fun x hx => gB_plain (g.n2 x hx).1, fun x hx => gB_plain (g.v2 x hx)⟩
theorem plain_cons {x : UInt8} {s : L8} : plain (x :: s) = (plainB x && plain s) := rfl
theorem tagsT_plain (fm : L8) : ∀ (l : List KVp) (k : Nat), (∀ t ∈ l, Gt t) → plain (tagsT fm k l) = true
  | [], _, _ => rfl
  | t :: r, k, h => by
    have g := gt_plain (h t (by simp))
    have s := fun j => allBl_plain (spAt_bl fm j)
    have b1 : plainB 59 = true := by decide
    have b2 : plainB 61 = true := by decide
    simp only [tagsT, oneT, plain_app, plain_cons, g.1, g.2, s, b1, b2, tagsT_plain fm r (k + 4) (fun t ht => h t (by simp [ht])), Bool.and_self]
theorem mText_plain {fm : L8} {l : List KVp} {e : Bool} (h : ∀ t ∈ l, Gt t) : plain (mText fm l e) = true := by
  have s := fun j => allBl_plain (spAt_bl fm j)
  have b1 : plainB 59 = true := by decide
  have b2 : plainB 61 = true := by decide
  have b3 : plainB 118 = true := by decide
  have b4 : plain sDM = true := by decide
  have b5 : plain [] = true := rfl
  cases e <;> simp only [mText, headT, plain_app, plain_cons, b1, b2, b3, b4, b5, s, tagsT_plain fm l 2 h, Bool.and_self, if_true, if_false, Bool.false_eq_true]
theorem mText_len {fm : L8} {l : List KVp} {e : Bool} (h : l.length ≤ 20) (h2 : ∀ t ∈ l, t.1.length ≤ 20 ∧ t.2.length ≤ 200) : (mText fm l e).length < mid := by
  have a := headT_len fm
  have b := tagsT_len (fm := fm) (k := 2) h2
  have c := spAt_len fm (2 + 4 * l.length + 1)
  simp only [mText, List.length_append, mid]
  cases e <;> simp <;> omega

/-- What else is asked of tags for their text. -/
structure Sz (l : List KVp) : Prop where
  n : l.length ≤ 20
  t : ∀ t ∈ l, t.1.length ≤ 20 ∧ t.2.length ≤ 200
theorem Rd.parse {l : List KVp} (h : Rd l) (z : Sz l) (fm : L8) (e : Bool) : con_MParse [.str (mText fm l e)] = some (.tup [.agg (recM (recOf (findP l))).cells, .bool true]) := by
  have b : (mText fm l e).length < mid ∧ plain (mText fm l e) = true := ⟨mText_len z.n z.t, mText_plain fun t ht => (h.ok t ht).2⟩
  simp only [con_MParse]
  rw [if_pos b, h.text]; rfl

theorem has_one {f : L8 → Option L8} {k v : L8} (hf : f k = some v) (ho : mOk (k, v) = true) : mSameAt k (recM (recOf f)) (mPut mr0 (k, v)) = true := by
  unfold mOk at ho
  simp only at ho
  unfold mSameAt mPut
  simp only
  by_cases h1 : k = kAdkim
  · rw [if_pos h1, if_pos h1]; subst h1; simp [recM, recOf, hf]
  rw [if_neg h1, if_neg h1]; rw [if_neg h1] at ho
  by_cases h2 : k = kAspf
  · rw [if_pos h2, if_pos h2]; subst h2; simp [recM, recOf, hf]
  rw [if_neg h2, if_neg h2]; rw [if_neg h2] at ho
  by_cases h3 : k = kP
  · rw [if_pos h3, if_pos h3]; subst h3; simp [recM, recOf, hf]
  rw [if_neg h3, if_neg h3]; rw [if_neg h3] at ho
  by_cases h4 : k = kSp
  · rw [if_pos h4, if_pos h4]; subst h4; simp [recM, recOf, hf]
  rw [if_neg h4, if_neg h4]; rw [if_neg h4] at ho
  by_cases h5 : k = kFo
  · rw [if_pos h5, if_pos h5]; rw [if_pos h5] at ho; subst h5
    have := (mlist_g (by simp only [gB]; decide) (fun p => foOk_g) ho).2.1
    have e : (mlist 58 foOk v) = some (splitB 58 v) := this
    simp [recM, recOf, hf, e]
  rw [if_neg h5, if_neg h5]; rw [if_neg h5] at ho
  by_cases h6 : k = kPct
  · rw [if_pos h6, if_pos h6]; subst h6; simp [recM, recOf, hf]
  rw [if_neg h6, if_neg h6]; rw [if_neg h6] at ho
  by_cases h7 : k = kRf
  · rw [if_pos h7, if_pos h7]; rw [if_pos h7] at ho; subst h7
    have e : mlist 58 (fun s => decide (s = sAfrf)) v = some (splitB 58 v) := by
      unfold mlist at ho ⊢; split at ho
      · rename_i hh; rw [if_pos hh]
      · simp at ho
    simp [recM, recOf, hf, e, splitB_ne]
  rw [if_neg h7, if_neg h7]; rw [if_neg h7] at ho
  by_cases h8 : k = kRi
  · rw [if_pos h8, if_pos h8]; subst h8; simp [recM, recOf, hf]
  rw [if_neg h8, if_neg h8]; rw [if_neg h8] at ho
  by_cases h9 : k = kRua
  · rw [if_pos h9, if_pos h9]; rw [if_pos h9] at ho; subst h9
    have e : mlist 44 muri v = some (splitB 44 v) := (mlist_g (by simp only [gB]; decide) (fun p => muri_g) ho).2.1
    simp [recM, recOf, hf, e]
  rw [if_neg h9, if_neg h9]; rw [if_neg h9] at ho
  by_cases h10 : k = kRuf
  · rw [if_pos h10, if_pos h10]; rw [if_pos h10] at ho; subst h10
    have e : mlist 44 muri v = some (splitB 44 v) := (mlist_g (by simp only [gB]; decide) (fun p => muri_g) ho).2.1
    simp [recM, recOf, hf, e]
  rw [if_neg h10]
theorem Rd.nd' {l : List KVp} (h : Rd l) : (l.map (·.1)).Nodup := by
  have := h.nd
  simp only [List.map_cons, List.nodup_cons] at this
  exact this.2
theorem Rd.has {l : List KVp} (h : Rd l) : mHas (recM (recOf (findP l))) l = true := by
  simp only [mHas, List.all_eq_true]
  rintro ⟨k, v⟩ ht
  exact has_one (findP_of_mem h.nd' ht) (h.ok _ ht).1

end Wax


namespace Wax
open Go (IntKind)

def con_number : List AV → Option AV
  | [.str s] => if s.length < big then some (numV2 (mNum s 9)) else none
  | _ => none

theorem ok_number (Γ : Gam) : ∀ args r, con_number args = some r → runs Γ c_laws_number args (fun v => v = r) := by
  intro args r h
  simp only [con_number] at h
  split at h <;> (try simp at h; done)
  rename_i s
  obtain ⟨hs, rfl⟩ := ite_some h
  clear h
  simp only [big] at hs
  simp -implicitDefEqProofs [c_laws_number, hs]
  refine awp_loop2 (σ := L8 × L8) (fun p => ⟨[(0, .str s), (4, .int .i64 (numW 0 p.1)), (8, .msl 8 1 0 s.length), (9, .int .i64 s.length), (10, .int .i64 p.1.length)], [(8, .cells (bcA s))]⟩) (fun p => s = p.1 ++ p.2 ∧ p.1.all digB = true) (fun p => p.2.length) ([], s) (by simp [numW]) (by simp) ?_
  rintro ⟨pre, post⟩ ⟨e1, e2⟩ LQ hLQ
  simp only at e1 e2
  subst e1
  cases post with
  | nil =>
    by_cases hp : pre = []
    · subst hp; simp -implicitDefEqProofs [b_laws_number_1, t_laws_number_2, mNum, numV2]
    · simp -implicitDefEqProofs [b_laws_number_1, t_laws_number_2, mNum, e2, hp, numV2]
  | cons x post =>
    simp at hs
    have hlt : (pre.length : Int) < (pre.length : Int) + ((post.length : Int) + 1) := by omega
    have ew : IntKind.i64.wrap ((pre.length : Int) + 1) = (pre.length : Int) + 1 := wrap64 (by omega) (by omega)
    have hxb := x.toNat_lt
    have bad : digB x = false → mNum (pre ++ x :: post) 9 = (0, false) := by
      intro h; simp only [mNum, List.all_append, List.all_cons, h]; simp
    by_cases h1 : (x.toNat : Int) < 48
    · have b := bad (by rw [Bool.eq_false_iff, ne_eq, digB_iff]; omega)
      simp -implicitDefEqProofs [b_laws_number_1, hlt, ew, h1, b, numV2]
    · by_cases h2 : 57 < (x.toNat : Int)
      · have b := bad (by rw [Bool.eq_false_iff, ne_eq, digB_iff]; omega)
        simp -implicitDefEqProofs [b_laws_number_1, hlt, ew, h1, h2, b, numV2]
      · have h3 : digB x = true := digB_iff.2 ⟨h1, h2⟩
        have ex : IntKind.u8.wrap ((x.toNat : Int) - 48) = (x.toNat : Int) - 48 := Go.IntWalk.u8_in _ ⟨by omega, by omega⟩
        have ex2 : IntKind.i64.wrap ((x.toNat : Int) - 48) = (x.toNat : Int) - 48 := wrap64 (by omega) (by omega)
        simp -implicitDefEqProofs [b_laws_number_1, hlt, ew, h1, h2, ex, ex2]
        refine hLQ (pre ++ [x], post) ⟨by simp, by simp only [List.all_append, e2, List.all_cons, h3]; rfl⟩ (by simp) _ ?_
        simp [numW_app]
        simp [numW]

def trimz : L8 → L8
  | 48 :: c :: r => trimz (c :: r)
  | l => l
theorem trimz_ne {a : UInt8} (h : a ≠ 48) (r : L8) : trimz (a :: r) = a :: r := by
  rw [trimz]; intro c' r' e; simp at e; exact h e.1
theorem pu_all : ∀ (l : L8) (acc u : Nat), Go.Lib.parseUint10 acc l = .ok u → u ≤ 100 → l.all digB = true ∧ numW (acc : Int) l = u ∧ acc * 10 ^ l.length ≤ u
  | [], acc, u, h, hu => by simp [Go.Lib.parseUint10] at h; subst h; simp [numW]
  | c :: r, acc, u, h, hu => by
    simp only [Go.Lib.parseUint10] at h
    split at h
    · rename_i hc
      split at h
      · simp at h
      · split at h
        · simp at h
        · obtain ⟨i1, i2, i3⟩ := pu_all r _ u h hu
          have hp : 1 ≤ 10 ^ r.length := Nat.pow_pos (by omega)
          have hle : acc * 10 + (c.toNat - 48) ≤ u := Nat.le_trans (Nat.le_mul_of_pos_right _ hp) i3
          have w1 : IntKind.i64.wrap (10 * (acc : Int)) = 10 * (acc : Int) := wrap64 (by omega) (by omega)
          have w2 : IntKind.i64.wrap (10 * (acc : Int) + ((c.toNat : Int) - 48)) = ((acc * 10 + (c.toNat - 48) : Nat) : Int) := by
            rw [wrap64 (by omega) (by omega)]; omega
          refine ⟨by simp only [List.all_cons, i1, Bool.and_true, digB, decide_eq_true_eq]; exact hc, ?_, ?_⟩
          · simp only [numW, List.foldl_cons, w1, w2]; exact i2
          · refine Nat.le_trans ?_ i3
            rw [List.length_cons, Nat.pow_succ, Nat.mul_comm (10 ^ r.length) 10, ← Nat.mul_assoc]
            exact Nat.mul_le_mul_right _ (by omega)
    · simp at h
theorem pu_trimz : ∀ (l : L8), Go.Lib.parseUint10 0 (trimz l) = Go.Lib.parseUint10 0 l
  | [] => rfl
  | [_] => by simp [trimz]
  | a :: c :: r => by
    by_cases h : a = 48
    · subst h
      have := pu_trimz (c :: r)
      rw [show trimz (48 :: c :: r) = trimz (c :: r) from by simp only [trimz], this]
      conv => rhs; unfold Go.Lib.parseUint10
      simp
    · rw [trimz_ne h]
/-- What is trimmed is a lone byte, or begins with no zero. -/
theorem trimz_cases : ∀ l : L8, l ≠ [] → (∃ c, trimz l = [c]) ∨ ∃ c d r, trimz l = c :: d :: r ∧ c ≠ 48
  | [], h => absurd rfl h
  | [c], _ => .inl ⟨c, by simp [trimz]⟩
  | a :: c :: r, _ => by
    by_cases h : a = 48
    · subst h
      rw [show trimz (48 :: c :: r) = trimz (c :: r) from by simp only [trimz]]
      exact trimz_cases (c :: r) (by simp)
    · exact .inr ⟨a, c, r, trimz_ne h _, h⟩
theorem atoi_num {v : L8} (h0 : v ≠ []) (h45 : v.head? ≠ some 45) (h43 : v.head? ≠ some 43) {n : Int} (h : Go.Lib.atoiAll v = .ok n) (hn : n ≤ 100) :
    0 ≤ n ∧ (mNum (trimz v) 9) = (n, true) := by
  cases v with
  | nil => exact absurd rfl h0
  | cons c r =>
    have c1 : ¬ (c.toNat = 43 ∨ c.toNat = 45) := by
      rintro (e | e)
      · exact h43 (by simp; exact UInt8.toNat_inj.1 e)
      · exact h45 (by simp; exact UInt8.toNat_inj.1 e)
    have c2 : ¬ c.toNat = 45 := fun e => c1 (.inr e)
    simp only [Go.Lib.atoiAll, if_neg c1, Go.Lib.parseMag, if_neg (List.cons_ne_nil c r)] at h
    split at h
    · simp at h
    · simp at h
    · rename_i u hu
      split at h
      · simp at h
      · split at h
        · simp at h
        · simp [c2] at h
          subst h
          rw [← pu_trimz] at hu
          obtain ⟨a1, a2, a3⟩ := pu_all _ _ _ hu (by omega)
          refine ⟨by omega, ?_⟩
          have hl : (trimz (c :: r)).length ≤ 3 := by
            rcases trimz_cases (c :: r) (by simp) with ⟨x, e⟩ | ⟨x, d, q, e, hx⟩
            · rw [e]; simp
            · rw [e] at hu a1 ⊢
              simp only [List.all_cons, Bool.and_eq_true] at a1
              have hd := a1.1
              simp only [digB, decide_eq_true_eq] at hd
              have hx' : x.toNat ≠ 48 := fun e => hx (UInt8.toNat_inj.1 e)
              simp only [Go.Lib.parseUint10] at hu
              rw [if_pos hd, if_neg (by omega), if_neg (by omega)] at hu
              have hu' : Go.Lib.parseUint10 (0 * 10 + (x.toNat - 48)) (d :: q) = .ok u := by simpa only [Go.Lib.parseUint10] using hu
              obtain ⟨_, _, b3⟩ := pu_all _ _ _ hu' (by omega)
              have : 10 ^ (d :: q).length ≤ 100 := by
                refine Nat.le_trans ?_ (Nat.le_trans b3 (by omega))
                exact Nat.le_mul_of_pos_left _ (by omega)
              have h2 : (d :: q).length ≤ 2 := by
                refine Nat.le_of_not_lt fun h => ?_
                have := Nat.pow_le_pow_right (show 0 < 10 by omega) (show 3 ≤ (d :: q).length from h)
                omega
              simp only [List.length_cons] at *
              omega
          have hne : trimz (c :: r) ≠ [] := by
            rcases trimz_cases (c :: r) (by simp) with ⟨x, e⟩ | ⟨x, d, q, e, _⟩ <;> rw [e] <;> simp
          simp only [mNum, a1, if_true, hne, ne_eq, not_false_eq_true, decide_true, Bool.true_and]
          have : ((trimz (c :: r)).length : Int) ≤ 9 := by omega
          simp only [this, decide_true]
          exact Prod.ext (by simpa using a2) rfl

def vS (k v : L8) : L8 := if k = kP then [118, 61, 68, 77, 65, 82, 67, 49, 59, 32, 112, 61] ++ v else [118, 61, 68, 77, 65, 82, 67, 49, 59, 32, 112, 61, 110, 111, 110, 101, 59, 32] ++ k ++ [61] ++ v

theorem mkw_g {v : L8} (h : mKw v = true) : (∀ x ∈ v, gB x ∧ x ≠ 61) ∧ v ≠ [] ∧ v.head? ≠ some 45 ∧ v.head? ≠ some 43 := by
  simp only [mKw, Bool.and_eq_true, decide_eq_true_eq] at h
  obtain ⟨⟨⟨a, b⟩, c⟩, d⟩ := h
  rw [List.all_eq_true] at a
  refine ⟨fun x hx => kwB_g (a x hx), b, c, ?_⟩
  cases v with
  | nil => simp
  | cons x r =>
    intro e
    simp at e; subst e
    have := a 43 (by simp)
    simp [kwB] at this
theorem gB_noB {v : L8} (h : ∀ x ∈ v, gB x) : noB (59 : UInt8).toNat v := by
  intro x hx e
  have := (h x hx).2.2
  exact this (UInt8.toNat_inj.1 (by exact_mod_cast e))

theorem vals_prd {k v : L8} (hk : k = kP ∨ k = kAdkim ∨ k = kAspf ∨ k = kPct) (hv : mKw v = true) :
    prd2 (splitB 59 (vS k v)) [] = (if k = kP then [(kV, sDM), (kP, v)] else [(kV, sDM), (kP, sNone), (k, v)], true) := by
  obtain ⟨g, hne, _, _⟩ := mkw_g hv
  have n1 : noB (59 : UInt8).toNat [118, 61, 68, 77, 65, 82, 67, 49] := by simp [noB]
  have p1 : Pc [118, 61, 68, 77, 65, 82, 67, 49] (kV, sDM) := ⟨[], [], [], [], allBl_nil, allBl_nil, allBl_nil, allBl_nil, rfl⟩
  have bl : allBl [32] := by simp [allBl, blB]
  by_cases hp : k = kP
  · subst hp
    have n2 : noB (59 : UInt8).toNat ([32, 112, 61] ++ v) := by
      intro x hx
      rcases List.mem_append.1 hx with hx | hx
      · simp at hx; rcases hx with rfl | rfl | rfl <;> decide
      · exact gB_noB (fun x hx => (g x hx).1) x hx
    have e : vS kP v = [118, 61, 68, 77, 65, 82, 67, 49] ++ 59 :: ([32, 112, 61] ++ v) := by simp [vS]
    have gt : Gt (kP, v) := ⟨by simp [kP], by simp only [kP, gB]; decide, hne, fun x hx => (g x hx).1⟩
    have p2 : Pc ([32, 112, 61] ++ v) (kP, v) := ⟨[32], [], [], [], bl, allBl_nil, allBl_nil, allBl_nil, by simp [kP]⟩
    rw [e, splitB_app n1, splitB_only n2, prd2_pc p1 gt_v (by rfl), prd2_pc p2 gt (by simp [hasK, kV, kP])]
    simp [prd2]
  · have hkg : (∀ x ∈ k, gB x ∧ x ≠ 61) ∧ k ≠ [] ∧ k ≠ kV := by
      rcases hk with rfl | rfl | rfl | rfl
      · exact absurd rfl hp
      all_goals refine ⟨by simp only [gB, kAdkim, kAspf, kPct]; decide, by simp [kAdkim, kAspf, kPct], by simp [kAdkim, kAspf, kPct, kV]⟩
    have n2 : noB (59 : UInt8).toNat [32, 112, 61, 110, 111, 110, 101] := by simp [noB]
    have n3 : noB (59 : UInt8).toNat (32 :: (k ++ 61 :: v)) := by
      intro x hx
      rcases List.mem_cons.1 hx with rfl | hx
      · decide
      rcases List.mem_append.1 hx with hx | hx
      · exact gB_noB (fun x hx => (hkg.1 x hx).1) x hx
      rcases List.mem_cons.1 hx with rfl | hx
      · decide
      · exact gB_noB (fun x hx => (g x hx).1) x hx
    have e : vS k v = [118, 61, 68, 77, 65, 82, 67, 49] ++ 59 :: ([32, 112, 61, 110, 111, 110, 101] ++ 59 :: (32 :: (k ++ 61 :: v))) := by simp [vS, hp]
    have gt : Gt (k, v) := ⟨hkg.2.1, hkg.1, hne, fun x hx => (g x hx).1⟩
    have gt2 : Gt (kP, sNone) := ⟨by simp [kP], by simp only [kP, gB]; decide, by simp [sNone], by simp only [sNone, gB]; decide⟩
    have p2 : Pc [32, 112, 61, 110, 111, 110, 101] (kP, sNone) := ⟨[32], [], [], [], bl, allBl_nil, allBl_nil, allBl_nil, by simp [kP, sNone]⟩
    have p3 : Pc (32 :: (k ++ 61 :: v)) (k, v) := ⟨[32], [], [], [], bl, allBl_nil, allBl_nil, allBl_nil, by simp⟩
    have hpk : ¬ kP = k := fun e => hp e.symm
    have hvk : ¬ kV = k := fun e => hkg.2.2 e.symm
    rw [e, splitB_app n1, splitB_app n2, splitB_only n3, prd2_pc p1 gt_v (by rfl), prd2_pc p2 gt2 (by simp [hasK, kV, kP]), prd2_pc p3 gt (by simp [hasK, hpk, hvk, hp, hkg.2.2])]
    simp [prd2, hp]

theorem vals_none {k v : L8} (hk : k = kP ∨ k = kAdkim ∨ k = kAspf ∨ k = kPct) (hv : mKw v = true) (hm : mOk (k, v) = false) (hz : ¬ ((mNum (trimz v) 9).2 = true ∧ k = kPct ∧ (mNum (trimz v) 9).1 ≤ 100)) :
    ∃ e, mdText (vS k v) = .inl e := by
  obtain ⟨g, hne, h45, h43⟩ := mkw_g hv
  simp only [mdText, vals_prd hk hv, if_true]
  rcases hk with rfl | rfl | rfl | rfl
  · have hp : polB v = false := by simpa [mOk, kP, kAdkim, kAspf] using hm
    exact ⟨eN (mPol ++ kP), by simp [mdAll, findP, kV, kP, hp]⟩
  · have hp : alignB v = false := by simpa [mOk] using hm
    exact ⟨eN (mAlign ++ kAdkim), by simp [mdAll, mdAdkim, findP, kV, kP, kAdkim, hp, polB]⟩
  · have hp : alignB v = false := by simpa [mOk, kAdkim, kAspf] using hm
    exact ⟨eN (mAlign ++ kAspf), by simp [mdAll, mdAdkim, mdAspf, findP, kV, kP, kAdkim, kAspf, hp, polB]⟩
  · have key : ∀ r, ∃ e, mdPct [(kV, sDM), (kP, sNone), (kPct, v)] r = .inl e := by
      intro r
      have f : findP [(kV, sDM), (kP, sNone), (kPct, v)] kPct = some v := by simp [findP, kV, kP, kPct]
      simp only [mdPct, f]
      cases ha : Go.Lib.atoiAll v with
      | ok n =>
        refine ⟨eN mPct2, ?_⟩
        simp only
        rw [if_pos]
        refine Classical.byContradiction fun hc => ?_
        have hn : n ≤ 100 := by omega
        obtain ⟨_, b⟩ := atoi_num hne h45 h43 ha hn
        rw [b] at hz
        exact hz ⟨rfl, rfl, hn⟩
      | «syntax» => exact ⟨_, rfl⟩
      | range => exact ⟨_, rfl⟩
    have e : ∃ r, mdAll [(kV, sDM), (kP, sNone), (kPct, v)] = mdPct [(kV, sDM), (kP, sNone), (kPct, v)] r := ⟨_, by simp [mdAll, mdAdkim, mdAspf, mdFo, findP, kV, kP, kAdkim, kAspf, kPct, kFo, polB]; rfl⟩
    obtain ⟨r, e⟩ := e
    rw [if_neg (by simp [kP, kPct]), e]
    exact key r
def con_FnDmarcValues : List AV → Option AV
  | [.int .u8 n, .str v] => if (0 ≤ n ∧ n < 256) ∧ v.length < 9223372036854775808 then some (.bool true) else none
  | _ => none

theorem vS_plain {k v : L8} (hk : k = kP ∨ k = kAdkim ∨ k = kAspf ∨ k = kPct) (hv : mKw v = true) : plain (vS k v) = true := by
  have hp : plain v = true := by
    have := (mkw_g hv).1
    simp only [plain, List.all_eq_true]
    intro x hx
    exact gB_plain (this x hx).1
  unfold vS
  split
  · rw [plain_app, hp]; decide
  · rw [plain_app, plain_app, plain_app, hp]
    rcases hk with rfl | rfl | rfl | rfl <;> decide

set_option maxHeartbeats 2000000 in
theorem vals_loop (Γ : Gam) (h139 : Γ.fn 139 = con_number) (h133 : Γ.fn 133 = con_MParse) (h137 : Γ.fn 137 = con_awake) (v k : L8) (hk4 : k = kP ∨ k = kAdkim ∨ k = kAspf ∨ k = kPct) (hk : mKw v = true) (hm : mOk (k, v) = false)
    (hv : v.length < 4611686018427387904) (hlen : (vS k v).length < mid) :
    awp Γ (SCode.loop [5, 7, 8] b_laws_FnDmarcValues_1) (blockQ 0 (thenQ (awp Γ t_laws_FnDmarcValues_2 (finQ [RV.t 4] fun v => v = AV.bool true)) (finQ [RV.t 4] fun v => v = AV.bool true)))
      ⟨[(5, AV.ref 5 0), (7, AV.str (vS k v)), (8, AV.str v)], [(5, AObj.cells [AV.str k, AV.str v])]⟩ := by
  have k6 : con_awake [] = some (.bool true) := rfl
  have n9 : ∀ t : L8, t.length ≤ v.length → con_number [.str t] = some (numV2 (mNum t 9)) := fun t ht => if_pos (by simp only [big] at *; omega)
  have kP' : con_MParse [.str (vS k v)] = some (mpV (mdText (vS k v))) := if_pos ⟨hlen, vS_plain hk4 hk⟩
  refine awp_loop2 (σ := L8) (fun t => ⟨[(5, .ref 5 0), (7, .str (vS k v)), (8, .str t)], [(5, .cells [.str k, .str v])]⟩) (fun t => trimz t = trimz v ∧ t.length ≤ v.length) (fun t => t.length) v (by simp) (by simp) ?_
  rintro t ⟨e1, e2⟩ LQ hLQ
  have fin : trimz t = t → ∀ b, awp Γ t_laws_FnDmarcValues_2 (finQ [RV.t 4] fun v => v = AV.bool true) ⟨[(5, AV.ref 5 0), (7, AV.str (vS k v)), (8, AV.str t), (60, b)], [(5, AObj.cells [AV.str k, AV.str v])]⟩ := by
    intro et b
    have kn := n9 t e2
    have hz := vals_none hk4 hk hm
    rw [← e1, et] at hz
    generalize mNum t 9 = q at *
    obtain ⟨n, o⟩ := q
    simp only [numV2] at kn
    cases o with
    | false =>
      obtain ⟨e, he⟩ := hz (by simp)
      rw [he] at kP'
      simp only [mpV, MR.cells, mr0, slO] at kP'
      simp -implicitDefEqProofs [t_laws_FnDmarcValues_2, acall, h139, kn, h133, kP', h137, k6]
    | true =>
      by_cases hp : k = kPct
      · have hp' : k = [112, 99, 116] := hp
        by_cases hn : n ≤ 100
        · simp -implicitDefEqProofs [t_laws_FnDmarcValues_2, acall, h139, kn, hp', hn]
        · obtain ⟨e, he⟩ := hz (by simp [hn])
          rw [he] at kP'
          simp only [mpV, MR.cells, mr0, slO] at kP'
          rw [hp'] at kP' ⊢
          simp -implicitDefEqProofs [t_laws_FnDmarcValues_2, acall, h139, kn, hn, h133, kP', h137, k6]
      · have hp' : ¬ k = [112, 99, 116] := hp
        obtain ⟨e, he⟩ := hz (by simp [hp])
        rw [he] at kP'
        simp only [mpV, MR.cells, mr0, slO] at kP'
        simp -implicitDefEqProofs [t_laws_FnDmarcValues_2, acall, h139, kn, hp', h133, kP', h137, k6]
  by_cases h1 : (1 : Int) < (t.length : Int)
  · match t, h1 with
    | a :: c :: r, _ =>
      by_cases ha : a = 48
      · subst ha
        simp -implicitDefEqProofs [b_laws_FnDmarcValues_1]
        refine ⟨fun _ => ⟨by omega, hLQ (c :: r) ⟨?_, by simp at e2 ⊢; omega⟩ (by simp) _ (by simp)⟩, fun h => by omega⟩
        rw [← e1]; simp only [trimz]
      · have ha' : ¬ ((a.toNat : Int) = 48) := fun e => ha (UInt8.toNat_inj.1 (by exact_mod_cast e))
        have f := fin (trimz_ne ha _)
        simp -implicitDefEqProofs [b_laws_FnDmarcValues_1, ha']
        exact ⟨fun _ => f _, fun _ => f _⟩
  · have et : trimz t = t := by
      match t, h1 with
      | [], _ => rfl
      | [x], _ => simp [trimz]
      | a :: c :: r, h => exact absurd (by simp only [List.length_cons]; omega) h
    have f := fin et
    simp -implicitDefEqProofs [b_laws_FnDmarcValues_1, h1]
    exact f _

set_option maxHeartbeats 2000000 in
theorem ok_FnDmarcValues (Γ : Gam) (h99 : Γ.fn 99 = con_MailKeyword) (s111 : Γ.st 111 = con_MPut) (h112 : Γ.fn 112 = con_MailLower) (h139 : Γ.fn 139 = con_number) (h133 : Γ.fn 133 = con_MParse) (h137 : Γ.fn 137 = con_awake) :
    ∀ args r, con_FnDmarcValues args = some r → runs Γ c_laws_FnDmarcValues args (fun v => v = r) := by
  intro args r h
  simp only [con_FnDmarcValues] at h
  split at h <;> (try simp at h; done)
  rename_i n v
  obtain ⟨⟨⟨hn0, hn1⟩, hv⟩, rfl⟩ := ite_some h
  clear h
  have k6 : con_awake [] = some (.bool true) := rfl
  by_cases hv1 : (2147483647 : Int) < (v.length : Int)
  · simp -implicitDefEqProofs [c_laws_FnDmarcValues, hv1]
  have hvm : v.length < mid := by simp only [mid]; omega
  have kw := kw_con hvm
  have kl := low_con hvm
  obtain ⟨m, rfl⟩ : ∃ m : Nat, n = (m : Int) := ⟨n.toNat, by omega⟩
  have hq : m % 4 = 0 ∨ m % 4 = 1 ∨ m % 4 = 2 ∨ m % 4 = 3 := by omega
  obtain ⟨j, k, hj, hk4, hc⟩ : ∃ (j : Nat) (k : L8), (m : Int).tmod 4 = (j : Int) ∧ (k = kP ∨ k = kAdkim ∨ k = kAspf ∨ k = kPct) ∧ ((j = 0 ∧ k = kP) ∨ (j = 1 ∧ k = kAdkim) ∨ (j = 2 ∧ k = kAspf) ∨ (j = 3 ∧ k = kPct)) := by
    have e : (m : Int).tmod 4 = ((m % 4 : Nat) : Int) := by rw [Int.tmod_eq_emod_of_nonneg (by omega)]; omega
    rcases hq with h | h | h | h <;> rw [h] at e
    · exact ⟨0, kP, e, by simp, by simp⟩
    · exact ⟨1, kAdkim, e, by simp, by simp⟩
    · exact ⟨2, kAspf, e, by simp, by simp⟩
    · exact ⟨3, kPct, e, by simp, by simp⟩
  obtain ⟨rs, hg⟩ : ∃ rs, List.drop j [AV.str [112], AV.str [97, 100, 107, 105, 109], AV.str [97, 115, 112, 102], AV.str [112, 99, 116]] = .str k :: rs := by
    rcases hc with ⟨rfl, rfl⟩ | ⟨rfl, rfl⟩ | ⟨rfl, rfl⟩ | ⟨rfl, rfl⟩ <;> exact ⟨_, rfl⟩
  have hj4 : j < 4 := by omega
  have hkl : k.length < mid := by rcases hk4 with rfl | rfl | rfl | rfl <;> simp [kP, kAdkim, kAspf, kPct, mid]
  clear hc hq
  cases hk : mKw v with
  | false =>
    rw [hk] at kw
    simp -implicitDefEqProofs [c_laws_FnDmarcValues, hv1, hj, hg, hj4, acall, h99, kw]
  | true =>
    rw [hk] at kw
    by_cases hv2 : (20 : Int) < (v.length : Int)
    · simp -implicitDefEqProofs [c_laws_FnDmarcValues, hv1, hj, hg, hj4, acall, h99, kw, hv2]
    have ms := asMR_cells mr0
    have kp : con_MPut [.ref 0 0, .agg [.str k, .str v]] [(0, .cells [.str [], .str [], .int .i64 0, .str [], .int .i64 0, .bool false, .nilS, .int .i64 0, .nilS, .nilS, .str []])] = some (.bool (mOk (k, v)), [(0, .cells (mPut mr0 (k, v)).cells)]) := by
      have e : mr0.cells = [.str [], .str [], .int .i64 0, .str [], .int .i64 0, .bool false, .nilS, .int .i64 0, .nilS, .nilS, .str []] := rfl
      rw [e] at ms
      simp only [con_MPut, ms]
      exact if_pos ⟨hkl, hvm⟩
    generalize mPut mr0 (k, v) = R at kp
    obtain ⟨r1, r2, r3, r4, r5, r6, r7, r8, r9, r10, r11⟩ := R
    simp only [MR.cells] at kp
    have c7 := slO_cells r7
    have c9 := slO_cells r9
    have c10 := slO_cells r10
    simp only [cells] at c7 c9 c10
    cases hm : mOk (k, v) with
    | true =>
      rw [hm] at kp
      simp -implicitDefEqProofs [c_laws_FnDmarcValues, hv1, hj, hg, hj4, acall, h99, kw, hv2, acallS, reach_succ, s111, kp]
    | false =>
      rw [hm] at kp
      by_cases hlow : lowS v = v
      · rw [hlow] at kl
        have n9 : ∀ t : L8, t.length ≤ v.length → con_number [.str t] = some (numV2 (mNum t 9)) := fun t ht => if_pos (by simp only [big, mid] at *; omega)
        have hlen : (vS k v).length < mid := by
          simp only [mid] at hkl hvm ⊢
          unfold vS
          have : k.length ≤ 5 := by rcases hk4 with rfl | rfl | rfl | rfl <;> simp [kP, kAdkim, kAspf, kPct]
          split <;> simp <;> omega
        simp -implicitDefEqProofs [c_laws_FnDmarcValues, hv1, hj, hg, hj4, acall, h99, kw, hv2, acallS, reach_succ, s111, kp, h112, kl]
        have L := vals_loop Γ h139 h133 h137 v k hk4 hk hm (by simp only [mid] at hvm; omega) hlen
        have hk5 : k.length ≤ 5 := by rcases hk4 with rfl | rfl | rfl | rfl <;> simp [kP, kAdkim, kAspf, kPct]
        refine ⟨by omega, by omega, by omega, fun hp => ⟨by omega, ?_⟩, fun hp => ?_⟩
        · have e : (118 :: 61 :: 68 :: 77 :: 65 :: 82 :: 67 :: 49 :: 59 :: 32 :: 112 :: 61 :: v) = vS k v := by simp [vS, hp, kP]
          rw [e]; exact L
        · have e : (118 :: 61 :: 68 :: 77 :: 65 :: 82 :: 67 :: 49 :: 59 :: 32 :: 112 :: 61 :: 110 :: 111 :: 110 :: 101 :: 59 :: 32 :: (k ++ 61 :: v)) = vS k v := by simp [vS, hp, kP]
          rw [e]; exact L
      · simp -implicitDefEqProofs [c_laws_FnDmarcValues, hv1, hj, hg, hj4, acall, h99, kw, hv2, acallS, reach_succ, s111, kp, h112, kl, hlow]
end Wax


namespace Wax
open Go Go.ChangeShapes Go.WideShapes Go.RowKit

theorem lkGl_mem : ∀ {l : List (Nat × List AV)} {g : Nat} {cs : List AV}, lkGl l g = some cs → (g, cs) ∈ l
  | [], _, _, h => by simp [lkGl] at h
  | (i, v) :: r, g, cs, h => by
    simp only [lkGl] at h
    split at h
    · rename_i e
      simp only [beq_iff_eq] at e
      simp only [Option.some.injEq] at h
      subst e; subst h; simp
    · exact List.mem_cons_of_mem _ (lkGl_mem h)

theorem GlobOk.of {T : Tab} {w : World} {F : Frz} (h : ∀ p ∈ T.gl, RepAt T w F p.1 0 p.2 ∧ F p.1 ∧ ∃ vs q a, w.heap[p.1]? = some (.cells vs q a) ∧ vs.size = p.2.length) : GlobOk T w F := fun g cs hg => h (g, cs) (lkGl_mem hg)

theorem var_heap {P : Program} {w : World} {n : String} {g : Nat} {cs : Array Value} (hg : P.globalNamed n = some g) (hv : w.var? P n = some cs) : ∃ q a, w.heap[g]? = some (.cells cs q a) := by
  simp only [World.var?, hg, Option.bind_some] at hv
  split at hv
  · rename_i cs' q a h
    injection hv with hv
    subst hv
    exact ⟨q, a, h⟩
  · simp at hv

theorem lt_of_heap {w : World} {g : Nat} {x : Obj} (h : w.heap[g]? = some x) : g < w.heap.size := by
  rcases Nat.lt_or_ge g w.heap.size with h' | h'
  · exact h'
  · rw [Array.getElem?_eq_none h'] at h; simp at h

/-- A variable that bears an error. -/
theorem repAt_err {T : Tab} {P : Program} {w : World} {n : String} {g tp : Nat} {y : Value} (hg : P.globalNamed n = some g) (hv : w.var? P n = some #[.iface tp y]) (ht : lkN T.tys tp = some 3) :
    RepAt T w (fun b => b < w.heap.size) g 0 [.ifc 3 .junk] ∧ g < w.heap.size ∧ ∃ vs q a, w.heap[g]? = some (.cells vs q a) ∧ vs.size = 1 := by
  obtain ⟨q, a, h⟩ := var_heap hg hv
  refine ⟨?_, lt_of_heap h, _, q, a, h, rfl⟩
  simp only [RepAt, and_true]
  exact ⟨lt_of_heap h, _, by simpa using World.var?_cell hg hv 0, tp, y, rfl, ht, trivial⟩

theorem repAt_ints {T : Tab} {w : World} {F : Frz} {g : Nat} {k : IntKind} (hF : F g) : ∀ (zs : List Int) (o : Nat), (∀ j z, zs[j]? = some z → w.cell? ⟨g, o + j, none⟩ = some (.int k z)) → RepAt T w F g o (zs.map (AV.int k))
  | [], _, _ => trivial
  | z :: r, o, h => by
    simp only [List.map_cons, RepAt]
    refine ⟨⟨hF, _, by simpa using h 0 z rfl, by simp [Rep]⟩, ?_⟩
    exact repAt_ints hF r (o + 1) fun j s hj => by
      rw [show o + 1 + j = o + (j + 1) by omega]
      exact h (j + 1) s (by simpa using hj)

/-- A table of integers. -/
theorem repAt_tab {T : Tab} {P : Program} {w : World} {n : String} {g : Nat} {k : IntKind} {zs : List Int} (hg : P.globalNamed n = some g) (hv : Lib.TabIs P w n k zs) :
    RepAt T w (fun b => b < w.heap.size) g 0 (zs.map (AV.int k)) ∧ g < w.heap.size ∧ ∃ vs q a, w.heap[g]? = some (.cells vs q a) ∧ vs.size = (zs.map (AV.int k)).length := by
  have hv' : w.var? P n = some (zs.map fun z => Value.int k z).toArray := hv
  obtain ⟨q, a, h⟩ := var_heap hg hv'
  refine ⟨repAt_ints (F := fun b => b < w.heap.size) (lt_of_heap h) zs 0 fun j z hj => ?_, lt_of_heap h, _, q, a, h, by simp⟩
  have hc := World.var?_cell hg hv' j
  rw [Nat.zero_add, hc]
  simp [hj]

end Wax


namespace Wax
open Go Go.ChangeShapes Go.WideShapes Go.RowKit

section
variable {P : Program} {T : Tab} {w : World} {H : Type} {enc : TypeId × Value → H}

theorem u8_has {n : Int} (h : (Lit.int .u8 n).wf = true) : 0 ≤ n ∧ n < 256 := by
  simp only [Lit.wf] at h
  have : 0 ≤ n ∧ n ≤ 255 := by simpa [IntKind.min, IntKind.max, IntKind.bits, IntKind.signed] using h
  omega

end
end Wax


