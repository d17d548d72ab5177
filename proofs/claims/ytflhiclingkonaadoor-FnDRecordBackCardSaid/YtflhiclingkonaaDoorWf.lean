/- The machine by which the functions are read, and what is proved of them (part 6): no premise. -/
import Derived.Lib.Join
import Derived.Laws.OwnMore
import Derived.Lib.ParseIntBTie
import Derived.Lib.ConvBytes
import Derived.WideShapes
import Derived.SliceStrings
import Derived.OpenShut
import Derived.Lib.LaidTab
import Derived.Lib.ItoaMem
import Derived.Lib.ItoaNum
import Derived.Lib.AppendIntMem
import Derived.Lib.ItoaLen
import Derived.Test.YtflhiclingkonaaDoorWe
set_option linter.all false
/- FnDPicks (2): the picker of header fields. -/
namespace Wax
open Go (IntKind)

/-- What an evaluation asks of a slice of texts. -/
theorem slf_alen {u : AV} {l : List (List UInt8)} (h : slStrs u = some l) (hp : List (Nat × AObj)) : alen hp 1 u = some l.length := by
  rcases slStrs_cases h with ⟨rfl, rfl⟩ | rfl <;> simp
theorem slf_kill {u : AV} {l : List (List UInt8)} (h : slStrs u = some l) (d : Nat) : kill d u = u := by
  rcases slStrs_cases h with ⟨rfl, rfl⟩ | rfl <;> simp
theorem slf_ref {u : AV} {l : List (List UInt8)} (h : slStrs u = some l) : hasRef u = false := by
  rcases slStrs_cases h with ⟨rfl, rfl⟩ | rfl <;> simp
theorem slf_refs {u : AV} {l : List (List UInt8)} (h : slStrs u = some l) : refs u = [] := by
  rcases slStrs_cases h with ⟨rfl, rfl⟩ | rfl <;> simp
theorem slf_map {u : AV} {l : List (List UInt8)} (h : slStrs u = some l) (g : Nat → Nat) : mapId g u = u := by
  rcases slStrs_cases h with ⟨rfl, rfl⟩ | rfl <;> simp
theorem slf_snap {u : AV} {l : List (List UInt8)} (h : slStrs u = some l) (n : Nat) (hp : List (Nat × AObj)) : snap (n + 1) hp u = u := by
  rcases slStrs_cases h with ⟨rfl, rfl⟩ | rfl <;> simp
theorem slf_snapW {u : AV} {l : List (List UInt8)} (h : slStrs u = some l) (g : AV → AV) : snapW g u = u := by
  rcases slStrs_cases h with ⟨rfl, rfl⟩ | rfl <;> simp
theorem slf_atom {u : AV} {l : List (List UInt8)} (h : slStrs u = some l) : atom u = true := by
  rcases slStrs_cases h with ⟨rfl, rfl⟩ | rfl <;> simp
theorem slf_cells {u : AV} {l : List (List UInt8)} (h : slStrs u = some l) : cells u = [u] := by
  rcases slStrs_cases h with ⟨rfl, rfl⟩ | rfl <;> simp
theorem slf_ne {u : AV} {l : List (List UInt8)} (h : slStrs u = some l) (hl : l ≠ []) : u = .sl 1 (strsA l) := by
  rcases slStrs_cases h with ⟨rfl, rfl⟩ | rfl
  · exact absurd rfl hl
  · rfl

def con_newHeaderPicker : List AV → List (Nat × AObj) → Option (AV × List (Nat × AObj))
  | [u], [] => match slStrs u with
    | some _ => some (.ref 0 0, [(0, .cells [u, .mref 1]), (1, .mp [])])
    | none => none
  | _, _ => none

theorem ok_newHeaderPicker (Γ : Gam) : ∀ args hp q, con_newHeaderPicker args hp = some q → runsS Γ c_dkim_newHeaderPicker args hp (fun v => v = some q) := by
  intro args hp q h
  simp only [con_newHeaderPicker] at h
  split at h <;> (try simp at h; done)
  rename_i u
  split at h <;> (try simp at h; done)
  rename_i l hl
  injection h with h; subst h
  rcases slStrs_cases hl with ⟨rfl, rfl⟩ | rfl <;> simp [c_dkim_newHeaderPicker, reach_succ]

def mpA (c : List (List UInt8 × Nat)) : List (List UInt8 × AV) := c.map fun p => (p.1, .int .i64 (p.2 : Int))
def asCnt : List (List UInt8 × AV) → Option (List (List UInt8 × Nat))
  | [] => some []
  | (k, .int .i64 n) :: r => if 0 ≤ n then (asCnt r).map ((k, n.toNat) :: ·) else none
  | _ :: _ => none
theorem asCnt_mpA : ∀ c, asCnt (mpA c) = some c
  | [] => rfl
  | (k, n) :: r => by
    have := asCnt_mpA r
    simp only [mpA, List.map_cons, asCnt] at this ⊢
    rw [this, if_pos (by omega)]; simp
theorem asCnt_spec : ∀ {es c}, asCnt es = some c → es = mpA c
  | [], c, h => by simp [asCnt] at h; subst h; rfl
  | (k, v) :: r, c, h => by
    cases v <;> (try (simp [asCnt] at h; done))
    rename_i t n
    cases t <;> (try (simp [asCnt] at h; done))
    simp only [asCnt] at h
    split at h
    · rename_i hn
      cases hr : asCnt r with
      | none => rw [hr] at h; simp at h
      | some c' =>
        rw [hr] at h; simp at h; subst h
        rw [asCnt_spec hr]
        simp [mpA]; omega
    · simp at h

def getC : List (List UInt8 × Nat) → List UInt8 → Nat
  | [], _ => 0
  | (i, n) :: r, k => if k = i then n else getC r k
def setC : List (List UInt8 × Nat) → List UInt8 → Nat → List (List UInt8 × Nat)
  | [], k, v => [(k, v)]
  | (i, n) :: r, k, v => if k = i then (k, v) :: r else (i, n) :: setC r k v
theorem look_mpA : ∀ (c : List (List UInt8 × Nat)) (k : List UInt8), lookA (mpA c) k (.int .i64 0) false = .int .i64 (getC c k : Int)
  | [], k => rfl
  | (i, n) :: r, k => by
    have := look_mpA r k
    by_cases h : k = i <;> simp [mpA, lookA, mfind, getC, h] at this ⊢
    exact this
theorem mset_mpA : ∀ (c : List (List UInt8 × Nat)) (k : List UInt8) (n : Nat), mset (mpA c) k (.int .i64 (n : Int)) = mpA (setC c k n)
  | [], k, n => rfl
  | (i, m) :: r, k, n => by
    have := mset_mpA r k n
    by_cases h : k = i <;> simp [mpA, mset, setC, h] at this ⊢
    exact this
theorem getC_setC : ∀ (c : List (List UInt8 × Nat)) (k : List UInt8) (n : Nat) (j : List UInt8), getC (setC c k n) j = if j = k then n else getC c j
  | [], k, n, j => rfl
  | (i, m) :: r, k, n, j => by
    have := getC_setC r k n j
    by_cases h : k = i
    · subst h; by_cases h2 : j = k <;> simp [setC, getC, h2]
    · by_cases h2 : j = i
      · subst h2; have : ¬ j = k := fun e => h e.symm
        simp [setC, getC, h, this]
      · simp [setC, getC, h, h2, this]

/-- The field of that name, so many times passed over. -/
def pk (key : List UInt8) : List (List UInt8) → Nat → Option (List UInt8)
  | [], _ => none
  | f :: r, n => if lowS (nameOf f) = key then (match n with | 0 => some f | n + 1 => pk key r n) else pk key r n

def pkRes (u : AV) (c : List (List UInt8 × Nat)) (key : List UInt8) : Option (List UInt8) → AV × List (Nat × AObj)
  | some f => (.str f, [(0, .cells [u, .mref 1]), (1, .mp (mpA (setC c key (getC c key + 1))))])
  | none => (.str [], [(0, .cells [u, .mref 1]), (1, .mp (mpA c))])

def con_hpPick : List AV → List (Nat × AObj) → Option (AV × List (Nat × AObj))
  | [.ref 0 0, .str k], [(0, .cells [u, .mref 1]), (1, .mp es)] => match slStrs u, asCnt es with
    | some fs, some c => if fs.length < mid ∧ (∀ s ∈ fs, s.length < mid ∧ plain s = true) ∧ k.length < mid ∧ plain k = true ∧ getC c (lowS k) < mid then
        some (pkRes u c (lowS k) (pk (lowS k) fs.reverse (getC c (lowS k))))
      else none
    | _, _ => none
  | _, _ => none

theorem nameOf_len (s : List UInt8) : (nameOf s).length ≤ s.length := by
  have ht : ∀ t : List UInt8, (trimS t).length ≤ t.length := by
    intro t
    have h1 : (trimL t).length ≤ t.length := (List.dropWhile_suffix _).length_le
    have h2 : (trimR (trimL t)).length ≤ (trimL t).length := by
      simp only [trimR, List.length_reverse]
      have := (List.dropWhile_suffix (fun b : UInt8 => isWs b.toNat) (l := (trimL t).reverse)).length_le
      simpa using this
    exact Nat.le_trans h2 h1
  simp only [nameOf]
  cases hc : cutAt 58 s with
  | none => exact ht s
  | some p => have := (cutAt_le hc).1; have := ht p.1; simp only; omega

theorem plain_sub {s t : List UInt8} (h : ∀ x ∈ t, x ∈ s) (hs : plain s = true) : plain t = true := by
  simp only [plain, List.all_eq_true] at hs ⊢
  exact fun x hx => hs x (h x hx)

theorem trimS_sub {t : List UInt8} : ∀ x ∈ trimS t, x ∈ t := by
  intro x hx
  simp only [trimS, trimR, trimL, List.mem_reverse] at hx
  have := (List.dropWhile_suffix _).mem hx
  rw [List.mem_reverse] at this
  exact (List.dropWhile_suffix _).mem this

theorem nameOf_plain {s : List UInt8} (h : plain s = true) : plain (nameOf s) = true := by
  simp only [nameOf]
  refine plain_sub (fun x hx => trimS_sub x hx) ?_
  cases hc : cutAt 58 s with
  | none => exact h
  | some p =>
    obtain ⟨_, y, hy⟩ := cutAt_le hc
    refine plain_sub (fun x hx => ?_) h
    rw [hy]; simp [show x ∈ p.1 from hx]
theorem plain_lowS {s : List UInt8} (h : plain s = true) : ascii (lowS s) = true := by
  have := plain_ascii h
  simp only [ascii, lowS, List.all_map, List.all_eq_true] at this ⊢
  intro x hx
  have h1 := of_decide_eq_true (this x hx)
  have lb := lowB_toNat x
  refine decide_eq_true ?_
  split at lb <;> omega
end Wax

/- FnDParams (1): splitting at a byte; pairs. -/
namespace Wax
open Go (IntKind)

def con_DSplit : List AV → Option AV
  | [.str s, .int .u8 n] => if s.length < mid ∧ 0 ≤ n ∧ n < 256 then some (.sl 1 (strsA (splitB (UInt8.ofNat n.toNat) s))) else none
  | _ => none

theorem ok_DSplit (Γ : Gam) (h2 : Γ.fn 2 = con_dCut) : ∀ args r, con_DSplit args = some r → runs Γ c_spec_DSplit args (fun v => v = r) := by
  intro args r h
  simp only [con_DSplit] at h
  split at h <;> (try simp at h; done)
  rename_i s n
  obtain ⟨⟨hs, hn0, hn⟩, rfl⟩ := ite_some h
  clear h
  obtain ⟨b, rfl⟩ : ∃ b : UInt8, n = (b.toNat : Int) := ⟨UInt8.ofNat n.toNat, by
    have : (UInt8.ofNat n.toNat).toNat = n.toNat := by simp; omega
    rw [this]; omega⟩
  have eb : UInt8.ofNat (b.toNat : Int).toNat = b := by simp
  rw [eb]
  have k2 : ∀ t : List UInt8, t.length ≤ s.length → con_dCut [.str t, .int .u8 b.toNat] = some (cutV b.toNat t) := by
    intro t ht
    simp only [con_dCut]; exact if_pos (by simp only [mid] at hs; simp only [big]; omega)
  simp only [mid] at hs
  simp [c_spec_DSplit]
  refine awp_loop2 (σ := List (List UInt8) × List UInt8) (fun p => ⟨[(0, .str p.2), (1, .int .u8 b.toNat), (5, grV 19 1 p.1.length)], grH 19 p.1.length (strsA p.1)⟩)
    (fun p => splitB b s = p.1 ++ splitB b p.2 ∧ p.2.length + p.1.length ≤ s.length) (fun p => p.2.length) ([], s) (by simp) (by simp) ?_
  rintro ⟨outs, t⟩ ⟨hsp, htl⟩ LQ hLQ
  simp only at hsp htl
  have k := k2 t (by omega)
  rw [splitB_cut b t] at hsp
  cases hc : cutAt b.toNat t with
  | none =>
    simp only [hc] at hsp
    rw [hsp]
    cases outs with
    | nil => simp [b_spec_DSplit_1, acall, h2, k, cutV, hc]
    | cons o outs =>
      simp at htl
      simp [b_spec_DSplit_1, acall, h2, k, cutV, hc, List.take_of_length_le]
      omega
  | some p =>
    simp only [hc] at hsp
    obtain ⟨hpl, _⟩ := cutAt_le hc
    have fin : ∀ st, norm [0, 1, 5] st = ⟨[(0, .str p.2), (1, .int .u8 b.toNat), (5, .msl 19 1 0 (outs.length + 1))], [(19, .cells (strsA outs ++ [.str p.1]))]⟩ → LQ st := by
      intro st hst
      refine hLQ (outs ++ [p.1], p.2) ⟨by rw [hsp]; simp, by simp; omega⟩ (by simp only; omega) st (by simpa using hst)
    cases outs with
    | nil =>
      simp [b_spec_DSplit_1, acall, h2, k, cutV, hc]
      exact fin _ (by simp)
    | cons o outs =>
      simp at htl
      simp [b_spec_DSplit_1, acall, h2, k, cutV, hc]
      exact ⟨by omega, fin _ (by simp)⟩

/-- Pairs of texts, as elements of two cells. -/
def pr2 (l : List (List UInt8 × List UInt8)) : List AV := l.map fun p => .agg [.str p.1, .str p.2]
/-- .. as cells. -/
def pc2 (l : List (List UInt8 × List UInt8)) : List AV := l.flatMap fun p => [.str p.1, .str p.2]
@[simp] theorem pr2_nil : pr2 [] = [] := rfl
@[simp] theorem pr2_cons {x l} : pr2 (x :: l) = .agg [.str x.1, .str x.2] :: pr2 l := rfl
@[simp] theorem pr2_app {l m} : pr2 (l ++ m) = pr2 l ++ pr2 m := by simp [pr2]
@[simp] theorem pr2_length {l} : (pr2 l).length = l.length := by simp [pr2]
@[simp] theorem pc2_nil : pc2 [] = [] := rfl
@[simp] theorem pc2_cons {x : List UInt8 × List UInt8} {l} : pc2 (x :: l) = .str x.1 :: .str x.2 :: pc2 l := rfl
@[simp] theorem pc2_app {l m} : pc2 (l ++ m) = pc2 l ++ pc2 m := by simp [pc2]
@[simp] theorem pc2_length {l : List (List UInt8 × List UInt8)} : (pc2 l).length = l.length * 2 := by induction l <;> simp_all; omega
@[simp] theorem atoms_pc2 {l} : atoms (pc2 l) = true := by induction l <;> simp_all
@[simp] theorem killL_pc2 {d l} : killL d (pc2 l) = pc2 l := by induction l <;> simp_all
@[simp] theorem map_snap_pc2 {n : Nat} {hp : List (Nat × AObj)} {l} : (pc2 l).map (snap (n + 1) hp) = pc2 l := by induction l <;> simp_all
@[simp] theorem snapWL_pc2 {g : AV → AV} {l} : snapWL g (pc2 l) = pc2 l := by induction l <;> simp_all
@[simp] theorem group_pc2 : ∀ {l : List (List UInt8 × List UInt8)}, group 2 l.length (pc2 l) = pr2 l
  | [] => rfl
  | x :: l => by simp [group, group_pc2 (l := l)]

def pairV (l : List (List UInt8 × List UInt8)) : AV := match l with | [] => .nilS | _ => .sl 2 (pr2 l)
def asPairs : List AV → Option (List (List UInt8 × List UInt8))
  | [] => some []
  | .agg [.str a, .str b] :: r => (asPairs r).map ((a, b) :: ·)
  | _ :: _ => none
def slPairs : AV → Option (List (List UInt8 × List UInt8))
  | .nilS => some []
  | .sl es xs => if es = 2 then asPairs xs else none
  | _ => none
theorem asPairs_pr2 : ∀ l, asPairs (pr2 l) = some l
  | [] => rfl
  | x :: l => by simp [asPairs, asPairs_pr2 l]
theorem asPairs_spec : ∀ {xs l}, asPairs xs = some l → xs = pr2 l
  | [], l, h => by simp [asPairs] at h; subst h; rfl
  | v :: r, l, h => by
    unfold asPairs at h
    split at h
    · simp at h; rename_i e; simp at e
    · rename_i a b r' e
      simp at e; obtain ⟨rfl, rfl⟩ := e
      cases hr : asPairs r with
      | none => rw [hr] at h; simp at h
      | some l' => rw [hr] at h; simp at h; subst h; rw [asPairs_spec hr]; rfl
    · simp at h
theorem slPairs_cases {v : AV} {l} (h : slPairs v = some l) : (v = .nilS ∧ l = []) ∨ v = .sl 2 (pr2 l) := by
  cases v <;> simp [slPairs] at h
  · left; exact ⟨rfl, h⟩
  · right; obtain ⟨e, h⟩ := h; rw [asPairs_spec h, e]
theorem slPairs_pairV {l} : slPairs (pairV l) = some l := by
  cases l <;> simp [pairV, slPairs, ← pr2_cons, asPairs_pr2, -pr2_cons]
end Wax

/- FnDParams (2): lists of pairs; a text's tags, as the program reads them. -/
namespace Wax
open Go (IntKind)

def con_dSamePairs : List AV → Option AV
  | [u, v] => match slPairs u, slPairs v with
    | some l, some m => if l.length < mid ∧ m.length < mid then some (.bool (decide (l = m))) else none
    | _, _ => none
  | _ => none

theorem slp_alen {u : AV} {l} (h : slPairs u = some l) (hp : List (Nat × AObj)) : alen hp 1 u = some l.length := by
  rcases slPairs_cases h with ⟨rfl, rfl⟩ | rfl <;> simp
theorem slp_ne {u : AV} {l} (h : slPairs u = some l) (hl : l ≠ []) : u = .sl 2 (pr2 l) := by
  rcases slPairs_cases h with ⟨rfl, rfl⟩ | rfl
  · exact absurd rfl hl
  · rfl
@[simp] theorem pr2_get {l : List (List UInt8 × List UInt8)} {i : Nat} : (pr2 l)[i]? = l[i]?.map fun p => AV.agg [.str p.1, .str p.2] := by simp [pr2]

theorem ok_dSamePairs (Γ : Gam) : ∀ args r, con_dSamePairs args = some r → runs Γ c_laws_dSamePairs args (fun v => v = r) := by
  intro args r h
  simp only [con_dSamePairs] at h
  split at h <;> (try simp at h; done)
  rename_i u v
  split at h <;> (try simp at h; done)
  rename_i l m hl hm
  obtain ⟨⟨h1, h2⟩, rfl⟩ := ite_some h
  clear h
  simp only [mid] at h1 h2
  by_cases hlen : l.length = m.length
  · have hlen2 : (l.length : Int) = (m.length : Int) := by omega
    simp [-alen, c_laws_dSamePairs, slp_alen hl, slp_alen hm, hlen2, hlen]
    refine awp_loop2 (σ := List (List UInt8 × List UInt8) × List (List UInt8 × List UInt8) × List (List UInt8 × List UInt8)) (fun p => ⟨[(0, u), (1, v), (5, .int .i64 p.1.length)], []⟩)
      (fun p => l = p.1 ++ p.2.1 ∧ m = p.1 ++ p.2.2) (fun p => p.2.1.length) ([], l, m) (by simp) (by simp) ?_
    rintro ⟨pre, a, b⟩ ⟨e1, e2⟩ LQ hLQ
    simp only at e1 e2
    subst e1 e2
    cases a with
    | nil =>
      have hb : b = [] := by simpa using hlen
      subst hb
      simp [-alen, slp_alen hl, b_laws_dSamePairs_1, t_laws_dSamePairs_2]
    | cons x a =>
      cases b with
      | nil => simp at hlen
      | cons y b =>
        obtain ⟨x1, x2⟩ := x
        obtain ⟨y1, y2⟩ := y
        simp at h1 h2 hlen
        have hu := slp_ne hl (by simp)
        have hv := slp_ne hm (by simp)
        subst hu hv
        have ew : IntKind.i64.wrap ((pre.length : Int) + 1) = (pre.length : Int) + 1 := wrap64 (by omega) (by omega)
        have hlt : (pre.length : Int) < (pre.length : Int) + ((a.length : Int) + 1) := by omega
        have g : ∀ (q : List (List UInt8 × List UInt8)) (z : List UInt8 × List UInt8), (pre ++ z :: q)[pre.length]? = some z := fun q z => get_mid rfl
        have g2 : ∀ (q : List AV) (z : AV), (pr2 pre ++ z :: q)[pre.length]? = some z := fun q z => get_mid (by simp)
        by_cases hxy : x1 = y1 ∧ x2 = y2
        · obtain ⟨rfl, rfl⟩ := hxy
          simp [b_laws_dSamePairs_1, ew, g, g2, hlt]
          exact hLQ (pre ++ [(x1, x2)], a, b) (by simp) (by simp) _ (by simp)
        · have hb : (decide (x1 = y1) && decide (x2 = y2)) = false := by
            rw [Bool.and_eq_false_iff]; simp only [decide_eq_false_iff_not]
            by_cases hx : x1 = y1
            · right; exact fun e => hxy ⟨hx, e⟩
            · left; exact hx
          have hne : ¬ ((x1, x2) = (y1, y2)) := by simpa using fun a b => hxy ⟨a, b⟩
          simp [b_laws_dSamePairs_1, ew, g, g2, hlt, hb]
  · have hne : ¬ l = m := fun e => hlen (by rw [e])
    have hlen2 : ¬ (l.length : Int) = (m.length : Int) := by omega
    simp [-alen, c_laws_dSamePairs, slp_alen hl, slp_alen hm, hlen2, hne]

def half : Nat := 549755813888

def con_pairsOf : List AV → Option AV
  | [u] => match slPairs u with
    | some l => if l.length < half then some (pairV l) else none
    | none => none
  | _ => none

theorem ok_pairsOf (Γ : Gam) : ∀ args r, con_pairsOf args = some r → runs Γ c_impl_pairsOf args (fun v => v = r) := by
  intro args r h
  simp only [con_pairsOf] at h
  split at h <;> (try simp at h; done)
  rename_i u
  split at h <;> (try simp at h; done)
  rename_i l hl
  obtain ⟨h1, rfl⟩ := ite_some h
  clear h
  simp only [half] at h1
  simp [-alen, c_impl_pairsOf, slp_alen hl]
  refine awp_loop2 (σ := List (List UInt8 × List UInt8) × List (List UInt8 × List UInt8)) (fun p => ⟨[(3, grV 19 2 p.1.length), (6, u), (7, .int .i64 l.length), (8, .int .i64 p.1.length)], grH 19 p.1.length (pc2 p.1)⟩)
    (fun p => l = p.1 ++ p.2) (fun p => p.2.length) ([], l) (by simp) (by simp) ?_
  rintro ⟨pre, post⟩ hs LQ hLQ
  simp only at hs
  subst hs
  cases post with
  | nil =>
    cases pre with
    | nil => simp [b_impl_pairsOf_1, t_impl_pairsOf_2, pairV]
    | cons x pre =>
      simp at h1 hl
      have hg := group_pc2 (l := x :: pre)
      simp at hg
      simp [b_impl_pairsOf_1, t_impl_pairsOf_2, pairV, hg]
      omega
  | cons x post =>
    have hu := slp_ne hl (by simp)
    subst hu
    obtain ⟨x1, x2⟩ := x
    simp at h1
    have ew : IntKind.i64.wrap ((pre.length : Int) + 1) = (pre.length : Int) + 1 := wrap64 (by omega) (by omega)
    have hlt : (pre.length : Int) < (pre.length : Int) + ((post.length : Int) + 1) := by omega
    have g2 : ∀ (q : List AV) (z : AV), (pr2 pre ++ z :: q)[pre.length]? = some z := fun q z => get_mid (by simp)
    have fin : ∀ st, norm [3, 6, 7, 8] st = ⟨[(3, .msl 19 2 0 (pre.length + 1)), (6, .sl 2 (pr2 (pre ++ (x1, x2) :: post))), (7, .int .i64 ((pre.length : Int) + ((post.length : Int) + 1))), (8, .int .i64 ((pre.length : Int) + 1))], [(19, .cells (pc2 pre ++ [.str x1, .str x2]))]⟩ → LQ st := by
      intro st hst
      exact hLQ (pre ++ [(x1, x2)], post) (by simp) (by simp) st (by simpa using hst)
    cases pre with
    | nil =>
      have ew0 : IntKind.i64.wrap 1 = 1 := rfl
      simp [b_impl_pairsOf_1, ew0, g2, hlt]
      exact fin _ (by simp)
    | cons y pre =>
      simp at h1
      have ew1 : IntKind.i64.wrap ((pre.length : Int) + 1 + 1) = (pre.length : Int) + 1 + 1 := wrap64 (by omega) (by omega)
      have tk : List.take ((pre.length + 1) * 2) (AV.str y.1 :: AV.str y.2 :: pc2 pre) = AV.str y.1 :: AV.str y.2 :: pc2 pre := List.take_of_length_le (by simp; omega)
      simp [b_impl_pairsOf_1, ew1, g2, tk]
      refine ⟨fun _ => ⟨by omega, ⟨by omega, by omega⟩, fin _ (by simp; omega)⟩, fun h => by omega⟩
end Wax

/- FnDParams (3): a text's tags, as the program reads them. -/
namespace Wax
open Go (IntKind)

def con_errorsNew : List AV → Option AV
  | [.str s] => some (.ifc 3 (.ptr [.str s]))
  | _ => none

theorem ok_errorsNew (Γ : Gam) : ∀ args r, con_errorsNew args = some r → runs Γ c_errors_New args (fun v => v = r) := by
  intro args r h
  simp only [con_errorsNew] at h
  split at h <;> (try simp at h; done)
  injection h with h; subst h
  simp [c_errors_New]

def msgBad : List UInt8 := [100, 107, 105, 109, 58, 32, 109, 97, 108, 102, 111, 114, 109, 101, 100, 32, 104, 101, 97, 100, 101, 114, 32, 112, 97, 114, 97, 109, 115]
def msgTwice : List UInt8 := [100, 107, 105, 109, 58, 32, 100, 117, 112, 108, 105, 99, 97, 116, 101, 32, 116, 97, 103, 32, 110, 97, 109, 101]

/-- A map of texts, as it was written. -/
def pmA (l : List (List UInt8 × List UInt8)) : List (List UInt8 × AV) := l.map fun p => (p.1, .str p.2)
def hasK (k : List UInt8) (l : List (List UInt8 × List UInt8)) : Bool := l.any fun p => decide (k = p.1)
theorem mfind_pmA_none {k : List UInt8} : ∀ {l : List (List UInt8 × List UInt8)}, hasK k l = false → mfind (pmA l) k = none ∧ ∀ v, mset (pmA l) k (.str v) = pmA (l ++ [(k, v)])
  | [], _ => ⟨rfl, fun _ => rfl⟩
  | (i, u) :: r, h => by
    simp only [hasK, List.any_cons, Bool.or_eq_false_iff, decide_eq_false_iff_not] at h
    have ih := mfind_pmA_none (k := k) (l := r) h.2
    refine ⟨by simp only [pmA, List.map_cons, mfind, if_neg h.1]; exact ih.1, fun v => ?_⟩
    have := ih.2 v
    simp only [pmA, List.map_cons, mset, if_neg h.1, List.cons_append] at this ⊢
    rw [this]
theorem mfind_pmA_some {k : List UInt8} : ∀ {l : List (List UInt8 × List UInt8)}, hasK k l = true → ∃ v, mfind (pmA l) k = some (.str v)
  | [], h => by simp [hasK] at h
  | (i, u) :: r, h => by
    by_cases hk : k = i
    · exact ⟨u, by simp [pmA, mfind, hk]⟩
    · have : hasK k r = true := by simpa [hasK, hk] using h
      obtain ⟨v, hv⟩ := mfind_pmA_some this
      exact ⟨v, by simp only [pmA, List.map_cons, mfind, if_neg hk]; exact hv⟩

def prm : List (List UInt8) → List (List UInt8 × List UInt8) → List (List UInt8 × List UInt8) × Option (List UInt8)
  | [], acc => (acc, none)
  | p :: r, acc => match cutAt 61 p with
    | none => if trimS p = [] then prm r acc else (acc, some msgBad)
    | some q => if hasK (trimS q.1) acc = true then (acc, some msgTwice) else prm r (acc ++ [(trimS q.1, trimS q.2)])

def prmV (x : List (List UInt8 × List UInt8) × Option (List UInt8)) : AV := .tup [.mp (pmA x.1), match x.2 with | none => .nilI | some m => .ifc 3 (.ptr [.str m])]

def con_parseHeaderParams : List AV → Option AV
  | [.str s] => if s.length < mid ∧ plain s = true then some (prmV (prm (splitB 59 s) [])) else none
  | _ => none

theorem splitB_sub (b : UInt8) : ∀ (s p : List UInt8), p ∈ splitB b s → ∀ y ∈ p, y ∈ s
  | [], p, h, y, hy => by simp [splitB] at h; subst h; exact hy
  | x :: r, p, h, y, hy => by
    have ih := splitB_sub b r
    simp only [splitB] at h
    split at h
    · rcases List.mem_cons.1 h with e | h
      · subst e; simp at hy
      · exact List.mem_cons_of_mem _ (ih p h y hy)
    · split at h
      · simp at h; subst h; simp at hy; subst hy; simp
      · rename_i hd t e
        rcases List.mem_cons.1 h with e' | h
        · subst e'
          rcases List.mem_cons.1 hy with e2 | hy
          · subst e2; simp
          · exact List.mem_cons_of_mem _ (ih hd (by rw [e]; simp) y hy)
        · exact List.mem_cons_of_mem _ (ih p (by rw [e]; simp [h]) y hy)
theorem splitB_plain (b : UInt8) (s p : List UInt8) (hs : plain s = true) (h : p ∈ splitB b s) : plain p = true := plain_sub (splitB_sub b s p h) hs

set_option maxRecDepth 100000 in
theorem ok_parseHeaderParams (Γ : Gam) (s25 : Γ.st 25 = con_zzSplit) (h16 : Γ.fn 16 = con_zzCut) (h18 : Γ.fn 18 = con_zzTrimSpace) (h50 : Γ.fn 50 = con_errorsNew) : ∀ args r, con_parseHeaderParams args = some r → runs Γ c_dkim_parseHeaderParams args (fun v => v = r) := by
  intro args r h
  simp only [con_parseHeaderParams] at h
  split at h <;> (try simp at h; done)
  rename_i s
  obtain ⟨⟨hs, hp⟩, rfl⟩ := ite_some h
  clear h
  have hsp : con_zzSplit [.str s, .str [59]] [] = some (.msl 0 1 0 (splitB 59 s).length, [(0, .cells (strsA (splitB 59 s)))]) := if_pos hs
  have hl := splitB_length 59 s
  have hml := splitB_mem_length 59 s
  have hmp := fun p => splitB_plain 59 s p hp
  simp [c_dkim_parseHeaderParams, acallS, s25, hsp]
  clear hsp
  generalize splitB 59 s = L at *
  have hs' := hs
  simp only [mid] at hs'
  refine awp_loop2 (σ := List (List UInt8) × List (List UInt8) × List (List UInt8 × List UInt8)) (fun p => ⟨[(5, .mref 16), (17, .msl 15 1 0 L.length), (18, .int .i64 L.length), (19, .int .i64 p.1.length)], [(16, .mp (pmA p.2.2)), (15, .cells (strsA L))]⟩)
    (fun p => L = p.1 ++ p.2.1 ∧ prm L [] = prm p.2.1 p.2.2) (fun p => p.2.1.length) ([], L, []) (by simp [pmA]) (by simp) ?_
  rintro ⟨pre, post, acc⟩ ⟨e1, e2⟩ LQ hLQ
  simp only at e1 e2
  cases post with
  | nil =>
    simp at e1
    rw [e2]
    simp [b_dkim_parseHeaderParams_1, t_dkim_parseHeaderParams_2, e1, prm, prmV]
  | cons x post =>
    have hxm : x ∈ L := by rw [e1]; simp
    have hxl := hml x hxm
    have hxp := hmp x hxm
    have hlen : L.length = pre.length + post.length + 1 := by rw [e1]; simp; omega
    have hlt : pre.length < L.length := by omega
    have g2 : List.drop pre.length L = x :: post := by rw [e1]; simp
    have ew : IntKind.i64.wrap ((pre.length : Int) + 1) = (pre.length : Int) + 1 := wrap64 (by omega) (by omega)
    have hlt' : (pre.length : Int) < (L.length : Int) := by omega
    have k16 : con_zzCut [.str x, .str [61]] = some (cutV 61 x) := by
      simp only [con_zzCut]; exact if_pos (by simp only [big]; omega)
    have k18 : ∀ t : List UInt8, t.length ≤ s.length → plain t = true → con_zzTrimSpace [.str t] = some (.str (trimS t)) := by
      intro t ht hpt
      simp only [con_zzTrimSpace]; exact if_pos ⟨by omega, hpt⟩
    have fin : ∀ acc', prm (x :: post) acc = prm post acc' → ∀ st, norm [5, 17, 18, 19] st = ⟨[(5, .mref 16), (17, .msl 15 1 0 L.length), (18, .int .i64 L.length), (19, .int .i64 ((pre.length : Int) + 1))], [(16, .mp (pmA acc')), (15, .cells (strsA L))]⟩ → LQ st := by
      intro acc' he st hst
      exact hLQ (pre ++ [x], post, acc') ⟨by rw [e1]; simp, by rw [e2, he]⟩ (by simp) st (by simpa using hst)
    cases hc : cutAt 61 x with
    | none =>
      have kx := k18 x hxl hxp
      by_cases ht : trimS x = []
      · have f1 := fin acc (by simp [prm, hc, ht])
        simp [b_dkim_parseHeaderParams_1, hlt, g2, acall, h16, k16, cutV, hc, h18, kx, ht, ew]
        exact f1 _ (by simp)
      · rw [e2]
        simp [b_dkim_parseHeaderParams_1, hlt, g2, acall, h16, k16, cutV, hc, h18, kx, ht, h50, con_errorsNew, prm, prmV, msgBad]
    | some q =>
      obtain ⟨hql, y, hy⟩ := cutAt_le hc
      have hxp' := hxp
      rw [hy, plain_app] at hxp'
      simp only [Bool.and_eq_true] at hxp'
      have hp2 : plain q.2 = true := by
        have := hxp'.2
        simp only [plain, List.all_cons, Bool.and_eq_true] at this
        exact this.2
      have kk := k18 q.1 (by omega) hxp'.1
      have kv := k18 q.2 (by omega) hp2
      cases hh : hasK (trimS q.1) acc with
      | true =>
        obtain ⟨v, hv⟩ := mfind_pmA_some hh
        rw [e2]
        simp [b_dkim_parseHeaderParams_1, hlt, g2, acall, h16, k16, cutV, hc, h18, kk, h50, con_errorsNew, prm, prmV, hh, hv, lookA, msgTwice]
      | false =>
        obtain ⟨hv, hm⟩ := mfind_pmA_none hh
        have f1 := fin (acc ++ [(trimS q.1, trimS q.2)]) (by simp [prm, hc, hh])
        simp [b_dkim_parseHeaderParams_1, hlt, g2, acall, h16, k16, cutV, hc, h18, kk, kv, hh, hv, hm, lookA, ew]
        exact f1 _ (by simp)
end Wax

/- base64: two ways to read it are one. -/
namespace Wax
open Go (IntKind)

def d64 : List UInt8 := [65, 66, 67, 68, 69, 70, 71, 72, 73, 74, 75, 76, 77, 78, 79, 80, 81, 82, 83, 84, 85, 86, 87, 88, 89, 90, 97, 98, 99, 100, 101, 102, 103, 104, 105, 106, 107, 108, 109, 110, 111, 112, 113, 114, 115, 116, 117, 118, 119, 120, 121, 122, 48, 49, 50, 51, 52, 53, 54, 55, 56, 57, 43, 47]
theorem d64_len : d64.length = 64 := rfl

def scanV (c : UInt8) : List UInt8 → Int → Int → Int
  | [], _, v => v
  | x :: r, k, v => scanV c r (k + 1) (if x = c then k else v)

theorem scanV_bound (c : UInt8) : ∀ (l : List UInt8) (k v : Int), -1 ≤ v → v < k → -1 ≤ scanV c l k v ∧ scanV c l k v < k + l.length
  | [], k, v, h1, h2 => by simp [scanV]; exact ⟨h1, h2⟩
  | x :: r, k, v, h1, h2 => by
    have := scanV_bound c r (k + 1) (if x = c then k else v) (by split <;> omega) (by split <;> omega)
    simp only [scanV, List.length_cons]
    omega

/-- The sign's number; -1: it is none. -/
def v64 (c : UInt8) : Int := scanV c d64 0 (-1)
theorem v64_ge (c : UInt8) : -1 ≤ v64 c := (scanV_bound c d64 0 (-1) (by omega) (by omega)).1
theorem v64_lt (c : UInt8) : v64 c < 64 := by have := (scanV_bound c d64 0 (-1) (by omega) (by omega)).2; rw [d64_len] at this; simp only [v64]; omega
theorem v64_eq : v64 61 = -1 := by decide

def stI (last : Bool) (dn : UInt8) (i : Nat) (c : UInt8) (p : Nat × Nat) : Option (Nat × Nat) :=
  if v64 c < 0 then (if c ≠ 61 ∨ i < 2 ∨ last = false ∨ (i = 2 ∧ dn ≠ 61) then none else some (p.1 * 64, if i < p.2 then i else p.2))
  else if p.2 < 4 then none else some (p.1 * 64 + (v64 c).toNat, p.2)

def stS (last : Bool) (k : Nat) (c : UInt8) (p : Nat × Nat) : Option (Nat × Nat) :=
  if c = 61 ∧ 1 < k ∧ last = true then some (p.1 * 64, p.2 + 1)
  else if v64 c < 0 ∨ 0 < p.2 then none else some (p.1 * 64 + (v64 c).toNat, p.2)

def runI (last : Bool) (dn : UInt8) : Nat → List UInt8 → Nat × Nat → Option (Nat × Nat)
  | _, [], p => some p
  | i, c :: r, p => match stI last dn i c p with
    | none => none
    | some q => runI last dn (i + 1) r q

def runS64 (last : Bool) : Nat → List UInt8 → Nat × Nat → Option (Nat × Nat)
  | _, [], p => some p
  | k, c :: r, p => match stS last k c p with
    | none => none
    | some q => runS64 last (k + 1) r q

def bytes3 (n : Nat) : List UInt8 := [UInt8.ofNat (n / 65536), UInt8.ofNat (n / 256), UInt8.ofNat n]

def quadI (last : Bool) (a b c d : UInt8) : Option (List UInt8) := (runI last d 0 [a, b, c, d] (0, 4)).map fun p => (bytes3 p.1).take (p.2 - 1)
def quadS (last : Bool) (a b c d : UInt8) : Option (List UInt8) := (runS64 last 0 [a, b, c, d] (0, 0)).map fun p => (bytes3 p.1).take (3 - p.2)

theorem quad_law (last : Bool) (a b c d : UInt8) : quadI last a b c d = quadS last a b c d := by
  simp only [quadI, quadS, runI, runS64]
  by_cases ha : v64 a < 0
  · simp [stI, stS, ha]
  by_cases hb : v64 b < 0
  · simp [stI, stS, ha, hb]
  by_cases hc : v64 c < 0
  · by_cases ec : c = 61
    · subst ec
      cases last with
      | false => simp [stI, stS, ha, hb, v64_eq]
      | true =>
        by_cases hd : v64 d < 0
        · by_cases ed : d = 61
          · subst ed; simp [stI, stS, ha, hb, v64_eq]
          · simp [stI, stS, ha, hb, v64_eq, hd, ed]
        · have ed : ¬ d = 61 := fun e => by subst e; rw [v64_eq] at hd; omega
          simp [stI, stS, ha, hb, v64_eq, hd, ed]
    · simp [stI, stS, ha, hb, hc, ec]
  · have ec : ¬ c = 61 := fun e => by subst e; rw [v64_eq] at hc; omega
    by_cases hd : v64 d < 0
    · by_cases ed : d = 61
      · subst ed
        cases last with
        | false => simp [stI, stS, ha, hb, hc, ec, v64_eq]
        | true => simp [stI, stS, ha, hb, hc, ec, v64_eq]
      · simp [stI, stS, ha, hb, hc, ec, hd, ed]
    · have ed : ¬ d = 61 := fun e => by subst e; rw [v64_eq] at hd; omega
      simp [stI, stS, ha, hb, hc, ec, hd, ed]

def dec64 (f : Bool → UInt8 → UInt8 → UInt8 → UInt8 → Option (List UInt8)) : List UInt8 → Option (List UInt8)
  | [] => some []
  | a :: b :: c :: d :: r => match f r.isEmpty a b c d with
    | none => none
    | some x => (dec64 f r).map (x ++ ·)
  | _ => none

theorem dec_law : dec64 quadI = dec64 quadS := by
  have : quadI = quadS := by funext l a b c d; exact quad_law l a b c d
  rw [this]

theorem dec64_mod {f} : ∀ {s o : List UInt8}, dec64 f s = some o → s.length % 4 = 0
  | [], _, _ => rfl
  | [_], _, h => by simp [dec64] at h
  | [_, _], _, h => by simp [dec64] at h
  | [_, _, _], _, h => by simp [dec64] at h
  | a :: b :: c :: d :: r, o, h => by
    simp only [dec64] at h
    split at h
    · simp at h
    · cases hr : dec64 f r with
      | none => simp [hr] at h
      | some o' => have := dec64_mod hr; simp only [List.length_cons]; omega

theorem stI_le {last dn i c p q} (h : stI last dn i c p = some q) : q.1 ≤ p.1 * 64 + 63 := by
  simp only [stI] at h
  have := v64_lt c
  split at h
  · split at h
    · simp at h
    · simp only [Option.some.injEq] at h; subst h; simp only; omega
  · split at h
    · simp at h
    · simp only [Option.some.injEq] at h; subst h; simp only; omega

theorem stS_le {last k c p q} (h : stS last k c p = some q) : q.1 ≤ p.1 * 64 + 63 := by
  simp only [stS] at h
  have := v64_lt c
  split at h
  · simp only [Option.some.injEq] at h; subst h; simp only; omega
  · split at h
    · simp at h
    · simp only [Option.some.injEq] at h; subst h; simp only; omega

theorem or64 {n v : Nat} (h : v < 64) (hn : n < 1048576) : IntKind.u64.wrap ((BitVec.ofInt 64 ((n : Int) * 64) ||| BitVec.ofInt 64 (v : Int)).toNat : Int) = ((n * 64 + v : Nat) : Int) := by
  have e1 : BitVec.ofInt 64 ((n : Int) * 64) = BitVec.ofNat 64 (n * 64) := by
    rw [show ((n : Int) * 64) = ((n * 64 : Nat) : Int) by omega]; exact BitVec.ofInt_natCast 64 (n * 64)
  have e2 : BitVec.ofInt 64 (v : Int) = BitVec.ofNat 64 v := BitVec.ofInt_natCast 64 v
  rw [e1, e2]
  have e3 : (BitVec.ofNat 64 (n * 64) ||| BitVec.ofNat 64 v).toNat = n * 64 + v := by
    rw [BitVec.toNat_or, BitVec.toNat_ofNat, BitVec.toNat_ofNat, Nat.mod_eq_of_lt (by omega), Nat.mod_eq_of_lt (by omega)]
    have := Nat.two_pow_add_eq_or_of_lt (i := 6) (b := v) (by omega) n
    rw [show n * 64 = 2 ^ 6 * n by omega]
    omega
  rw [e3]
  simp [IntKind.wrap, IntKind.bits, IntKind.signed]
  omega
end Wax

/- FnDRecords (1): base64, as the program reads it. -/
namespace Wax
open Go (IntKind)

theorem lit64 : ([65, 66, 67, 68, 69, 70, 71, 72, 73, 74, 75, 76, 77, 78, 79, 80, 81, 82, 83, 84, 85, 86, 87, 88, 89, 90, 97, 98, 99, 100, 101, 102, 103, 104, 105, 106, 107, 108, 109, 110, 111, 112, 113, 114, 115, 116, 117, 118, 119, 120, 121, 122, 48, 49, 50, 51, 52, 53, 54, 55, 56, 57, 43, 47] : List UInt8) = d64 := rfl

def msg64 : List UInt8 := [105, 108, 108, 101, 103, 97, 108, 32, 98, 97, 115, 101, 54, 52, 32, 100, 97, 116, 97]
def cleanS (s : List UInt8) : List UInt8 := s.filter fun b => !decide (b.toNat = 13 ∨ b.toNat = 10)

def decV : Option (List UInt8) → AV
  | some o => .tup [.sl 1 (bcA o), .nilI]
  | none => .tup [.nilS, .ifc 3 (.ptr [.str msg64])]

def con_zzDecode : List AV → Option AV
  | [.str s] => if s.length < mid then some (decV (dec64 quadI (cleanS s))) else none
  | _ => none

/-- The sign's number is looked for. -/
theorem scan_zz {Γ : Gam} {Q : APost} (e : AV) (rest : List UInt8) (o8 o9 : AV) (o7 : AV) (i : Nat) (c : UInt8) (hp : List (Nat × AObj)) (hc : rest[i]? = some c)
    (h : Q (.exit 6) ⟨[(4, e), (5, .sl 1 (bcA rest)), (7, o7), (8, o8), (9, o9), (10, .int .i64 i), (11, .int .i64 (v64 c)), (12, .int .i64 64), (50, .bool false)], hp⟩) :
    awp Γ (.loop [4, 5, 7, 8, 9, 10, 11, 12] b_dkim_zzDecode_2) Q ⟨[(4, e), (5, .sl 1 (bcA rest)), (7, o7), (8, o8), (9, o9), (10, .int .i64 i), (11, .int .i64 (-1)), (12, .int .i64 0)], hp⟩ := by
  refine awp_loop2 (σ := List UInt8 × List UInt8 × Int) (fun p => ⟨[(4, e), (5, .sl 1 (bcA rest)), (7, o7), (8, o8), (9, o9), (10, .int .i64 i), (11, .int .i64 p.2.2), (12, .int .i64 p.1.length)], hp⟩)
    (fun p => d64 = p.1 ++ p.2.1 ∧ v64 c = scanV c p.2.1 p.1.length p.2.2) (fun p => p.2.1.length) ([], d64, -1) (by simp) (by simp [v64]) ?_
  rintro ⟨pre, post, v⟩ ⟨e1, e2⟩ LQ hLQ
  simp only at e1 e2
  have hl : pre.length + post.length = 64 := by have := congrArg List.length e1; rw [d64_len] at this; simp at this; omega
  cases post with
  | nil =>
    simp only [scanV] at e2
    have h64 : pre.length = 64 := by simpa using hl
    subst e2
    simp -implicitDefEqProofs [b_dkim_zzDecode_2, h64]
    exact h
  | cons x post =>
    simp only [scanV] at e2
    simp at hl
    have hlt : (pre.length : Int) < 64 := by omega
    have g : d64[pre.length]? = some x := by rw [e1]; exact get_mid rfl
    have ew : IntKind.i64.wrap ((pre.length : Int) + 1) = (pre.length : Int) + 1 := wrap64 (by omega) (by omega)
    have hb : (bcA rest)[i]? = some (.int .u8 (c.toNat : Int)) := by simp [bcA, hc]
    by_cases hx : x = c
    · subst hx
      simp only [if_true] at e2
      simp -implicitDefEqProofs [b_dkim_zzDecode_2, lit64, hlt, g, ew, hb, hc]
      exact hLQ (pre ++ [x], post, pre.length) ⟨by simp [e1], by rw [e2]; simp⟩ (by simp) _ (by simp)
    · rw [if_neg hx] at e2
      have hn : ¬ ((x.toNat : Int) = (c.toNat : Int)) := fun h => hx (UInt8.toNat_inj.1 (by omega))
      simp -implicitDefEqProofs [b_dkim_zzDecode_2, lit64, hlt, g, ew, hb, hc, hn]
      exact hLQ (pre ++ [x], post, v) ⟨by simp [e1], by rw [e2]; simp⟩ (by simp) _ (by simp)
def bnd (i n : Nat) : Prop := (i = 0 ∧ n = 0) ∨ (i = 1 ∧ n < 64) ∨ (i = 2 ∧ n < 4096) ∨ (i = 3 ∧ n < 262144) ∨ (i = 4 ∧ n < 16777216)

theorem bnd_step {i n m : Nat} (h : bnd i n) (hi : i < 4) (hm : m ≤ n * 64 + 63) : bnd (i + 1) m := by
  simp only [bnd] at *; omega

theorem or64' {n v : Nat} (h : v < 64) (hn : n < 262144) : IntKind.u64.wrap (((IntKind.u64.wrap ((n : Int) * 2 ^ min 6 IntKind.u64.bits) % 2 ^ IntKind.u64.bits).toNat ||| (IntKind.u64.wrap (v : Int) % 2 ^ IntKind.u64.bits).toNat : Nat) : Int) = ((n * 64 + v : Nat) : Int) := by
  have e1 : IntKind.u64.wrap ((n : Int) * 2 ^ min 6 IntKind.u64.bits) = ((n * 64 : Nat) : Int) := by
    simp [IntKind.wrap, IntKind.bits, IntKind.signed]; omega
  have e2 : IntKind.u64.wrap (v : Int) = v := by simp [IntKind.wrap, IntKind.bits, IntKind.signed]; omega
  rw [e1, e2]
  have e3 : (((n * 64 : Nat) : Int) % 2 ^ IntKind.u64.bits).toNat = 2 ^ 6 * n := by simp [IntKind.bits]; omega
  have e4 : ((v : Int) % 2 ^ IntKind.u64.bits).toNat = v := by simp [IntKind.bits]; omega
  rw [e3, e4, ← Nat.two_pow_add_eq_or_of_lt (i := 6) (b := v) (by omega) n]
  simp [IntKind.wrap, IntKind.bits, IntKind.signed]
  omega

theorem or64z {n : Nat} (hn : n < 262144) : IntKind.u64.wrap (((IntKind.u64.wrap ((n : Int) * 2 ^ min 6 IntKind.u64.bits) % 2 ^ IntKind.u64.bits).toNat ||| (IntKind.u64.wrap 0 % 2 ^ IntKind.u64.bits).toNat : Nat) : Int) = ((n * 64 : Nat) : Int) := by
  have := or64' (n := n) (v := 0) (by omega) hn
  simpa using this

def errB : AV := .ifc 3 (.ptr [.str msg64])
@[simp] theorem kill_errB {d : Nat} : kill d errB = errB := rfl
@[simp] theorem snapW_errB {g : AV → AV} : snapW g errB = errB := rfl
@[simp] theorem mapId_errB {g : Nat → Nat} : mapId g errB = errB := rfl
@[simp] theorem hasRef_errB : hasRef errB = false := rfl

set_option maxHeartbeats 4000000 in
set_option maxRecDepth 100000 in
/-- Four signs. -/
theorem quad_zz {Γ : Gam} {Q : APost} (a b c d : UInt8) (r out : List UInt8) (o7 : AV) (hr : r.length < 1099511627776)
    (hno : runI r.isEmpty d 0 [a, b, c, d] (0, 4) = none → Q .ret ⟨[(2, .nilS), (3, errB)], [(112, .cells (bcA out))]⟩)
    (hyes : ∀ n dg, runI r.isEmpty d 0 [a, b, c, d] (0, 4) = some (n, dg) → n < 16777216 → 2 ≤ dg → dg ≤ 4 → Q (.exit 4) ⟨[(4, errB), (5, .sl 1 (bcA (a :: b :: c :: d :: r))), (7, o7), (8, .int .u64 n), (9, .int .i64 dg), (10, .int .i64 4), (46, .bool false)], [(112, .cells (bcA out))]⟩) :
    awp Γ (.loop [4, 5, 7, 8, 9, 10] b_dkim_zzDecode_5) Q ⟨[(4, errB), (5, .sl 1 (bcA (a :: b :: c :: d :: r))), (7, o7), (8, .int .u64 0), (9, .int .i64 4), (10, .int .i64 0)], [(112, .cells (bcA out))]⟩ := by
  obtain ⟨L, hL⟩ : ∃ L, L = a :: b :: c :: d :: r := ⟨_, rfl⟩
  rw [← hL] at hyes ⊢
  have hLl : L.length = r.length + 4 := by rw [hL]; simp
  have hL3 : L[3]? = some d := by rw [hL]; rfl
  obtain ⟨R, hR⟩ : ∃ R, R = runI r.isEmpty d 0 [a, b, c, d] (0, 4) := ⟨_, rfl⟩
  rw [← hR] at hno hyes
  refine awp_loop2 (σ := List UInt8 × List UInt8 × Nat × Nat) (fun p => ⟨[(4, errB), (5, .sl 1 (bcA L)), (7, o7), (8, .int .u64 p.2.2.1), (9, .int .i64 p.2.2.2), (10, .int .i64 p.1.length)], [(112, .cells (bcA out))]⟩)
    (fun p => [a, b, c, d] = p.1 ++ p.2.1 ∧ R = runI r.isEmpty d p.1.length p.2.1 (p.2.2.1, p.2.2.2) ∧ bnd p.1.length p.2.2.1 ∧ 2 ≤ p.2.2.2 ∧ p.2.2.2 ≤ 4) (fun p => p.2.1.length) ([], [a, b, c, d], 0, 4) (by simp) ⟨by simp, hR, by simp [bnd], by simp, by simp⟩ ?_
  rintro ⟨pre, post, n, dg⟩ ⟨e1, e2, e3, e4, e5⟩ LQ hLQ
  simp only at e1 e2 e3 e4 e5
  have hl : pre.length + post.length = 4 := by have := congrArg List.length e1; simp at this; omega
  cases post with
  | nil =>
    have h4 : pre.length = 4 := by simpa using hl
    simp only [runI] at e2
    have hn : n < 16777216 := by simp only [bnd] at e3; omega
    have hq := hyes n dg e2 hn e4 e5
    simp -implicitDefEqProofs [b_dkim_zzDecode_5, h4]
    exact hq
  | cons x post =>
    simp at hl
    have hi4 : pre.length < 4 := by omega
    have hlt : (pre.length : Int) < 4 := by omega
    have hx : L[pre.length]? = some x := by
      have : L = (pre ++ x :: post) ++ r := by rw [hL, ← e1]; rfl
      rw [this, List.append_assoc]
      exact get_mid rfl
    have ew : IntKind.i64.wrap ((pre.length : Int) + 1) = (pre.length : Int) + 1 := wrap64 (by omega) (by omega)
    simp only [runI] at e2
    have hn2 : n < 262144 := by simp only [bnd] at e3; omega
    have eshl : IntKind.u64.wrap ((n : Int) * 2 ^ 6) = (n : Int) * 64 := by
      simp [IntKind.wrap, IntKind.bits, IntKind.signed]; omega
    have bad : stI r.isEmpty d pre.length x (n, dg) = none → Q .ret ⟨[(2, .nilS), (3, errB)], [(112, .cells (bcA out))]⟩ := by
      intro h; rw [h] at e2; exact hno e2
    have good : ∀ m dg', stI r.isEmpty d pre.length x (n, dg) = some (m, dg') → 2 ≤ dg' → dg' ≤ 4 → ∀ st, norm [4, 5, 7, 8, 9, 10] st = ⟨[(4, errB), (5, .sl 1 (bcA L)), (7, o7), (8, .int .u64 m), (9, .int .i64 dg'), (10, .int .i64 ((pre.length : Int) + 1))], [(112, .cells (bcA out))]⟩ → LQ st := by
      intro m dg' h h2 h3 st hst
      have hm := stI_le h
      rw [h] at e2
      refine hLQ (pre ++ [x], post, m, dg') ⟨by simp [e1], by simpa using e2, ?_, h2, h3⟩ (by simp) st (by simpa using hst)
      have := bnd_step e3 hi4 hm
      simpa using this
    simp -implicitDefEqProofs [b_dkim_zzDecode_5, hlt]
    refine scan_zz _ _ _ _ _ pre.length x _ hx ?_
    by_cases hv : v64 x < 0
    · have hv1 : v64 x = -1 := by have := v64_ge x; omega
      by_cases hc1 : x = 61
      · have hc1' : (x.toNat : Int) = 61 := by rw [hc1]; rfl
        by_cases hi2 : pre.length < 2
        · have hi2' : (pre.length : Int) < 2 := by omega
          have hb := bad (by simp [stI, hv, hc1, hi2, v64_eq])
          simp -implicitDefEqProofs [t_dkim_zzDecode_3, hv1, hx, hc1', hi2', errB]
          exact hb
        · have hi2' : ¬ (pre.length : Int) < 2 := by omega
          cases hre : r.isEmpty with
          | false =>
            have hb := bad (by simp [stI, hv, hc1, hre, v64_eq])
            have h4l : (4 : Int) < L.length := by cases r with | nil => simp at hre | cons _ _ => simp at hLl; omega
            simp -implicitDefEqProofs [t_dkim_zzDecode_3, hv1, hx, hc1', hi2', h4l, errB]
            exact hb
          | true =>
            have hr0 : r = [] := by simpa using hre
            have h4l : ¬ (4 : Int) < L.length := by rw [hr0] at hLl; simp at hLl; omega
            by_cases hi22 : pre.length = 2
            · have hi22' : (pre.length : Int) = 2 := by omega
              have hx2 : L[2]? = some x := by rw [← hi22]; exact hx
              by_cases hd : d = 61
              · have hd' : (d.toNat : Int) = 61 := by rw [hd]; rfl
                have hmin : (if (pre.length : Int) < (dg : Int) then (pre.length : Int) else (dg : Int)) = ((if pre.length < dg then pre.length else dg : Nat) : Int) := by split <;> split <;> omega
                have hg := good (n * 64) (if pre.length < dg then pre.length else dg) (by simp [stI, hv, hc1, hre, v64_eq, hi2, hd]) (by split <;> omega) (by split <;> omega)
                simp -implicitDefEqProofs [t_dkim_zzDecode_3, t_dkim_zzDecode_4, hv1, hx, hc1', hi2', h4l, hi22', hx2, hL3, hd', errB, ew]
                rw [or64z hn2]
                refine hg _ ?_
                simp [errB, hi22', hi22]
                exact ⟨by split <;> split <;> omega, rfl⟩
              · have hd' : ¬ (d.toNat : Int) = 61 := fun h => hd (UInt8.toNat_inj.1 (by show d.toNat = 61; omega))
                have hb := bad (by simp [stI, hv, hc1, hre, v64_eq, hi2, hi22, hd])
                simp -implicitDefEqProofs [t_dkim_zzDecode_3, hv1, hx, hc1', hi2', h4l, hi22', hx2, hL3, hd', errB]
                exact hb
            · have hi22' : ¬ (pre.length : Int) = 2 := by omega
              have hg := good (n * 64) (if pre.length < dg then pre.length else dg) (by simp [stI, hv, hc1, hre, v64_eq, hi2, hi22]) (by split <;> omega) (by split <;> omega)
              simp -implicitDefEqProofs [t_dkim_zzDecode_3, t_dkim_zzDecode_4, hv1, hx, hc1', hi2', h4l, hi22', errB, ew]
              rw [or64z hn2]
              refine hg _ ?_
              simp [errB]
              split <;> rfl
      · have hc1' : ¬ (x.toNat : Int) = 61 := fun h => hc1 (UInt8.toNat_inj.1 (by show x.toNat = 61; omega))
        have hb := bad (by simp [stI, hv, hc1])
        simp -implicitDefEqProofs [t_dkim_zzDecode_3, hv1, hx, hc1', errB]
        exact hb
    · have hv2 := v64_lt x
      obtain ⟨v, hvv⟩ : ∃ v : Nat, v64 x = (v : Int) := ⟨(v64 x).toNat, by omega⟩
      have hvn : ¬ ((v : Int) < 0) := by omega
      by_cases h4 : dg < 4
      · have hb := bad (by simp [stI, hv, h4])
        have h4' : (dg : Int) < 4 := by omega
        simp -implicitDefEqProofs [t_dkim_zzDecode_3, hvv, hvn, h4', errB]
        exact hb
      · have h4' : ¬ (dg : Int) < 4 := by omega
        have hg := good (n * 64 + v) dg (by simp [stI, hvv, hvn, h4]) e4 e5
        simp -implicitDefEqProofs [t_dkim_zzDecode_3, t_dkim_zzDecode_4, hvv, hvn, h4', errB, ew]
        rw [or64' (by omega) hn2]
        exact hg _ (by simp [errB])
theorem byte_of (n : Nat) : IntKind.u8.wrap (n : Int) = ((UInt8.ofNat n).toNat : Int) := by
  simp [IntKind.wrap, IntKind.bits, IntKind.signed]
theorem shr_of (n k : Nat) : ((n : Int)).fdiv (2 ^ k) = ((n / 2 ^ k : Nat) : Int) := by
  rw [Int.fdiv_eq_ediv_of_nonneg _ (by exact Int.le_of_lt (Int.pow_pos (by omega)))]
  norm_cast

theorem dec64_len {f : Bool → UInt8 → UInt8 → UInt8 → UInt8 → Option (List UInt8)} (hf : ∀ l a b c d x, f l a b c d = some x → x.length ≤ 3) : ∀ {s o : List UInt8}, dec64 f s = some o → o.length ≤ s.length
  | [], o, h => by simp [dec64] at h; subst h; simp
  | [_], _, h => by simp [dec64] at h
  | [_, _], _, h => by simp [dec64] at h
  | [_, _, _], _, h => by simp [dec64] at h
  | a :: b :: c :: d :: r, o, h => by
    simp only [dec64] at h
    split at h
    · simp at h
    · rename_i x hx
      cases hr : dec64 f r with
      | none => simp [hr] at h
      | some o' =>
        simp only [hr, Option.map_some, Option.some.injEq] at h
        subst h
        have h1 := dec64_len hf hr
        have h2 := hf _ _ _ _ _ _ hx
        simp only [List.length_append, List.length_cons]; omega

theorem quadI_len (l : Bool) (a b c d : UInt8) (x : List UInt8) (h : quadI l a b c d = some x) : x.length ≤ 3 := by
  simp only [quadI] at h
  cases hr : runI l d 0 [a, b, c, d] (0, 4) with
  | none => simp [hr] at h
  | some p => simp only [hr, Option.map_some, Option.some.injEq] at h; subst h; simp [bytes3]; omega

set_option maxHeartbeats 4000000 in
set_option maxRecDepth 100000 in
/-- The quads, one behind the other. -/
theorem quads_zz {Γ : Gam} {Q : APost} (L : List UInt8) (u0 : AV) (hu0 : u0 = .sl 1 (bcA L) ∨ (u0 = .nilS ∧ L = [])) (hm : L.length % 4 = 0) (hL : L.length < 1099511627776)
    (hno : dec64 quadI L = none → ∀ out : List UInt8, Q .ret ⟨[(2, .nilS), (3, errB)], [(112, .cells (bcA out))]⟩)
    (hyes : ∀ o, dec64 quadI L = some o → ∀ u, Q (.exit 2) ⟨[(4, errB), (5, u), (7, .msl 112 1 0 o.length), (44, .bool false)], [(112, .cells (bcA o))]⟩) :
    awp Γ (.loop [4, 5, 7] b_dkim_zzDecode_7) Q ⟨[(4, errB), (5, u0), (7, .msl 112 1 0 0)], [(112, .cells [])]⟩ := by
  refine awp_loop2 (σ := List UInt8 × List UInt8 × AV) (fun p => ⟨[(4, errB), (5, p.2.2), (7, .msl 112 1 0 p.1.length)], [(112, .cells (bcA p.1))]⟩)
    (fun p => (p.2.2 = .sl 1 (bcA p.2.1) ∨ (p.2.2 = .nilS ∧ p.2.1 = [])) ∧ dec64 quadI L = (dec64 quadI p.2.1).map (p.1 ++ ·) ∧ p.2.1.length % 4 = 0 ∧ p.1.length + p.2.1.length ≤ L.length) (fun p => p.2.1.length) ([], L, u0) (by simp [bcA]) ⟨hu0, by simp, hm, by simp⟩ ?_
  rintro ⟨out, rest, u⟩ ⟨h1, h2, h3, h4⟩ LQ hLQ
  simp only at h1 h2 h3 h4
  match rest, h1, h2, h3, h4, hLQ with
  | [], h1, h2, _, _, hLQ =>
    have hy := hyes out (by rw [h2]; simp [dec64]) u
    rcases h1 with rfl | ⟨rfl, _⟩
    · simp -implicitDefEqProofs [b_dkim_zzDecode_7, bcA]
      simpa [bcA] using hy
    · simp -implicitDefEqProofs [b_dkim_zzDecode_7]
      exact hy
  | [_], _, _, h3, _, _ => simp at h3
  | [_, _], _, _, h3, _, _ => simp at h3
  | [_, _, _], _, _, h3, _, _ => simp at h3
  | a :: b :: c :: d :: r, h1, h2, h3, h4, hLQ =>
    have hu : u = .sl 1 (bcA (a :: b :: c :: d :: r)) := by
      rcases h1 with h | ⟨_, h⟩
      · exact h
      · simp at h
    subst hu
    simp only [dec64] at h2
    simp only [List.length_cons] at h3 h4
    have hlen : (bcA (a :: b :: c :: d :: r)).length = r.length + 4 := by simp [bcA]
    have hpos : (0 : Int) < (r.length : Int) + 4 := by omega
    have ha5 : ∀ hp, alen hp 1 (.sl 1 (bcA (a :: b :: c :: d :: r))) = some (r.length + 4) := by intro hp; simp [bcA]
    generalize hB : bcA (a :: b :: c :: d :: r) = B at *
    simp -implicitDefEqProofs [-alen, ha5, b_dkim_zzDecode_7, hpos]
    subst hB
    refine quad_zz a b c d r out _ (by omega) ?_ ?_
    · intro hr
      have : quadI r.isEmpty a b c d = none := by simp [quadI, hr]
      rw [this] at h2
      have := hno h2 out
      simpa using this
    · intro n dg hr hn hd2 hd4
      have hq : quadI r.isEmpty a b c d = some ((bytes3 n).take (dg - 1)) := by simp [quadI, hr]
      rw [hq] at h2
      simp only at h2
      have e16 : IntKind.u8.wrap ((n : Int).fdiv (2 ^ min 16 IntKind.u64.bits)) = ((UInt8.ofNat (n / 65536)).toNat : Int) := by
        have : ((n : Int)).fdiv (2 ^ min 16 IntKind.u64.bits) = ((n / 65536 : Nat) : Int) := by simpa [IntKind.bits] using shr_of n 16
        rw [this]; exact byte_of _
      have e8 : IntKind.u8.wrap ((n : Int).fdiv (2 ^ min 8 IntKind.u64.bits)) = ((UInt8.ofNat (n / 256)).toNat : Int) := by
        have : ((n : Int)).fdiv (2 ^ min 8 IntKind.u64.bits) = ((n / 256 : Nat) : Int) := by simpa [IntKind.bits] using shr_of n 8
        rw [this]; exact byte_of _
      have e0 : IntKind.u8.wrap (n : Int) = ((UInt8.ofNat n).toNat : Int) := byte_of n
      have fin : ∀ x : List UInt8, x = (bytes3 n).take (dg - 1) → x.length ≤ 3 → ∀ st, norm [4, 5, 7] st = ⟨[(4, errB), (5, .sl 1 (bcA r)), (7, .msl 112 1 0 (out.length + x.length))], [(112, .cells (bcA out ++ bcA x))]⟩ → LQ st := by
        intro x hx hxl st hst
        refine hLQ (out ++ x, r, .sl 1 (bcA r)) ⟨.inl rfl, ?_, by simp only; omega, by simp; omega⟩ (by simp; omega) st (by simpa [bcA] using hst)
        rw [h2, hx, Option.map_map]
        congr 1
        funext z; simp
      rcases (by omega : dg = 2 ∨ dg = 3 ∨ dg = 4) with rfl | rfl | rfl
      · have w1 : IntKind.i64.wrap 1 = 1 := rfl
        simp -implicitDefEqProofs [t_dkim_zzDecode_6, e16, e8, e0, errB, w1]
        exact ⟨by omega, by omega, fin _ rfl (by simp [bytes3]) _ (by simp [errB, bytes3, bcA])⟩
      · have w1 : IntKind.i64.wrap 2 = 2 := rfl
        simp -implicitDefEqProofs [t_dkim_zzDecode_6, e16, e8, e0, errB, w1]
        exact ⟨by omega, by omega, fin _ rfl (by simp [bytes3]) _ (by simp [errB, bytes3, bcA])⟩
      · have w1 : IntKind.i64.wrap 3 = 3 := rfl
        simp -implicitDefEqProofs [t_dkim_zzDecode_6, e16, e8, e0, errB, w1]
        exact ⟨by omega, by omega, fin _ rfl (by simp [bytes3]) _ (by simp [errB, bytes3, bcA])⟩

theorem cleanS_snoc (pre : List UInt8) (x : UInt8) : cleanS (pre ++ [x]) = if x.toNat = 13 ∨ x.toNat = 10 then cleanS pre else cleanS pre ++ [x] := by
  simp only [cleanS, List.filter_append]
  by_cases h : x.toNat = 13 ∨ x.toNat = 10
  · rw [if_pos h]; simp; omega
  · rw [if_neg h]; simp; omega

set_option maxHeartbeats 4000000 in
set_option maxRecDepth 100000 in
theorem ok_zzDecode (Γ : Gam) (h50 : Γ.fn 50 = con_errorsNew) : ∀ args r, con_zzDecode args = some r → runs Γ c_dkim_zzDecode args (fun v => v = r) := by
  intro args r h
  simp only [con_zzDecode] at h
  split at h <;> (try simp at h; done)
  rename_i s
  obtain ⟨hs, rfl⟩ := ite_some h
  clear h
  simp only [mid] at hs
  have litm : ([105, 108, 108, 101, 103, 97, 108, 32, 98, 97, 115, 101, 54, 52, 32, 100, 97, 116, 97] : List UInt8) = msg64 := rfl
  simp -implicitDefEqProofs [c_dkim_zzDecode, acall, h50, con_errorsNew, litm]
  refine awp_loop2 (σ := List UInt8 × List UInt8) (fun p => ⟨[(0, .str s), (4, errB), (5, grV 35 1 (cleanS p.1).length), (6, .int .i64 p.1.length)], grH 35 (cleanS p.1).length (bcA (cleanS p.1))⟩)
    (fun p => s = p.1 ++ p.2) (fun p => p.2.length) ([], s) (by simp [cleanS, errB]) (by simp) ?_
  rintro ⟨pre, post⟩ hs1 LQ hLQ
  simp only at hs1
  have hle : (cleanS pre).length ≤ pre.length := List.length_filter_le _ _
  cases post with
  | nil =>
    simp only [List.append_nil] at hs1
    subst hs1
    have after : ∀ (u : AV), (u = .sl 1 (bcA (cleanS s)) ∨ (u = .nilS ∧ cleanS s = [])) → (cleanS s).length % 4 = 0 →
        awp Γ (.loop [4, 5, 7] b_dkim_zzDecode_7) (blockQ 2 (thenQ (awp Γ t_dkim_zzDecode_8 (finQ [.t 2, .t 3] fun v => v = decV (dec64 quadI (cleanS s)))) (finQ [.t 2, .t 3] fun v => v = decV (dec64 quadI (cleanS s))))) ⟨[(4, errB), (5, u), (7, .msl 112 1 0 0)], [(112, .cells [])]⟩ := by
      intro u hu hm
      refine quads_zz (cleanS s) u hu hm (by omega) ?_ ?_
      · intro hn out
        simp [hn, decV, errB]
      · intro o ho u'
        have hol := dec64_len quadI_len ho
        have hob : (bcA o).length = o.length := by simp [bcA]
        have htk : List.take o.length (bcA o) = bcA o := List.take_of_length_le (by omega)
        simp -implicitDefEqProofs [t_dkim_zzDecode_8, ho, decV, hob, htk]
    have bad : ¬ (cleanS s).length % 4 = 0 → dec64 quadI (cleanS s) = none := by
      intro h
      cases hd : dec64 quadI (cleanS s) with
      | none => rfl
      | some o => exact absurd (dec64_mod hd) h
    generalize hC : cleanS s = C at *
    cases C with
    | nil =>
      simp -implicitDefEqProofs [b_dkim_zzDecode_1, t_dkim_zzDecode_9, bcA]
      simpa using after .nilS (.inr ⟨rfl, rfl⟩) (by simp)
    | cons y C =>
      have hlb : (bcA (y :: C)).length = C.length + 1 := by simp [bcA]
      have htk : List.take (C.length + 1) (bcA (y :: C)) = bcA (y :: C) := List.take_of_length_le (by omega)
      have hat : atoms (bcA (y :: C)) = true := by simp
      have hrf : hasRefL (bcA (y :: C)) = false := by simp
      simp only [List.length_cons] at *
      by_cases hm : (C.length + 1) % 4 = 0
      · have hm' : ((C.length : Int) + 1).tmod 4 = 0 := by rw [Int.tmod_eq_emod_of_nonneg (by omega)]; omega
        have ha := after (.sl 1 (bcA (y :: C))) (.inl rfl) hm
        generalize bcA (y :: C) = B at *
        simp -implicitDefEqProofs [b_dkim_zzDecode_1, t_dkim_zzDecode_9, hlb, htk, hm', hat, hrf]
        exact ha
      · have hm' : ¬ ((C.length : Int) + 1).tmod 4 = 0 := by rw [Int.tmod_eq_emod_of_nonneg (by omega)]; omega
        have hb := bad hm
        generalize bcA (y :: C) = B at *
        simp -implicitDefEqProofs [b_dkim_zzDecode_1, t_dkim_zzDecode_9, hlb, htk, hm', hb, decV, hat, hrf]
        rfl
  | cons x post =>
    have hlen : s.length = pre.length + (post.length + 1) := by rw [hs1]; simp
    have hlt : (pre.length : Int) < s.length := by omega
    have g : s[pre.length]? = some x := by rw [hs1]; exact get_mid rfl
    have ew : IntKind.i64.wrap ((pre.length : Int) + 1) = (pre.length : Int) + 1 := wrap64 (by omega) (by omega)
    by_cases hx : x.toNat = 13 ∨ x.toNat = 10
    · have e := cleanS_snoc pre x
      rw [if_pos hx] at e
      have fin : ∀ st, norm [0, 4, 5, 6] st = ⟨[(0, .str s), (4, errB), (5, grV 35 1 (cleanS pre).length), (6, .int .i64 ((pre.length : Int) + 1))], grH 35 (cleanS pre).length (bcA (cleanS pre))⟩ → LQ st := by
        intro st hst
        exact hLQ (pre ++ [x], post) (by simp [hs1]) (by simp) st (by rw [e]; simpa using hst)
      by_cases h13 : x.toNat = 13
      · have h13' : (x.toNat : Int) = 13 := by omega
        simp -implicitDefEqProofs [b_dkim_zzDecode_1, hlt, g, ew, h13']
        exact fin _ (by simp)
      · have h13' : ¬ (x.toNat : Int) = 13 := by omega
        have h10' : (x.toNat : Int) = 10 := by omega
        simp -implicitDefEqProofs [b_dkim_zzDecode_1, hlt, g, ew, h13', h10']
        exact fin _ (by simp)
    · have e := cleanS_snoc pre x
      rw [if_neg hx] at e
      have h13' : ¬ (x.toNat : Int) = 13 := by omega
      have h10' : ¬ (x.toNat : Int) = 10 := by omega
      have fin : ∀ st, norm [0, 4, 5, 6] st = ⟨[(0, .str s), (4, errB), (5, .msl 35 1 0 ((cleanS pre).length + 1)), (6, .int .i64 ((pre.length : Int) + 1))], [(35, .cells (bcA (cleanS pre) ++ [.int .u8 (x.toNat : Int)]))]⟩ → LQ st := by
        intro st hst
        exact hLQ (pre ++ [x], post) (by simp [hs1]) (by simp) st (by rw [e]; simpa [bcA] using hst)
      generalize hC : cleanS pre = C at *
      cases C with
      | nil =>
        simp -implicitDefEqProofs [b_dkim_zzDecode_1, hlt, g, ew, h13', h10', bcA]
        exact fin _ (by simp [bcA])
      | cons y C =>
        have hlb : (bcA (y :: C)).length = C.length + 1 := by simp [bcA]
        have htk : List.take (C.length + 1) (bcA (y :: C)) = bcA (y :: C) := List.take_of_length_le (by omega)
        have hat : atoms (bcA (y :: C)) = true := by simp
        have hk : ∀ d, killL d (bcA (y :: C)) = bcA (y :: C) := by intro d; simp
        simp only [List.length_cons] at *
        generalize bcA (y :: C) = B at *
        simp -implicitDefEqProofs [b_dkim_zzDecode_1, hlt, g, ew, h13', h10', hlb, htk, hk, hat]
        exact ⟨by omega, fin _ (by simp)⟩
end Wax

/- FnDRecords (2): base64, as the reference reads it; signs that are left out. -/
namespace Wax
open Go (IntKind)

/-- A text without blanks. -/
def noBlank (s : List UInt8) : List UInt8 := s.filter fun b => !decide (b.toNat = 32)
def bareS (s : List UInt8) : List UInt8 := s.filter fun b => !decide (b.toNat = 32 ∨ b.toNat = 13 ∨ b.toNat = 10)

theorem bare_clean (s : List UInt8) : cleanS (noBlank s) = bareS s := by
  simp only [cleanS, noBlank, bareS, List.filter_filter]
  congr 1
  funext b
  by_cases h1 : b.toNat = 32 <;> by_cases h2 : b.toNat = 13 <;> by_cases h3 : b.toNat = 10 <;> simp [h1, h2, h3]

def con_dBare : List AV → Option AV
  | [.str s] => if s.length < mid then some (.str (bareS s)) else none
  | _ => none

theorem bareS_snoc (pre : List UInt8) (x : UInt8) : bareS (pre ++ [x]) = if x.toNat = 32 ∨ x.toNat = 13 ∨ x.toNat = 10 then bareS pre else bareS pre ++ [x] := by
  simp only [bareS, List.filter_append]
  by_cases h : x.toNat = 32 ∨ x.toNat = 13 ∨ x.toNat = 10
  · rw [if_pos h]; simp; omega
  · rw [if_neg h]; simp; omega

theorem ok_dBare (Γ : Gam) : ∀ args r, con_dBare args = some r → runs Γ c_spec_dBare args (fun v => v = r) := by
  intro args r h
  simp only [con_dBare] at h
  split at h <;> (try simp at h; done)
  rename_i s
  obtain ⟨hs, rfl⟩ := ite_some h
  clear h
  simp only [mid] at hs
  simp -implicitDefEqProofs [c_spec_dBare]
  refine awp_loop2 (σ := List UInt8 × List UInt8) (fun p => ⟨[(0, .str s), (3, outV 32 (bareS p.1)), (4, .int .i64 p.1.length)], outH 32 (bareS p.1)⟩)
    (fun p => s = p.1 ++ p.2) (fun p => p.2.length) ([], s) (by simp [bareS]) (by simp) ?_
  rintro ⟨pre, post⟩ hs1 LQ hLQ
  simp only at hs1
  have hlen : (bareS pre).length ≤ pre.length := List.length_filter_le _ _
  cases post with
  | nil =>
    simp only [List.append_nil] at hs1
    subst hs1
    by_cases ho : bareS s = []
    · simp -implicitDefEqProofs [b_spec_dBare_1, t_spec_dBare_2, ho]
    · simp -implicitDefEqProofs [b_spec_dBare_1, t_spec_dBare_2, outV_ne ho, outH_ne ho, List.take_of_length_le]
  | cons x post =>
    have hlen2 : s.length = pre.length + (post.length + 1) := by rw [hs1]; simp
    have hlt : (pre.length : Int) < s.length := by omega
    have g : s[pre.length]? = some x := by rw [hs1]; exact get_mid rfl
    have ew : IntKind.i64.wrap ((pre.length : Int) + 1) = (pre.length : Int) + 1 := wrap64 (by omega) (by omega)
    have fin : ∀ st, norm [0, 3, 4] st = ⟨[(0, .str s), (3, outV 32 (bareS (pre ++ [x]))), (4, .int .i64 ((pre.length : Int) + 1))], outH 32 (bareS (pre ++ [x]))⟩ → LQ st := by
      intro st hst
      exact hLQ (pre ++ [x], post) (by simp [hs1]) (by simp) st (by simpa using hst)
    have e := bareS_snoc pre x
    by_cases hx : x.toNat = 32 ∨ x.toNat = 13 ∨ x.toNat = 10
    · rw [if_pos hx] at e
      rw [e] at fin
      have fin2 : ∀ st, norm [0, 3, 4] st = ⟨[(0, .str s), (3, outV 32 (bareS pre)), (4, .int .i64 ((pre.length : Int) + 1))], outH 32 (bareS pre)⟩ → LQ st := fin
      generalize hV : outV 32 (bareS pre) = V at *
      generalize outH 32 (bareS pre) = H at *
      rcases hx with hx | hx | hx
      · have hx' : (x.toNat : Int) = 32 := by omega
        simp -implicitDefEqProofs [b_spec_dBare_1, hlt, g, ew, hx']
        exact fin2 _ (by simp)
      · have hx' : (x.toNat : Int) = 13 := by omega
        simp -implicitDefEqProofs [b_spec_dBare_1, hlt, g, ew, hx']
        exact fin2 _ (by simp)
      · have hx' : (x.toNat : Int) = 10 := by omega
        simp -implicitDefEqProofs [b_spec_dBare_1, hlt, g, ew, hx']
        exact fin2 _ (by simp)
    · rw [if_neg hx] at e
      rw [e, outV_ne (by simp), outH_ne (by simp)] at fin
      have h1 : ¬ (x.toNat : Int) = 32 := by omega
      have h2 : ¬ (x.toNat : Int) = 13 := by omega
      have h3 : ¬ (x.toNat : Int) = 10 := by omega
      by_cases ho : bareS pre = []
      · rw [ho] at fin
        simp -implicitDefEqProofs [b_spec_dBare_1, hlt, g, ew, h1, h2, h3, ho]
        exact fin _ (by simp)
      · simp -implicitDefEqProofs [b_spec_dBare_1, hlt, g, ew, h1, h2, h3, outV_ne ho, outH_ne ho]
        exact ⟨by omega, fin _ (by simp)⟩
end Wax

/- FnDRecords (3): base64, as the reference reads it. -/
namespace Wax
open Go (IntKind)

def decS : Option (List UInt8) → AV
  | some o => .tup [.str o, .bool true]
  | none => .tup [.str [], .bool false]

def con_dBytes64 : List AV → Option AV
  | [.str s] => if s.length < mid then some (decS (dec64 quadS s)) else none
  | _ => none

theorem scan_sp {Γ : Gam} {Q : APost} (s : List UInt8) (o4 o5 o6 o7 o8 : AV) (c : UInt8) (hp : List (Nat × AObj))
    (h : Q (.exit 4) ⟨[(0, .str s), (4, o4), (5, o5), (6, o6), (7, o7), (8, o8), (9, .int .u8 (c.toNat : Int)), (10, .int .i64 (v64 c)), (11, .int .i64 64), (32, .bool false)], hp⟩) :
    awp Γ (.loop [0, 4, 5, 6, 7, 8, 9, 10, 11] b_spec_dBytes64_1) Q ⟨[(0, .str s), (4, o4), (5, o5), (6, o6), (7, o7), (8, o8), (9, .int .u8 (c.toNat : Int)), (10, .int .i64 (-1)), (11, .int .i64 0)], hp⟩ := by
  refine awp_loop2 (σ := List UInt8 × List UInt8 × Int) (fun p => ⟨[(0, .str s), (4, o4), (5, o5), (6, o6), (7, o7), (8, o8), (9, .int .u8 (c.toNat : Int)), (10, .int .i64 p.2.2), (11, .int .i64 p.1.length)], hp⟩)
    (fun p => d64 = p.1 ++ p.2.1 ∧ v64 c = scanV c p.2.1 p.1.length p.2.2) (fun p => p.2.1.length) ([], d64, -1) (by simp) (by simp [v64]) ?_
  rintro ⟨pre, post, v⟩ ⟨e1, e2⟩ LQ hLQ
  simp only at e1 e2
  have hl : pre.length + post.length = 64 := by have := congrArg List.length e1; rw [d64_len] at this; simp at this; omega
  cases post with
  | nil =>
    simp only [scanV] at e2
    have h64 : pre.length = 64 := by simpa using hl
    subst e2
    simp -implicitDefEqProofs [b_spec_dBytes64_1, h64]
    exact h
  | cons x post =>
    simp only [scanV] at e2
    simp at hl
    have hlt : (pre.length : Int) < 64 := by omega
    have g : d64[pre.length]? = some x := by rw [e1]; exact get_mid rfl
    have ew : IntKind.i64.wrap ((pre.length : Int) + 1) = (pre.length : Int) + 1 := wrap64 (by omega) (by omega)
    by_cases hx : x = c
    · subst hx
      simp only [if_true] at e2
      simp -implicitDefEqProofs [b_spec_dBytes64_1, lit64, hlt, g, ew]
      exact hLQ (pre ++ [x], post, pre.length) ⟨by simp [e1], by rw [e2]; simp⟩ (by simp) _ (by simp)
    · rw [if_neg hx] at e2
      have hn : ¬ ((x.toNat : Int) = (c.toNat : Int)) := fun h => hx (UInt8.toNat_inj.1 (by omega))
      simp -implicitDefEqProofs [b_spec_dBytes64_1, lit64, hlt, g, ew, hn]
      exact hLQ (pre ++ [x], post, v) ⟨by simp [e1], by rw [e2]; simp⟩ (by simp) _ (by simp)

set_option maxHeartbeats 4000000 in
set_option maxRecDepth 100000 in
theorem quad_sp {Γ : Gam} {Q : APost} (s pr : List UInt8) (a b c d : UInt8) (r out : List UInt8) (hs : s = pr ++ a :: b :: c :: d :: r) (hl0 : s.length < 1099511627776)
    (hno : runS64 r.isEmpty 0 [a, b, c, d] (0, 0) = none → Q .ret ⟨[(2, .str []), (3, .bool false)], []⟩)
    (hyes : ∀ n en, runS64 r.isEmpty 0 [a, b, c, d] (0, 0) = some (n, en) → n < 16777216 → en ≤ 2 → Q (.exit 2) ⟨[(0, .str s), (4, grV 78 1 out.length), (5, .int .i64 pr.length), (6, .int .i64 n), (7, .int .i64 en), (8, .int .i64 4), (23, .bool false)], grH 78 out.length (bcA out)⟩) :
    awp Γ (.loop [0, 4, 5, 6, 7, 8] b_spec_dBytes64_4) Q ⟨[(0, .str s), (4, grV 78 1 out.length), (5, .int .i64 pr.length), (6, .int .i64 0), (7, .int .i64 0), (8, .int .i64 0)], grH 78 out.length (bcA out)⟩ := by
  obtain ⟨R, hR⟩ : ∃ R, R = runS64 r.isEmpty 0 [a, b, c, d] (0, 0) := ⟨_, rfl⟩
  rw [← hR] at hno hyes
  have hsl : s.length = pr.length + 4 + r.length := by rw [hs]; simp; omega
  have hH : killH 78 (grH 78 out.length (bcA out)) = [] := by cases out <;> simp
  generalize grH 78 out.length (bcA out) = H at *
  generalize grV 78 1 out.length = V at *
  refine awp_loop2 (σ := List UInt8 × List UInt8 × Nat × Nat) (fun p => ⟨[(0, .str s), (4, V), (5, .int .i64 pr.length), (6, .int .i64 p.2.2.1), (7, .int .i64 p.2.2.2), (8, .int .i64 p.1.length)], H⟩)
    (fun p => [a, b, c, d] = p.1 ++ p.2.1 ∧ R = runS64 r.isEmpty p.1.length p.2.1 (p.2.2.1, p.2.2.2) ∧ bnd p.1.length p.2.2.1 ∧ p.2.2.2 + 2 ≤ max 2 p.1.length) (fun p => p.2.1.length) ([], [a, b, c, d], 0, 0) (by simp) ⟨by simp, hR, by simp [bnd], by simp⟩ ?_
  rintro ⟨pre, post, n, en⟩ ⟨e1, e2, e3, e4⟩ LQ hLQ
  simp only at e1 e2 e3 e4
  have hl : pre.length + post.length = 4 := by have := congrArg List.length e1; simp at this; omega
  cases post with
  | nil =>
    have h4 : pre.length = 4 := by simpa using hl
    simp only [runS64] at e2
    have hn : n < 16777216 := by simp only [bnd] at e3; omega
    have hq := hyes n en e2 hn (by omega)
    simp -implicitDefEqProofs [b_spec_dBytes64_4, h4]
    exact hq
  | cons x post =>
    simp at hl
    have hi4 : pre.length < 4 := by omega
    have hlt : (pre.length : Int) < 4 := by omega
    have hx : s[pr.length + pre.length]? = some x := by
      have : s = (pr ++ pre) ++ x :: (post ++ r) := by
        rw [hs, List.append_assoc]
        congr 1
        have : a :: b :: c :: d :: r = [a, b, c, d] ++ r := rfl
        rw [this, e1]; simp
      rw [this]
      exact get_mid (by simp)
    have ew : IntKind.i64.wrap ((pre.length : Int) + 1) = (pre.length : Int) + 1 := wrap64 (by omega) (by omega)
    have ea : IntKind.i64.wrap ((pr.length : Int) + (pre.length : Int)) = ((pr.length + pre.length : Nat) : Int) := by rw [wrap64 (by omega) (by omega)]; omega
    simp only [runS64] at e2
    have hn2 : n < 262144 := by simp only [bnd] at e3; omega
    have bad : stS r.isEmpty pre.length x (n, en) = none → Q .ret ⟨[(2, .str []), (3, .bool false)], []⟩ := by
      intro h; rw [h] at e2; exact hno e2
    have good : ∀ m en', stS r.isEmpty pre.length x (n, en) = some (m, en') → en' + 2 ≤ max 2 (pre.length + 1) → ∀ st, norm [0, 4, 5, 6, 7, 8] st = ⟨[(0, .str s), (4, V), (5, .int .i64 pr.length), (6, .int .i64 m), (7, .int .i64 en'), (8, .int .i64 ((pre.length : Int) + 1))], H⟩ → LQ st := by
      intro m en' h h2 st hst
      have hm := stS_le h
      rw [h] at e2
      refine hLQ (pre ++ [x], post, m, en') ⟨by simp [e1], by simpa using e2, ?_, by simpa using h2⟩ (by simp) st (by simpa using hst)
      have := bnd_step e3 hi4 hm
      simpa using this
    have hge : (0 : Int) ≤ (pr.length : Int) + (pre.length : Int) := by omega
    have het : ((pr.length : Int) + (pre.length : Int)).toNat = pr.length + pre.length := by omega
    have em : ∀ v : Nat, v < 64 → IntKind.i64.wrap (IntKind.i64.wrap ((n : Int) * 64) + (v : Int)) = ((n * 64 + v : Nat) : Int) := by
      intro v hv
      rw [wrap64 (x := (n : Int) * 64) (by omega) (by omega), wrap64 (by omega) (by omega)]; omega
    have em0 : IntKind.i64.wrap (IntKind.i64.wrap ((n : Int) * 64)) = ((n * 64 : Nat) : Int) := by
      rw [wrap64 (x := (n : Int) * 64) (by omega) (by omega), wrap64 (by omega) (by omega)]; omega
    have e54 : IntKind.i64.wrap ((pr.length : Int) + 4) = (pr.length : Int) + 4 := wrap64 (by omega) (by omega)
    simp -implicitDefEqProofs [b_spec_dBytes64_4, hlt, ea, hx, hge, het]
    refine scan_sp s _ _ _ _ _ x _ ?_
    by_cases hc : x = 61 ∧ 1 < pre.length ∧ r.isEmpty = true
    · obtain ⟨hc1, hc2, hc3⟩ := hc
      have hc1' : (x.toNat : Int) = 61 := by rw [hc1]; rfl
      have hc2' : (1 : Int) < pre.length := by omega
      have hr0 : r = [] := by simpa using hc3
      have hc3' : (pr.length : Int) + 4 = (s.length : Int) := by rw [hr0] at hsl; simp at hsl; omega
      have ews : IntKind.i64.wrap (s.length : Int) = (s.length : Int) := wrap64 (by omega) (by omega)
      have eh : IntKind.i64.wrap ((en : Int) + 1) = (en : Int) + 1 := wrap64 (by omega) (by omega)
      have hg := good (n * 64) (en + 1) (by simp [stS, hc1, hc2, hc3]) (by omega)
      simp -implicitDefEqProofs [t_spec_dBytes64_2, t_spec_dBytes64_3, hc1', hc2', hc3', e54, eh, em0, ew, ews]
      exact hg _ (by simp)
    · have hst : stS r.isEmpty pre.length x (n, en) = if v64 x < 0 ∨ 0 < en then none else some (n * 64 + (v64 x).toNat, en) := by simp only [stS, if_neg hc]
      have hv2 := v64_lt x
      by_cases hv : v64 x < 0 ∨ 0 < en
      · have hb := bad (by rw [hst, if_pos hv])
        by_cases hc1 : x = 61
        · have hc1' : (x.toNat : Int) = 61 := by rw [hc1]; rfl
          have hv1 : v64 x = -1 := by rw [hc1]; exact v64_eq
          by_cases hc2 : 1 < pre.length
          · have hc2' : (1 : Int) < pre.length := by omega
            have hc3' : ¬ (pr.length : Int) + 4 = (s.length : Int) := by
              intro h
              refine hc ⟨hc1, hc2, ?_⟩
              have : r.length = 0 := by omega
              simpa using this
            simp -implicitDefEqProofs [t_spec_dBytes64_2, hc1', hc2', hc3', e54, hv1, hH]
            exact hb
          · have hc2' : ¬ (1 : Int) < pre.length := by omega
            simp -implicitDefEqProofs [t_spec_dBytes64_2, hc1', hc2', hv1, hH]
            exact hb
        · have hc1' : ¬ (x.toNat : Int) = 61 := fun h => hc1 (UInt8.toNat_inj.1 (by show x.toNat = 61; omega))
          by_cases hv0 : v64 x < 0
          · have hv1 : v64 x = -1 := by have := v64_ge x; omega
            simp -implicitDefEqProofs [t_spec_dBytes64_2, hc1', hv1, hH]
            exact hb
          · have hen : (0 : Int) < (en : Int) := by omega
            have henn : 0 < en := by omega
            simp -implicitDefEqProofs [t_spec_dBytes64_2, hc1', hv0, hen, hH]
            exact ⟨fun _ => hb, fun h => by omega⟩
      · have hv0 : ¬ v64 x < 0 := fun h => hv (.inl h)
        have hen : ¬ ((0 : Int) < (en : Int)) := fun h => hv (.inr (by omega))
        obtain ⟨v, hvv⟩ : ∃ v : Nat, v64 x = (v : Int) := ⟨(v64 x).toNat, by omega⟩
        have hvn : ¬ ((v : Int) < 0) := by omega
        have hg := good (n * 64 + v) en (by rw [hst, if_neg hv, hvv]; simp) (by omega)
        have hc1 : ¬ x = 61 := fun e => by rw [e, v64_eq] at hv0; omega
        have hc1' : ¬ (x.toNat : Int) = 61 := fun h => hc1 (UInt8.toNat_inj.1 (by show x.toNat = 61; omega))
        have emv := em v (by omega)
        simp -implicitDefEqProofs [t_spec_dBytes64_2, t_spec_dBytes64_3, hc1', hvv, hvn, hen, emv, ew]
        exact ⟨fun h => absurd (by omega) hen, fun _ => hg _ (by simp)⟩
theorem quadS_len (l : Bool) (a b c d : UInt8) (x : List UInt8) (h : quadS l a b c d = some x) : x.length ≤ 3 := by
  simp only [quadS] at h
  cases hr : runS64 l 0 [a, b, c, d] (0, 0) with
  | none => simp [hr] at h
  | some p => simp only [hr, Option.map_some, Option.some.injEq] at h; subst h; simp [bytes3]

set_option maxHeartbeats 4000000 in
set_option maxRecDepth 100000 in
theorem ok_dBytes64 (Γ : Gam) : ∀ args r, con_dBytes64 args = some r → runs Γ c_spec_dBytes64 args (fun v => v = r) := by
  intro args r h
  simp only [con_dBytes64] at h
  split at h <;> (try simp at h; done)
  rename_i s
  obtain ⟨hs, rfl⟩ := ite_some h
  clear h
  simp only [mid] at hs
  by_cases hm : s.length % 4 = 0
  · have hm' : (s.length : Int).tmod 4 = 0 := by rw [Int.tmod_eq_emod_of_nonneg (by omega)]; omega
    simp -implicitDefEqProofs [c_spec_dBytes64, hm']
    refine awp_loop2 (σ := List UInt8 × List UInt8 × List UInt8) (fun p => ⟨[(0, .str s), (4, grV 78 1 p.2.2.length), (5, .int .i64 p.1.length)], grH 78 p.2.2.length (bcA p.2.2)⟩)
      (fun p => s = p.1 ++ p.2.1 ∧ dec64 quadS s = (dec64 quadS p.2.1).map (p.2.2 ++ ·) ∧ p.2.1.length % 4 = 0 ∧ p.2.2.length ≤ p.1.length) (fun p => p.2.1.length) ([], s, []) (by simp) (by simp [hm]) ?_
    rintro ⟨pre, post, out⟩ ⟨h1, h2, h3, h4⟩ LQ hLQ
    simp only at h1 h2 h3 h4
    match post, h1, h2, h3, hLQ with
    | [], h1, h2, _, hLQ =>
      simp only [List.append_nil] at h1
      subst h1
      have hd : dec64 quadS s = some out := by rw [h2]; simp [dec64]
      cases out with
      | nil => simp -implicitDefEqProofs [b_spec_dBytes64_7, t_spec_dBytes64_8, hd, decS]
      | cons y o =>
        have hlb : (bcA (y :: o)).length = o.length + 1 := by simp [bcA]
        have htk : List.take (o.length + 1) (bcA (y :: o)) = bcA (y :: o) := List.take_of_length_le (by omega)
        have htb : toBytes (bcA (y :: o)) = some (y :: o) := toBytes_bcA
        generalize bcA (y :: o) = B at *
        simp -implicitDefEqProofs [b_spec_dBytes64_7, t_spec_dBytes64_8, hd, decS, hlb, htk, htb]
    | [_], _, _, h3, _ => simp at h3
    | [_, _], _, _, h3, _ => simp at h3
    | [_, _, _], _, _, h3, _ => simp at h3
    | a :: b :: c :: d :: r, h1, h2, h3, hLQ =>
      have hsl : s.length = pre.length + 4 + r.length := by rw [h1]; simp; omega
      have hlt : (pre.length : Int) < s.length := by omega
      simp only [dec64] at h2
      simp -implicitDefEqProofs [b_spec_dBytes64_7, hlt]
      refine quad_sp s pre a b c d r out h1 hs ?_ ?_
      · intro hr
        have : quadS r.isEmpty a b c d = none := by simp [quadS, hr]
        rw [this] at h2
        simp [h2, decS]
      · intro n en hr hn hen
        have hq : quadS r.isEmpty a b c d = some ((bytes3 n).take (3 - en)) := by simp [quadS, hr]
        rw [hq] at h2
        simp only at h2
        have e16 : IntKind.u8.wrap ((n : Int).fdiv (2 ^ min 16 IntKind.i64.bits)) = ((UInt8.ofNat (n / 65536)).toNat : Int) := by
          have : ((n : Int)).fdiv (2 ^ min 16 IntKind.i64.bits) = ((n / 65536 : Nat) : Int) := by simpa [IntKind.bits] using shr_of n 16
          rw [this]; exact byte_of _
        have e8 : IntKind.u8.wrap ((n : Int).fdiv (2 ^ min 8 IntKind.i64.bits)) = ((UInt8.ofNat (n / 256)).toNat : Int) := by
          have : ((n : Int)).fdiv (2 ^ min 8 IntKind.i64.bits) = ((n / 256 : Nat) : Int) := by simpa [IntKind.bits] using shr_of n 8
          rw [this]; exact byte_of _
        have e0 : IntKind.u8.wrap (n : Int) = ((UInt8.ofNat n).toNat : Int) := byte_of n
        have e54 : IntKind.i64.wrap ((pre.length : Int) + 4) = (pre.length : Int) + 4 := wrap64 (by omega) (by omega)
        have fin : ∀ x : List UInt8, x = (bytes3 n).take (3 - en) → x.length ≤ 3 → ∀ st, norm [0, 4, 5] st = ⟨[(0, .str s), (4, grV 78 1 (out.length + x.length)), (5, .int .i64 ((pre.length : Int) + 4))], grH 78 (out.length + x.length) (bcA out ++ bcA x)⟩ → LQ st := by
          intro x hx hxl st hst
          refine hLQ (pre ++ [a, b, c, d], r, out ++ x) ⟨by simp [h1], ?_, by simp only [List.length_cons] at h3; simp only; omega, by simp; omega⟩ (by simp; omega) st (by simpa [bcA] using hst)
          rw [h2, hx, Option.map_map]
          congr 1
          funext z; simp
        have one : ∀ x : List UInt8, x = (bytes3 n).take (3 - en) → x.length ≤ 3 → x ≠ [] → True := fun _ _ _ _ => trivial
        cases out with
        | nil =>
          rcases (by omega : en = 0 ∨ en = 1 ∨ en = 2) with rfl | rfl | rfl
          · have w1 : IntKind.i64.wrap 3 = 3 := rfl
            simp -implicitDefEqProofs [t_spec_dBytes64_5, t_spec_dBytes64_6, e16, e8, e0, w1, e54]
            exact fin _ rfl (by simp [bytes3]) _ (by simp [bytes3, bcA])
          · have w1 : IntKind.i64.wrap 2 = 2 := rfl
            simp -implicitDefEqProofs [t_spec_dBytes64_5, t_spec_dBytes64_6, e16, e8, e0, w1, e54]
            exact fin _ rfl (by simp [bytes3]) _ (by simp [bytes3, bcA])
          · have w1 : IntKind.i64.wrap 1 = 1 := rfl
            simp -implicitDefEqProofs [t_spec_dBytes64_5, t_spec_dBytes64_6, e16, e8, e0, w1, e54]
            exact fin _ rfl (by simp [bytes3]) _ (by simp [bytes3, bcA])
        | cons y o =>
          have hlb : (bcA (y :: o)).length = o.length + 1 := by simp [bcA]
          have htk : List.take (o.length + 1) (bcA (y :: o)) = bcA (y :: o) := List.take_of_length_le (by omega)
          have hat : atoms (bcA (y :: o)) = true := by simp
          have hk : ∀ d, killL d (bcA (y :: o)) = bcA (y :: o) := by intro d; simp
          simp only [List.length_cons] at *
          generalize bcA (y :: o) = B at *
          rcases (by omega : en = 0 ∨ en = 1 ∨ en = 2) with rfl | rfl | rfl
          · have w1 : IntKind.i64.wrap 3 = 3 := rfl
            simp -implicitDefEqProofs [t_spec_dBytes64_5, t_spec_dBytes64_6, e16, e8, e0, w1, e54, hlb, htk, hat, hk]
            exact ⟨by omega, fin _ rfl (by simp [bytes3]) _ (by simp [bytes3, bcA])⟩
          · have w1 : IntKind.i64.wrap 2 = 2 := rfl
            simp -implicitDefEqProofs [t_spec_dBytes64_5, t_spec_dBytes64_6, e16, e8, e0, w1, e54, hlb, htk, hat, hk]
            exact ⟨by omega, fin _ rfl (by simp [bytes3]) _ (by simp [bytes3, bcA])⟩
          · have w1 : IntKind.i64.wrap 1 = 1 := rfl
            simp -implicitDefEqProofs [t_spec_dBytes64_5, t_spec_dBytes64_6, e16, e8, e0, w1, e54, hlb, htk, hat, hk]
            exact ⟨by omega, fin _ rfl (by simp [bytes3]) _ (by simp [bytes3, bcA])⟩
  · have hm' : ¬ (s.length : Int).tmod 4 = 0 := by rw [Int.tmod_eq_emod_of_nonneg (by omega)]; omega
    have hd : dec64 quadS s = none := by
      cases hd : dec64 quadS s with
      | none => rfl
      | some o => exact absurd (dec64_mod hd) hm
    simp -implicitDefEqProofs [c_spec_dBytes64, hm', hd, decS]
end Wax

/- FnDRecords (4): blanks left out; small functions. -/
namespace Wax
open Go (IntKind)

def con_ReplaceAll : List AV → Option AV
  | [.str s, .str [32], .str []] => if s.length < mid then some (.str (noBlank s)) else none
  | _ => none

theorem noBlank_id {a : List UInt8} (h : noB 32 a) : noBlank a = a := by
  simp only [noBlank]
  apply List.filter_eq_self.2
  intro x hx
  have := h x hx
  have : ¬ x.toNat = 32 := by omega
  simp [this]

theorem cutAt_no (n : Int) : ∀ {s : List UInt8}, cutAt n s = none → noB n s
  | [], _ => by simp [noB]
  | y :: s, h => by
    simp only [cutAt] at h
    split at h
    · simp at h
    · rename_i hy
      cases hc : cutAt n s with
      | none =>
        intro x hx
        rcases List.mem_cons.1 hx with rfl | hx
        · exact hy
        · exact cutAt_no n hc x hx
      | some p => simp [hc] at h

theorem noBlank_app (a b : List UInt8) : noBlank (a ++ b) = noBlank a ++ noBlank b := by simp [noBlank]
theorem noBlank_len (a : List UInt8) : (noBlank a).length ≤ a.length := List.length_filter_le _ _

set_option maxHeartbeats 1000000 in
theorem ok_zzReplaceAll (Γ : Gam) (h22 : Γ.fn 22 = con_zzIndex) : ∀ args r, con_ReplaceAll args = some r → runs Γ c_dkim_zzReplaceAll args (fun v => v = r) := by
  intro args r h
  simp only [con_ReplaceAll] at h
  split at h <;> (try simp at h; done)
  rename_i s
  obtain ⟨hs, rfl⟩ := ite_some h
  clear h
  simp only [mid] at hs
  have h1 : 1 < big := by decide
  simp -implicitDefEqProofs [c_dkim_zzReplaceAll, t_dkim_zzReplaceAll_4]
  refine awp_loop2 (σ := List UInt8 × List UInt8) (fun p => ⟨[(0, .str p.2), (1, .str [32]), (2, .str []), (7, outV 58 p.1)], outH 58 p.1⟩)
    (fun p => noBlank s = p.1 ++ noBlank p.2 ∧ p.1.length + p.2.length ≤ s.length) (fun p => p.2.length) ([], s) (by simp) (by simp) ?_
  rintro ⟨done, cur⟩ ⟨hs1, hs2⟩ LQ hLQ
  simp only at hs1 hs2
  have hcb : cur.length < big := by simp only [big]; omega
  simp -implicitDefEqProofs [b_dkim_zzReplaceAll_3, acall, h22, con_zzIndex, hcb, h1]
  simp only [idxV, findAt_one]
  cases hc : cutAt ((32 : UInt8).toNat : Int) cur with
  | none =>
    have e32 := noBlank_id (cutAt_no _ hc)
    rw [e32] at hs1
    rw [hs1]
    by_cases hd : done = []
    · subst hd
      by_cases hcu : cur = []
      · subst hcu; simp [just]
      · simp [List.length_eq_zero_iff, hcu]
        simp at hs2
        omega
    · have h0 : ¬ done.length = 0 := by simpa using hd
      by_cases hcu : cur = []
      · subst hcu; simp [just, outV_ne hd, outH_ne hd, List.take_of_length_le]
      · have h0 : ¬ cur.length = 0 := by simpa using hcu
        have hb : toBytes (bcA done ++ bcA cur) = some (done ++ cur) := by
          rw [← bcA_app]; exact toBytes_bcA
        simp [outV_ne hd, outH_ne hd, List.take_of_length_le, hcu, h0, hb]
        omega
  | some p =>
    obtain ⟨a, c⟩ := p
    obtain ⟨x, hx1, hx2, hx3⟩ := cutAt_eq hc
    subst hx2
    simp at hs2
    have hx4 : x.toNat = 32 := by simp at hx1; omega
    have en : noBlank (a ++ x :: c) = a ++ noBlank c := by
      rw [noBlank_app, noBlank_id hx3]; simp [noBlank, hx4]
    rw [en] at hs1
    have fin : ∀ st, norm [0, 1, 2, 7] st = ⟨[(0, .str c), (1, .str [32]), (2, .str []), (7, outV 58 (done ++ a))], outH 58 (done ++ a)⟩ → LQ st := by
      intro st hst
      exact hLQ (done ++ a, c) ⟨by simpa using hs1, by simp; omega⟩ (by simp; omega) st hst
    have e2 : ((a.length : Int) + 1).toNat = a.length + 1 := by omega
    have hng : ¬ ((a.length : Int) < 0) := by omega
    by_cases ha : a = []
    · subst ha
      by_cases hd : done = []
      · subst hd
        simp (disch := omega) [just, wrap64]
        refine ⟨by omega, by omega, fin _ ?_⟩
        simp
      · simp (disch := omega) [just, wrap64, outV_ne hd, outH_ne hd]
        refine ⟨by omega, by omega, fin _ ?_⟩
        simp [outV_ne hd, outH_ne hd]
    · have h0 : ¬ a.length = 0 := by simpa using ha
      by_cases hd : done = []
      · subst hd
        simp (disch := omega) [just, wrap64, h0, hng]
        refine ⟨by omega, by omega, by omega, fin _ ?_⟩
        simp [outV_ne ha, outH_ne ha]
      · have hda : done ++ a ≠ [] := by simp [hd]
        simp (disch := omega) [just, wrap64, h0, hng, outV_ne hd, outH_ne hd]
        refine ⟨by omega, by omega, by omega, fin _ ?_⟩
        simp [outV_ne hda, outH_ne hda]
end Wax

/- FnDCanonAgain: the plain law of words and white space; its own text. -/
namespace Wax
open Go (IntKind)

def nonWs (s : List UInt8) : Prop := ∀ x ∈ s, isWs x.toNat = false
def allWs (s : List UInt8) : Prop := ∀ x ∈ s, isWs x.toNat = true

theorem nonWs_of {s : List UInt8} (h : stripD s = s) : nonWs s := by
  intro x hx
  rw [← h] at hx
  simp only [stripD, List.mem_filter, Bool.not_eq_true'] at hx
  exact hx.2

theorem allWs_of {s : List UInt8} (h : stripD s = []) : allWs s := by
  intro x hx
  simp only [stripD, List.filter_eq_nil_iff] at h
  simpa using h x hx

theorem wordsGo_ws : ∀ {b : List UInt8} (s : List UInt8), allWs b → wordsGo [] (b ++ s) = wordsGo [] s
  | [], s, _ => rfl
  | x :: r, s, h => by
    have h1 := h x (by simp)
    simp only [List.cons_append, wordsGo, h1, if_true]
    exact wordsGo_ws s fun y hy => h y (by simp [hy])

theorem wordsGo_word : ∀ {w : List UInt8} (cur s : List UInt8), nonWs w → wordsGo cur (w ++ s) = wordsGo (cur ++ w) s
  | [], cur, s, _ => by simp
  | x :: r, cur, s, h => by
    have h1 := h x (by simp)
    simp only [List.cons_append, wordsGo, h1, Bool.false_eq_true, if_false]
    rw [wordsGo_word _ s fun y hy => h y (by simp [hy])]
    simp

theorem wordsGo_end {b cur s : List UInt8} (hc : cur ≠ []) (hb : b ≠ []) (hw : allWs b) : wordsGo cur (b ++ s) = cur :: wordsGo [] (b ++ s) := by
  cases b with
  | nil => exact absurd rfl hb
  | cons x r =>
    have h1 := hw x (by simp)
    simp only [List.cons_append, wordsGo, h1, if_true, if_neg hc]

/-- Words, each with white space ahead of it. -/
def spr (bl : List (List UInt8)) (k : Nat) (ws : List (List UInt8)) : List UInt8 := (ws.zipIdx k).flatMap fun p => bl.getD (p.2 % bl.length) [] ++ p.1

theorem spr_cons {bl : List (List UInt8)} {k : Nat} {w : List UInt8} {ws : List (List UInt8)} : spr bl k (w :: ws) = bl.getD (k % bl.length) [] ++ w ++ spr bl (k + 1) ws := by simp [spr, List.zipIdx_cons]
theorem spr_snoc {bl : List (List UInt8)} {w : List UInt8} {ws : List (List UInt8)} : spr bl 0 (ws ++ [w]) = spr bl 0 ws ++ bl.getD (ws.length % bl.length) [] ++ w := by
  simp [spr, List.zipIdx_append]

theorem getD_blank {bl : List (List UInt8)} (hb : bl ≠ []) {k : Nat} : bl.getD (k % bl.length) [] ∈ bl := by
  have hl : 0 < bl.length := List.length_pos_iff.2 hb
  have := Nat.mod_lt k hl
  rw [List.getD_eq_getElem?_getD, List.getElem?_eq_getElem this]; simp

theorem words_spr {bl : List (List UInt8)} (hb : bl ≠ []) (hbl : ∀ b ∈ bl, b ≠ [] ∧ allWs b) {t : List UInt8} (ht : t ≠ []) (htw : allWs t) : ∀ (ws : List (List UInt8)) (k : Nat), (∀ w ∈ ws, w ≠ [] ∧ nonWs w) →
    wordsGo [] (spr bl k ws ++ t) = ws
  | [], k, _ => by
    have := wordsGo_ws (b := t) [] htw
    simpa [spr, wordsGo] using this
  | w :: r, k, h => by
    have ih := words_spr hb hbl ht htw r (k + 1) (fun x hx => h x (by simp [hx]))
    have hbk := hbl _ (getD_blank hb (k := k))
    have hw := h w (by simp)
    rw [spr_cons, List.append_assoc, List.append_assoc, wordsGo_ws _ hbk.2, wordsGo_word _ _ hw.2, List.nil_append]
    have key : wordsGo w (spr bl (k + 1) r ++ t) = w :: wordsGo [] (spr bl (k + 1) r ++ t) := by
      cases r with
      | nil => simpa [spr] using wordsGo_end (s := []) hw.1 ht htw
      | cons w2 r2 =>
        have hb2 := hbl _ (getD_blank hb (k := k + 1))
        rw [spr_cons, List.append_assoc, List.append_assoc]
        exact wordsGo_end hw.1 hb2.1 hb2.2
    rw [key, ih]

theorem words_join {t : List UInt8} (ht : t ≠ []) (htw : allWs t) : ∀ (ws : List (List UInt8)), (∀ w ∈ ws, w ≠ [] ∧ nonWs w) → wordsGo [] (joinB ws ++ t) = ws
  | [], _ => by
    have := wordsGo_ws (b := t) [] htw
    simpa [joinB, wordsGo] using this
  | w :: r, h => by
    have ih := words_join ht htw r (fun x hx => h x (by simp [hx]))
    have hw := h w (by simp)
    rw [joinB_cons, List.append_assoc, wordsGo_word _ _ hw.2, List.nil_append]
    have key : wordsGo w (J2 r ++ t) = w :: wordsGo [] (joinB r ++ t) := by
      cases r with
      | nil => simpa [J2, joinB] using wordsGo_end (s := []) hw.1 ht htw
      | cons w2 r2 =>
        have hsp : allWs [32] := by intro x hx; simp at hx; subst hx; rfl
        have e1 : J2 (w2 :: r2) ++ t = [32] ++ (joinB (w2 :: r2) ++ t) := by simp [J2]
        rw [e1, wordsGo_end hw.1 (by simp) hsp, wordsGo_ws _ hsp]
    rw [key, ih]

theorem lowB_ws (b : UInt8) : isWs (lowB b).toNat = isWs b.toNat := by
  have h := lowB_toNat b
  unfold isWs
  apply decide_eq_decide.2
  rw [h]
  split <;> omega

theorem lowS_nonWs {s : List UInt8} (h : nonWs s) : nonWs (lowS s) := by
  intro x hx
  simp only [lowS, List.mem_map] at hx
  obtain ⟨y, hy, rfl⟩ := hx
  rw [lowB_ws]; exact h y hy

theorem lowS_allWs {s : List UInt8} (h : allWs s) : allWs (lowS s) := by
  intro x hx
  simp only [lowS, List.mem_map] at hx
  obtain ⟨y, hy, rfl⟩ := hx
  rw [lowB_ws]; exact h y hy

theorem trimS_word {n b : List UInt8} (hn : nonWs n) (hne : n ≠ []) (hb : allWs b) : trimS (n ++ b) = n := by
  have h1 : trimL (n ++ b) = n ++ b := by
    cases n with
    | nil => exact absurd rfl hne
    | cons x r => simp [trimL, hn x (by simp)]
  rw [trimS, h1, trimR, List.reverse_append, List.dropWhile_append_of_pos (by intro x hx; exact hb x (by simpa using hx))]
  have h2 : n.reverse.dropWhile (fun b => isWs b.toNat) = n.reverse := by
    cases hr : n.reverse with
    | nil => rfl
    | cons x r =>
      have : x ∈ n := by rw [← List.mem_reverse, hr]; simp
      simp [hn x this]
  rw [h2, List.reverse_reverse]

theorem lowB_low (b : UInt8) : lowB (lowB b) = lowB b := by
  have h := lowB_toNat b
  have h2 := lowB_toNat (lowB b)
  apply UInt8.toNat_inj.1
  have : ((lowB (lowB b)).toNat : Int) = (lowB b).toNat := by
    rw [h2]; split
    · rename_i hc; rw [h] at hc ⊢; split at hc <;> split <;> omega
    · rfl
  omega

theorem lowS_low (s : List UInt8) : lowS (lowS s) = lowS s := by simp [lowS, lowB_low]

theorem cutAt_noB {c : UInt8} {n r : List UInt8} (h : noB c.toNat n) : cutAt c.toNat (n ++ c :: r) = some (n, r) := by
  rw [cutAt_app _ _ _ h]; simp [cutAt]

theorem noB_low {n : List UInt8} (h : noB 58 n) : noB 58 (lowS n) := by
  intro x hx
  simp only [lowS, List.mem_map] at hx
  obtain ⟨y, hy, rfl⟩ := hx
  have := h y hy
  rw [lowB_toNat]; split <;> omega

theorem relaxedOf_cut {n r : List UInt8} (h : noB 58 n) : relaxedOf (n ++ 58 :: r) = trimS (lowS n) ++ 58 :: joinB (wordsOf r) ++ [13, 10] := by
  have := cutAt_noB (c := 58) (r := r) h
  have e : cutAt 58 (n ++ 58 :: r) = some (n, r) := this
  simp [relaxedOf, e]

theorem noB_ws {b : List UInt8} (h : allWs b) : noB 58 b := by
  intro x hx
  have := of_decide_eq_true (h x hx)
  omega

/-- What is asked of a name, words, white space. -/
structure CA (n : List UInt8) (ws bl : List (List UInt8)) : Prop where
  nne : n ≠ []
  nn : nonWs n
  nc : noB 58 n
  bne : bl ≠ []
  bl : ∀ b ∈ bl, b ≠ [] ∧ allWs b
  ws : ∀ w ∈ ws, w ≠ [] ∧ nonWs w

def wantOf (n : List UInt8) (ws : List (List UInt8)) : List UInt8 := lowS n ++ 58 :: joinB ws ++ [13, 10]

theorem crlf_ws : allWs [13, 10] := by intro x hx; simp at hx; rcases hx with rfl | rfl <;> rfl

theorem law_plain {n : List UInt8} {ws bl : List (List UInt8)} (h : CA n ws bl) : relaxedOf (n ++ 58 :: (joinB ws ++ [13, 10])) = wantOf n ws := by
  rw [relaxedOf_cut h.nc, show wordsOf (joinB ws ++ [13, 10]) = ws from words_join (by simp) crlf_ws ws h.ws]
  have := trimS_word (lowS_nonWs h.nn) (by simpa [lowS] using h.nne) (b := []) (by intro x hx; simp at hx)
  simp only [List.append_nil] at this
  rw [this, wantOf]

theorem law_again {n : List UInt8} {ws bl : List (List UInt8)} (h : CA n ws bl) : relaxedOf (wantOf n ws) = wantOf n ws := by
  have e : wantOf n ws = lowS n ++ 58 :: (joinB ws ++ [13, 10]) := by simp [wantOf]
  have h' : CA (lowS n) ws bl := ⟨by simpa [lowS] using h.nne, lowS_nonWs h.nn, noB_low h.nc, h.bne, h.bl, h.ws⟩
  conv => lhs; rw [e]
  rw [law_plain h', wantOf, wantOf, lowS_low]

theorem law_spread {n : List UInt8} {ws bl : List (List UInt8)} (h : CA n ws bl) : relaxedOf (n ++ bl.getD 0 [] ++ 58 :: (spr bl 0 ws ++ (bl.getD 0 [] ++ [13, 10]))) = wantOf n ws := by
  have h0 := h.bl _ (getD_blank h.bne (k := 0))
  rw [Nat.zero_mod] at h0
  have hc : noB 58 (n ++ bl.getD 0 []) := by
    intro x hx
    rcases List.mem_append.1 hx with hx | hx
    · exact h.nc x hx
    · exact noB_ws h0.2 x hx
  have ht : allWs (bl.getD 0 [] ++ [13, 10]) := by
    intro x hx
    rcases List.mem_append.1 hx with hx | hx
    · exact h0.2 x hx
    · exact crlf_ws x hx
  rw [relaxedOf_cut hc, show wordsOf (spr bl 0 ws ++ (bl.getD 0 [] ++ [13, 10])) = ws from words_spr h.bne h.bl (by simp) ht ws 0 h.ws, lowS_app,
    trimS_word (lowS_nonWs h.nn) (by simpa [lowS] using h.nne) (lowS_allWs h0.2), wantOf]
end Wax

/- FnDPicks (3): one pick. -/
namespace Wax
open Go (IntKind)

set_option maxRecDepth 100000 in
theorem ok_hpPick (Γ : Gam) (h17 : Γ.fn 17 = con_zzToLower) (h40 : Γ.fn 40 = con_parseHeaderField) (h41 : Γ.fn 41 = con_zzEqualFold) : ∀ args hp q, con_hpPick args hp = some q → runsS Γ c_dkim_headerPicker_Pick args hp (fun v => v = some q) := by
  intro args hp q h
  simp only [con_hpPick] at h
  split at h <;> (try simp at h; done)
  rename_i k u es
  split at h <;> (try simp at h; done)
  rename_i fs c hu hc
  obtain rfl := asCnt_spec hc
  obtain ⟨⟨hfl, hfs, hkl, hkp, hcl⟩, rfl⟩ := ite_some h
  clear h
  have k17 : con_zzToLower [.str k] = some (.str (lowS k)) := if_pos ⟨hkl, plain_ascii hkp⟩
  have hkeyl : (lowS k).length < mid := by simpa using hkl
  have hkeya : ascii (lowS k) = true := plain_lowS hkp
  have hkk : lowS (lowS k) = lowS k := lowS_low k
  have ew0 : IntKind.i64.wrap ((fs.length : Int) - 1) = (fs.length : Int) - 1 := wrap64 (by simp only [mid] at hfl; omega) (by simp only [mid] at hfl; omega)
  simp [-alen, c_dkim_headerPicker_Pick, acall, h17, k17, slf_map hu, slf_atom hu, slf_alen hu, look_mpA, ew0]
  clear k17 hkl hkp
  generalize lowS k = key at *
  refine awp_loop2 (σ := List (List UInt8) × Nat) (fun p => ⟨[(0, .ref 1000000 0), (1, .str key), (5, .int .i64 p.2), (6, .int .i64 ((p.1.length : Int) - 1))], [(1000000, .cells [u, .mref 1000001]), (1000001, .mp (mpA c))]⟩)
    (fun p => (∃ post, fs = p.1 ++ post) ∧ pk key fs.reverse (getC c key) = pk key p.1.reverse p.2 ∧ p.2 < mid) (fun p => p.1.length) (fs, getC c key) (by simp) ⟨⟨[], by simp⟩, rfl, hcl⟩ ?_
  rintro ⟨pre, n⟩ ⟨⟨post, hpost⟩, hpk, hn⟩ LQ hLQ
  simp only at hpost hpk hn
  rcases List.eq_nil_or_concat pre with rfl | ⟨init, f, rfl⟩
  · rw [hpk]
    simp [b_dkim_headerPicker_Pick_1, t_dkim_headerPicker_Pick_2, pk, pkRes, slf_map hu, slf_refs hu, reach_succ, slf_ref hu]
  · simp only [List.concat_eq_append] at *
    subst hpost
    obtain ⟨hf1, hf2⟩ := hfs f (by simp)
    have hu' := slf_ne hu (by simp)
    subst hu'
    have k40 : con_parseHeaderField [.str f] = some (.tup [.str (nameOf f), .str (trimS (match cutAt 58 f with | some p => p.2 | none => []))]) := if_pos ⟨hf1, hf2⟩
    have k41 : con_zzEqualFold [.str (nameOf f), .str key] = some (.bool (decide (lowS (nameOf f) = key))) := by
      have := nameOf_len f
      have e : decide (lowS (nameOf f) = lowS key) = decide (lowS (nameOf f) = key) := by rw [hkk]
      rw [← e]
      exact if_pos ⟨by omega, hkeyl, plain_ascii (nameOf_plain hf2), hkeya⟩
    simp only [mid] at hfl hn hcl
    simp at hfl
    have ew1 : IntKind.i64.wrap ((init.length : Int) - 1) = (init.length : Int) - 1 := wrap64 (by omega) (by omega)
    have ew2 : IntKind.i64.wrap ((getC c key : Int) + 1) = ((getC c key + 1 : Nat) : Int) := wrap64 (by omega) (by omega)
    have fin : ∀ n', pk key (f :: init.reverse) n = pk key init.reverse n' → n' ≤ n → ∀ st, norm [0, 1, 5, 6] st = ⟨[(0, .ref 1000000 0), (1, .str key), (5, .int .i64 n'), (6, .int .i64 ((init.length : Int) - 1))], [(1000000, .cells [.sl 1 (strsA (init ++ [f] ++ post)), .mref 1000001]), (1000001, .mp (mpA c))]⟩ → LQ st := by
      intro n' e he st hst
      refine hLQ (init, n') ⟨⟨f :: post, by simp⟩, ?_, by simp only [mid]; omega⟩ (by simp) st hst
      rw [hpk]; simpa using e
    have g : (strsA init ++ .str f :: strsA post)[init.length]? = some (.str f) := get_mid (by simp)
    by_cases hm : lowS (nameOf f) = key
    · cases n with
      | zero =>
        have ms := mset_mpA c key (getC c key + 1)
        rw [Int.natCast_add] at ms
        have hres : pk key (init ++ [f] ++ post).reverse (getC c key) = some f := by rw [hpk]; simp [pk, hm]
        rw [hres]
        simp [b_dkim_headerPicker_Pick_1, acall, h40, k40, h41, k41, hm, g, look_mpA, ew1, ew2, pkRes, reach_succ]
        exact ms
      | succ n =>
        have f1 := fin n (by simp [pk, hm]) (by omega)
        have ew3 : IntKind.i64.wrap (n : Int) = (n : Int) := wrap64 (by omega) (by omega)
        have hn0 : ¬ (n : Int) + 1 = 0 := by omega
        simp [b_dkim_headerPicker_Pick_1, acall, h40, k40, h41, k41, hm, g, ew1, ew3, hn0]
        exact f1 _ (by simp)
    · have f1 := fin n (by simp [pk, hm]) (by omega)
      simp [b_dkim_headerPicker_Pick_1, acall, h40, k40, h41, k41, hm, g, ew1]
      exact f1 _ (by simp)
end Wax

/- FnDPicks (4): all picks, one after another. -/
namespace Wax
open Go (IntKind)

def pickL (rev : List (List UInt8)) : List (List UInt8) → List (List UInt8 × Nat) → List (List UInt8)
  | [], _ => []
  | k :: ks, c => match pk (lowS k) rev (getC c (lowS k)) with
    | some f => f :: pickL rev ks (setC c (lowS k) (getC c (lowS k) + 1))
    | none => [] :: pickL rev ks c

def strV (l : List (List UInt8)) : AV := match l with | [] => .nilS | _ => .sl 1 (strsA l)
theorem slStrs_strV {l : List (List UInt8)} : slStrs (strV l) = some l := by
  cases l <;> simp [strV, slStrs, ← strsA_cons]

def con_Pick : List AV → Option AV
  | [u, v] => match slStrs u, slStrs v with
    | some fs, some ks => if fs.length < mid ∧ (∀ s ∈ fs, s.length < mid ∧ plain s = true) ∧ ks.length < mid ∧ (∀ s ∈ ks, s.length < mid ∧ plain s = true) then
        some (strV (pickL fs.reverse ks []))
      else none
    | _, _ => none
  | _ => none

set_option maxRecDepth 100000 in
theorem ok_Pick (Γ : Gam) (s38 : Γ.st 38 = con_newHeaderPicker) (s39 : Γ.st 39 = con_hpPick) : ∀ args r, con_Pick args = some r → runs Γ c_dkim_Pick args (fun v => v = r) := by
  intro args r h
  simp only [con_Pick] at h
  split at h <;> (try simp at h; done)
  rename_i u v
  split at h <;> (try simp at h; done)
  rename_i fs ks hu hv
  obtain ⟨⟨hfl, hfs, hkl, hks⟩, rfl⟩ := ite_some h
  clear h
  have k38 : con_newHeaderPicker [u] [] = some (.ref 0 0, [(0, .cells [u, .mref 1]), (1, .mp [])]) := by simp only [con_newHeaderPicker, hu]
  simp [-alen, c_dkim_Pick, acallS, s38, k38, slf_map hu, slf_kill hu, slf_kill hv, slf_refs hu, slf_alen hv]
  refine awp_loop2 (σ := List (List UInt8) × List (List UInt8) × List (List UInt8) × List (List UInt8 × Nat)) (fun p => ⟨[(5, .ref 10 0), (6, grV 22 1 p.2.2.1.length), (11, v), (12, .int .i64 ks.length), (13, .int .i64 p.1.length)], grH 22 p.2.2.1.length (strsA p.2.2.1) ++ [(10, .cells [u, .mref 100010]), (100010, .mp (mpA p.2.2.2))]⟩)
    (fun p => ks = p.1 ++ p.2.1 ∧ pickL fs.reverse ks [] = p.2.2.1 ++ pickL fs.reverse p.2.1 p.2.2.2 ∧ p.2.2.1.length = p.1.length ∧ ∀ j, getC p.2.2.2 j ≤ p.1.length) (fun p => p.2.1.length) ([], ks, [], []) (by simp [mpA]) ⟨by simp, by simp, rfl, fun j => Nat.le_refl _⟩ ?_
  rintro ⟨pre, post, outs, c⟩ ⟨hpost, hpk, hol, hgc⟩ LQ hLQ
  simp only at hpost hpk hol hgc
  subst hpost
  cases post with
  | nil =>
    simp only [pickL, List.append_nil] at hpk ⊢
    rw [hpk]
    cases outs with
    | nil =>
      have : pre = [] := List.eq_nil_of_length_eq_zero hol.symm
      subst this
      simp [b_dkim_Pick_1, t_dkim_Pick_2, strV]
    | cons o outs =>
      simp at hol
      simp [b_dkim_Pick_1, t_dkim_Pick_2, strV, ← hol, List.take_of_length_le]
  | cons k post =>
    have hv' := slf_ne hv (by simp)
    subst hv'
    obtain ⟨hk1, hk2⟩ := hks k (by simp)
    have k39 : con_hpPick [.ref 0 0, .str k] [(0, .cells [u, .mref 1]), (1, .mp (mpA c))] = some (pkRes u c (lowS k) (pk (lowS k) fs.reverse (getC c (lowS k)))) := by
      simp only [con_hpPick, hu, asCnt_mpA]
      exact if_pos ⟨hfl, hfs, hk1, hk2, by have := hgc (lowS k); simp at hkl; omega⟩
    simp only [mid] at hkl
    simp at hkl
    have g : (strsA pre ++ .str k :: strsA post)[pre.length]? = some (.str k) := get_mid (by simp)
    have ew : IntKind.i64.wrap ((pre.length : Int) + 1) = (pre.length : Int) + 1 := wrap64 (by omega) (by omega)
    have hlt : (pre.length : Int) < (pre.length : Int) + ((post.length : Int) + 1) := by omega
    have fin : ∀ (x : List UInt8) (c' : List (List UInt8 × Nat)), pickL fs.reverse (k :: post) c = x :: pickL fs.reverse post c' → (∀ j, getC c' j ≤ pre.length + 1) → ∀ st, norm [5, 6, 11, 12, 13] st = ⟨[(5, .ref 10 0), (6, .msl 22 1 0 (outs.length + 1)), (11, .sl 1 (strsA (pre ++ k :: post))), (12, .int .i64 ((pre.length : Int) + ((post.length : Int) + 1))), (13, .int .i64 ((pre.length : Int) + 1))], [(22, .cells (strsA outs ++ [.str x])), (10, .cells [u, .mref 100010]), (100010, .mp (mpA c'))]⟩ → LQ st := by
      intro x c' e hc st hst
      refine hLQ (pre ++ [k], post, outs ++ [x], c') ⟨by simp, ?_, by simp [hol], by simpa using hc⟩ (by simp) st ?_
      · rw [hpk, e]; simp
      · simpa using hst
    cases hpkv : pk (lowS k) fs.reverse (getC c (lowS k)) with
    | none =>
      rw [hpkv] at k39
      have f1 := fin [] c (by simp [pickL, hpkv]) (fun j => by have := hgc j; omega)
      cases outs with
      | nil =>
        simp [b_dkim_Pick_1, hlt, g, acallS, s39, k39, slf_map hu, slf_kill hu, slf_refs hu, reach_succ, pkRes, ew]
        exact f1 _ (by simp)
      | cons o outs =>
        simp at hol
        simp [b_dkim_Pick_1, hlt, g, acallS, s39, k39, slf_map hu, slf_kill hu, slf_refs hu, reach_succ, pkRes, ew]
        refine ⟨by omega, f1 _ (by simp)⟩
    | some f =>
      rw [hpkv] at k39
      have f1 := fin f (setC c (lowS k) (getC c (lowS k) + 1)) (by simp [pickL, hpkv]) (fun j => by rw [getC_setC]; have := hgc j; have := hgc (lowS k); split <;> omega)
      cases outs with
      | nil =>
        simp [b_dkim_Pick_1, hlt, g, acallS, s39, k39, slf_map hu, slf_kill hu, slf_refs hu, reach_succ, pkRes, ew]
        exact f1 _ (by simp)
      | cons o outs =>
        simp at hol
        simp [b_dkim_Pick_1, hlt, g, acallS, s39, k39, slf_map hu, slf_kill hu, slf_refs hu, reach_succ, pkRes, ew]
        refine ⟨by omega, f1 _ (by simp)⟩
end Wax

/- Functions as the abstract machine has them. -/
namespace Wax
open Go (IntKind)

/- maps.Keys[map[string]string,string,string] -/
def c_maps_Keys : SFn := ⟨1,
    (.seq
      (.region [
        ⟨some 1, .boxF (.t 0), none⟩,
        ⟨some 2, .mv (.k .nilF), none⟩] [1] [] [[0]])
      (.seq
        (.region [
          ⟨some 3, .mkFn 55 [(.t 1)], none⟩,
          ⟨some 2, .mv (.t 3), none⟩] [2] [] [[1]])
        .ret)),
  [.t 2]⟩

def l_maps_Keys : Lay := { rg := [(0, ([1], [])), (1, ([2], []))], dd := [(0, [[0]]), (1, [[1]])], fz := [1] }

end Wax

/- FnDParams (4): the tags in ascending order. -/
namespace Wax
open Go (IntKind)

def sortB (l : List (List UInt8)) : List (List UInt8) := l.mergeSort (fun x y => decide (x ≤ y))

def con_Keys : List AV → Option AV
  | [.mp es] => some (.fn 55 [.bx [.mp es]])
  | _ => none

theorem ok_Keys (Γ : Gam) : ∀ args r, con_Keys args = some r → runs Γ c_maps_Keys args (fun v => v = r) := by
  intro args r h
  simp only [con_Keys] at h
  split at h <;> (try simp at h; done)
  injection h with h; subst h
  simp [c_maps_Keys]

/-- slices.Sorted of a map's keys. -/
def con_Sorted : List AV → Option AV
  | [.fn 55 [.bx [.mp es]]] => if es.length < half ∧ (∀ q ∈ es, q.1.length < half) then some (strV (sortB (es.map (·.1)))) else none
  | _ => none

def lookP : List (List UInt8 × List UInt8) → List UInt8 → List UInt8
  | [], _ => []
  | (i, v) :: r, k => if k = i then v else lookP r k
theorem lookA_pmA : ∀ (l : List (List UInt8 × List UInt8)) (k : List UInt8), lookA (pmA l) k (.str []) false = .str (lookP l k)
  | [], k => rfl
  | (i, v) :: r, k => by
    have := lookA_pmA r k
    by_cases h : k = i <;> simp [pmA, lookA, mfind, lookP, h] at this ⊢
    exact this

def sortP (acc : List (List UInt8 × List UInt8)) : List (List UInt8 × List UInt8) := (sortB (acc.map (·.1))).map fun k => (k, lookP acc k)

def dpV (x : List (List UInt8 × List UInt8) × Option (List UInt8)) : AV := match x.2 with
  | none => .tup [pairV (sortP x.1), .nilI]
  | some m => .tup [.nilS, .ifc 3 (.ptr [.str m])]

def con_dkimParams : List AV → Option AV
  | [.str s] => if s.length + 1 < half ∧ plain s = true then some (dpV (prm (splitB 59 s) [])) else none
  | _ => none

theorem prm_length : ∀ (L : List (List UInt8)) (acc : List (List UInt8 × List UInt8)), (prm L acc).1.length ≤ acc.length + L.length
  | [], acc => by simp [prm]
  | p :: r, acc => by
    simp only [prm]
    split
    · split
      · have := prm_length r acc; simp; omega
      · simp
    · split
      · simp
      · rename_i q _ _
        have := prm_length r (acc ++ [(trimS q.1, trimS q.2)])
        simp at this ⊢; omega

theorem prm_keys (n : Nat) : ∀ (L : List (List UInt8)) (acc : List (List UInt8 × List UInt8)), (∀ p ∈ L, p.length ≤ n) → (∀ q ∈ acc, q.1.length ≤ n) → ∀ q ∈ (prm L acc).1, q.1.length ≤ n
  | [], acc, _, h2 => h2
  | p :: r, acc, h1, h2 => by
    have hr : ∀ p ∈ r, p.length ≤ n := fun p hp => h1 p (by simp [hp])
    simp only [prm]
    cases hc : cutAt 61 p with
    | none =>
      simp only
      by_cases ht : trimS p = []
      · simp only [ht, if_true]; exact prm_keys n r acc hr h2
      · simp only [ht, if_false]; exact h2
    | some q =>
      simp only
      split
      · exact h2
      · refine prm_keys n r _ hr fun z hz => ?_
        rcases List.mem_append.1 hz with hz | hz
        · exact h2 z hz
        · simp only [List.mem_singleton] at hz
          subst hz
          have t1 := trimS_length q.1
          have t2 := (cutAt_le hc).1
          have t3 := h1 p (by simp)
          simp only
          omega

set_option maxRecDepth 100000 in
theorem ok_dkimParams (Γ : Gam) (h47 : Γ.fn 47 = con_parseHeaderParams) (h48 : Γ.fn 48 = con_Keys) (h49 : Γ.fn 49 = con_Sorted) : ∀ args r, con_dkimParams args = some r → runs Γ c_dkim_Params args (fun v => v = r) := by
  intro args r h
  simp only [con_dkimParams] at h
  split at h <;> (try simp at h; done)
  rename_i s
  obtain ⟨⟨hs, hp⟩, rfl⟩ := ite_some h
  clear h
  have k47 : con_parseHeaderParams [.str s] = some (prmV (prm (splitB 59 s) [])) := if_pos ⟨by simp only [half, mid] at *; omega, hp⟩
  have hl := prm_length (splitB 59 s) []
  have hl2 := splitB_length 59 s
  have hkl := prm_keys s.length (splitB 59 s) [] (splitB_mem_length 59 s) (by simp)
  generalize prm (splitB 59 s) [] = q at *
  obtain ⟨acc, e⟩ := q
  cases e with
  | some m => simp [c_dkim_Params, acall, h47, k47, prmV, dpV]
  | none =>
    simp at hl
    have hacc : acc.length < half := by omega
    have k49 : con_Sorted [.fn 55 [.bx [.mp (pmA acc)]]] = some (strV (sortB (acc.map (·.1)))) := by
      have e1 : (pmA acc).map (·.1) = acc.map (·.1) := by simp [pmA, Function.comp_def]
      simp only [con_Sorted, e1]
      refine if_pos ⟨by simpa [pmA] using hacc, fun q hq => ?_⟩
      simp only [pmA, List.mem_map] at hq
      obtain ⟨z, hz, rfl⟩ := hq
      have := hkl z hz
      simp only [half] at *
      omega
    have hsl : (sortB (acc.map (·.1))).length < half := by simpa [sortB] using hacc
    have hsl' := hsl
    simp only [half] at hsl'
    have hp1 := slf_ref (slStrs_strV (l := sortB (acc.map (·.1))))
    have hp2 := slf_alen (slStrs_strV (l := sortB (acc.map (·.1))))
    have hsv := slStrs_strV (l := sortB (acc.map (·.1)))
    simp [-alen, c_dkim_Params, acall, h47, k47, prmV, dpV, h48, con_Keys, h49, k49, hp1, hp2]
    rw [sortP]
    generalize sortB (acc.map (·.1)) = ks at *
    refine awp_loop2 (σ := List (List UInt8) × List (List UInt8)) (fun p => ⟨[(4, .mp (pmA acc)), (6, grV 32 2 p.1.length), (19, strV ks), (20, .int .i64 ks.length), (21, .int .i64 p.1.length)], grH 32 p.1.length (pc2 (p.1.map fun k => (k, lookP acc k)))⟩)
      (fun p => ks = p.1 ++ p.2) (fun p => p.2.length) ([], ks) (by simp) (by simp) ?_
    rintro ⟨pre, post⟩ hs1 LQ hLQ
    simp only at hs1
    subst hs1
    cases post with
    | nil =>
      cases pre with
      | nil => simp [b_dkim_Params_1, t_dkim_Params_2, pairV]
      | cons x pre =>
        have hg := group_pc2 (l := (x :: pre).map fun k => (k, lookP acc k))
        simp at hg
        simp [b_dkim_Params_1, t_dkim_Params_2, pairV, hg]
        omega
    | cons x post =>
      have hu := slf_ne hsv (by simp)
      rw [hu] at hLQ ⊢
      simp at hsl'
      have hlt : (pre.length : Int) < (pre.length : Int) + ((post.length : Int) + 1) := by omega
      have g2 : ∀ (q : List AV) (z : AV), (strsA pre ++ z :: q)[pre.length]? = some z := fun q z => get_mid (by simp)
      have fin : ∀ st, norm [4, 6, 19, 20, 21] st = ⟨[(4, .mp (pmA acc)), (6, .msl 32 2 0 (pre.length + 1)), (19, .sl 1 (strsA (pre ++ x :: post))), (20, .int .i64 ((pre.length : Int) + ((post.length : Int) + 1))), (21, .int .i64 ((pre.length : Int) + 1))], [(32, .cells (pc2 (pre.map fun k => (k, lookP acc k)) ++ [.str x, .str (lookP acc x)]))]⟩ → LQ st := by
        intro st hst
        exact hLQ (pre ++ [x], post) (by simp) (by simp) st (by simpa using hst)
      cases pre with
      | nil =>
        have ew0 : IntKind.i64.wrap 1 = 1 := rfl
        simp [b_dkim_Params_1, ew0, g2, lookA_pmA]
        exact fin _ (by simp)
      | cons y pre =>
        simp at hsl'
        have ew1 : IntKind.i64.wrap ((pre.length : Int) + 1 + 1) = (pre.length : Int) + 1 + 1 := wrap64 (by omega) (by omega)
        have tk : List.take ((pre.length + 1) * 2) (AV.str y :: AV.str (lookP acc y) :: pc2 (pre.map fun k => (k, lookP acc k))) = AV.str y :: AV.str (lookP acc y) :: pc2 (pre.map fun k => (k, lookP acc k)) := List.take_of_length_le (by simp; omega)
        simp [b_dkim_Params_1, ew1, g2, tk, lookA_pmA]
        refine ⟨fun _ => ⟨by omega, ⟨by omega, by omega⟩, fin _ (by simp; omega)⟩, fun h => by omega⟩

def con_DParams : List AV → Option AV
  | [.str s] => if s.length + 1 < half ∧ plain s = true then some (match prm (splitB 59 s) [] with | (acc, none) => .tup [pairV (sortP acc), .bool true] | (_, some _) => .tup [.nilS, .bool false]) else none
  | _ => none

theorem ok_DParams (Γ : Gam) (h45 : Γ.fn 45 = con_dkimParams) (h46 : Γ.fn 46 = con_pairsOf) : ∀ args r, con_DParams args = some r → runs Γ c_impl_DParams args (fun v => v = r) := by
  intro args r h
  simp only [con_DParams] at h
  split at h <;> (try simp at h; done)
  rename_i s
  obtain ⟨⟨hs, hp⟩, rfl⟩ := ite_some h
  clear h
  have k45 : con_dkimParams [.str s] = some (dpV (prm (splitB 59 s) [])) := if_pos ⟨hs, hp⟩
  have hl := prm_length (splitB 59 s) []
  have hl2 := splitB_length 59 s
  generalize prm (splitB 59 s) [] = q at *
  obtain ⟨acc, e⟩ := q
  cases e with
  | some m => simp [c_impl_DParams, acall, h45, k45, dpV]
  | none =>
    have k46 : con_pairsOf [pairV (sortP acc)] = some (pairV (sortP acc)) := by
      simp only [con_pairsOf, slPairs_pairV]
      exact if_pos (by simp [sortP, sortB]; simp at hl; omega)
    have hr : hasRef (pairV (sortP acc)) = false := by cases sortP acc <;> rfl
    simp [c_impl_DParams, acall, h45, k45, dpV, h46, k46, hr]
end Wax

/- FnDParams (5): the plain law: both readings are the same. -/
namespace Wax

theorem lexLt_eq : ∀ x y : List UInt8, lexLt x y = decide (x < y)
  | [], [] => by simp [lexLt, Go.Op.bytesLess]
  | _ :: _, [] => by simp [lexLt, Go.Op.bytesLess]
  | [], _ :: _ => by simp [lexLt, Go.Op.bytesLess]
  | a :: x, b :: y => by
    have ih := lexLt_eq x y
    simp only [lexLt] at ih
    simp only [lexLt, Go.Op.bytesLess, ih, List.cons_lt_cons_iff, Bool.decide_or, Bool.decide_and]
    congr 2

abbrev KV := List UInt8 × List UInt8

/-- A pair goes to its place; none: there is one of that name. -/
def insP (x : KV) : List KV → Option (List KV)
  | [] => some [x]
  | y :: r => if lexLt y.1 x.1 = true then (insP x r).map (y :: ·) else if y.1 = x.1 then none else some (x :: y :: r)

def tgL : List (List UInt8) → List KV → Option (List KV)
  | [], out => some out
  | p :: r, out => match cutAt 61 p with
    | none => if trimS p = [] then tgL r out else none
    | some q => match insP (trimS q.1, trimS q.2) out with
      | none => none
      | some out' => tgL r out'

def Asc (l : List KV) : Prop := l.Pairwise fun a b => a.1 < b.1

theorem lt_asymm' {a b : List UInt8} (h : a < b) : ¬ b < a := List.lt_asymm h
theorem lt_tri {a b : List UInt8} (h : ¬ a < b) (hn : ¬ a = b) : b < a := by
  rcases Std.lt_trichotomy a b with h1 | h1 | h1
  · exact absurd h1 h
  · exact absurd h1 hn
  · exact h1

theorem insP_spec (x : KV) : ∀ (out : List KV), Asc out → (hasK x.1 out = true → insP x out = none) ∧ (hasK x.1 out = false → ∃ o, insP x out = some o ∧ Asc o ∧ o.Perm (out ++ [x]))
  | [], _ => ⟨fun h => by simp [hasK] at h, fun _ => ⟨[x], rfl, by simp [Asc], by simp⟩⟩
  | y :: r, h => by
    have h' := List.pairwise_cons.1 h
    have ih := insP_spec x r h'.2
    by_cases hlt : y.1 < x.1
    · have hl : lexLt y.1 x.1 = true := by rw [lexLt_eq]; exact decide_eq_true hlt
      have hne : ¬ x.1 = y.1 := fun e => by rw [e] at hlt; exact List.lt_irrefl _ hlt
      have hk : hasK x.1 (y :: r) = hasK x.1 r := by simp [hasK, hne]
      rw [hk]
      refine ⟨fun hh => by simp [insP, hl, ih.1 hh], fun hh => ?_⟩
      obtain ⟨o, h1, h2, h3⟩ := ih.2 hh
      refine ⟨y :: o, by simp [insP, hl, h1], ?_, ?_⟩
      · refine List.pairwise_cons.2 ⟨fun z hz => ?_, h2⟩
        rcases List.mem_append.1 (h3.mem_iff.1 hz) with hz | hz
        · exact h'.1 z hz
        · simp at hz; subst hz; exact hlt
      · simpa using h3
    · have hl : lexLt y.1 x.1 = false := by rw [lexLt_eq]; exact decide_eq_false hlt
      by_cases he : y.1 = x.1
      · rw [he] at hl
        refine ⟨fun _ => by simp [insP, hl, he], fun hh => ?_⟩
        simp [hasK, he] at hh
      · have hgt : x.1 < y.1 := lt_tri hlt he
        have hnk : hasK x.1 (y :: r) = false := by
          simp only [hasK, List.any_cons, Bool.or_eq_false_iff, decide_eq_false_iff_not, List.any_eq_false]
          refine ⟨fun e => he e.symm, fun z hz => ?_⟩
          have := h'.1 z hz
          intro e
          have e := of_decide_eq_true e
          rw [← e] at this
          exact lt_asymm' hgt this
        refine ⟨fun hh => by rw [hnk] at hh; simp at hh, fun _ => ⟨x :: y :: r, by simp [insP, hl, he], ?_, ?_⟩⟩
        · refine List.pairwise_cons.2 ⟨fun z hz => ?_, h⟩
          rcases List.mem_cons.1 hz with rfl | hz
          · exact hgt
          · exact List.lt_trans hgt (h'.1 z hz)
        · exact (List.perm_append_comm (l₁ := [x]) (l₂ := y :: r))

theorem lookP_mem : ∀ {l : List KV} {k v}, (l.map (·.1)).Nodup → (k, v) ∈ l → lookP l k = v
  | [], k, v, _, h => by simp at h
  | (i, u) :: r, k, v, hn, h => by
    simp only [List.map_cons, List.nodup_cons] at hn
    rcases List.mem_cons.1 h with h | h
    · simp at h; obtain ⟨rfl, rfl⟩ := h; simp [lookP]
    · have : ¬ k = i := fun e => hn.1 (by rw [← e]; exact List.mem_map.2 ⟨_, h, rfl⟩)
      simp only [lookP, if_neg this]
      exact lookP_mem hn.2 h

theorem asc_sortP {out acc : List KV} (h : Asc out) (hp : out.Perm acc) : out = sortP acc := by
  have hk : (out.map (·.1)).Pairwise (· < ·) := List.pairwise_map.2 h
  have hnd : (out.map (·.1)).Nodup := hk.imp fun hab e => by rw [e] at hab; exact List.lt_irrefl _ hab
  have hnd2 : (acc.map (·.1)).Nodup := (hp.map (·.1)).nodup_iff.1 hnd
  have hs : out.map (·.1) = sortB (acc.map (·.1)) := by
    have p1 : (out.map (·.1)).Perm (sortB (acc.map (·.1))) := (hp.map _).trans (List.mergeSort_perm _ _).symm
    refine p1.eq_of_pairwise (le := fun a b => a ≤ b) ?_ ?_ ?_
    · intro a b _ _ h1 h2; exact List.le_antisymm h1 h2
    · exact hk.imp fun hab => List.le_of_lt hab
    · have := List.pairwise_mergeSort (le := fun x y : List UInt8 => decide (x ≤ y)) (fun a b c h1 h2 => by
        simp only [decide_eq_true_eq] at *; exact List.le_trans h1 h2) (fun a b => by
        simp only [Bool.or_eq_true, decide_eq_true_eq]; exact List.le_total a b) (acc.map (·.1))
      exact this.imp fun h => of_decide_eq_true h
  rw [sortP, ← hs, List.map_map]
  have : ∀ p ∈ out, (((fun k => (k, lookP acc k)) ∘ fun x : KV => x.1) p) = p := by
    intro p hpm
    have := lookP_mem (k := p.1) (v := p.2) hnd2 (hp.mem_iff.1 hpm)
    simp [this]
  exact (List.map_congr_left this).symm ▸ (List.map_id out).symm

theorem params_law : ∀ (L : List (List UInt8)) (acc out : List KV), Asc out → out.Perm acc → match prm L acc with
    | (a, none) => tgL L out = some (sortP a)
    | (_, some _) => tgL L out = none
  | [], acc, out, h, hp => by simp only [prm, tgL]; rw [asc_sortP h hp]
  | p :: r, acc, out, h, hp => by
    simp only [prm, tgL]
    cases hc : cutAt 61 p with
    | none =>
      simp only
      by_cases ht : trimS p = []
      · simp only [ht, if_true]; exact params_law r acc out h hp
      · simp only [ht, if_false]
    | some q =>
      simp only
      have hk : hasK (trimS q.1) acc = hasK (trimS q.1) out := by
        simp only [hasK]
        exact (hp.any_eq).symm
      have hi := insP_spec (trimS q.1, trimS q.2) out h
      cases hh : hasK (trimS q.1) out with
      | true => rw [hk, hh]; simp only [if_true]; rw [hi.1 hh]
      | false =>
        rw [hk, hh]
        obtain ⟨o, h1, h2, h3⟩ := hi.2 hh
        simp only [Bool.false_eq_true, if_false, h1]
        exact params_law r _ o h2 (h3.trans (hp.append_right _))
end Wax

/- FnDCanonAgain: its loops. -/
namespace Wax
open Go (IntKind)

def con_FnDCanonAgain : List AV → Option AV
  | [.str name, v, u] => match slStrs v, slStrs u with
    | some ws, some bl => if name.length < 9223372036854775808 ∧ (ws.length < 9223372036854775808 ∧ ∀ s ∈ ws, s.length < 9223372036854775808) ∧ (bl.length < 9223372036854775808 ∧ ∀ s ∈ bl, s.length < 9223372036854775808) then some (.bool true) else none
    | _, _ => none
  | _ => none

theorem plain_ap {s t : List UInt8} : plain (s ++ t) = (plain s && plain t) := by simp [plain]

def nameOk (x : UInt8) : Bool := !(decide ((x.toNat : Int) ≤ 32) || decide ((x.toNat : Int) = 58) || decide ((x.toNat : Int) = 127))

theorem dShort_all {m : Int} {l : List (List UInt8)} (h : dShort m l = true) : (∀ s ∈ l, plain s = true ∧ (s.length : Int) ≤ m) ∧ l.length ≤ 200 := by
  simp only [dShort, Bool.and_eq_true, List.all_eq_true, decide_eq_true_eq] at h
  refine ⟨fun s hs => ?_, by omega⟩
  have := h.1 s hs
  simpa only [dPlain, Bool.and_eq_true, decide_eq_true_eq, plain] using this

theorem joinB_length {m : Nat} : ∀ (ws : List (List UInt8)), (∀ w ∈ ws, w.length ≤ m) → (joinB ws).length ≤ ws.length * (m + 1)
  | [], _ => by simp [joinB]
  | w :: r, h => by
    have ih := joinB_length r (fun x hx => h x (by simp [hx]))
    have hw := h w (by simp)
    rw [joinB_cons]
    cases r with
    | nil => simp [J2]; omega
    | cons x y => rw [J2_ne (by simp)]; simp [Nat.add_mul] at ih ⊢; omega

theorem spr_length {m : Nat} {bl : List (List UInt8)} (hb : bl ≠ []) (hbl : ∀ b ∈ bl, b.length ≤ m) : ∀ (ws : List (List UInt8)) (k : Nat), (∀ w ∈ ws, w.length ≤ m) → (spr bl k ws).length ≤ ws.length * (2 * m)
  | [], k, _ => by simp [spr]
  | w :: r, k, h => by
    have ih := spr_length hb hbl r (k + 1) (fun x hx => h x (by simp [hx]))
    have hw := h w (by simp)
    have hk := hbl _ (getD_blank hb (k := k))
    rw [spr_cons]
    simp only [List.length_append, List.length_cons, Nat.add_mul]
    omega

theorem plain_joinB : ∀ (ws : List (List UInt8)), (∀ w ∈ ws, plain w = true) → plain (joinB ws) = true
  | [], _ => rfl
  | w :: r, h => by
    have ih := plain_joinB r (fun x hx => h x (by simp [hx]))
    rw [joinB_cons, plain_ap, h w (by simp)]
    cases r with
    | nil => rfl
    | cons x y =>
      rw [J2_ne (by simp)]
      have e : plain (32 :: joinB (x :: y)) = (plainB 32 && plain (joinB (x :: y))) := rfl
      have e2 : plainB 32 = true := plainB_true ⟨by decide, by decide, by decide⟩
      rw [e, ih, e2]; rfl

theorem plain_spr {bl : List (List UInt8)} (hb : bl ≠ []) (hbl : ∀ b ∈ bl, plain b = true) : ∀ (ws : List (List UInt8)) (k : Nat), (∀ w ∈ ws, plain w = true) → plain (spr bl k ws) = true
  | [], k, _ => rfl
  | w :: r, k, h => by
    have ih := plain_spr hb hbl r (k + 1) (fun x hx => h x (by simp [hx]))
    rw [spr_cons, plain_ap, plain_ap, h w (by simp), hbl _ (getD_blank hb (k := k)), ih]; rfl


theorem ca_loop1 (Γ : Gam) (h11 : Γ.fn 11 = con_dAwake) (Q : APost) {name : List UInt8} {V U : AV} (hV : hasRef V = false) (hU : hasRef U = false) (hn : name.length ≤ 2147483647) (hQr : Q .ret ⟨[(6, .bool true)], []⟩)
    (hQe : (∀ x ∈ name, nameOk x = true) → Q (.exit 0) ⟨[(0, .str name), (1, V), (2, U), (7, .int .i64 name.length), (60, .bool false)], []⟩) :
    awp Γ (.loop [0, 1, 2, 7] b_laws_FnDCanonAgain_1) Q ⟨[(0, .str name), (1, V), (2, U), (7, .int .i64 0)], []⟩ := by
  refine awp_loop2 (σ := List UInt8 × List UInt8) (fun p => ⟨[(0, .str name), (1, V), (2, U), (7, .int .i64 p.1.length)], []⟩) (fun p => name = p.1 ++ p.2 ∧ ∀ x ∈ p.1, nameOk x = true) (fun p => p.2.length) ([], name) (by simp) (by simp) ?_
  rintro ⟨pre, post⟩ ⟨hs1, hs2⟩ LQ hLQ
  simp only at hs1 hs2
  subst hs1
  cases post with
  | nil =>
    simp at hQe
    simp [b_laws_FnDCanonAgain_1]
    exact hQe hs2
  | cons x post =>
    simp at hn
    have ew : IntKind.i64.wrap ((pre.length : Int) + 1) = (pre.length : Int) + 1 := wrap64 (by omega) (by omega)
    have hlt : (pre.length : Int) < (pre.length : Int) + ((post.length : Int) + 1) := by omega
    by_cases c1 : (x.toNat : Int) ≤ 32
    · simp [b_laws_FnDCanonAgain_1, c1, acall, h11, con_dAwake]
      exact ⟨fun _ => hQr, fun _ => by omega⟩
    · by_cases c2 : (x.toNat : Int) = 58
      · simp [b_laws_FnDCanonAgain_1, c2, acall, h11, con_dAwake]
        exact ⟨fun _ => hQr, fun _ => by omega⟩
      · by_cases c3 : (x.toNat : Int) = 127
        · simp [b_laws_FnDCanonAgain_1, c3, acall, h11, con_dAwake]
          exact ⟨fun _ => hQr, fun _ => by omega⟩
        · have hok : nameOk x = true := by simp [nameOk, c1, c2, c3]
          simp [b_laws_FnDCanonAgain_1, c1, c2, c3, ew]
          refine ⟨fun _ => ?_, fun _ => by omega⟩
          refine hLQ (pre ++ [x], post) ⟨by simp, ?_⟩ (by simp) _ (by simp)
          intro y hy
          rcases List.mem_append.1 hy with hy | hy
          · exact hs2 y hy
          · simp at hy; subst hy; exact hok

theorem ca_loop2 (Γ : Gam) (h11 : Γ.fn 11 = con_dAwake) (h27 : Γ.fn 27 = con_DStrip) (Q : APost) {N U : AV} {ws : List (List UInt8)} (hws : ∀ w ∈ ws, w.length < mid) (hl : ws.length ≤ 2147483647) (hQr : Q .ret ⟨[(6, .bool true)], []⟩)
    (hQe : (∀ w ∈ ws, stripD w = w ∧ w ≠ []) → Q (.exit 2) ⟨[(0, N), (1, .sl 1 (strsA ws)), (2, U), (9, .int .i64 ws.length), (80, .bool false)], []⟩) :
    awp Γ (.loop [0, 1, 2, 9] b_laws_FnDCanonAgain_2) Q ⟨[(0, N), (1, .sl 1 (strsA ws)), (2, U), (9, .int .i64 0)], []⟩ := by
  refine awp_loop2 (σ := List (List UInt8) × List (List UInt8)) (fun p => ⟨[(0, N), (1, .sl 1 (strsA ws)), (2, U), (9, .int .i64 p.1.length)], []⟩) (fun p => ws = p.1 ++ p.2 ∧ ∀ w ∈ p.1, stripD w = w ∧ w ≠ []) (fun p => p.2.length) ([], ws) (by simp) (by simp) ?_
  rintro ⟨pre, post⟩ ⟨hs1, hs2⟩ LQ hLQ
  simp only at hs1 hs2
  subst hs1
  cases post with
  | nil =>
    simp at hQe
    simp [b_laws_FnDCanonAgain_2]
    exact hQe fun w hw => hs2 w hw
  | cons x post =>
    simp at hl
    have hx := hws x (by simp)
    have hk : con_DStrip [.str x] = some (.str (stripD x)) := if_pos hx
    have ew : IntKind.i64.wrap ((pre.length : Int) + 1) = (pre.length : Int) + 1 := wrap64 (by omega) (by omega)
    have hlt : (pre.length : Int) < (pre.length : Int) + ((post.length : Int) + 1) := by omega
    by_cases c1 : stripD x = x
    · by_cases c2 : x = []
      · subst c2
        simp [b_laws_FnDCanonAgain_2, acall, h27, hk, c1, h11, con_dAwake]
        exact ⟨fun _ => hQr, fun _ => by omega⟩
      · simp [b_laws_FnDCanonAgain_2, acall, h27, hk, c1, c2, ew]
        refine ⟨fun _ => ?_, fun _ => by omega⟩
        refine hLQ (pre ++ [x], post) ⟨by simp, ?_⟩ (by simp) _ (by simp)
        intro y hy
        rcases List.mem_append.1 hy with hy | hy
        · exact hs2 y hy
        · simp at hy; subst hy; exact ⟨c1, c2⟩
    · simp [b_laws_FnDCanonAgain_2, acall, h27, hk, c1, h11, con_dAwake]
      exact ⟨fun _ => hQr, fun _ => by omega⟩

theorem ca_loop3 (Γ : Gam) (h11 : Γ.fn 11 = con_dAwake) (h27 : Γ.fn 27 = con_DStrip) (Q : APost) {N U : AV} {ws : List (List UInt8)} (hws : ∀ w ∈ ws, w.length < mid) (hl : ws.length ≤ 2147483647) (hQr : Q .ret ⟨[(6, .bool true)], []⟩)
    (hQe : (∀ w ∈ ws, stripD w = [] ∧ w ≠ []) → Q (.exit 4) ⟨[(0, N), (1, U), (2, .sl 1 (strsA ws)), (10, .int .i64 ws.length), (104, .bool false)], []⟩) :
    awp Γ (.loop [0, 1, 2, 10] b_laws_FnDCanonAgain_3) Q ⟨[(0, N), (1, U), (2, .sl 1 (strsA ws)), (10, .int .i64 0)], []⟩ := by
  refine awp_loop2 (σ := List (List UInt8) × List (List UInt8)) (fun p => ⟨[(0, N), (1, U), (2, .sl 1 (strsA ws)), (10, .int .i64 p.1.length)], []⟩) (fun p => ws = p.1 ++ p.2 ∧ ∀ w ∈ p.1, stripD w = [] ∧ w ≠ []) (fun p => p.2.length) ([], ws) (by simp) (by simp) ?_
  rintro ⟨pre, post⟩ ⟨hs1, hs2⟩ LQ hLQ
  simp only at hs1 hs2
  subst hs1
  cases post with
  | nil =>
    simp at hQe
    simp [b_laws_FnDCanonAgain_3]
    exact hQe fun w hw => hs2 w hw
  | cons x post =>
    simp at hl
    have hx := hws x (by simp)
    have hk : con_DStrip [.str x] = some (.str (stripD x)) := if_pos hx
    have ew : IntKind.i64.wrap ((pre.length : Int) + 1) = (pre.length : Int) + 1 := wrap64 (by omega) (by omega)
    have hlt : (pre.length : Int) < (pre.length : Int) + ((post.length : Int) + 1) := by omega
    by_cases c1 : stripD x = []
    · by_cases c2 : x = []
      · subst c2
        simp [b_laws_FnDCanonAgain_3, acall, h27, hk, c1, h11, con_dAwake]
        exact ⟨fun _ => hQr, fun _ => by omega⟩
      · simp [b_laws_FnDCanonAgain_3, acall, h27, hk, c1, c2, ew]
        refine ⟨fun _ => ?_, fun _ => by omega⟩
        refine hLQ (pre ++ [x], post) ⟨by simp, ?_⟩ (by simp) _ (by simp)
        intro y hy
        rcases List.mem_append.1 hy with hy | hy
        · exact hs2 y hy
        · simp at hy; subst hy; exact ⟨c1, c2⟩
    · simp [b_laws_FnDCanonAgain_3, acall, h27, hk, c1, h11, con_dAwake]
      exact ⟨fun _ => hQr, fun _ => by omega⟩
end Wax

/- FnDParams: its own text, by its callees' contracts. -/
namespace Wax
open Go (IntKind)

def con_DTags : List AV → Option AV
  | [.str s] => if s.length + 1 < half then some (match tgL (splitB 59 s) [] with | some o => .tup [pairV o, .bool true] | none => .tup [.nilS, .bool false]) else none
  | _ => none

def con_FnDParams : List AV → Option AV
  | [.str s] => if s.length < 9223372036854775808 then some (.bool true) else none
  | _ => none

theorem slp_ref {u : AV} {l} (h : slPairs u = some l) : hasRef u = false := by
  rcases slPairs_cases h with ⟨rfl, rfl⟩ | rfl <;> simp
theorem slp_snap {u : AV} {l} (h : slPairs u = some l) (n : Nat) (hp : List (Nat × AObj)) : snap (n + 1) hp u = u := by
  rcases slPairs_cases h with ⟨rfl, rfl⟩ | rfl <;> simp

set_option maxHeartbeats 1000000 in
set_option maxRecDepth 100000 in
theorem ok_FnDParams (Γ : Gam) (h10 : Γ.fn 10 = con_dShort) (h11 : Γ.fn 11 = con_dAwake) (h51 : Γ.fn 51 = con_DParams) (h52 : Γ.fn 52 = con_DTags) (h53 : Γ.fn 53 = con_dSamePairs) :
    ∀ args r, con_FnDParams args = some r → runs Γ c_laws_FnDParams args (fun v => v = r) := by
  intro args r h
  simp only [con_FnDParams] at h
  split at h <;> (try simp at h; done)
  rename_i s
  obtain ⟨hs, rfl⟩ := ite_some h
  clear h
  by_cases hl : (2147483647 : Int) < (s.length : Int)
  · simp [c_laws_FnDParams, hl]
  have ds : con_dShort [.int .i64 2000, .sl 1 [.str s]] = some (.bool (dShort 2000 [s])) := by
    have : slStrs (.sl 1 [.str s]) = some [s] := by simp [slStrs, asStrs]
    simp only [con_dShort, this]
    exact if_pos ⟨by simp [big], by simp [big]; omega⟩
  cases hA : dShort 2000 [s] with
  | false =>
    rw [hA] at ds
    simp [c_laws_FnDParams, hl, acall, h10, ds, h11, con_dAwake]
  | true =>
    rw [hA] at ds
    obtain ⟨a1, _⟩ := dShort_all hA
    obtain ⟨a2, a3⟩ := a1 s (by simp)
    have hh : s.length + 1 < half := by simp only [half]; omega
    have k51 : con_DParams [.str s] = some (match prm (splitB 59 s) [] with | (acc, none) => .tup [pairV (sortP acc), .bool true] | (_, some _) => .tup [.nilS, .bool false]) := if_pos ⟨hh, a2⟩
    have k52 : con_DTags [.str s] = some (match tgL (splitB 59 s) [] with | some o => .tup [pairV o, .bool true] | none => .tup [.nilS, .bool false]) := if_pos hh
    have law := params_law (splitB 59 s) [] [] (by simp [Asc]) (List.Perm.refl _)
    have hpl := prm_length (splitB 59 s) []
    have hsl := splitB_length 59 s
    have k51b : ∃ x y, con_DParams [.str [97, 61, 98, 59, 32, 99, 61, 100, 59]] = some (.tup [.sl 2 (pr2 [x, y]), .bool true]) := by
      have e : prm (splitB 59 [97, 61, 98, 59, 32, 99, 61, 100, 59]) [] = ([([97], [98]), ([99], [100])], none) := by decide
      simp only [con_DParams, e]
      rw [if_pos ⟨by decide, by decide⟩]
      have hlen : (sortP [([97], [98]), ([99], [100])]).length = 2 := by simp [sortP, sortB]
      revert hlen
      generalize sortP [([97], [98]), ([99], [100])] = z
      intro hlen
      match z, hlen with
      | [x, y], _ => exact ⟨x, y, rfl⟩
    obtain ⟨x, y, k51b⟩ := k51b
    have hs0 : ∀ hp, alen hp 0 (.str s) = some s.length := fun _ => rfl
    have hxy := slp_alen (show slPairs (.sl 2 (pr2 [x, y])) = some [x, y] by simp [slPairs, asPairs])
    simp only [pr2_cons, pr2_nil] at hxy k51b
    generalize prm (splitB 59 s) [] = q at *
    obtain ⟨acc, e⟩ := q
    cases e with
    | some m =>
      simp only at law
      rw [law] at k52
      simp [-alen, hs0, hxy, c_laws_FnDParams, hl, acall, h10, ds, h51, h52, k51, k52, k51b]
    | none =>
      simp only at law
      rw [law] at k52
      simp only at hpl
      have k53 : con_dSamePairs [pairV (sortP acc), pairV (sortP acc)] = some (.bool true) := by
        simp only [con_dSamePairs, slPairs_pairV]
        rw [if_pos ⟨by simp [sortP, sortB, mid]; simp at hpl; omega, by simp [sortP, sortB, mid]; simp at hpl; omega⟩]
        simp
      have hr := slp_ref (slPairs_pairV (l := sortP acc))
      have hsn := slp_snap (slPairs_pairV (l := sortP acc))
      simp [-alen, hs0, hxy, c_laws_FnDParams, hl, acall, h10, ds, h51, h52, k51, k52, k51b, h53, k53, hr, hsn]
end Wax

/- FnDRecords (5): small functions. -/
namespace Wax
open Go (IntKind)

def con_errString : List AV → Option AV
  | [.ptr [.str m]] => some (.str m)
  | _ => none
theorem ok_errString (Γ : Gam) : ∀ args r, con_errString args = some r → runs Γ c_errors_errorString_Error args (fun v => v = r) := by
  intro args r h
  simp only [con_errString] at h
  split at h <;> (try simp at h; done)
  injection h with h; subst h
  simp -implicitDefEqProofs [c_errors_errorString_Error]

def con_sizeOf : List AV → Option AV
  | [.str k, .sl 1 cs] => if cs.length < mid then some (.int .i64 (if k = [101, 100, 50, 53, 53, 49, 57] then 256 else 8 * (cs.length : Int))) else none
  | _ => none
theorem ok_sizeOf (Γ : Gam) : ∀ args r, con_sizeOf args = some r → runs Γ c_impl_sizeOf args (fun v => v = r) := by
  intro args r h
  simp only [con_sizeOf] at h
  split at h <;> (try simp at h; done)
  rename_i k cs
  obtain ⟨hs, rfl⟩ := ite_some h
  clear h
  simp only [mid] at hs
  by_cases hk : k = [101, 100, 50, 53, 53, 49, 57]
  · simp -implicitDefEqProofs [c_impl_sizeOf, hk]
  · have ew : IntKind.i64.wrap (8 * (cs.length : Int)) = 8 * (cs.length : Int) := wrap64 (by omega) (by omega)
    simp -implicitDefEqProofs [c_impl_sizeOf, hk, ew]

def con_IsPermFail : List AV → Option AV
  | [.ifc 5 (.str _)] => some (.bool true)
  | _ => none
theorem ok_IsPermFail (Γ : Gam) : ∀ args r, con_IsPermFail args = some r → runs Γ c_dkim_IsPermFail args (fun v => v = r) := by
  intro args r h
  simp only [con_IsPermFail] at h
  split at h <;> (try simp at h; done)
  injection h with h; subst h
  simp -implicitDefEqProofs [c_dkim_IsPermFail]

def con_codeOf : List AV → Option AV
  | [.ifc 5 (.str _)] => some (.int .i64 2)
  | _ => none
theorem ok_codeOf (Γ : Gam) (h78 : Γ.fn 78 = con_IsPermFail) : ∀ args r, con_codeOf args = some r → runs Γ c_impl_codeOf args (fun v => v = r) := by
  intro args r h
  simp only [con_codeOf] at h
  split at h <;> (try simp at h; done)
  injection h with h; subst h
  simp -implicitDefEqProofs [c_impl_codeOf, acall, h78, con_IsPermFail]

/-- The value of a tag. -/
def findP : List (List UInt8 × List UInt8) → List UInt8 → Option (List UInt8)
  | [], _ => none
  | (i, v) :: r, k => if i = k then some v else findP r k

def valV : Option (List UInt8) → AV
  | some v => .tup [.str v, .bool true]
  | none => .tup [.str [], .bool false]

def con_DValue : List AV → Option AV
  | [u, .str k] => match slPairs u with
    | some l => if l.length < mid then some (valV (findP l k)) else none
    | none => none
  | _ => none

theorem ok_DValue (Γ : Gam) : ∀ args r, con_DValue args = some r → runs Γ c_spec_DValue args (fun v => v = r) := by
  intro args r h
  simp only [con_DValue] at h
  split at h <;> (try simp at h; done)
  rename_i u k
  split at h <;> (try simp at h; done)
  rename_i l hl
  obtain ⟨h1, rfl⟩ := ite_some h
  clear h
  simp only [mid] at h1
  simp -implicitDefEqProofs [-alen, c_spec_DValue]
  refine awp_loop2 (σ := List (List UInt8 × List UInt8) × List (List UInt8 × List UInt8)) (fun p => ⟨[(0, u), (1, .str k), (6, .int .i64 p.1.length)], []⟩)
    (fun p => l = p.1 ++ p.2 ∧ findP l k = findP p.2 k) (fun p => p.2.length) ([], l) (by simp) (by simp) ?_
  rintro ⟨pre, a⟩ ⟨e1, e2⟩ LQ hLQ
  simp only at e1 e2
  rw [e2]
  cases a with
  | nil =>
    have hll : l.length = pre.length := by rw [e1]; simp
    simp -implicitDefEqProofs [-alen, slp_alen hl, hll, b_spec_DValue_1, t_spec_DValue_2, findP, valV]
  | cons x a =>
    obtain ⟨x1, x2⟩ := x
    subst e1
    simp at h1
    have hu := slp_ne hl (by simp)
    subst hu
    have ew : IntKind.i64.wrap ((pre.length : Int) + 1) = (pre.length : Int) + 1 := wrap64 (by omega) (by omega)
    have hlt : (pre.length : Int) < (pre.length : Int) + ((a.length : Int) + 1) := by omega
    have g : (pre ++ (x1, x2) :: a)[pre.length]? = some (x1, x2) := get_mid rfl
    have g2 : ∀ (q : List AV) (z : AV), (pr2 pre ++ z :: q)[pre.length]? = some z := fun q z => get_mid (by simp)
    by_cases hx : x1 = k
    · simp -implicitDefEqProofs [b_spec_DValue_1, ew, g, g2, hlt, hx, findP, valV]
    · simp -implicitDefEqProofs [b_spec_DValue_1, ew, g, g2, hlt, hx]
      exact hLQ (pre ++ [(x1, x2)], a) (by simp only [List.append_assoc, List.cons_append, List.nil_append, true_and]; rw [e2]; simp [findP, hx]) (by simp) _ (by simp)

def con_dAmong : List AV → Option AV
  | [.str k, u] => match slStrs u with
    | some l => if l.length < mid then some (.bool (decide (k ∈ l))) else none
    | none => none
  | _ => none

theorem ok_dAmong (Γ : Gam) : ∀ args r, con_dAmong args = some r → runs Γ c_spec_dAmong args (fun v => v = r) := by
  intro args r h
  simp only [con_dAmong] at h
  split at h <;> (try simp at h; done)
  rename_i k u
  split at h <;> (try simp at h; done)
  rename_i l hl
  obtain ⟨h1, rfl⟩ := ite_some h
  clear h
  simp only [mid] at h1
  simp -implicitDefEqProofs [-alen, c_spec_dAmong]
  refine awp_loop2 (σ := List (List UInt8) × List (List UInt8)) (fun p => ⟨[(0, .str k), (1, u), (5, .int .i64 p.1.length)], []⟩)
    (fun p => l = p.1 ++ p.2 ∧ k ∉ p.1) (fun p => p.2.length) ([], l) (by simp) (by simp) ?_
  rintro ⟨pre, a⟩ ⟨e1, e2⟩ LQ hLQ
  simp only at e1 e2
  cases a with
  | nil =>
    have hll : l.length = pre.length := by rw [e1]; simp
    have hn : ¬ k ∈ l := by rw [e1]; simpa using e2
    simp -implicitDefEqProofs [-alen, slf_alen hl, hll, b_spec_dAmong_1, t_spec_dAmong_2, hn]
  | cons x a =>
    subst e1
    simp at h1
    have hu := slf_ne hl (by simp)
    subst hu
    have ew : IntKind.i64.wrap ((pre.length : Int) + 1) = (pre.length : Int) + 1 := wrap64 (by omega) (by omega)
    have hlt : (pre.length : Int) < (pre.length : Int) + ((a.length : Int) + 1) := by omega
    have g2 : ∀ (q : List AV) (z : AV), (strsA pre ++ z :: q)[pre.length]? = some z := fun q z => get_mid (by simp)
    by_cases hx : x = k
    · subst hx
      simp -implicitDefEqProofs [b_spec_dAmong_1, ew, g2, hlt]
    · simp -implicitDefEqProofs [b_spec_dAmong_1, ew, g2, hlt, hx]
      exact hLQ (pre ++ [x], a) (by simp [e2, Ne.symm hx]) (by simp) _ (by simp)
end Wax

/- FnDRecords (6): a slice of bytes is cloned; the callback of DRecord. -/
namespace Wax
open Go (IntKind)

def bytesOf : List AV → Option (List UInt8)
  | [] => some []
  | .int .u8 n :: r => if 0 ≤ n ∧ n < 256 then (bytesOf r).map (UInt8.ofNat n.toNat :: ·) else none
  | _ :: _ => none

theorem bytesOf_eq : ∀ {cs : List AV} {o : List UInt8}, bytesOf cs = some o → cs = bcA o
  | [], o, h => by simp [bytesOf] at h; subst h; rfl
  | x :: r, o, h => by
    unfold bytesOf at h
    split at h
    · rename_i heq; simp at heq
    · rename_i n r' heq
      simp only [List.cons.injEq] at heq
      obtain ⟨rfl, rfl⟩ := heq
      split at h
      · rename_i hn
        cases hr : bytesOf r with
        | none => simp [hr] at h
        | some o' =>
          simp [hr] at h
          subst h
          rw [bytesOf_eq hr]
          have h2 : n.toNat % 256 = n.toNat := Nat.mod_eq_of_lt (by omega)
          simp [h2]
          omega
      · simp at h
    · simp at h

@[simp] theorem bytesOf_bcA {o : List UInt8} : bytesOf (bcA o) = some o := by
  induction o with
  | nil => rfl
  | cons b r ih =>
    have := b.toNat_lt
    have h1 : 0 ≤ (b.toNat : Int) ∧ (b.toNat : Int) < 256 := by omega
    simp [bytesOf, ih, h1]

theorem flat_bcA {o : List UInt8} : (bcA o).flatMap cells = bcA o := by induction o <;> simp_all

def con_CloneB : List AV → Option AV
  | [.sl 1 cs] => match bytesOf cs with
    | some o => if o.length < mid then some (.sl 1 (bcA o)) else none
    | none => none
  | _ => none

theorem ok_CloneB (Γ : Gam) : ∀ args r, con_CloneB args = some r → runs Γ c_slices_Clone args (fun v => v = r) := by
  intro args r h
  simp only [con_CloneB] at h
  split at h <;> (try simp at h; done)
  rename_i cs
  split at h <;> (try simp at h; done)
  rename_i o ho
  obtain ⟨hs, rfl⟩ := ite_some h
  clear h
  have := bytesOf_eq ho
  subst this
  simp only [mid] at hs
  by_cases h0 : o = []
  · subst h0
    simp -implicitDefEqProofs [c_slices_Clone, just]
  · have h0' : ¬ o.length = 0 := by simpa using h0
    simp -implicitDefEqProofs [c_slices_Clone, h0, h0', flat_bcA, List.take_of_length_le]
    omega

def szOf (k o : List UInt8) : Int := if k = [101, 100, 50, 53, 53, 49, 57] then 256 else 8 * (o.length : Int)

def con_DRecord1 : List AV → List (Nat × AObj) → Option (AV × List (Nat × AObj))
  | [.str k, .sl 1 cs, .ref 0 0], [(0, .cells [.str [], .nilS, .int .i64 0, .nilS, .nilS, .nilS, .str [], .bool false, .bool false])] => match bytesOf cs with
    | some o => if o.length < mid then some (.tup [.ifc 6 (.agg [.str k, .sl 1 (bcA o)]), .int .i64 (szOf k o), .nilI], [(0, .cells [.str [], .sl 1 (bcA o), .int .i64 (szOf k o), .nilS, .nilS, .nilS, .str [], .bool false, .bool false])]) else none
    | none => none
  | _, _ => none

theorem ok_DRecord1 (Γ : Gam) (h76 : Γ.fn 76 = con_CloneB) (h77 : Γ.fn 77 = con_sizeOf) : ∀ args hp q, con_DRecord1 args hp = some q → runsS Γ c_impl_DRecord_1 args hp (fun v => v = some q) := by
  intro args hp q h
  unfold con_DRecord1 at h
  split at h <;> (try simp at h; done)
  rename_i k cs
  split at h <;> (try simp at h; done)
  rename_i o ho
  obtain ⟨hs, rfl⟩ := ite_some h
  clear h
  have := bytesOf_eq ho
  subst this
  have k76 : con_CloneB [.sl 1 (bcA o)] = some (.sl 1 (bcA o)) := by simp [con_CloneB, hs]
  have k77 : con_sizeOf [.str k, .sl 1 (bcA o)] = some (.int .i64 (szOf k o)) := by simp [con_sizeOf, hs, szOf]
  simp -implicitDefEqProofs [c_impl_DRecord_1, acall, h76, h77, k76, k77, reach_succ]
end Wax

/- FnDRecords (7): dkim.parsePublicKey. -/
namespace Wax
open Go (IntKind)

theorem lookA_true : ∀ (l : List (List UInt8 × List UInt8)) (k : List UInt8), lookA (pmA l) k (.str []) true = valV (findP l k)
  | [], k => rfl
  | (i, v) :: r, k => by
    have ih := lookA_true r k
    by_cases h : k = i
    · simp [pmA, lookA, mfind, findP, h, valV]
    · have h' : ¬ i = k := fun e => h e.symm
      simp only [pmA, List.map_cons, lookA, mfind, findP, if_neg h, if_neg h'] at ih ⊢
      exact ih

/-- The list that a tag's value says. -/
def tagVal (x : Option (List UInt8)) : AV := match x with
  | none => .nilS
  | some s => .sl 1 (strsA (tagL s))
def servVal (x : Option (List UInt8)) : AV := match x with
  | none => .nilS
  | some s => if [42] ∈ tagL s then .nilS else .sl 1 (strsA (tagL s))
def noteVal (x : Option (List UInt8)) : AV := .str (x.getD [])

/-- What was made of the callback's argument. -/
def kcells (k b : List UInt8) : List AV := [.str [], .sl 1 (bcA b), .int .i64 (szOf k b), .nilS, .nilS, .nilS, .str [], .bool false, .bool false]
def rcells (k b : List UInt8) (h n s t : AV) : List AV := [.ifc 6 (.agg [.str k, .sl 1 (bcA b)]), .str k, h, n, s, t]

def tagOk (x : Option (List UInt8)) : Prop := ∀ s, x = some s → s.length < mid ∧ ascii s = true

set_option maxHeartbeats 1000000 in
theorem pk_54 {Γ : Gam} {Q : APost} (h24 : Γ.fn 24 = con_parseTagList) (acc : List (List UInt8 × List UInt8)) (k b : List UInt8) (h s : AV) (n : List UInt8) (hh : hasRef h = false) (hs : hasRef s = false) (hT : tagOk (findP acc [116]))
    (hQ : Q .ret ⟨[(4, .ptr (rcells k b h (.str n) s (tagVal (findP acc [116])))), (5, .nilI)], [(1000000, .cells (kcells k b))]⟩) :
    ∀ ex, awp Γ f_dkim_parsePublicKey_3 Q ⟨(6, .mp (pmA acc)) :: (8, .ref 43 0) :: ex, [(1000000, .cells (kcells k b)), (43, .cells (rcells k b h (.str n) s .nilS))]⟩ := by
  intro ex
  cases ht : findP acc [116] with
  | none =>
    rw [ht] at hQ
    simp -implicitDefEqProofs [f_dkim_parsePublicKey_3, lookA_true, ht, valV, rcells, kcells, hh, hs]
    exact hQ
  | some v =>
    rw [ht] at hQ
    have k24 : con_parseTagList [.str v] = some (.sl 1 (strsA (tagL v))) := if_pos (hT v ht)
    simp -implicitDefEqProofs [f_dkim_parsePublicKey_3, lookA_true, ht, valV, rcells, kcells, acall, h24, k24, hh, hs]
    exact hQ

set_option maxHeartbeats 1000000 in
theorem pk_42 {Γ : Gam} {Q : APost} (h24 : Γ.fn 24 = con_parseTagList) (acc : List (List UInt8 × List UInt8)) (k b : List UInt8) (h : AV) (n : List UInt8) (hh : hasRef h = false) (hT : tagOk (findP acc [116])) (hS : tagOk (findP acc [115]))
    (hQ : Q .ret ⟨[(4, .ptr (rcells k b h (.str n) (servVal (findP acc [115])) (tagVal (findP acc [116])))), (5, .nilI)], [(1000000, .cells (kcells k b))]⟩) :
    ∀ ex, awp Γ f_dkim_parsePublicKey_4 Q ⟨(6, .mp (pmA acc)) :: (8, .ref 43 0) :: ex, [(1000000, .cells (kcells k b)), (43, .cells (rcells k b h (.str n) .nilS .nilS))]⟩ := by
  intro ex
  cases ht : findP acc [115] with
  | none =>
    rw [ht] at hQ
    simp -implicitDefEqProofs [f_dkim_parsePublicKey_4, lookA_true, ht, valV]
    exact pk_54 h24 acc k b h .nilS n hh (by simp) hT hQ _
  | some v =>
    rw [ht] at hQ
    have k24 : con_parseTagList [.str v] = some (.sl 1 (strsA (tagL v))) := if_pos (hS v ht)
    have hv := (hS v ht).1
    have htl : (tagL v).length ≤ v.length + 1 := by simp only [tagL, List.length_map]; exact splitB_length 58 v
    simp only [mid] at hv
    simp -implicitDefEqProofs [f_dkim_parsePublicKey_4, lookA_true, ht, valV, acall, h24, k24]
    refine awp_loop2 (σ := List (List UInt8) × List (List UInt8)) (fun p => ⟨[(6, .mp (pmA acc)), (8, .ref 43 0), (26, .sl 1 (strsA (tagL v))), (27, .bool false), (172, .sl 1 (strsA (tagL v))), (173, .int .i64 (tagL v).length), (174, .int .i64 p.1.length)], [(1000000, .cells (kcells k b)), (43, .cells (rcells k b h (.str n) .nilS .nilS))]⟩)
      (fun p => tagL v = p.1 ++ p.2 ∧ [42] ∉ p.1) (fun p => p.2.length) ([], tagL v) (by simp) (by simp) ?_
    rintro ⟨pre, post⟩ ⟨e1, e2⟩ LQ hLQ
    simp only at e1 e2
    have hlen : (tagL v).length = pre.length + post.length := by rw [e1]; simp
    cases post with
    | nil =>
      have hn : ¬ [42] ∈ tagL v := by rw [e1]; simpa using e2
      have hlen' : (tagL v).length = pre.length := by simpa using hlen
      simp only [servVal, if_neg hn] at hQ
      simp -implicitDefEqProofs [b_dkim_parsePublicKey_1, t_dkim_parsePublicKey_2, hlen', rcells]
      exact pk_54 h24 acc k b h _ n hh (by simp) hT hQ _
    | cons x post =>
      simp at hlen
      have ew : IntKind.i64.wrap ((pre.length : Int) + 1) = (pre.length : Int) + 1 := wrap64 (by omega) (by omega)
      have hlt : (pre.length : Int) < ((tagL v).length : Int) := by omega
      have g2 : (tagL v)[pre.length]? = some x := by rw [e1]; exact get_mid rfl
      by_cases hx : x = [42]
      · have hn : [42] ∈ tagL v := by rw [e1]; simp [hx]
        simp only [servVal, if_pos hn] at hQ
        simp -implicitDefEqProofs [b_dkim_parsePublicKey_1, t_dkim_parsePublicKey_2, hlt, g2, hx]
        exact pk_54 h24 acc k b h _ n hh (by simp) hT hQ _
      · simp -implicitDefEqProofs [b_dkim_parsePublicKey_1, hlt, g2, hx, ew]
        exact hLQ (pre ++ [x], post) ⟨by simp [e1], by simp [e2, Ne.symm hx]⟩ (by simp) _ (by simp)

set_option maxHeartbeats 1000000 in
theorem pk_39 {Γ : Gam} {Q : APost} (h24 : Γ.fn 24 = con_parseTagList) (acc : List (List UInt8 × List UInt8)) (k b : List UInt8) (h : AV) (hh : hasRef h = false) (hT : tagOk (findP acc [116])) (hS : tagOk (findP acc [115]))
    (hQ : Q .ret ⟨[(4, .ptr (rcells k b h (noteVal (findP acc [110])) (servVal (findP acc [115])) (tagVal (findP acc [116])))), (5, .nilI)], [(1000000, .cells (kcells k b))]⟩) :
    ∀ ex, awp Γ f_dkim_parsePublicKey_5 Q ⟨(6, .mp (pmA acc)) :: (8, .ref 43 0) :: ex, [(1000000, .cells (kcells k b)), (43, .cells (rcells k b h (.str []) .nilS .nilS))]⟩ := by
  intro ex
  cases ht : findP acc [110] with
  | none =>
    rw [ht] at hQ
    simp -implicitDefEqProofs [f_dkim_parsePublicKey_5, lookA_true, ht, valV]
    exact pk_42 h24 acc k b h [] hh hT hS hQ _
  | some v =>
    rw [ht] at hQ
    simp -implicitDefEqProofs [f_dkim_parsePublicKey_5, lookA_true, ht, valV, rcells]
    exact pk_42 h24 acc k b h v hh hT hS hQ _

set_option maxHeartbeats 1000000 in
theorem pk_36 {Γ : Gam} {Q : APost} (h24 : Γ.fn 24 = con_parseTagList) (acc : List (List UInt8 × List UInt8)) (k b : List UInt8) (hT : tagOk (findP acc [116])) (hS : tagOk (findP acc [115])) (hH : tagOk (findP acc [104]))
    (hQ : Q .ret ⟨[(4, .ptr (rcells k b (tagVal (findP acc [104])) (noteVal (findP acc [110])) (servVal (findP acc [115])) (tagVal (findP acc [116])))), (5, .nilI)], [(1000000, .cells (kcells k b))]⟩) :
    ∀ ex, awp Γ f_dkim_parsePublicKey_6 Q ⟨(6, .mp (pmA acc)) :: (8, .ref 43 0) :: ex, [(1000000, .cells (kcells k b)), (43, .cells (rcells k b .nilS (.str []) .nilS .nilS))]⟩ := by
  intro ex
  cases ht : findP acc [104] with
  | none =>
    rw [ht] at hQ
    simp -implicitDefEqProofs [f_dkim_parsePublicKey_6, lookA_true, ht, valV]
    exact pk_39 h24 acc k b .nilS (by simp) hT hS hQ _
  | some v =>
    rw [ht] at hQ
    have k24 : con_parseTagList [.str v] = some (.sl 1 (strsA (tagL v))) := if_pos (hH v ht)
    simp -implicitDefEqProofs [f_dkim_parsePublicKey_6, lookA_true, ht, valV, rcells, acall, h24, k24]
    exact pk_39 h24 acc k b (.sl 1 (strsA (tagL v))) (by simp) hT hS hQ _
end Wax

/- strings.Join, as the kit's shelf has it, for the engine. -/
namespace Wax
open Go Go.RowKit

theorem repSl_strs {T : Tab} {w : World} {F : Frz} {b : Nat} : ∀ (l : List (List UInt8)) (o : Nat), RepSl T w F 1 b o (strsA l) → ∀ (j : Nat) (s : List UInt8), l[j]? = some s → F b ∧ w.cell? ⟨b, o + j, none⟩ = some (.string ⟨s.toArray⟩)
  | [], _, _, j, s, h => by simp at h
  | x :: r, o, h, j, s, hj => by
    simp only [strsA, List.map_cons, RepSl] at h
    cases j with
    | zero =>
      simp at hj; subst hj
      obtain ⟨_, ⟨hF, v, hv, hr⟩, _⟩ := h
      simp only [Rep] at hr
      subst hr
      exact ⟨hF, by simpa using hv⟩
    | succ j =>
      have := repSl_strs r (o + 1) h.2.2 j s (by simpa using hj)
      rw [show o + (j + 1) = o + 1 + j by omega]
      exact this

theorem joinB_lib : ∀ (l : List (List UInt8)), joinB l = Go.Lib.join l [32]
  | [] => rfl
  | x :: r => by
    rw [joinB_cons, Go.Lib.join_cons]
    congr 1
    cases r with
    | nil => rfl
    | cons y r =>
      have := joinB_lib (y :: r)
      rw [Go.Lib.join_cons] at this
      simp only [J2, Go.Lib.joinTail, List.map_cons, List.flatten_cons] at this ⊢
      simp [this]

/-- What the shelf says of strings.Join, in one piece. -/
def JoinSays (P : Program) (f : FuncId) : Prop :=
  (∀ (a : Option Addr) (c : Nat) (sep : ByteArray) (w : World), Calls P f #[.slice a 0 c, .string sep] w fun e w' => e = .returned (.string ⟨#[]⟩) ∧ w' = w) ∧
  ∀ (bk o c : Nat) (xs : List ByteArray) (sep : ByteArray) (w : World), (∀ (j : Nat) x, xs[j]? = some x → w.cell? ⟨bk, o + j, none⟩ = some (.string x)) → bk < w.heap.size → xs.length ≤ 140737488355328 → xs.length ≤ c →
    (Go.Lib.join (xs.map (·.data.toList)) sep.data.toList).length ≤ 140737488355328 →
    Calls P f #[.slice (some ⟨bk, o, none⟩) xs.length c, .string sep] w fun e w' => e = .returned (.string ⟨(Go.Lib.join (xs.map (·.data.toList)) sep.data.toList).toArray⟩) ∧ Below w.heap.size w w'

theorem joinTail_length (r : List (List UInt8)) : r.length ≤ (Go.Lib.joinTail [32] r).length := by
  induction r with
  | nil => simp [Go.Lib.joinTail]
  | cons x r ih => simp only [Go.Lib.joinTail, List.map_cons, List.flatten_cons, List.length_append, List.length_cons] at ih ⊢; omega

theorem ok_Join {P : Program} {T : Tab} {f : FuncId} (H : JoinSays P f) : ∀ args r, con_Join args = some r → OkCall P T f args r := by
  intro args r h w F vs hF _ hx
  simp only [con_Join] at h
  split at h <;> (try simp at h; done)
  rename_i v
  split at h <;> (try simp at h; done)
  rename_i l hl
  obtain ⟨hlen, rfl⟩ := ite_some h
  clear h
  match vs, hx with
  | [u, u'], hx =>
    simp only [RepL, and_true] at hx
    obtain ⟨h1, h2⟩ := hx
    simp only [Rep] at h2
    subst h2
    cases v <;> simp [slStrs] at hl
    · subst hl
      simp only [Rep] at h1
      subst h1
      refine (H.1 none 0 _ w).mono ?_
      rintro e w' ⟨rfl, rfl⟩
      exact ⟨_, rfl, Below.refl _ _, by simp [Rep, joinB]⟩
    · rename_i es xs
      obtain ⟨rfl, hl⟩ := hl
      have := asStrs_spec hl
      subst this
      simp only [Rep] at h1
      obtain ⟨b, o, cap, rfl, hcap, hsl⟩ := h1
      cases l with
      | nil =>
        refine (H.1 _ cap _ w).mono ?_
        rintro e w' ⟨rfl, rfl⟩
        exact ⟨_, rfl, Below.refl _ _, by simp [Rep, joinB]⟩
      | cons x0 l =>
        have hc := repSl_strs (x0 :: l) o hsl
        have hb : b < w.heap.size := hF b (hc 0 x0 rfl).1
        have hn : (x0 :: l).length ≤ (joinB (x0 :: l)).length + 1 := by
          rw [joinB_lib, Go.Lib.join_cons]
          have := joinTail_length l
          simp; omega
        simp only [mid] at hlen
        have e1 : ((x0 :: l).map fun s => (⟨s.toArray⟩ : ByteArray)).map (·.data.toList) = x0 :: l := by
          have : ((fun x : ByteArray => x.data.toList) ∘ fun s : List UInt8 => (⟨s.toArray⟩ : ByteArray)) = id := by funext s; simp
          rw [List.map_map, this, List.map_id]
        have := H.2 b o cap ((x0 :: l).map fun s => (⟨s.toArray⟩ : ByteArray)) ⟨#[32]⟩ w (fun j x hj => by
          rw [List.getElem?_map] at hj
          cases hq : (x0 :: l)[j]? with
          | none => rw [hq] at hj; simp at hj
          | some s => rw [hq] at hj; simp at hj; subst hj; exact (hc j s hq).2) hb (by simp only [List.length_map]; omega) (by simpa using hcap) (by rw [e1]; show (Go.Lib.join (x0 :: l) [32]).length ≤ _; rw [← joinB_lib]; omega)
        rw [e1] at this
        have e2 : ((x0 :: l).map fun s => (⟨s.toArray⟩ : ByteArray)).length = (strsA (x0 :: l)).length := by simp
        rw [e2] at this
        refine this.mono ?_
        rintro e w' ⟨rfl, hbl⟩
        refine ⟨_, rfl, hbl, ?_⟩
        simp only [Rep]
        rw [joinB_lib]
end Wax

/- slices.Clone of texts, as the kit's shelf has it, for the engine. -/
namespace Wax
open Go Go.RowKit

/-- What the shelf says of slices.Clone at []string, in one piece. -/
def CloneSays (P : Program) (f : FuncId) : Prop :=
  ∃ e9 : TypeId,
  (∀ (n c : Nat) (w : World), Calls P f #[.slice none n c] w fun e w' => e = .returned (.slice none 0 0) ∧ w' = w) ∧
  (∀ (a : Addr) (c : Nat) (w : World), Calls P f #[.slice (some a) 0 c] w fun e w' => ∃ v', e = .returned v' ∧ w'.ownsRow w.heap.size e9 1 v' 0 [] ∧ v' ≠ .slice none 0 0 ∧ Below w.heap.size w w') ∧
  ∀ (b off n c : Nat) (zs : List ByteArray) (w : World), n ≤ zs.length → n * 16 ≤ 140737488355328 → (∀ j, j < zs.length → w.cell? ⟨b, off + j, none⟩ = some (.string (zs.getD j ByteArray.empty))) →
    Calls P f #[.slice (some ⟨b, off, none⟩) n c] w fun e w' => ∃ v', e = .returned v' ∧ w'.ownsRow w.heap.size e9 1 v' n ((zs.take n).map (Value.string)) ∧ v' ≠ .slice none 0 0 ∧ Below w.heap.size w w'

def con_Clone : List AV → Option AV
  | [u] => match slStrs u with
    | some l => if l.length < mid then some u else none
    | none => none
  | _ => none

theorem repSl_mk {T : Tab} {w : World} {F : Frz} {b : Nat} (hF : F b) : ∀ (l : List (List UInt8)) (o : Nat), (∀ (j : Nat) s, l[j]? = some s → w.cell? ⟨b, o + j, none⟩ = some (.string ⟨s.toArray⟩)) → RepSl T w F 1 b o (strsA l)
  | [], _, _ => trivial
  | x :: r, o, h => by
    simp only [strsA, List.map_cons, RepSl]
    refine ⟨trivial, ⟨hF, _, by simpa using h 0 x rfl, by simp [Rep]⟩, ?_⟩
    exact repSl_mk hF r (o + 1) fun j s hj => by
      rw [show o + 1 + j = o + (j + 1) by omega]
      exact h (j + 1) s (by simpa using hj)

theorem owned_strs {T : Tab} {w w' : World} {F : Frz} {e9 : TypeId} {v' : Value} {l : List (List UInt8)} (ho : w'.ownsRow w.heap.size e9 1 v' l.length (l.map fun s => Value.string ⟨s.toArray⟩)) (hn : v' ≠ .slice none 0 0) :
    Rep T w' (fun b => F b ∨ (w.heap.size ≤ b ∧ b < w'.heap.size)) noRho (.sl 1 (strsA l)) v' := by
  have ho' := ho
  obtain ⟨_, hx⟩ := ho
  rcases hx with ⟨he, _⟩ | ⟨g, cap, cur, rfl, hg, hh, hcap, _, _, _⟩
  · exact absurd he hn
  · simp only [Rep]
    refine ⟨g, 0, cap, by simp, by simpa using hcap, ?_⟩
    have hgl : g < w'.heap.size := by
      rcases Nat.lt_or_ge g w'.heap.size with h | h
      · exact h
      · rw [Array.getElem?_eq_none h] at hh; simp at hh
    refine repSl_mk (.inr ⟨hg, hgl⟩) l 0 fun j s hj => ?_
    have := ho'.cells (g := g) rfl j (.string ⟨s.toArray⟩) (by rw [List.getElem?_map, hj]; rfl)
    have e : ((⟨g, 0, none⟩ : Addr).add j) = ⟨g, 0 + j, none⟩ := by
      cases j <;> simp [Addr.add]
    rw [e] at this
    exact this

theorem ok_Clone {P : Program} {T : Tab} {f : FuncId} (H : CloneSays P f) : ∀ args r, con_Clone args = some r → OkCall P T f args r := by
  intro args r h w F vs hF _ hx
  obtain ⟨e9, H1, H2, H3⟩ := H
  simp only [con_Clone] at h
  split at h <;> (try simp at h; done)
  rename_i u
  split at h <;> (try simp at h; done)
  rename_i l hl
  obtain ⟨hlen, rfl⟩ := ite_some h
  clear h
  simp only [mid] at hlen
  match vs, hx with
  | [v], hx =>
    simp only [RepL, and_true] at hx
    rcases slStrs_cases hl with ⟨rfl, rfl⟩ | rfl
    · simp only [Rep] at hx
      subst hx
      refine (H1 0 0 w).mono ?_
      rintro e w' ⟨rfl, rfl⟩
      exact ⟨_, rfl, Below.refl _ _, by simp [Rep]⟩
    · simp only [Rep] at hx
      obtain ⟨b, o, cap, rfl, hcap, hsl⟩ := hx
      cases l with
      | nil =>
        refine (H2 _ cap w).mono ?_
        rintro e w' ⟨v', rfl, ho, hn, hbl⟩
        exact ⟨_, rfl, hbl, owned_strs (e9 := e9) (l := []) (by simpa using ho) hn⟩
      | cons x0 l =>
        have hc := repSl_strs (x0 :: l) o hsl
        have hH := H3 b o (x0 :: l).length cap ((x0 :: l).map fun s => (⟨s.toArray⟩ : ByteArray)) w (by simp) (by omega) (fun j hj => by
          have hj' : j < (x0 :: l).length := by simpa using hj
          have := (hc j _ (List.getElem?_eq_getElem hj')).2
          rw [this, List.getD_eq_getElem?_getD, List.getElem?_map, List.getElem?_eq_getElem hj']; rfl)
        have e2 : (strsA (x0 :: l)).length = (x0 :: l).length := by simp
        rw [e2]
        refine hH.mono ?_
        rintro e w' ⟨v', rfl, ho, hn, hbl⟩
        refine ⟨_, rfl, hbl, owned_strs (e9 := e9) (l := x0 :: l) ?_ hn⟩
        have e3 : ((x0 :: l).map fun s => (⟨s.toArray⟩ : ByteArray)).take (x0 :: l).length = (x0 :: l).map fun s => (⟨s.toArray⟩ : ByteArray) := List.take_of_length_le (by simp)
        rw [e3, List.map_map] at ho
        exact ho
end Wax

/- strconv.ParseInt, as the kit's shelf has it, for the engine. -/
namespace Wax
open Go Go.RowKit

/-- Neither a number nor one that is too great. -/
def badEnd (x : Lib.NumEnd Int) : Prop := (∀ v, x ≠ .ok v) ∧ x ≠ .range

/-- What the shelf says of strconv.ParseInt(s, 10, 64), in one piece; the two package variables that it reads bear interface values. -/
def ParseIntSays (P : Program) (T : Tab) (f : FuncId) : Prop :=
  ∃ (e5 tE : TypeId) (gS gR : Nat), lkN T.tys tE = some 4 ∧ lkGl T.gl gS = some [.ifc 3 .junk] ∧ lkGl T.gl gR = some [.ifc 3 .junk] ∧
  (∀ (s : ByteArray) (_ : s.size ≤ 9223372036854775806) (v : Int) (_ : Lib.parseIntB 64 s.data.toList = .ok v) (w : World),
    Calls P f #[.string s, .int .i64 10, .int .i64 64] w fun e w' => e = .returned (.tuple #[.int .i64 v, .nilIface]) ∧ (w' = w ∨ ∃ t, w' = Lib.bytesWorld w e5 t)) ∧
  (∀ (s : ByteArray) (_ : s.size ≤ 281474976710656) (_ : badEnd (Lib.parseIntB 64 s.data.toList)) (ev : Value) (w : World) (_ : w.cell? ⟨gS, 0, none⟩ = some ev) (_ : ev = .nilIface ∨ ∃ te pe, ev = .iface te pe),
    Calls P f #[.string s, .int .i64 10, .int .i64 64] w fun e w' => ∃ x y, e = .returned (.tuple #[x, .iface tE y]) ∧ Below w.heap.size w w') ∧
  (∀ (s : ByteArray) (_ : s.size ≤ 281474976710656) (_ : Lib.parseIntB 64 s.data.toList = .range) (ev : Value) (w : World) (_ : w.cell? ⟨gR, 0, none⟩ = some ev) (_ : ev = .nilIface ∨ ∃ te pe, ev = .iface te pe),
    Calls P f #[.string s, .int .i64 10, .int .i64 64] w fun e w' => ∃ x y, e = .returned (.tuple #[x, .iface tE y]) ∧ Below w.heap.size w w')

def numV : Lib.NumEnd Int → AV
  | .ok v => .tup [.int .i64 v, .nilI]
  | _ => .tup [.junk, .ifc 4 .junk]

def con_ParseInt : List AV → Option AV
  | [.str s, .int .i64 n, .int .i64 m] => if s.length < mid ∧ n = 10 ∧ m = 64 then some (numV (Lib.atoiAll s)) else none
  | _ => none

theorem globErr {T : Tab} {w : World} {F : Frz} {g : Nat} (hgl : GlobOk T w F) (hg : lkGl T.gl g = some [.ifc 3 .junk]) : ∃ ev, w.cell? ⟨g, 0, none⟩ = some ev ∧ (ev = .nilIface ∨ ∃ te pe, ev = .iface te pe) := by
  have h := (hgl g _ hg).1
  simp only [RepAt, Rep, and_true] at h
  obtain ⟨_, x, hx, t, y, rfl, _⟩ := h
  exact ⟨_, hx, .inr ⟨t, y, rfl⟩⟩

theorem below_bytesW (w : World) (e : TypeId) (s : ByteArray) : Below w.heap.size w (Lib.bytesWorld w e s) :=
  ⟨rfl, rfl, rfl, by rw [Lib.bytesWorld_size]; omega, fun j hj => Lib.bytesWorld_at_old w e s j hj⟩

theorem ok_ParseInt {P : Program} {T : Tab} {f : FuncId} (H : ParseIntSays P T f) : ∀ args r, con_ParseInt args = some r → OkCall P T f args r := by
  intro args r h w F vs hF hgl hx
  obtain ⟨e5, tE, gS, gR, ht, hgS, hgR, H1, H2, H3⟩ := H
  simp only [con_ParseInt] at h
  split at h <;> (try simp at h; done)
  rename_i s n m
  obtain ⟨⟨hlen, rfl, rfl⟩, rfl⟩ := ite_some h
  clear h
  simp only [mid] at hlen
  match vs, hx with
  | [v1, v2, v3], hx =>
    simp only [RepL, and_true, Rep] at hx
    obtain ⟨rfl, rfl, rfl⟩ := hx
    have hsz : (⟨s.toArray⟩ : ByteArray).size = s.length := by show s.toArray.size = _; simp
    have he : Lib.parseIntB 64 (⟨s.toArray⟩ : ByteArray).data.toList = Lib.atoiAll s := by rw [Lib.parseIntB_64]
    have bad : ∀ e w', (∃ x y, e = Ending.returned (.tuple #[x, .iface tE y]) ∧ Below w.heap.size w w') → ∃ v, e = .returned v ∧ Below w.heap.size w w' ∧ Rep T w' (fun b => F b ∨ (w.heap.size ≤ b ∧ b < w'.heap.size)) noRho (.tup [.junk, .ifc 4 .junk]) v := by
      rintro e w' ⟨x, y, rfl, hb⟩
      refine ⟨_, rfl, hb, _, rfl, ?_⟩
      simp only [RepL, Rep, and_true, true_and]
      exact ⟨tE, y, rfl, ht⟩
    cases hq : Lib.atoiAll s with
    | ok v =>
      refine (H1 _ (by omega) v (by rw [he, hq]) w).mono ?_
      rintro e w' ⟨rfl, hw⟩
      refine ⟨_, rfl, ?_, ?_⟩
      · rcases hw with rfl | ⟨t, rfl⟩
        · exact Below.refl _ _
        · exact below_bytesW _ _ _
      · exact ⟨_, rfl, by simp [RepL, Rep]⟩
    | range =>
      obtain ⟨ev, h1, h2⟩ := globErr hgl hgR
      exact (H3 _ (by omega) (by rw [he, hq]) ev w h1 h2).mono (bad · ·)
    | _ =>
      obtain ⟨ev, h1, h2⟩ := globErr hgl hgS
      exact (H2 _ (by omega) (by rw [he, hq]; exact ⟨fun v h => (by cases h), fun h => (by cases h)⟩) ev w h1 h2).mono (bad ·  ·)
/-- .. is the third one. -/
theorem badEnd_eq {x y : Lib.NumEnd Int} (h : badEnd x) (hy : badEnd y := by exact ⟨fun v h => (by cases h), fun h => (by cases h)⟩) : x = y := by
  cases x <;> cases y <;> first | rfl | exact absurd rfl (h.1 _) | exact absurd rfl h.2 | exact absurd rfl (hy.1 _) | exact absurd rfl hy.2
end Wax

/- Arguments as the rows hand them in. -/
namespace Wax
open Go Go.ChangeShapes Go.WideShapes Go.RowKit

section
variable {P : Program} {T : Tab} {w : World} {H : Type} {enc : TypeId × Value → H}

theorem has_block {a : Addr} {e : TypeId} {n : Nat} {r : Reach} {base : Nat} (h : w.has P r base a e n) : ∃ o, a = ⟨a.block, o, none⟩ ∧ a.block < w.heap.size := by
  obtain ⟨_, h2, row, cells, h3, _⟩ := h
  refine ⟨a.off, ?_, ?_⟩
  · cases a; simp at h2; simp [h2]
  · rcases Nat.lt_or_ge a.block w.heap.size with h | h
    · exact h
    · simp [World.shape?, Array.getElem?_eq_none h] at h3

/-- A slice's place, from its outer form. -/
theorem okWide_place {t e : TypeId} {r : Reach} {base : Nat} {a : Addr} {len cap : Nat} (ht : P.underlying t = some (.slice e)) (h : Value.okWide P w r base t (.slice (some a) len cap)) : ∃ b o, a = ⟨b, o, none⟩ ∧ b < w.heap.size := by
  simp only [Value.okWide, ht, Cell.okWide, Cell.ok] at h
  obtain ⟨o, h1, h2⟩ := has_block h.2.2
  exact ⟨a.block, o, h1, h2⟩

theorem repSl_of : ∀ (l : List (List UInt8)) (b o : Nat), b < w.heap.size → (∀ (j : Nat) s, l[j]? = some s → w.cell? ⟨b, o + j, none⟩ = some (.string ⟨s.toArray⟩)) → RepSl T w (fun k => k < w.heap.size) 1 b o (strsA l)
  | [], b, o, _, _ => by simp [strsA, RepSl]
  | s :: r, b, o, hb, h => by
    have ih := repSl_of r b (o + 1) hb (fun j s' hj => by
      have := h (j + 1) s' (by simpa using hj)
      rwa [show o + 1 + j = o + (j + 1) by omega])
    simp only [strsA, List.map_cons, RepSl]
    exact ⟨trivial, ⟨hb, .string ⟨s.toArray⟩, by simpa using h 0 s rfl, by simp [Rep]⟩, ih⟩

/-- A slice of texts that came in. -/
theorem open_strs {t e : TypeId} {base : Nat} {v : Value} {d : DataW H} {ps : List MemPlace} (ht : P.underlying t = some (.slice e)) (he : P.underlying e = some .string) (hc : P.cellsOf e = 1)
    (hval : Value.okWide P w .any base t v) (h : DataW.Trod enc P w 0 (fun _ => true) true t v d ps) :
    ∃ (x : AV) (l : List (List UInt8)), slStrs x = some l ∧ Rep T w (fun k => k < w.heap.size) noRho x v ∧ l.length < 9223372036854775808 ∧ ∀ s ∈ l, s.length < 9223372036854775808 := by
  obtain ⟨a0, len0, cap0, rfl⟩ := okWide_slice ht hval
  obtain ⟨fuel, hf⟩ := h
  rcases open_strings ht he hc hf with ⟨hcs, _⟩ | ⟨a, len, cap, ss, hcs, _, hl, hm, hsl, _, hcell, hsz⟩
  · simp [Value.cells] at hcs
    obtain ⟨rfl, rfl, rfl⟩ := hcs
    exact ⟨.nilS, [], rfl, by simp [Rep], by simp, by simp⟩
  · simp [Value.cells] at hcs
    obtain ⟨rfl, rfl, rfl⟩ := hcs
    obtain ⟨b, o, rfl, hb⟩ := okWide_place ht hval
    simp only [if_true] at hsl
    obtain ⟨l, hl'⟩ : ∃ l : List (List UInt8), l = (ss.take len0).map (·.data.toList) := ⟨_, rfl⟩
    have hll : l.length = len0 := by rw [hl', List.length_map, List.length_take]; omega
    refine ⟨.sl 1 (strsA l), l, ?_, ?_, ?_, ?_⟩
    · simp [slStrs]
    · simp only [Rep]
      refine ⟨b, o, cap0, ?_, ?_, ?_⟩
      · simp [hll]
      · simp [hll]; exact hl
      · refine repSl_of l b o hb ?_
        intro j s hj
        have hjl : j < l.length := by
          rcases Nat.lt_or_ge j l.length with h | h
          · exact h
          · simp [List.getElem?_eq_none h] at hj
        have hjs : j < ss.length := by omega
        have := hcell j hjs
        rw [addr_add] at this
        rw [this]
        rw [hl', List.getElem?_map, List.getElem?_take_of_lt (by omega), List.getElem?_eq_getElem hjs] at hj
        simp at hj
        rw [List.getD_eq_getElem?_getD, List.getElem?_eq_getElem hjs]
        simp [← hj]
    · have h1 : cap0 ≤ 9223372036854775807 := hm
      omega
    · intro s hs
      rw [hl'] at hs
      obtain ⟨q, hq, rfl⟩ := List.mem_map.1 hs
      have h1 : q.size ≤ 9223372036854775807 := hsz q (List.mem_of_mem_take hq)
      have h2 : q.data.toList.length = q.size := by simp
      omega
end
theorem lkGl_mem : ∀ {l : List (Nat × List AV)} {g : Nat} {cs : List AV}, lkGl l g = some cs → (g, cs) ∈ l
  | [], _, _, h => by simp [lkGl] at h
  | (i, v) :: r, g, cs, h => by
    simp only [lkGl] at h
    split at h
    · rename_i e
      simp only [beq_iff_eq] at e
      simp only [Option.some.injEq] at h
      subst e; subst h; simp
    · exact List.mem_cons_of_mem _ (lkGl_mem h)

theorem GlobOk.of {T : Tab} {w : World} {F : Frz} (h : ∀ p ∈ T.gl, RepAt T w F p.1 0 p.2 ∧ F p.1 ∧ ∃ vs q a, w.heap[p.1]? = some (.cells vs q a) ∧ vs.size = p.2.length) : GlobOk T w F := fun g cs hg => h (g, cs) (lkGl_mem hg)

theorem var_heap {P : Program} {w : World} {n : String} {g : Nat} {cs : Array Value} (hg : P.globalNamed n = some g) (hv : w.var? P n = some cs) : ∃ q a, w.heap[g]? = some (.cells cs q a) := by
  simp only [World.var?, hg, Option.bind_some] at hv
  split at hv
  · rename_i cs' q a h
    injection hv with hv
    subst hv
    exact ⟨q, a, h⟩
  · simp at hv

theorem lt_of_heap {w : World} {g : Nat} {x : Obj} (h : w.heap[g]? = some x) : g < w.heap.size := by
  rcases Nat.lt_or_ge g w.heap.size with h' | h'
  · exact h'
  · rw [Array.getElem?_eq_none h'] at h; simp at h

/-- A variable that bears an error. -/
theorem repAt_err {T : Tab} {P : Program} {w : World} {n : String} {g tp : Nat} {y : Value} (hg : P.globalNamed n = some g) (hv : w.var? P n = some #[.iface tp y]) (ht : lkN T.tys tp = some 3) :
    RepAt T w (fun b => b < w.heap.size) g 0 [.ifc 3 .junk] ∧ g < w.heap.size ∧ ∃ vs q a, w.heap[g]? = some (.cells vs q a) ∧ vs.size = 1 := by
  obtain ⟨q, a, h⟩ := var_heap hg hv
  refine ⟨?_, lt_of_heap h, _, q, a, h, rfl⟩
  simp only [RepAt, and_true]
  exact ⟨lt_of_heap h, _, by simpa using World.var?_cell hg hv 0, tp, y, rfl, ht, trivial⟩

theorem repAt_ints {T : Tab} {w : World} {F : Frz} {g : Nat} {k : IntKind} (hF : F g) : ∀ (zs : List Int) (o : Nat), (∀ j z, zs[j]? = some z → w.cell? ⟨g, o + j, none⟩ = some (.int k z)) → RepAt T w F g o (zs.map (AV.int k))
  | [], _, _ => trivial
  | z :: r, o, h => by
    simp only [List.map_cons, RepAt]
    refine ⟨⟨hF, _, by simpa using h 0 z rfl, by simp [Rep]⟩, ?_⟩
    exact repAt_ints hF r (o + 1) fun j s hj => by
      rw [show o + 1 + j = o + (j + 1) by omega]
      exact h (j + 1) s (by simpa using hj)

/-- A table of integers. -/
theorem repAt_tab {T : Tab} {P : Program} {w : World} {n : String} {g : Nat} {k : IntKind} {zs : List Int} (hg : P.globalNamed n = some g) (hv : Lib.TabIs P w n k zs) :
    RepAt T w (fun b => b < w.heap.size) g 0 (zs.map (AV.int k)) ∧ g < w.heap.size ∧ ∃ vs q a, w.heap[g]? = some (.cells vs q a) ∧ vs.size = (zs.map (AV.int k)).length := by
  have hv' : w.var? P n = some (zs.map fun z => Value.int k z).toArray := hv
  obtain ⟨q, a, h⟩ := var_heap hg hv'
  refine ⟨repAt_ints (F := fun b => b < w.heap.size) (lt_of_heap h) zs 0 fun j z hj => ?_, lt_of_heap h, _, q, a, h, by simp⟩
  have hc := World.var?_cell hg hv' j
  rw [Nat.zero_add, hc]
  simp [hj]

theorem rep_ints {T : Tab} {w : World} {F : Frz} {g : Nat} {k : IntKind} : ∀ (zs : List Int) (o : Nat), RepAt T w F g o (zs.map (AV.int k)) → ∀ j z, zs[j]? = some z → w.cell? ⟨g, o + j, none⟩ = some (.int k z)
  | [], _, _, j, z, hj => by simp at hj
  | x :: r, o, h, j, z, hj => by
    simp only [List.map_cons, RepAt, Rep] at h
    obtain ⟨⟨_, v, hv, rfl⟩, h⟩ := h
    cases j with
    | zero => simp at hj; subst hj; simpa using hv
    | succ j =>
      have := rep_ints r (o + 1) h j z (by simpa using hj)
      rw [show o + 1 + j = o + (j + 1) by omega] at this
      exact this

theorem tab_glob {T : Tab} {P : Program} {w : World} {F : Frz} {n : String} {g : Nat} {k : IntKind} {zs : List Int} (hg : P.globalNamed n = some g) (hl : lkGl T.gl g = some (zs.map (AV.int k))) (h : GlobOk T w F) : Lib.TabIs P w n k zs := by
  obtain ⟨h1, h2, vs, q, a, h3, h4⟩ := h g _ hl
  show w.var? P n = _
  simp only [World.var?, hg, Option.bind_some, h3, Option.some.injEq]
  apply Array.ext
  · simp [h4]
  · intro i hi1 hi2
    have hi : i < zs.length := by simpa using hi2
    have := rep_ints zs 0 h1 i zs[i] (by simp [hi])
    simp only [World.cell?, h3, Nat.zero_add] at this
    simp [Array.getElem?_eq_getElem hi1] at this
    simpa using this
end Wax

/- strconv.Itoa, as the kit's shelf has it, for the engine. -/
namespace Wax
open Go Go.RowKit Go.Sort

def ItoaSays (P : Program) (T : Tab) (f : FuncId) : Prop :=
  ∃ g : Nat, P.globalNamed "internal/strconv.uint64pow10" = some g ∧ lkGl T.gl g = some (Lib.pow10Tab.map (AV.int .u64)) ∧
  ∀ (n : Int) (_ : -9223372036854775808 ≤ n) (_ : n ≤ 9223372036854775807) (w : World) (_ : Lib.TabIs P w "internal/strconv.uint64pow10" .u64 Lib.pow10Tab),
    Calls P f #[.int .i64 n] w fun e w' => e = .returned (.string ⟨(Lib.itoa n).toArray⟩) ∧ ∃ k os, w' = grow (w.drewN k) os

def con_Itoa : List AV → Option AV
  | [.int .i64 n] => if -9223372036854775808 ≤ n ∧ n ≤ 9223372036854775807 then some (.str (Lib.itoa n)) else none
  | _ => none

theorem ok_Itoa {P : Program} {T : Tab} {f : FuncId} (H : ItoaSays P T f) : ∀ args r, con_Itoa args = some r → OkCall P T f args r := by
  intro args r h w F vs hF hgl hx
  obtain ⟨g, hg, hl, H1⟩ := H
  simp only [con_Itoa] at h
  split at h <;> (try simp at h; done)
  rename_i n
  obtain ⟨⟨h0, h1⟩, rfl⟩ := ite_some h
  clear h
  match vs, hx with
  | [v1], hx =>
    simp only [RepL, and_true, Rep] at hx
    subst hx
    refine (H1 n h0 h1 w (tab_glob hg hl hgl)).mono ?_
    rintro e w' ⟨rfl, k, os, rfl⟩
    exact ⟨_, rfl, Lib.below_grow _ _ (Nat.le_refl _) _ _, by simp [Rep]⟩
end Wax

/- FnDRecords (8): dkim.parsePublicKey, from its start. -/
namespace Wax
open Go (IntKind)
open Go

theorem lookP_findP : ∀ (l : List (List UInt8 × List UInt8)) (k : List UInt8), lookP l k = (findP l k).getD []
  | [], _ => rfl
  | (i, v) :: r, k => by
    have ih := lookP_findP r k
    by_cases h : k = i
    · simp [lookP, findP, h]
    · have h' : ¬ i = k := fun e => h e.symm
      simp only [lookP, findP, if_neg h, if_neg h', ih]

def rsaB : List UInt8 := [114, 115, 97]
def edB : List UInt8 := [101, 100, 50, 53, 53, 49, 57]
def k0 : List AV := [.str [], .nilS, .int .i64 0, .nilS, .nilS, .nilS, .str [], .bool false, .bool false]
def r0 : List AV := [.nilI, .str [], .nilS, .str [], .nilS, .nilS]

def mA (n : Int) : List UInt8 := [107, 101, 121, 32, 105, 115, 32, 116, 111, 111, 32, 115, 104, 111, 114, 116, 58, 32, 119, 97, 110, 116, 32, 49, 48, 50, 52, 32, 98, 105, 116, 115, 44, 32, 104, 97, 115, 32] ++ Lib.itoa n ++ [32, 98, 105, 116, 115]
def mE (n : Int) : List UInt8 := [105, 110, 118, 97, 108, 105, 100, 32, 69, 100, 50, 53, 53, 49, 57, 32, 112, 117, 98, 108, 105, 99, 32, 107, 101, 121, 32, 115, 105, 122, 101, 58, 32] ++ Lib.itoa n ++ [32, 98, 121, 116, 101, 115]
def mU : List UInt8 := [117, 110, 115, 117, 112, 112, 111, 114, 116, 101, 100, 32, 107, 101, 121, 32, 97, 108, 103, 111, 114, 105, 116, 104, 109]

/-- What a key is, from its kind on. -/
def swRes (acc : List (List UInt8 × List UInt8)) (b : List UInt8) : (List UInt8 × Option (List UInt8)) ⊕ (List UInt8) :=
  if lookP acc [107] = rsaB ∨ lookP acc [107] = [] then
    if 8 * (b.length : Int) < 1024 then .inl (mA (8 * (b.length : Int)), some rsaB) else .inr rsaB
  else if lookP acc [107] = edB then
    if b.length = 32 then .inr edB else .inl (mE b.length, none)
  else .inl (mU, none)

def okPtr (acc : List (List UInt8 × List UInt8)) (k b : List UInt8) : AV := .ptr (rcells k b (tagVal (findP acc [104])) (noteVal (findP acc [110])) (servVal (findP acc [115])) (tagVal (findP acc [116])))

def swQ (Q : APost) (acc : List (List UInt8 × List UInt8)) (b : List UInt8) : (List UInt8 × Option (List UInt8)) ⊕ (List UInt8) → Prop
  | .inl (m, none) => Q .ret ⟨[(4, .nilP), (5, .ifc 5 (.str m))], [(43, .cells r0), (1000000, .cells k0)]⟩
  | .inl (m, some k) => Q .ret ⟨[(4, .nilP), (5, .ifc 5 (.str m))], [(1000000, .cells (kcells k b)), (43, .cells r0)]⟩
  | .inr k => Q .ret ⟨[(4, okPtr acc k b), (5, .nilI)], [(1000000, .cells (kcells k b))]⟩

set_option maxHeartbeats 4000000 in
set_option maxRecDepth 10000 in
theorem pk_17 {Γ : Gam} {Q : APost} (h24 : Γ.fn 24 = con_parseTagList) (h74 : Γ.fn 74 = con_Itoa) (s82 : Γ.st 82 = con_DRecord1) (acc : List (List UInt8 × List UInt8)) (b : List UInt8) (hb : b.length < mid) (hT : tagOk (findP acc [116])) (hS : tagOk (findP acc [115])) (hH : tagOk (findP acc [104]))
    (hQ : swQ Q acc b (swRes acc b)) :
    ∀ ex, awp Γ f_dkim_parsePublicKey_7 Q ⟨(1, .fn 82 [.ref 1000000 0]) :: (6, .mp (pmA acc)) :: (7, .nilI) :: (8, .ref 43 0) :: (13, .sl 1 (bcA b)) :: ex, [(43, .cells r0), (1000000, .cells k0)]⟩ := by
  intro ex
  have k82 : ∀ k, con_DRecord1 [.str k, .sl 1 (bcA b), .ref 0 0] [(0, .cells k0)] = some (.tup [.ifc 6 (.agg [.str k, .sl 1 (bcA b)]), .int .i64 (szOf k b), .nilI], [(0, .cells (kcells k b))]) := by
    intro k
    simp [con_DRecord1, k0, hb, kcells]
  simp only [k0, kcells] at k82
  have z1 : szOf [114, 115, 97] b = 8 * (b.length : Int) := by simp [szOf]
  simp only [mid] at hb
  have pk := fun k (hQ' : swQ Q acc b (.inr k)) => pk_36 h24 acc k b hT hS hH hQ'
  simp only [kcells, rcells, z1] at pk
  by_cases hk1 : lookP acc [107] = rsaB
  · have e : swRes acc b = if 8 * (b.length : Int) < 1024 then .inl (mA (8 * (b.length : Int)), some rsaB) else .inr rsaB := by simp only [swRes, hk1, true_or, if_true]
    rw [e] at hQ
    simp only [rsaB] at hk1
    by_cases hs : 8 * (b.length : Int) < 1024
    · have k74 : con_Itoa [.int .i64 (8 * (b.length : Int))] = some (.str (Lib.itoa (8 * (b.length : Int)))) := if_pos ⟨by omega, by omega⟩
      have hl := Lib.itoa_length_le (8 * (b.length : Int)) (by omega) (by omega)
      rw [if_pos hs] at hQ
      simp -implicitDefEqProofs [f_dkim_parsePublicKey_7, lookA_pmA, hk1, acallS, s82, k82, reach_succ, k0, kcells, r0, z1, hs, acall, h74, k74]
      refine ⟨by omega, by omega, ?_⟩
      simpa [swQ, mA, kcells, r0, rsaB, z1] using hQ
    · rw [if_neg hs] at hQ
      simp -implicitDefEqProofs [f_dkim_parsePublicKey_7, lookA_pmA, hk1, acallS, s82, k82, reach_succ, k0, kcells, r0, z1, hs]
      exact pk rsaB hQ _
  · by_cases hk2 : lookP acc [107] = []
    · have e : swRes acc b = if 8 * (b.length : Int) < 1024 then .inl (mA (8 * (b.length : Int)), some rsaB) else .inr rsaB := by simp only [swRes, hk2, or_true, if_true]
      rw [e] at hQ
      by_cases hs : 8 * (b.length : Int) < 1024
      · have k74 : con_Itoa [.int .i64 (8 * (b.length : Int))] = some (.str (Lib.itoa (8 * (b.length : Int)))) := if_pos ⟨by omega, by omega⟩
        have hl := Lib.itoa_length_le (8 * (b.length : Int)) (by omega) (by omega)
        rw [if_pos hs] at hQ
        simp -implicitDefEqProofs [f_dkim_parsePublicKey_7, lookA_pmA, hk2, acallS, s82, k82, reach_succ, k0, kcells, r0, z1, hs, acall, h74, k74]
        refine ⟨by omega, by omega, ?_⟩
        simpa [swQ, mA, kcells, r0, rsaB, z1] using hQ
      · rw [if_neg hs] at hQ
        simp -implicitDefEqProofs [f_dkim_parsePublicKey_7, lookA_pmA, hk2, acallS, s82, k82, reach_succ, k0, kcells, r0, z1, hs]
        exact pk rsaB hQ _
    · by_cases hk3 : lookP acc [107] = edB
      · have e : swRes acc b = if b.length = 32 then .inr edB else .inl (mE b.length, none) := by simp only [swRes, hk1, hk2, or_self, if_false, hk3, if_true]; simp [edB, rsaB]
        rw [e] at hQ
        simp only [edB] at hk3
        by_cases hs : b.length = 32
        · rw [if_pos hs] at hQ
          simp -implicitDefEqProofs [f_dkim_parsePublicKey_7, lookA_pmA, hk3, acallS, s82, k82, reach_succ, k0, kcells, r0, hs]
          exact pk edB hQ _
        · have k74 : con_Itoa [.int .i64 (b.length : Int)] = some (.str (Lib.itoa (b.length : Int))) := if_pos ⟨by omega, by omega⟩
          have hl := Lib.itoa_length_le (b.length : Int) (by omega) (by omega)
          have hs' : ¬ (b.length : Int) = 32 := by omega
          rw [if_neg hs] at hQ
          simp -implicitDefEqProofs [f_dkim_parsePublicKey_7, lookA_pmA, hk3, k0, r0, hs', acall, h74, k74]
          refine ⟨by omega, by omega, ?_⟩
          simpa [swQ, mE, k0, r0] using hQ
      · have e : swRes acc b = .inl (mU, none) := by simp only [swRes, hk1, hk2, or_self, if_false, hk3]
        rw [e] at hQ
        simp only [rsaB, edB] at hk1 hk3
        simp -implicitDefEqProofs [f_dkim_parsePublicKey_7, lookA_pmA, hk1, hk2, hk3, k0, r0]
        simpa [swQ, mU, k0, r0] using hQ
end Wax

/- FnDRecords (9): dkim.parsePublicKey, its whole. -/
namespace Wax
open Go (IntKind)

theorem prm_vals (n : Nat) : ∀ (L : List (List UInt8)) (acc : List (List UInt8 × List UInt8)), (∀ p ∈ L, p.length ≤ n ∧ plain p = true) → (∀ q ∈ acc, q.2.length ≤ n ∧ plain q.2 = true) → ∀ q ∈ (prm L acc).1, q.2.length ≤ n ∧ plain q.2 = true
  | [], acc, _, h2 => h2
  | p :: r, acc, h1, h2 => by
    have hr : ∀ p ∈ r, p.length ≤ n ∧ plain p = true := fun p hp => h1 p (by simp [hp])
    simp only [prm]
    cases hc : cutAt 61 p with
    | none =>
      simp only
      by_cases ht : trimS p = []
      · simp only [ht, if_true]; exact prm_vals n r acc hr h2
      · simp only [ht, if_false]; exact h2
    | some q =>
      simp only
      split
      · exact h2
      · refine prm_vals n r _ hr fun z hz => ?_
        rcases List.mem_append.1 hz with hz | hz
        · exact h2 z hz
        · simp only [List.mem_singleton] at hz
          subst hz
          have t1 := trimS_length q.2
          obtain ⟨t2, x, t4⟩ := cutAt_le hc
          have t3 := h1 p (by simp)
          simp only
          exact ⟨by omega, plain_sub (fun y hy => by rw [t4]; simp [trimS_sub y hy]) t3.2⟩

theorem prm_err : ∀ (L : List (List UInt8)) (acc : List (List UInt8 × List UInt8)) (m : List UInt8), (prm L acc).2 = some m → m = msgBad ∨ m = msgTwice
  | [], acc, m, h => by simp [prm] at h
  | p :: r, acc, m, h => by
    simp only [prm] at h
    split at h
    · split at h
      · exact prm_err r acc m h
      · simp at h; exact .inl h.symm
    · split at h
      · simp at h; exact .inr h.symm
      · exact prm_err r _ m h

theorem findP_mem : ∀ {l : List (List UInt8 × List UInt8)} {k v : List UInt8}, findP l k = some v → (k, v) ∈ l
  | [], _, _, h => by simp [findP] at h
  | (i, u) :: r, k, v, h => by
    simp only [findP] at h
    split at h
    · rename_i e; simp at h; subst e; subst h; simp
    · exact List.mem_cons_of_mem _ (findP_mem h)

def msgK : List UInt8 := [107, 101, 121, 32, 114, 101, 99, 111, 114, 100, 32, 101, 114, 114, 111, 114, 58, 32]
def msgS : List UInt8 := [107, 101, 121, 32, 115, 121, 110, 116, 97, 120, 32, 101, 114, 114, 111, 114, 58, 32]
def msgV : List UInt8 := [105, 110, 99, 111, 109, 112, 97, 116, 105, 98, 108, 101, 32, 112, 117, 98, 108, 105, 99, 32, 107, 101, 121, 32, 118, 101, 114, 115, 105, 111, 110]
def msgP : List UInt8 := [107, 101, 121, 32, 115, 121, 110, 116, 97, 120, 32, 101, 114, 114, 111, 114, 58, 32, 109, 105, 115, 115, 105, 110, 103, 32, 112, 117, 98, 108, 105, 99, 32, 107, 101, 121, 32, 100, 97, 116, 97]
def msgR : List UInt8 := [107, 101, 121, 32, 114, 101, 118, 111, 107, 101, 100]
def dk1 : List UInt8 := [68, 75, 73, 77, 49]

/-- What a record's key is: an error's text (and what the callback was given), or its kind and bytes. -/
def pk3 (acc : List (List UInt8 × List UInt8)) (p : List UInt8) : (List UInt8 × Option (List UInt8 × List UInt8)) ⊕ (List UInt8 × List UInt8) :=
  match dec64 quadI (cleanS (noBlank p)) with
  | none => .inl (msgS ++ msg64, none)
  | some b => match swRes acc b with
    | .inl (m, k) => .inl (m, k.map (·, b))
    | .inr k => .inr (k, b)
def pk2 (acc : List (List UInt8 × List UInt8)) : (List UInt8 × Option (List UInt8 × List UInt8)) ⊕ (List UInt8 × List UInt8) :=
  match findP acc [112] with
  | none => .inl (msgP, none)
  | some p => if p = [] then .inl (msgR, none) else pk3 acc p
def pk1 (acc : List (List UInt8 × List UInt8)) : (List UInt8 × Option (List UInt8 × List UInt8)) ⊕ (List UInt8 × List UInt8) :=
  match findP acc [118] with
  | some v => if v = dk1 then pk2 acc else .inl (msgV, none)
  | none => pk2 acc

def pkQ (Q : APost) (acc : List (List UInt8 × List UInt8)) : (List UInt8 × Option (List UInt8 × List UInt8)) ⊕ (List UInt8 × List UInt8) → Prop
  | .inl (m, none) => Q .ret ⟨[(4, .nilP), (5, .ifc 5 (.str m))], [(43, .cells r0), (1000000, .cells k0)]⟩
  | .inl (m, some (k, b)) => Q .ret ⟨[(4, .nilP), (5, .ifc 5 (.str m))], [(1000000, .cells (kcells k b)), (43, .cells r0)]⟩
  | .inr (k, b) => Q .ret ⟨[(4, okPtr acc k b), (5, .nilI)], [(1000000, .cells (kcells k b))]⟩

theorem decI_len {s o : List UInt8} (h : dec64 quadI s = some o) : o.length ≤ s.length := dec64_len (fun l a b c d x hx => by
  simp only [quadI, Option.map_eq_some_iff] at hx
  obtain ⟨p, _, rfl⟩ := hx
  simp [bytes3]; omega) h
theorem cleanS_len (s : List UInt8) : (cleanS s).length ≤ s.length := List.length_filter_le _ _

set_option maxHeartbeats 2000000 in
set_option maxRecDepth 10000 in
theorem pk_13 {Γ : Gam} {Q : APost} (h24 : Γ.fn 24 = con_parseTagList) (h74 : Γ.fn 74 = con_Itoa) (s82 : Γ.st 82 = con_DRecord1) (h72 : Γ.fn 72 = con_ReplaceAll) (h73 : Γ.fn 73 = con_zzDecode) (m3 : Γ.mth 3 "Error" = some 90) (h90 : Γ.fn 90 = con_errString)
    (acc : List (List UInt8 × List UInt8)) (p : List UInt8) (hp : p.length < mid) (hT : tagOk (findP acc [116])) (hS : tagOk (findP acc [115])) (hH : tagOk (findP acc [104]))
    (hQ : pkQ Q acc (pk3 acc p)) :
    ∀ ex, awp Γ f_dkim_parsePublicKey_8 Q ⟨(1, .fn 82 [.ref 1000000 0]) :: (6, .mp (pmA acc)) :: (8, .ref 43 0) :: (11, .str p) :: ex, [(43, .cells r0), (1000000, .cells k0)]⟩ := by
  intro ex
  have k72 : con_ReplaceAll [.str p, .str [32], .str []] = some (.str (noBlank p)) := if_pos hp
  have hn := noBlank_len p
  have k73 : con_zzDecode [.str (noBlank p)] = some (decV (dec64 quadI (cleanS (noBlank p)))) := if_pos (by omega)
  cases hd : dec64 quadI (cleanS (noBlank p)) with
  | none =>
    rw [hd] at k73
    simp only [pk3, hd] at hQ
    have k90 : con_errString [.ptr [.str msg64]] = some (.str msg64) := rfl
    simp -implicitDefEqProofs [f_dkim_parsePublicKey_8, acall, h72, k72, h73, k73, decV, m3, h90, k90, k0, r0]
    refine ⟨by decide, ?_⟩
    simpa [pkQ, msgS, k0, r0] using hQ
  | some b =>
    rw [hd] at k73
    have hb := decI_len hd
    have hc := cleanS_len (noBlank p)
    simp only [pk3, hd] at hQ
    simp -implicitDefEqProofs [f_dkim_parsePublicKey_8, acall, h72, k72, h73, k73, decV]
    refine pk_17 h24 h74 s82 acc b (by omega) hT hS hH ?_ _
    cases hs : swRes acc b with
    | inl x => obtain ⟨m, k⟩ := x; rw [hs] at hQ; cases k <;> exact hQ
    | inr k => rw [hs] at hQ; exact hQ

set_option maxHeartbeats 2000000 in
set_option maxRecDepth 10000 in
theorem pk_5 {Γ : Gam} {Q : APost} (h24 : Γ.fn 24 = con_parseTagList) (h74 : Γ.fn 74 = con_Itoa) (s82 : Γ.st 82 = con_DRecord1) (h72 : Γ.fn 72 = con_ReplaceAll) (h73 : Γ.fn 73 = con_zzDecode) (m3 : Γ.mth 3 "Error" = some 90) (h90 : Γ.fn 90 = con_errString)
    (acc : List (List UInt8 × List UInt8)) (hp : tagOk (findP acc [112])) (hT : tagOk (findP acc [116])) (hS : tagOk (findP acc [115])) (hH : tagOk (findP acc [104]))
    (hQ : pkQ Q acc (pk1 acc)) :
    ∀ ex, awp Γ f_dkim_parsePublicKey_10 Q ⟨(1, .fn 82 [.ref 1000000 0]) :: (6, .mp (pmA acc)) :: (8, .ref 43 0) :: ex, [(43, .cells r0), (1000000, .cells k0)]⟩ := by
  have key : pkQ Q acc (pk2 acc) → ∀ ex, awp Γ f_dkim_parsePublicKey_9 Q ⟨(1, .fn 82 [.ref 1000000 0]) :: (6, .mp (pmA acc)) :: (8, .ref 43 0) :: ex, [(43, .cells r0), (1000000, .cells k0)]⟩ := by
    intro hQ ex
    cases h1 : findP acc [112] with
    | none =>
      simp only [pk2, h1] at hQ
      simp -implicitDefEqProofs [f_dkim_parsePublicKey_9, lookA_true, h1, valV, k0, r0]
      simpa [pkQ, msgP, k0, r0] using hQ
    | some p =>
      by_cases hp0 : p = []
      · subst hp0
        simp only [pk2, h1, if_true] at hQ
        simp -implicitDefEqProofs [f_dkim_parsePublicKey_9, lookA_true, h1, valV, k0, r0]
        simpa [pkQ, msgR, k0, r0] using hQ
      · simp only [pk2, h1, if_neg hp0] at hQ
        simp -implicitDefEqProofs [f_dkim_parsePublicKey_9, lookA_true, h1, valV, hp0]
        exact pk_13 h24 h74 s82 h72 h73 m3 h90 acc p (hp p h1).1 hT hS hH hQ _
  intro ex
  cases h1 : findP acc [118] with
  | none =>
    simp only [pk1, h1] at hQ
    simp -implicitDefEqProofs [f_dkim_parsePublicKey_10, lookA_true, h1, valV]
    exact key hQ _
  | some v =>
    by_cases hv : v = dk1
    · subst hv
      simp only [pk1, h1, if_true] at hQ
      simp -implicitDefEqProofs [f_dkim_parsePublicKey_10, lookA_true, h1, valV, dk1]
      exact key hQ _
    · simp only [pk1, h1, if_neg hv] at hQ
      simp only [dk1] at hv
      simp -implicitDefEqProofs [f_dkim_parsePublicKey_10, lookA_true, h1, valV, hv, k0, r0]
      simpa [pkQ, msgV, k0, r0] using hQ
end Wax

/- FnDRecords (10): dkim.parsePublicKey and ParseRecord. -/
namespace Wax
open Go (IntKind)

def pkV (s : List UInt8) : AV × List (Nat × AObj) := match prm (splitB 59 s) [] with
  | (_, some m) => (.tup [.nilP, .ifc 5 (.str (msgK ++ m))], [(0, .cells k0)])
  | (acc, none) => match pk1 acc with
    | .inl (m, none) => (.tup [.nilP, .ifc 5 (.str m)], [(0, .cells k0)])
    | .inl (m, some (k, b)) => (.tup [.nilP, .ifc 5 (.str m)], [(0, .cells (kcells k b))])
    | .inr (k, b) => (.tup [okPtr acc k b, .nilI], [(0, .cells (kcells k b))])

def con_parsePublicKey : List AV → List (Nat × AObj) → Option (AV × List (Nat × AObj))
  | [.str s, .fn 82 [.ref 0 0]], [(0, .cells [.str [], .nilS, .int .i64 0, .nilS, .nilS, .nilS, .str [], .bool false, .bool false])] => if s.length < half ∧ plain s = true then some (pkV s) else none
  | _, _ => none

theorem prm_tagOk {s : List UInt8} (hs : s.length < half) (hp : plain s = true) (k : List UInt8) : tagOk (findP (prm (splitB 59 s) []).1 k) := by
  intro v hv
  have := prm_vals s.length (splitB 59 s) [] (fun p h => ⟨splitB_mem_length 59 s p h, splitB_plain 59 s p hp h⟩) (by simp) (k, v) (findP_mem hv)
  simp only [half, mid] at *
  exact ⟨by omega, plain_ascii this.2⟩

set_option maxHeartbeats 2000000 in
set_option maxRecDepth 10000 in
theorem ok_parsePublicKey (Γ : Gam) (h24 : Γ.fn 24 = con_parseTagList) (h47 : Γ.fn 47 = con_parseHeaderParams) (h74 : Γ.fn 74 = con_Itoa) (s82 : Γ.st 82 = con_DRecord1) (h72 : Γ.fn 72 = con_ReplaceAll) (h73 : Γ.fn 73 = con_zzDecode) (m3 : Γ.mth 3 "Error" = some 90) (h90 : Γ.fn 90 = con_errString) :
    ∀ args hp q, con_parsePublicKey args hp = some q → runsS Γ c_dkim_parsePublicKey args hp (fun v => v = some q) := by
  intro args hp q h
  unfold con_parsePublicKey at h
  split at h <;> (try simp at h; done)
  rename_i s
  obtain ⟨⟨hs, hpl⟩, rfl⟩ := ite_some h
  clear h
  have k47 : con_parseHeaderParams [.str s] = some (prmV (prm (splitB 59 s) [])) := if_pos ⟨by simp only [half, mid] at *; omega, hpl⟩
  have hT := prm_tagOk hs hpl [116]
  have hS := prm_tagOk hs hpl [115]
  have hH := prm_tagOk hs hpl [104]
  have hP := prm_tagOk hs hpl [112]
  have hE := prm_err (splitB 59 s) []
  simp only [pkV]
  generalize hx : prm (splitB 59 s) [] = x at *
  obtain ⟨acc, e⟩ := x
  cases e with
  | some m =>
    have hm := hE m rfl
    have hml : m.length ≤ 30 := by rcases hm with rfl | rfl <;> decide
    have k90 : con_errString [.ptr [.str m]] = some (.str m) := rfl
    simp -implicitDefEqProofs [c_dkim_parsePublicKey, acall, h47, k47, prmV, m3, h90, k90, k0, reach_succ]
    exact ⟨by omega, by simp [msgK]⟩
  | none =>
    simp only at hT hS hH hP
    simp -implicitDefEqProofs [c_dkim_parsePublicKey, acall, h47, k47, prmV]
    refine pk_5 h24 h74 s82 h72 h73 m3 h90 acc hP hT hS hH ?_ _
    cases hr : pk1 acc with
    | inl x =>
      obtain ⟨m, o⟩ := x
      cases o with
      | none =>
        simp -implicitDefEqProofs [pkQ, reach_succ, k0, r0]
      | some kb =>
        obtain ⟨k, b⟩ := kb
        simp -implicitDefEqProofs [pkQ, reach_succ, k0, r0, kcells]
    | inr kb =>
      obtain ⟨k, b⟩ := kb
      simp -implicitDefEqProofs [pkQ, reach_succ, k0, r0, kcells, okPtr]
end Wax

/- FnDRecords (11): ParseRecord, DRecord. -/
namespace Wax
open Go (IntKind)

theorem tagVal_sl (x : Option (List UInt8)) : slStrs (tagVal x) = some ((x.map tagL).getD []) := by
  cases x <;> simp [tagVal, slStrs]
theorem servVal_sl (x : Option (List UInt8)) : ∃ l, slStrs (servVal x) = some l := by
  cases x with
  | none => exact ⟨[], rfl⟩
  | some v => by_cases h : [42] ∈ tagL v <;> simp [servVal, slStrs, h]

def recZ : AV := .agg [.str [], .nilS, .nilS, .nilS, .str []]
def recP (acc : List (List UInt8 × List UInt8)) (k : List UInt8) : AV := .agg [.str k, tagVal (findP acc [104]), servVal (findP acc [115]), tagVal (findP acc [116]), noteVal (findP acc [110])]

def prV (s : List UInt8) : AV × List (Nat × AObj) := match prm (splitB 59 s) [] with
  | (_, some m) => (.tup [recZ, .ifc 5 (.str (msgK ++ m))], [(0, .cells k0)])
  | (acc, none) => match pk1 acc with
    | .inl (m, none) => (.tup [recZ, .ifc 5 (.str m)], [(0, .cells k0)])
    | .inl (m, some (k, b)) => (.tup [recZ, .ifc 5 (.str m)], [(0, .cells (kcells k b))])
    | .inr (k, b) => (.tup [recP acc k, .nilI], [(0, .cells (kcells k b))])

def con_ParseRecord : List AV → List (Nat × AObj) → Option (AV × List (Nat × AObj))
  | [.str s, .fn 82 [.ref 0 0]], [(0, .cells [.str [], .nilS, .int .i64 0, .nilS, .nilS, .nilS, .str [], .bool false, .bool false])] => if s.length < half ∧ plain s = true then some (prV s) else none
  | _, _ => none

set_option maxHeartbeats 2000000 in
set_option maxRecDepth 10000 in
theorem ok_ParseRecord (Γ : Gam) (s75 : Γ.st 75 = con_parsePublicKey) :
    ∀ args hp q, con_ParseRecord args hp = some q → runsS Γ c_dkim_ParseRecord args hp (fun v => v = some q) := by
  intro args hp q h
  unfold con_ParseRecord at h
  split at h <;> (try simp at h; done)
  rename_i s
  obtain ⟨⟨hs, hpl⟩, rfl⟩ := ite_some h
  clear h
  have k75 : con_parsePublicKey [.str s, .fn 82 [.ref 0 0]] [(0, .cells [.str [], .nilS, .int .i64 0, .nilS, .nilS, .nilS, .str [], .bool false, .bool false])] = some (pkV s) := if_pos ⟨hs, hpl⟩
  simp only [prV]
  simp only [pkV] at k75
  generalize hx : prm (splitB 59 s) [] = x at *
  obtain ⟨acc, e⟩ := x
  cases e with
  | some m =>
    simp only [k0] at k75
    simp -implicitDefEqProofs [c_dkim_ParseRecord, acallS, s75, k75, reach_succ, recZ, k0]
  | none =>
    cases hr : pk1 acc with
    | inl x =>
      obtain ⟨m, o⟩ := x
      cases o with
      | none =>
        simp only [hr, k0] at k75
        simp -implicitDefEqProofs [c_dkim_ParseRecord, acallS, s75, k75, reach_succ, recZ, k0, hr]
      | some kb =>
        obtain ⟨k, b⟩ := kb
        simp only [hr, kcells] at k75
        simp -implicitDefEqProofs [c_dkim_ParseRecord, acallS, s75, k75, reach_succ, recZ, kcells, hr]
    | inr kb =>
      obtain ⟨k, b⟩ := kb
      have t1 := tagVal_sl (findP acc [104])
      obtain ⟨l2, t2⟩ := servVal_sl (findP acc [115])
      have t3 := tagVal_sl (findP acc [116])
      simp only [hr, kcells, okPtr, rcells, noteVal] at k75
      simp only [recP, noteVal, kcells]
      have c1 := slf_cells t1
      have c2 := slf_cells t2
      have c3 := slf_cells t3
      generalize tagVal (findP acc [104]) = T1 at *
      generalize servVal (findP acc [115]) = T2 at *
      generalize tagVal (findP acc [116]) = T3 at *
      simp only [cells] at c1 c2 c3
      simp -implicitDefEqProofs [c_dkim_ParseRecord, acallS, s75, k75, reach_succ, hr, c1, c2, c3, slf_map t1, slf_map t2, slf_map t3, slf_kill t1, slf_kill t2, slf_kill t3, slf_refs t1, slf_refs t2, slf_refs t3, slf_ref t1, slf_ref t2, slf_ref t3, slf_atom t1, slf_atom t2, slf_atom t3, slf_cells t1, slf_cells t2, slf_cells t3, slf_snap t1, slf_snap t2, slf_snap t3]
end Wax

/- FnDRecords (12): DRecord. -/
namespace Wax
open Go (IntKind)

def dkeyZ : AV := .agg [.str [], .nilS, .int .i64 0, .nilS, .nilS, .nilS, .str [], .bool false, .bool false]
def isNilS : AV → Bool
  | .nilS => true
  | _ => false
theorem slf_isNil {u : AV} {l : List (List UInt8)} (h : slStrs u = some l) : u = .nilS ∨ (isNilS u = false ∧ u = .sl 1 (strsA l)) := by
  rcases slStrs_cases h with ⟨rfl, rfl⟩ | rfl
  · exact .inl rfl
  · exact .inr ⟨rfl, rfl⟩

theorem slf_pure {u : AV} {l : List (List UInt8)} (h : slStrs u = some l) : pureV u = true := by
  rcases slStrs_cases h with ⟨rfl, rfl⟩ | rfl <;> rfl

def dkey (acc : List (List UInt8 × List UInt8)) (k b : List UInt8) : AV :=
  .agg [.str k, .sl 1 (bcA b), .int .i64 (szOf k b), tagVal (findP acc [104]), servVal (findP acc [115]), tagVal (findP acc [116]), noteVal (findP acc [110]), .bool (isNilS (tagVal (findP acc [104]))), .bool (isNilS (servVal (findP acc [115])))]

def drV (s : List UInt8) : AV := match prm (splitB 59 s) [] with
  | (_, some _) => .tup [dkeyZ, .int .i64 2]
  | (acc, none) => match pk1 acc with
    | .inl _ => .tup [dkeyZ, .int .i64 2]
    | .inr (k, b) => .tup [dkey acc k b, .int .i64 0]

def con_DRecord : List AV → Option AV
  | [.str s] => if s.length < half ∧ plain s = true then some (drV s) else none
  | _ => none

set_option maxHeartbeats 4000000 in
set_option maxRecDepth 10000 in
theorem ok_DRecord (Γ : Gam) (s81 : Γ.st 81 = con_ParseRecord) (h83 : Γ.fn 83 = con_codeOf) :
    ∀ args r, con_DRecord args = some r → runs Γ c_impl_DRecord args (fun v => v = r) := by
  intro args r h
  simp only [con_DRecord] at h
  split at h <;> (try simp at h; done)
  rename_i s
  obtain ⟨⟨hs, hpl⟩, rfl⟩ := ite_some h
  clear h
  have k81 : con_ParseRecord [.str s, .fn 82 [.ref 0 0]] [(0, .cells [.str [], .nilS, .int .i64 0, .nilS, .nilS, .nilS, .str [], .bool false, .bool false])] = some (prV s) := if_pos ⟨hs, hpl⟩
  have k83 : ∀ m, con_codeOf [.ifc 5 (.str m)] = some (.int .i64 2) := fun m => rfl
  simp only [drV]
  simp only [prV] at k81
  generalize hx : prm (splitB 59 s) [] = x at *
  obtain ⟨acc, e⟩ := x
  cases e with
  | some m =>
    simp only [k0, recZ] at k81
    simp -implicitDefEqProofs [c_impl_DRecord, acall, acallS, s81, k81, reach_succ, h83, k83, dkeyZ]
  | none =>
    cases hr : pk1 acc with
    | inl x =>
      obtain ⟨m, o⟩ := x
      cases o with
      | none =>
        simp only [hr, k0, recZ] at k81
        simp -implicitDefEqProofs [c_impl_DRecord, acall, acallS, s81, k81, reach_succ, h83, k83, dkeyZ, hr]
      | some kb =>
        obtain ⟨k, b⟩ := kb
        simp only [hr, kcells, recZ] at k81
        simp -implicitDefEqProofs [c_impl_DRecord, acall, acallS, s81, k81, reach_succ, h83, k83, dkeyZ, hr]
    | inr kb =>
      obtain ⟨k, b⟩ := kb
      have t1 := tagVal_sl (findP acc [104])
      obtain ⟨l2, t2⟩ := servVal_sl (findP acc [115])
      have t3 := tagVal_sl (findP acc [116])
      have c3 := slf_cells t3
      simp only [hr, kcells, recP, noteVal] at k81
      simp only [dkey, noteVal]
      generalize tagVal (findP acc [104]) = T1 at *
      generalize servVal (findP acc [115]) = T2 at *
      generalize tagVal (findP acc [116]) = T3 at *
      simp only [cells] at c3
      rcases slf_isNil t1 with rfl | ⟨i1, rfl⟩ <;> rcases slf_isNil t2 with rfl | ⟨i2, rfl⟩ <;>
      simp -implicitDefEqProofs [c_impl_DRecord, acallS, s81, k81, reach_succ, hr, c3, isNilS, slf_map t3, slf_kill t3, slf_refs t3, slf_ref t3, slf_atom t3, slf_cells t3, slf_snap t3, slf_snapW t3, slf_pure t3]
end Wax

/- base64: what is written is read again. -/
namespace Wax
open Go (IntKind)

def sg (n : Nat) : UInt8 := d64.getD n 0
def e3 (a b c : UInt8) : List UInt8 := let n := a.toNat * 65536 + b.toNat * 256 + c.toNat; [sg (n / 262144), sg (n / 4096 % 64), sg (n / 64 % 64), sg (n % 64)]
def e2 (a b : UInt8) : List UInt8 := let n := a.toNat * 65536 + b.toNat * 256; [sg (n / 262144), sg (n / 4096 % 64), sg (n / 64 % 64), 61]
def e1 (a : UInt8) : List UInt8 := let n := a.toNat * 65536; [sg (n / 262144), sg (n / 4096 % 64), 61, 61]
def enc64 : List UInt8 → List UInt8
  | a :: b :: c :: r => e3 a b c ++ enc64 r
  | [a, b] => e2 a b
  | [a] => e1 a
  | [] => []

set_option maxRecDepth 100000 in
theorem v64_sg : ∀ n, n < 64 → v64 (sg n) = n := by decide +kernel
theorem sg_ok : ∀ n, n < 64 → 43 ≤ (sg n).toNat ∧ (sg n).toNat ≤ 122 ∧ (sg n).toNat ≠ 59 ∧ (sg n).toNat ≠ 61 := by decide +kernel

theorem stI_sg {last : Bool} {dn : UInt8} {i v : Nat} {p : Nat} (hv : v < 64) : stI last dn i (sg v) (p, 4) = some (p * 64 + v, 4) := by
  simp only [stI, v64_sg v hv]
  have h1 : ¬ ((v : Int) < 0) := by omega
  rw [if_neg h1, if_neg (by omega)]
  simp

theorem b3 (a b c : UInt8) : bytes3 (a.toNat * 65536 + b.toNat * 256 + c.toNat) = [a, b, c] := by
  have h1 := a.toNat_lt
  have h2 := b.toNat_lt
  have h3 := c.toNat_lt
  have x1 : UInt8.ofNat ((a.toNat * 65536 + b.toNat * 256 + c.toNat) / 65536) = a := by apply UInt8.toNat_inj.1; simp; omega
  have x2 : UInt8.ofNat ((a.toNat * 65536 + b.toNat * 256 + c.toNat) / 256) = b := by apply UInt8.toNat_inj.1; simp; omega
  have x3 : UInt8.ofNat (a.toNat * 65536 + b.toNat * 256 + c.toNat) = c := by apply UInt8.toNat_inj.1; simp
  simp only [bytes3, x1, x2, x3]

theorem q3 (last : Bool) (a b c : UInt8) : quadI last (sg ((a.toNat * 65536 + b.toNat * 256 + c.toNat) / 262144)) (sg ((a.toNat * 65536 + b.toNat * 256 + c.toNat) / 4096 % 64)) (sg ((a.toNat * 65536 + b.toNat * 256 + c.toNat) / 64 % 64)) (sg ((a.toNat * 65536 + b.toNat * 256 + c.toNat) % 64)) = some [a, b, c] := by
  have h1 := a.toNat_lt
  have h2 := b.toNat_lt
  have h3 := c.toNat_lt
  have hb := b3 a b c
  have hn : a.toNat * 65536 + b.toNat * 256 + c.toNat < 16777216 := by omega
  generalize a.toNat * 65536 + b.toNat * 256 + c.toNat = n at *
  simp only [quadI, runI, stI_sg (show n / 262144 < 64 by omega), stI_sg (show n / 4096 % 64 < 64 by omega), stI_sg (show n / 64 % 64 < 64 by omega), stI_sg (show n % 64 < 64 by omega), Option.map_some]
  have : (((0 * 64 + n / 262144) * 64 + n / 4096 % 64) * 64 + n / 64 % 64) * 64 + n % 64 = n := by omega
  rw [this, hb]; rfl

theorem stI_end3 {dn : UInt8} {p : Nat} : stI true dn (0 + 1 + 1 + 1) 61 (p, 4) = some (p * 64, 3) := by simp [stI, v64_eq]
theorem stI_end2 {p : Nat} : stI true 61 (0 + 1 + 1) 61 (p, 4) = some (p * 64, 2) := by simp [stI, v64_eq]
theorem stI_end23 {dn : UInt8} {p : Nat} : stI true dn (0 + 1 + 1 + 1) 61 (p, 2) = some (p * 64, 2) := by simp [stI, v64_eq]

theorem q2 (a b : UInt8) : quadI true (sg ((a.toNat * 65536 + b.toNat * 256) / 262144)) (sg ((a.toNat * 65536 + b.toNat * 256) / 4096 % 64)) (sg ((a.toNat * 65536 + b.toNat * 256) / 64 % 64)) 61 = some [a, b] := by
  have h1 := a.toNat_lt
  have h2 := b.toNat_lt
  have hb := b3 a b 0
  have hn : a.toNat * 65536 + b.toNat * 256 < 16777216 := by omega
  have h0 : (a.toNat * 65536 + b.toNat * 256) % 64 = 0 := by omega
  have hz : (0 : UInt8).toNat = 0 := rfl
  rw [hz, Nat.add_zero] at hb
  generalize a.toNat * 65536 + b.toNat * 256 = n at *
  simp only [quadI, runI, stI_sg (show n / 262144 < 64 by omega), stI_sg (show n / 4096 % 64 < 64 by omega), stI_sg (show n / 64 % 64 < 64 by omega), stI_end3, Option.map_some]
  have : (((0 * 64 + n / 262144) * 64 + n / 4096 % 64) * 64 + n / 64 % 64) * 64 = n := by omega
  rw [this, hb]; rfl

theorem q1 (a : UInt8) : quadI true (sg ((a.toNat * 65536) / 262144)) (sg ((a.toNat * 65536) / 4096 % 64)) 61 61 = some [a] := by
  have h1 := a.toNat_lt
  have hb := b3 a 0 0
  have hn : a.toNat * 65536 < 16777216 := by omega
  have h0 : (a.toNat * 65536) % 4096 = 0 := by omega
  have hz : (0 : UInt8).toNat = 0 := rfl
  simp only [hz, Nat.zero_mul, Nat.add_zero] at hb
  generalize a.toNat * 65536 = n at *
  simp only [quadI, runI, stI_sg (show n / 262144 < 64 by omega), stI_sg (show n / 4096 % 64 < 64 by omega), stI_end2, stI_end23, Option.map_some]
  have : (((0 * 64 + n / 262144) * 64 + n / 4096 % 64) * 64) * 64 = n := by omega
  rw [this, hb]; rfl

theorem dec_enc : ∀ s : List UInt8, dec64 quadI (enc64 s) = some s
  | [] => rfl
  | [a] => by simp only [enc64, e1, dec64, List.isEmpty_nil, q1]; rfl
  | [a, b] => by simp only [enc64, e2, dec64, List.isEmpty_nil, q2]; rfl
  | a :: b :: c :: r => by
    simp only [enc64, e3, List.cons_append, List.nil_append, dec64, q3, dec_enc r, Option.map_some]

def SgOk (x : UInt8) : Prop := 43 ≤ x.toNat ∧ x.toNat ≤ 122 ∧ x.toNat ≠ 59
theorem sgOk_sg {n : Nat} (h : n < 64) : SgOk (sg n) := ⟨(sg_ok n h).1, (sg_ok n h).2.1, (sg_ok n h).2.2.1⟩
theorem sgOk_eq : SgOk 61 := ⟨by decide, by decide, by decide⟩
theorem enc_ok : ∀ (s : List UInt8), ∀ x ∈ enc64 s, SgOk x
  | [], x, h => by simp [enc64] at h
  | [a], x, h => by
    have := a.toNat_lt
    simp only [enc64, e1, List.mem_cons, List.not_mem_nil, or_false] at h
    rcases h with rfl | rfl | rfl | rfl
    · exact sgOk_sg (by omega)
    · exact sgOk_sg (by omega)
    · exact sgOk_eq
    · exact sgOk_eq
  | [a, b], x, h => by
    have := a.toNat_lt
    have := b.toNat_lt
    simp only [enc64, e2, List.mem_cons, List.not_mem_nil, or_false] at h
    rcases h with rfl | rfl | rfl | rfl
    · exact sgOk_sg (by omega)
    · exact sgOk_sg (by omega)
    · exact sgOk_sg (by omega)
    · exact sgOk_eq
  | a :: b :: c :: r, x, h => by
    have := a.toNat_lt
    have := b.toNat_lt
    have := c.toNat_lt
    simp only [enc64, e3, List.mem_append, List.mem_cons, List.not_mem_nil, or_false] at h
    rcases h with (rfl | rfl | rfl | rfl) | h
    · exact sgOk_sg (by omega)
    · exact sgOk_sg (by omega)
    · exact sgOk_sg (by omega)
    · exact sgOk_sg (by omega)
    · exact enc_ok r x h
theorem enc_len : ∀ (s : List UInt8), (enc64 s).length ≤ 4 * s.length
  | [] => by simp [enc64]
  | [a] => by simp [enc64, e1]
  | [a, b] => by simp [enc64, e2]
  | a :: b :: c :: r => by have := enc_len r; simp [enc64, e3]; omega
theorem enc_ne : ∀ (s : List UInt8), s ≠ [] → enc64 s ≠ []
  | [], h => absurd rfl h
  | [a], _ => by simp [enc64, e1]
  | [a, b], _ => by simp [enc64, e2]
  | a :: b :: c :: r, _ => by simp [enc64, e3]
end Wax

/- FnDRecordBack (1): base64 is written. -/
namespace Wax
open Go (IntKind)

def con_zzEncode : List AV → Option AV
  | [.sl 1 cs] => match bytesOf cs with
    | some o => if o.length < mid then some (.str (enc64 o)) else none
    | none => none
  | _ => none

theorem w64 {n : Nat} (h : n < 16777216) : IntKind.u64.wrap (n : Int) = n := by simp [IntKind.wrap, IntKind.bits, IntKind.signed]; omega

theorem get64 {n : Nat} (h : n < 64) : d64[n]? = some (sg n) := by
  have hl : n < d64.length := by rw [d64_len]; exact h
  simp [sg, List.getElem?_eq_getElem hl]

theorem wrapN {n : Nat} (h : n < 18446744073709551616) : IntKind.u64.wrap (n : Int) = n := by simp [IntKind.wrap, IntKind.bits, IntKind.signed]; omega
theorem modN {n : Nat} (h : n < 18446744073709551616) : ((n : Int) % 2 ^ IntKind.u64.bits).toNat = n := by simp [IntKind.bits]; omega
theorem shlN {n k : Nat} (hk : k < 64) (h : n * 2 ^ k < 18446744073709551616) : IntKind.u64.wrap ((n : Int) * 2 ^ min k IntKind.u64.bits) = ((n * 2 ^ k : Nat) : Int) := by
  have : min k IntKind.u64.bits = k := by simp [IntKind.bits]; omega
  rw [this, ← wrapN h]
  simp

theorem or2 {a b : Nat} (ha : a < 256) (hb : b < 256) : IntKind.u64.wrap (((IntKind.u64.wrap (IntKind.u64.wrap (a : Int) * 2 ^ min 16 IntKind.u64.bits) % 2 ^ IntKind.u64.bits).toNat ||| (IntKind.u64.wrap (IntKind.u64.wrap (b : Int) * 2 ^ min 8 IntKind.u64.bits) % 2 ^ IntKind.u64.bits).toNat : Nat) : Int) = ((a * 65536 + b * 256 : Nat) : Int) := by
  rw [wrapN (n := a) (by omega), wrapN (n := b) (by omega), shlN (by omega) (by omega), shlN (by omega) (by omega), modN (by omega), modN (by omega)]
  rw [Nat.mul_comm a, ← Nat.two_pow_add_eq_or_of_lt (i := 16) (b := b * 2 ^ 8) (by omega) a, wrapN (by omega)]

theorem or3 {a b c : Nat} (ha : a < 256) (hb : b < 256) (hc : c < 256) : IntKind.u64.wrap (((IntKind.u64.wrap (((IntKind.u64.wrap (IntKind.u64.wrap (a : Int) * 2 ^ min 16 IntKind.u64.bits) % 2 ^ IntKind.u64.bits).toNat ||| (IntKind.u64.wrap (IntKind.u64.wrap (b : Int) * 2 ^ min 8 IntKind.u64.bits) % 2 ^ IntKind.u64.bits).toNat : Nat) : Int) % 2 ^ IntKind.u64.bits).toNat ||| (IntKind.u64.wrap (c : Int) % 2 ^ IntKind.u64.bits).toNat : Nat) : Int) = ((a * 65536 + b * 256 + c : Nat) : Int) := by
  rw [or2 ha hb, wrapN (n := c) (by omega), modN (by omega), modN (by omega)]
  have e : a * 65536 + b * 256 = 2 ^ 8 * (a * 256 + b) := by omega
  rw [e, ← Nat.two_pow_add_eq_or_of_lt (i := 8) (b := c) (by omega) _, wrapN (by omega)]

theorem shrN (n k : Nat) (hk : k < 64) : ((n : Int)).fdiv (2 ^ min k IntKind.u64.bits) = ((n / 2 ^ k : Nat) : Int) := by
  have : min k IntKind.u64.bits = k := by simp [IntKind.bits]; omega
  rw [this]; exact shr_of n k

theorem and63 {k : Nat} (h : k < 16777216) : IntKind.u64.wrap ((k % 2 ^ IntKind.u64.bits &&& 63 % 2 ^ IntKind.u64.bits : Nat) : Int) = ((k % 64 : Nat) : Int) := by
  have e1 : k % 2 ^ IntKind.u64.bits = k := by simp [IntKind.bits]; omega
  have e2 : 63 % 2 ^ IntKind.u64.bits = 2 ^ 6 - 1 := by simp [IntKind.bits]
  rw [e1, e2, Nat.and_two_pow_sub_one_eq_mod, wrapN (by omega)]

theorem ok_zzEncode (Γ : Gam) : ∀ args r, con_zzEncode args = some r → runs Γ c_dkim_zzEncode args (fun v => v = r) := by
  intro args r h
  simp only [con_zzEncode] at h
  split at h <;> (try simp at h; done)
  rename_i cs
  split at h <;> (try simp at h; done)
  rename_i s ho
  obtain ⟨hs, rfl⟩ := ite_some h
  clear h
  have := bytesOf_eq ho
  subst this
  clear ho
  simp only [mid] at hs
  simp -implicitDefEqProofs [c_dkim_zzEncode]
  refine awp_loop2 (σ := List UInt8 × List UInt8) (fun p => ⟨[(0, .sl 1 (bcA p.2)), (3, outV 42 p.1)], outH 42 p.1⟩)
    (fun p => enc64 s = p.1 ++ enc64 p.2 ∧ p.1.length + 4 * p.2.length ≤ 4 * s.length) (fun p => p.2.length) ([], s) (by simp) (by simp) ?_
  rintro ⟨out, rest⟩ ⟨h1, h2⟩ LQ hLQ
  simp only at h1 h2
  match rest, h1, h2, hLQ with
  | a :: b :: c :: r, h1, h2, hLQ =>
    have ha := a.toNat_lt
    have hb := b.toNat_lt
    have hc := c.toNat_lt
    simp at h2
    have hor := or3 ha hb hc
    obtain ⟨n, hn⟩ : ∃ n, n = a.toNat * 65536 + b.toNat * 256 + c.toNat := ⟨_, rfl⟩
    rw [← hn] at hor
    have hn2 : n < 16777216 := by omega
    obtain ⟨k1, hk1, s18⟩ : ∃ k : Nat, k = n / 2 ^ 18 ∧ ((n : Int)).fdiv (2 ^ min 18 IntKind.u64.bits) = (k : Int) := ⟨_, rfl, shrN n 18 (by omega)⟩
    obtain ⟨k2, hk2, s12⟩ : ∃ k : Nat, k = n / 2 ^ 12 ∧ ((n : Int)).fdiv (2 ^ min 12 IntKind.u64.bits) = (k : Int) := ⟨_, rfl, shrN n 12 (by omega)⟩
    obtain ⟨k3, hk3, s6⟩ : ∃ k : Nat, k = n / 2 ^ 6 ∧ ((n : Int)).fdiv (2 ^ min 6 IntKind.u64.bits) = (k : Int) := ⟨_, rfl, shrN n 6 (by omega)⟩
    obtain ⟨m2, hm2, a2⟩ : ∃ k : Nat, k = k2 % 64 ∧ IntKind.u64.wrap ((k2 % 2 ^ IntKind.u64.bits &&& 63 % 2 ^ IntKind.u64.bits : Nat) : Int) = (k : Int) := ⟨_, rfl, and63 (by omega)⟩
    obtain ⟨m3, hm3, a3⟩ : ∃ k : Nat, k = k3 % 64 ∧ IntKind.u64.wrap ((k3 % 2 ^ IntKind.u64.bits &&& 63 % 2 ^ IntKind.u64.bits : Nat) : Int) = (k : Int) := ⟨_, rfl, and63 (by omega)⟩
    obtain ⟨m4, hm4, a4⟩ : ∃ k : Nat, k = n % 64 ∧ IntKind.u64.wrap ((n % 2 ^ IntKind.u64.bits &&& 63 % 2 ^ IntKind.u64.bits : Nat) : Int) = (k : Int) := ⟨_, rfl, and63 (by omega)⟩
    have g1 := get64 (show k1 < 64 by omega)
    have g2 := get64 (show m2 < 64 by omega)
    have g3 := get64 (show m3 < 64 by omega)
    have g4 := get64 (show m4 < 64 by omega)
    have ee : enc64 (a :: b :: c :: r) = [sg k1, sg m2, sg m3, sg m4] ++ enc64 r := by
      simp only [enc64, e3, ← hn, hk1, hm2, hk2, hm3, hk3, hm4]
    rw [ee] at h1
    have fin : ∀ st, norm [0, 3] st = ⟨[(0, .sl 1 (bcA r)), (3, outV 42 (out ++ [sg k1, sg m2, sg m3, sg m4]))], outH 42 (out ++ [sg k1, sg m2, sg m3, sg m4])⟩ → LQ st := by
      intro st hst
      exact hLQ (out ++ [sg k1, sg m2, sg m3, sg m4], r) ⟨by simpa using h1, by simp; omega⟩ (by simp; omega) st hst
    have hlt : (3 : Int) ≤ (r.length : Int) + 1 + 1 + 1 := by omega
    by_cases hd : out = []
    · subst hd
      simp -implicitDefEqProofs [b_dkim_zzEncode_1, hor, s18, s12, s6, lit64, hlt, g1, a2, g2, a3, g3, a4, g4]
      refine fin _ ?_
      simp [outV, outH]
    · have hd4 : out ++ [sg k1, sg m2, sg m3, sg m4] ≠ [] := by simp
      simp -implicitDefEqProofs [b_dkim_zzEncode_1, hor, s18, s12, s6, lit64, hlt, g1, a2, g2, a3, g3, a4, g4, outV_ne hd, outH_ne hd, List.take_of_length_le]
      refine ⟨by omega, fin _ ?_⟩
      simp [outV_ne hd4, outH_ne hd4]
  | [a, b], h1, h2, hLQ =>
    have ha := a.toNat_lt
    have hb := b.toNat_lt
    simp at h2
    have hor := or2 ha hb
    obtain ⟨n, hn⟩ : ∃ n, n = a.toNat * 65536 + b.toNat * 256 := ⟨_, rfl⟩
    rw [← hn] at hor
    have hn2 : n < 16777216 := by omega
    obtain ⟨k1, hk1, s18⟩ : ∃ k : Nat, k = n / 2 ^ 18 ∧ ((n : Int)).fdiv (2 ^ min 18 IntKind.u64.bits) = (k : Int) := ⟨_, rfl, shrN n 18 (by omega)⟩
    obtain ⟨k2, hk2, s12⟩ : ∃ k : Nat, k = n / 2 ^ 12 ∧ ((n : Int)).fdiv (2 ^ min 12 IntKind.u64.bits) = (k : Int) := ⟨_, rfl, shrN n 12 (by omega)⟩
    obtain ⟨k3, hk3, s6⟩ : ∃ k : Nat, k = n / 2 ^ 6 ∧ ((n : Int)).fdiv (2 ^ min 6 IntKind.u64.bits) = (k : Int) := ⟨_, rfl, shrN n 6 (by omega)⟩
    obtain ⟨m2, hm2, a2⟩ : ∃ k : Nat, k = k2 % 64 ∧ IntKind.u64.wrap ((k2 % 2 ^ IntKind.u64.bits &&& 63 % 2 ^ IntKind.u64.bits : Nat) : Int) = (k : Int) := ⟨_, rfl, and63 (by omega)⟩
    obtain ⟨m3, hm3, a3⟩ : ∃ k : Nat, k = k3 % 64 ∧ IntKind.u64.wrap ((k3 % 2 ^ IntKind.u64.bits &&& 63 % 2 ^ IntKind.u64.bits : Nat) : Int) = (k : Int) := ⟨_, rfl, and63 (by omega)⟩
    have g1 := get64 (show k1 < 64 by omega)
    have g2 := get64 (show m2 < 64 by omega)
    have g3 := get64 (show m3 < 64 by omega)
    have ee : enc64 [a, b] = [sg k1, sg m2, sg m3, 61] := by
      simp only [enc64, e2, ← hn, hk1, hm2, hk2, hm3, hk3]
    rw [ee] at h1
    have hbc : bcA (enc64 s) = bcA out ++ [.int .u8 ((sg k1).toNat : Int), .int .u8 ((sg m2).toNat : Int), .int .u8 ((sg m3).toNat : Int), .int .u8 61] := by rw [h1]; simp
    have htb : toBytes (bcA out ++ [.int .u8 ((sg k1).toNat : Int), .int .u8 ((sg m2).toNat : Int), .int .u8 ((sg m3).toNat : Int), .int .u8 61]) = some (enc64 s) := by rw [← hbc]; exact toBytes_bcA
    by_cases hd : out = []
    · subst hd
      simp only [bcA_nil, List.nil_append] at htb
      simp -implicitDefEqProofs [b_dkim_zzEncode_1, t_dkim_zzEncode_2, hor, s18, s12, s6, lit64, g1, a2, g2, a3, g3, htb]
    · simp -implicitDefEqProofs [b_dkim_zzEncode_1, t_dkim_zzEncode_2, hor, s18, s12, s6, lit64, g1, a2, g2, a3, g3, outV_ne hd, outH_ne hd, List.take_of_length_le, htb]
      omega
  | [a], h1, h2, hLQ =>
    have ha := a.toNat_lt
    simp at h2
    obtain ⟨n, hn⟩ : ∃ n, n = a.toNat * 65536 := ⟨_, rfl⟩
    have hor : IntKind.u64.wrap (IntKind.u64.wrap (a.toNat : Int) * 2 ^ min 16 IntKind.u64.bits) = (n : Int) := by
      rw [wrapN (n := a.toNat) (by omega), shlN (by omega) (by omega), hn]
    have hn2 : n < 16777216 := by omega
    obtain ⟨k1, hk1, s18⟩ : ∃ k : Nat, k = n / 2 ^ 18 ∧ ((n : Int)).fdiv (2 ^ min 18 IntKind.u64.bits) = (k : Int) := ⟨_, rfl, shrN n 18 (by omega)⟩
    obtain ⟨k2, hk2, s12⟩ : ∃ k : Nat, k = n / 2 ^ 12 ∧ ((n : Int)).fdiv (2 ^ min 12 IntKind.u64.bits) = (k : Int) := ⟨_, rfl, shrN n 12 (by omega)⟩
    obtain ⟨m2, hm2, a2⟩ : ∃ k : Nat, k = k2 % 64 ∧ IntKind.u64.wrap ((k2 % 2 ^ IntKind.u64.bits &&& 63 % 2 ^ IntKind.u64.bits : Nat) : Int) = (k : Int) := ⟨_, rfl, and63 (by omega)⟩
    have g1 := get64 (show k1 < 64 by omega)
    have g2 := get64 (show m2 < 64 by omega)
    have ee : enc64 [a] = [sg k1, sg m2, 61, 61] := by
      simp only [enc64, e1, ← hn, hk1, hm2, hk2]
    rw [ee] at h1
    have hbc : bcA (enc64 s) = bcA out ++ [.int .u8 ((sg k1).toNat : Int), .int .u8 ((sg m2).toNat : Int), .int .u8 61, .int .u8 61] := by rw [h1]; simp
    have htb : toBytes (bcA out ++ [.int .u8 ((sg k1).toNat : Int), .int .u8 ((sg m2).toNat : Int), .int .u8 61, .int .u8 61]) = some (enc64 s) := by rw [← hbc]; exact toBytes_bcA
    by_cases hd : out = []
    · subst hd
      simp only [bcA_nil, List.nil_append] at htb
      simp -implicitDefEqProofs [b_dkim_zzEncode_1, t_dkim_zzEncode_2, hor, s18, s12, lit64, g1, a2, g2, htb]
    · simp -implicitDefEqProofs [b_dkim_zzEncode_1, t_dkim_zzEncode_2, hor, s18, s12, lit64, g1, a2, g2, outV_ne hd, outH_ne hd, List.take_of_length_le, htb]
      omega
  | [], h1, h2, hLQ =>
    simp only [enc64, List.append_nil] at h1
    subst h1
    by_cases hd : enc64 s = []
    · simp -implicitDefEqProofs [b_dkim_zzEncode_1, t_dkim_zzEncode_2, hd]
    · simp -implicitDefEqProofs [b_dkim_zzEncode_1, t_dkim_zzEncode_2, outV_ne hd, outH_ne hd, List.take_of_length_le]
end Wax

/- FnDRecordBack (2): what is asked of the options; the record of a key. -/
namespace Wax
open Go (IntKind)

def slBytes : AV → Option (List UInt8)
  | .nilS => some []
  | .sl es cs => if es = 1 then bytesOf cs else none
  | _ => none
theorem slBytes_cases {v : AV} {o : List UInt8} (h : slBytes v = some o) : (v = .nilS ∧ o = []) ∨ v = .sl 1 (bcA o) := by
  unfold slBytes at h
  split at h
  · simp at h; exact .inl ⟨rfl, h⟩
  · split at h
    · rename_i he; subst he; rw [bytesOf_eq h]; exact .inr rfl
    · simp at h
  · simp at h
theorem slb_alen {v : AV} {o : List UInt8} (h : slBytes v = some o) (hp : List (Nat × AObj)) : alen hp 1 v = some o.length := by
  rcases slBytes_cases h with ⟨rfl, rfl⟩ | rfl <;> simp
theorem slb_kill {v : AV} {o : List UInt8} (h : slBytes v = some o) (d : Nat) : kill d v = v := by
  rcases slBytes_cases h with ⟨rfl, rfl⟩ | rfl <;> simp
theorem slb_ref {v : AV} {o : List UInt8} (h : slBytes v = some o) : hasRef v = false := by
  rcases slBytes_cases h with ⟨rfl, rfl⟩ | rfl <;> simp
theorem slb_atom {v : AV} {o : List UInt8} (h : slBytes v = some o) : atom v = true := by
  rcases slBytes_cases h with ⟨rfl, rfl⟩ | rfl <;> simp
theorem slb_cells {v : AV} {o : List UInt8} (h : slBytes v = some o) : cells v = [v] := by
  rcases slBytes_cases h with ⟨rfl, rfl⟩ | rfl <;> simp
theorem slb_snap {v : AV} {o : List UInt8} (h : slBytes v = some o) (n : Nat) (hp : List (Nat × AObj)) : snap (n + 1) hp v = v := by
  rcases slBytes_cases h with ⟨rfl, rfl⟩ | rfl <;> simp
theorem slb_refs {v : AV} {o : List UInt8} (h : slBytes v = some o) : refs v = [] := by
  rcases slBytes_cases h with ⟨rfl, rfl⟩ | rfl <;> simp

structure Opts where
  a0 : List UInt8
  a1 : List UInt8
  a2 : List UInt8
  a3 : List UInt8
  key : List UInt8
  a5 : List UInt8
  a6 : List UInt8
  kl : List (List UInt8)
  al : Bool
  ex : Int
  now : Int
  ql : List (List UInt8)

/-- Options as a value. -/
def optsOf : List AV → Option Opts
  | [.agg [.str a0, .str a1, .str a2, .str a3, kb, .str a5, .str a6, ks, .bool al, .int .i64 e, .int .i64 n, q]] => match slBytes kb, slStrs ks, slStrs q with
    | some o, some kl, some ql => some ⟨a0, a1, a2, a3, o, a5, a6, kl, al, e, n, ql⟩
    | _, _, _ => none
  | _ => none

theorem optsOf_eq {args : List AV} {x : Opts} (h : optsOf args = some x) : ∃ kb ks q, args = [.agg [.str x.a0, .str x.a1, .str x.a2, .str x.a3, kb, .str x.a5, .str x.a6, ks, .bool x.al, .int .i64 x.ex, .int .i64 x.now, q]] ∧ slBytes kb = some x.key ∧ slStrs ks = some x.kl ∧ slStrs q = some x.ql := by
  unfold optsOf at h
  split at h
  · split at h
    · rename_i h1 h2 h3
      simp only [Option.some.injEq] at h
      subst h
      exact ⟨_, _, _, rfl, h1, h2, h3⟩
    · simp at h
  · simp at h

def mx : Nat := 9223372036854775808
/-- The options' sizes are such as a machine has. -/
def Opts.sane (x : Opts) : Prop := x.a0.length < mx ∧ x.a1.length < mx ∧ x.a2.length < mx ∧ x.a3.length < mx ∧ x.key.length < mx ∧ x.a5.length < mx ∧ x.a6.length < mx ∧ (x.kl.length < mx ∧ ∀ s ∈ x.kl, s.length < mx) ∧ (x.ql.length < mx ∧ ∀ s ∈ x.ql, s.length < mx)
instance (x : Opts) : Decidable x.sane := by unfold Opts.sane; infer_instance

def Opts.fits (x : Opts) : Bool := decide ((x.a0.length : Int) ≤ 2147483647) && decide ((x.a1.length : Int) ≤ 2147483647) && decide ((x.a2.length : Int) ≤ 2147483647) && decide ((x.a3.length : Int) ≤ 2147483647) && decide ((x.key.length : Int) ≤ 2147483647) && decide ((x.a5.length : Int) ≤ 2147483647) && decide ((x.a6.length : Int) ≤ 2147483647) && fitsB x.kl && fitsB x.ql

def con_zzFits10 (args : List AV) : Option AV := match optsOf args with
  | some x => if x.sane then some (.bool x.fits) else none
  | none => none

set_option maxHeartbeats 8000000 in
set_option maxRecDepth 10000 in
theorem ok_zzFits10 (Γ : Gam) (h32 : Γ.fn 32 = con_zzFits7) : ∀ args r, con_zzFits10 args = some r → runs Γ c_laws_zzFits10 args (fun v => v = r) := by
  intro args r h
  simp only [con_zzFits10] at h
  split at h <;> (try simp at h; done)
  rename_i x hx
  obtain ⟨⟨_, _, _, _, _, _, _, ⟨u1, u2⟩, ⟨w1, w2⟩⟩, rfl⟩ := ite_some h
  obtain ⟨kb, ks, q, rfl, h1, h2, h3⟩ := optsOf_eq hx
  clear h hx
  obtain ⟨a0, a1, a2, a3, o, a5, a6, kl, al, e, n, ql⟩ := x
  simp only at *
  have cb := slb_cells h1
  have ck := slf_cells h2
  have cq := slf_cells h3
  simp only [cells] at cb ck cq
  have as : ∀ (hp : List (Nat × AObj)) (s : List UInt8), alen hp 0 (.str s) = some s.length := fun _ _ => by simp
  have kk : con_zzFits7 [ks] = some (.bool (fitsB kl)) := by simp only [con_zzFits7, h2]; exact if_pos ⟨u1, u2⟩
  have kq : con_zzFits7 [q] = some (.bool (fitsB ql)) := by simp only [con_zzFits7, h3]; exact if_pos ⟨w1, w2⟩
  by_cases l0 : (2147483647 : Int) < (a0.length : Int)
  · have f : Opts.fits ⟨a0, a1, a2, a3, o, a5, a6, kl, al, e, n, ql⟩ = false := by
      have : ¬ (a0.length : Int) ≤ 2147483647 := by omega
      simp only [Opts.fits, decide_eq_false this, Bool.and_false, Bool.false_and]
    rw [f]
    simp -implicitDefEqProofs [-alen, cb, ck, cq, as, slb_kill h1, slf_kill h2, slf_kill h3, slb_atom h1, slf_atom h2, slf_atom h3, slb_ref h1, slf_ref h2, slf_ref h3, slb_alen h1, slf_alen h2, slf_alen h3, slb_snap h1, slf_snap h2, slf_snap h3, c_laws_zzFits10, l0]
  by_cases l1 : (2147483647 : Int) < (a1.length : Int)
  · have f : Opts.fits ⟨a0, a1, a2, a3, o, a5, a6, kl, al, e, n, ql⟩ = false := by
      have : ¬ (a1.length : Int) ≤ 2147483647 := by omega
      simp only [Opts.fits, decide_eq_false this, Bool.and_false, Bool.false_and]
    rw [f]
    simp -implicitDefEqProofs [-alen, cb, ck, cq, as, slb_kill h1, slf_kill h2, slf_kill h3, slb_atom h1, slf_atom h2, slf_atom h3, slb_ref h1, slf_ref h2, slf_ref h3, slb_alen h1, slf_alen h2, slf_alen h3, slb_snap h1, slf_snap h2, slf_snap h3, c_laws_zzFits10, l0, l1]
  by_cases l2 : (2147483647 : Int) < (a2.length : Int)
  · have f : Opts.fits ⟨a0, a1, a2, a3, o, a5, a6, kl, al, e, n, ql⟩ = false := by
      have : ¬ (a2.length : Int) ≤ 2147483647 := by omega
      simp only [Opts.fits, decide_eq_false this, Bool.and_false, Bool.false_and]
    rw [f]
    simp -implicitDefEqProofs [-alen, cb, ck, cq, as, slb_kill h1, slf_kill h2, slf_kill h3, slb_atom h1, slf_atom h2, slf_atom h3, slb_ref h1, slf_ref h2, slf_ref h3, slb_alen h1, slf_alen h2, slf_alen h3, slb_snap h1, slf_snap h2, slf_snap h3, c_laws_zzFits10, l0, l1, l2]
  by_cases l3 : (2147483647 : Int) < (a3.length : Int)
  · have f : Opts.fits ⟨a0, a1, a2, a3, o, a5, a6, kl, al, e, n, ql⟩ = false := by
      have : ¬ (a3.length : Int) ≤ 2147483647 := by omega
      simp only [Opts.fits, decide_eq_false this, Bool.and_false, Bool.false_and]
    rw [f]
    simp -implicitDefEqProofs [-alen, cb, ck, cq, as, slb_kill h1, slf_kill h2, slf_kill h3, slb_atom h1, slf_atom h2, slf_atom h3, slb_ref h1, slf_ref h2, slf_ref h3, slb_alen h1, slf_alen h2, slf_alen h3, slb_snap h1, slf_snap h2, slf_snap h3, c_laws_zzFits10, l0, l1, l2, l3]
  by_cases l4 : (2147483647 : Int) < (o.length : Int)
  · have f : Opts.fits ⟨a0, a1, a2, a3, o, a5, a6, kl, al, e, n, ql⟩ = false := by
      have : ¬ (o.length : Int) ≤ 2147483647 := by omega
      simp only [Opts.fits, decide_eq_false this, Bool.and_false, Bool.false_and]
    rw [f]
    simp -implicitDefEqProofs [-alen, cb, ck, cq, as, slb_kill h1, slf_kill h2, slf_kill h3, slb_atom h1, slf_atom h2, slf_atom h3, slb_ref h1, slf_ref h2, slf_ref h3, slb_alen h1, slf_alen h2, slf_alen h3, slb_snap h1, slf_snap h2, slf_snap h3, c_laws_zzFits10, l0, l1, l2, l3, l4]
  by_cases l5 : (2147483647 : Int) < (a5.length : Int)
  · have f : Opts.fits ⟨a0, a1, a2, a3, o, a5, a6, kl, al, e, n, ql⟩ = false := by
      have : ¬ (a5.length : Int) ≤ 2147483647 := by omega
      simp only [Opts.fits, decide_eq_false this, Bool.and_false, Bool.false_and]
    rw [f]
    simp -implicitDefEqProofs [-alen, cb, ck, cq, as, slb_kill h1, slf_kill h2, slf_kill h3, slb_atom h1, slf_atom h2, slf_atom h3, slb_ref h1, slf_ref h2, slf_ref h3, slb_alen h1, slf_alen h2, slf_alen h3, slb_snap h1, slf_snap h2, slf_snap h3, c_laws_zzFits10, l0, l1, l2, l3, l4, l5]
  by_cases l6 : (2147483647 : Int) < (a6.length : Int)
  · have f : Opts.fits ⟨a0, a1, a2, a3, o, a5, a6, kl, al, e, n, ql⟩ = false := by
      have : ¬ (a6.length : Int) ≤ 2147483647 := by omega
      simp only [Opts.fits, decide_eq_false this, Bool.and_false, Bool.false_and]
    rw [f]
    simp -implicitDefEqProofs [-alen, cb, ck, cq, as, slb_kill h1, slf_kill h2, slf_kill h3, slb_atom h1, slf_atom h2, slf_atom h3, slb_ref h1, slf_ref h2, slf_ref h3, slb_alen h1, slf_alen h2, slf_alen h3, slb_snap h1, slf_snap h2, slf_snap h3, c_laws_zzFits10, l0, l1, l2, l3, l4, l5, l6]
  have f : Opts.fits ⟨a0, a1, a2, a3, o, a5, a6, kl, al, e, n, ql⟩ = (fitsB kl && fitsB ql) := by
    simp only [Opts.fits]
    rw [decide_eq_true (by omega : (a0.length : Int) ≤ 2147483647), decide_eq_true (by omega : (a1.length : Int) ≤ 2147483647), decide_eq_true (by omega : (a2.length : Int) ≤ 2147483647), decide_eq_true (by omega : (a3.length : Int) ≤ 2147483647), decide_eq_true (by omega : (o.length : Int) ≤ 2147483647), decide_eq_true (by omega : (a5.length : Int) ≤ 2147483647), decide_eq_true (by omega : (a6.length : Int) ≤ 2147483647)]
    simp
  rw [f]
  cases f1 : fitsB kl with
  | false =>
    rw [f1] at kk
    simp -implicitDefEqProofs [-alen, cb, ck, cq, as, slb_kill h1, slf_kill h2, slf_kill h3, slb_atom h1, slf_atom h2, slf_atom h3, slb_ref h1, slf_ref h2, slf_ref h3, slb_alen h1, slf_alen h2, slf_alen h3, slb_snap h1, slf_snap h2, slf_snap h3, c_laws_zzFits10, l0, l1, l2, l3, l4, l5, l6, acall, h32, kk]
  | true =>
    rw [f1] at kk
    cases f2 : fitsB ql with
    | false =>
      rw [f2] at kq
      simp -implicitDefEqProofs [-alen, cb, ck, cq, as, slb_kill h1, slf_kill h2, slf_kill h3, slb_atom h1, slf_atom h2, slf_atom h3, slb_ref h1, slf_ref h2, slf_ref h3, slb_alen h1, slf_alen h2, slf_alen h3, slb_snap h1, slf_snap h2, slf_snap h3, c_laws_zzFits10, l0, l1, l2, l3, l4, l5, l6, acall, h32, kk, kq]
    | true =>
      rw [f2] at kq
      simp -implicitDefEqProofs [-alen, cb, ck, cq, as, slb_kill h1, slf_kill h2, slf_kill h3, slb_atom h1, slf_atom h2, slf_atom h3, slb_ref h1, slf_ref h2, slf_ref h3, slb_alen h1, slf_alen h2, slf_alen h3, slb_snap h1, slf_snap h2, slf_snap h3, c_laws_zzFits10, l0, l1, l2, l3, l4, l5, l6, acall, h32, kk, kq]

def Opts.keyed (x : Opts) : Bool := (decide (x.a3 = edB) && decide (x.key.length = 32)) || (decide (x.a3 = rsaB) && decide (128 ≤ x.key.length))
def con_dKeyed (args : List AV) : Option AV := match optsOf args with
  | some x => if x.sane then some (.bool x.keyed) else none
  | none => none

set_option maxHeartbeats 8000000 in
set_option maxRecDepth 10000 in
theorem ok_dKeyed (Γ : Gam) : ∀ args r, con_dKeyed args = some r → runs Γ c_laws_dKeyed args (fun v => v = r) := by
  intro args r h
  simp only [con_dKeyed] at h
  split at h <;> (try simp at h; done)
  rename_i x hx
  obtain ⟨⟨_, _, _, _, _, _, _, _, _⟩, rfl⟩ := ite_some h
  obtain ⟨kb, ks, q, rfl, h1, h2, h3⟩ := optsOf_eq hx
  clear h hx
  obtain ⟨a0, a1, a2, a3, o, a5, a6, kl, al, e, n, ql⟩ := x
  simp only at *
  have cb := slb_cells h1
  have ck := slf_cells h2
  have cq := slf_cells h3
  simp only [cells] at cb ck cq
  have as : ∀ (hp : List (Nat × AObj)) (s : List UInt8), alen hp 0 (.str s) = some s.length := fun _ _ => by simp
  by_cases k1 : a3 = edB
  · subst k1
    have hne : ¬ edB = rsaB := by decide
    have f : Opts.keyed ⟨a0, a1, a2, edB, o, a5, a6, kl, al, e, n, ql⟩ = decide (o.length = 32) := by
      simp only [Opts.keyed, decide_eq_false hne, Bool.false_and, Bool.or_false]; simp
    rw [f]
    by_cases l : o.length = 32
    · have l' : (o.length : Int) = 32 := by omega
      simp -implicitDefEqProofs [-alen, cb, ck, cq, as, slb_kill h1, slf_kill h2, slf_kill h3, slb_atom h1, slf_atom h2, slf_atom h3, slb_ref h1, slf_ref h2, slf_ref h3, slb_alen h1, slf_alen h2, slf_alen h3, slb_snap h1, slf_snap h2, slf_snap h3, c_laws_dKeyed, edB, l', l]
    · have l' : ¬ (o.length : Int) = 32 := by omega
      simp -implicitDefEqProofs [-alen, cb, ck, cq, as, slb_kill h1, slf_kill h2, slf_kill h3, slb_atom h1, slf_atom h2, slf_atom h3, slb_ref h1, slf_ref h2, slf_ref h3, slb_alen h1, slf_alen h2, slf_alen h3, slb_snap h1, slf_snap h2, slf_snap h3, c_laws_dKeyed, edB, l', l]
  · by_cases k2 : a3 = rsaB
    · subst k2
      have f : Opts.keyed ⟨a0, a1, a2, rsaB, o, a5, a6, kl, al, e, n, ql⟩ = decide (128 ≤ o.length) := by
        simp only [Opts.keyed, decide_eq_false k1, Bool.false_and, Bool.false_or]; simp
      rw [f]
      by_cases l : 128 ≤ o.length
      · have l' : (128 : Int) ≤ (o.length : Int) := by omega
        simp -implicitDefEqProofs [-alen, cb, ck, cq, as, slb_kill h1, slf_kill h2, slf_kill h3, slb_atom h1, slf_atom h2, slf_atom h3, slb_ref h1, slf_ref h2, slf_ref h3, slb_alen h1, slf_alen h2, slf_alen h3, slb_snap h1, slf_snap h2, slf_snap h3, c_laws_dKeyed, rsaB, l', l]
      · have l' : ¬ (128 : Int) ≤ (o.length : Int) := by omega
        simp -implicitDefEqProofs [-alen, cb, ck, cq, as, slb_kill h1, slf_kill h2, slf_kill h3, slb_atom h1, slf_atom h2, slf_atom h3, slb_ref h1, slf_ref h2, slf_ref h3, slb_alen h1, slf_alen h2, slf_alen h3, slb_snap h1, slf_snap h2, slf_snap h3, c_laws_dKeyed, rsaB, l', l]
    · have f : Opts.keyed ⟨a0, a1, a2, a3, o, a5, a6, kl, al, e, n, ql⟩ = false := by
        simp only [Opts.keyed, decide_eq_false k1, decide_eq_false k2, Bool.false_and, Bool.or_false]
      rw [f]
      simp only [rsaB, edB] at k1 k2
      simp -implicitDefEqProofs [-alen, cb, ck, cq, as, slb_kill h1, slf_kill h2, slf_kill h3, slb_atom h1, slf_atom h2, slf_atom h3, slb_ref h1, slf_ref h2, slf_ref h3, slb_alen h1, slf_alen h2, slf_alen h3, slb_snap h1, slf_snap h2, slf_snap h3, c_laws_dKeyed, k1, k2]
end Wax

/- FnDRecordBack (3): which options are looked at. -/
namespace Wax
open Go (IntKind)

def Opts.six (x : Opts) : List (List UInt8) := [x.a0, x.a1, x.a2, x.a3, x.a5, x.a6]
def Opts.good (x : Opts) : Bool := dShort 200 x.six && dShort 200 x.kl && dShort 200 x.ql && decide ((x.kl.length : Int) ≤ 20) && decide ((x.ql.length : Int) ≤ 20) && decide ((x.key.length : Int) ≤ 1000) && decide (0 ≤ x.now) && decide (x.now < 8589934592) && decide (-8589934592 < x.ex) && decide (x.ex < 8589934592)

theorem fits_spec {x : Opts} (h : x.fits = true) : (∀ s ∈ x.six, s.length < big) ∧ (x.kl.length < big ∧ ∀ s ∈ x.kl, s.length < big) ∧ (x.ql.length < big ∧ ∀ s ∈ x.ql, s.length < big) ∧ x.key.length ≤ 2147483647 := by
  simp only [Opts.fits, fitsB, Bool.and_eq_true, decide_eq_true_eq, List.all_eq_true] at h
  obtain ⟨⟨⟨⟨⟨⟨⟨⟨c0, c1⟩, c2⟩, c3⟩, c4⟩, c5⟩, c6⟩, d1, d2⟩, d3, d4⟩ := h
  simp only [big]
  refine ⟨?_, ⟨by omega, fun s hs => by have := d2 s hs; omega⟩, ⟨by omega, fun s hs => by have := d4 s hs; omega⟩, by omega⟩
  intro s hs
  simp only [Opts.six, List.mem_cons, List.not_mem_nil, or_false] at hs
  rcases hs with rfl | rfl | rfl | rfl | rfl | rfl <;> omega

def con_dOptions (args : List AV) : Option AV := match optsOf args with
  | some x => if x.fits = true then some (.bool x.good) else none
  | none => none

set_option maxHeartbeats 16000000 in
set_option maxRecDepth 10000 in
theorem ok_dOptions (Γ : Gam) (h10 : Γ.fn 10 = con_dShort) : ∀ args r, con_dOptions args = some r → runs Γ c_laws_dOptions args (fun v => v = r) := by
  intro args r h
  simp only [con_dOptions] at h
  split at h <;> (try simp at h; done)
  rename_i x hx
  obtain ⟨hf, rfl⟩ := ite_some h
  obtain ⟨kb, ks, q, rfl, h1, h2, h3⟩ := optsOf_eq hx
  clear h hx
  obtain ⟨a0, a1, a2, a3, o, a5, a6, kl, al, e, n, ql⟩ := x
  simp only at *
  have cb := slb_cells h1
  have ck := slf_cells h2
  have cq := slf_cells h3
  simp only [cells] at cb ck cq
  have as : ∀ (hp : List (Nat × AObj)) (s : List UInt8), alen hp 0 (.str s) = some s.length := fun _ _ => by simp
  obtain ⟨f1, f2, f3, f4⟩ := fits_spec hf
  clear hf
  simp only [Opts.six] at f1 f2 f3 f4
  have k1 : con_dShort [.int .i64 200, .sl 1 [.str a0, .str a1, .str a2, .str a3, .str a5, .str a6]] = some (.bool (dShort 200 [a0, a1, a2, a3, a5, a6])) := by
    have : slStrs (.sl 1 [.str a0, .str a1, .str a2, .str a3, .str a5, .str a6]) = some [a0, a1, a2, a3, a5, a6] := by simp [slStrs, asStrs]
    simp only [con_dShort, this]
    exact if_pos ⟨by simp [big], f1⟩
  have k2 : con_dShort [.int .i64 200, ks] = some (.bool (dShort 200 kl)) := by simp only [con_dShort, h2]; exact if_pos f2
  have k3 : con_dShort [.int .i64 200, q] = some (.bool (dShort 200 ql)) := by simp only [con_dShort, h3]; exact if_pos f3
  simp only [Opts.good, Opts.six]
  generalize dShort 200 [a0, a1, a2, a3, a5, a6] = b1 at *
  generalize dShort 200 kl = b2 at *
  generalize dShort 200 ql = b3 at *
  cases b1 with
  | false => simp -implicitDefEqProofs [-alen, cb, ck, cq, as, slb_kill h1, slf_kill h2, slf_kill h3, slb_atom h1, slf_atom h2, slf_atom h3, slb_ref h1, slf_ref h2, slf_ref h3, slb_alen h1, slf_alen h2, slf_alen h3, slb_snap h1, slf_snap h2, slf_snap h3, slb_refs h1, slf_refs h2, slf_refs h3, c_laws_dOptions, acall, h10, k1, k2, k3]
  | true =>
    cases b2 with
    | false => simp -implicitDefEqProofs [-alen, cb, ck, cq, as, slb_kill h1, slf_kill h2, slf_kill h3, slb_atom h1, slf_atom h2, slf_atom h3, slb_ref h1, slf_ref h2, slf_ref h3, slb_alen h1, slf_alen h2, slf_alen h3, slb_snap h1, slf_snap h2, slf_snap h3, slb_refs h1, slf_refs h2, slf_refs h3, c_laws_dOptions, acall, h10, k1, k2, k3]
    | true =>
      cases b3 with
      | false => simp -implicitDefEqProofs [-alen, cb, ck, cq, as, slb_kill h1, slf_kill h2, slf_kill h3, slb_atom h1, slf_atom h2, slf_atom h3, slb_ref h1, slf_ref h2, slf_ref h3, slb_alen h1, slf_alen h2, slf_alen h3, slb_snap h1, slf_snap h2, slf_snap h3, slb_refs h1, slf_refs h2, slf_refs h3, c_laws_dOptions, acall, h10, k1, k2, k3]
      | true =>
        by_cases l4 : (kl.length : Int) ≤ 20
        rotate_left
        · simp -implicitDefEqProofs [-alen, cb, ck, cq, as, slb_kill h1, slf_kill h2, slf_kill h3, slb_atom h1, slf_atom h2, slf_atom h3, slb_ref h1, slf_ref h2, slf_ref h3, slb_alen h1, slf_alen h2, slf_alen h3, slb_snap h1, slf_snap h2, slf_snap h3, slb_refs h1, slf_refs h2, slf_refs h3, c_laws_dOptions, acall, h10, k1, k2, k3, l4]
        by_cases l5 : (ql.length : Int) ≤ 20
        rotate_left
        · simp -implicitDefEqProofs [-alen, cb, ck, cq, as, slb_kill h1, slf_kill h2, slf_kill h3, slb_atom h1, slf_atom h2, slf_atom h3, slb_ref h1, slf_ref h2, slf_ref h3, slb_alen h1, slf_alen h2, slf_alen h3, slb_snap h1, slf_snap h2, slf_snap h3, slb_refs h1, slf_refs h2, slf_refs h3, c_laws_dOptions, acall, h10, k1, k2, k3, l4, l5]
        by_cases l6 : (o.length : Int) ≤ 1000
        rotate_left
        · simp -implicitDefEqProofs [-alen, cb, ck, cq, as, slb_kill h1, slf_kill h2, slf_kill h3, slb_atom h1, slf_atom h2, slf_atom h3, slb_ref h1, slf_ref h2, slf_ref h3, slb_alen h1, slf_alen h2, slf_alen h3, slb_snap h1, slf_snap h2, slf_snap h3, slb_refs h1, slf_refs h2, slf_refs h3, c_laws_dOptions, acall, h10, k1, k2, k3, l4, l5, l6]
        by_cases l7 : (0 : Int) ≤ n
        rotate_left
        · simp -implicitDefEqProofs [-alen, cb, ck, cq, as, slb_kill h1, slf_kill h2, slf_kill h3, slb_atom h1, slf_atom h2, slf_atom h3, slb_ref h1, slf_ref h2, slf_ref h3, slb_alen h1, slf_alen h2, slf_alen h3, slb_snap h1, slf_snap h2, slf_snap h3, slb_refs h1, slf_refs h2, slf_refs h3, c_laws_dOptions, acall, h10, k1, k2, k3, l4, l5, l6, l7]
        by_cases l8 : n < 8589934592
        rotate_left
        · simp -implicitDefEqProofs [-alen, cb, ck, cq, as, slb_kill h1, slf_kill h2, slf_kill h3, slb_atom h1, slf_atom h2, slf_atom h3, slb_ref h1, slf_ref h2, slf_ref h3, slb_alen h1, slf_alen h2, slf_alen h3, slb_snap h1, slf_snap h2, slf_snap h3, slb_refs h1, slf_refs h2, slf_refs h3, c_laws_dOptions, acall, h10, k1, k2, k3, l4, l5, l6, l7, l8]
        by_cases l9 : -8589934592 < e
        rotate_left
        · simp -implicitDefEqProofs [-alen, cb, ck, cq, as, slb_kill h1, slf_kill h2, slf_kill h3, slb_atom h1, slf_atom h2, slf_atom h3, slb_ref h1, slf_ref h2, slf_ref h3, slb_alen h1, slf_alen h2, slf_alen h3, slb_snap h1, slf_snap h2, slf_snap h3, slb_refs h1, slf_refs h2, slf_refs h3, c_laws_dOptions, acall, h10, k1, k2, k3, l4, l5, l6, l7, l8, l9]
        by_cases l10 : e < 8589934592
        rotate_left
        · simp -implicitDefEqProofs [-alen, cb, ck, cq, as, slb_kill h1, slf_kill h2, slf_kill h3, slb_atom h1, slf_atom h2, slf_atom h3, slb_ref h1, slf_ref h2, slf_ref h3, slb_alen h1, slf_alen h2, slf_alen h3, slb_snap h1, slf_snap h2, slf_snap h3, slb_refs h1, slf_refs h2, slf_refs h3, c_laws_dOptions, acall, h10, k1, k2, k3, l4, l5, l6, l7, l8, l9, l10]
        simp -implicitDefEqProofs [-alen, cb, ck, cq, as, slb_kill h1, slf_kill h2, slf_kill h3, slb_atom h1, slf_atom h2, slf_atom h3, slb_ref h1, slf_ref h2, slf_ref h3, slb_alen h1, slf_alen h2, slf_alen h3, slb_snap h1, slf_snap h2, slf_snap h3, slb_refs h1, slf_refs h2, slf_refs h3, c_laws_dOptions, acall, h10, k1, k2, k3, l4, l5, l6, l7, l8, l9, l10]
end Wax

