/- The machine by which the functions are read, and what is proved of them (part 7): no premise. -/
import Derived.WideShapes
import Derived.SliceStrings
import Derived.OpenShut
import Derived.Lib.LaidTab
import Derived.Deep.SlicePairs
import Derived.ChangeArms
import Derived.Lib.SmallJoins
import Derived.Laws.OwnMore
import Derived.Maps.Own
import Derived.Sort.KeysCollected
import Derived.ChangeSlices
import Derived.Test.YtbalogmjickeaaaGreatDoorWf
set_option linter.all false
namespace Wax
open Go (IntKind)

@[simp] theorem slP_none : slP none = .nilS := rfl
def con_AValues : List AV → Option AV
  | [] => some (.sl 1 (strsA aVals))
  | _ => none
theorem ok_AValues (Γ : Gam) : ∀ args r, con_AValues args = some r → runs Γ c_spec_AValues args (fun v => v = r) := by
  intro args r h
  cases args <;> simp [con_AValues] at h
  subst h
  simp -implicitDefEqProofs [c_spec_AValues, aVals, snap, resolveA]
def con_AMethods : List AV → Option AV
  | [] => some (.sl 1 (strsA aMeths))
  | _ => none
theorem ok_AMethods (Γ : Gam) : ∀ args r, con_AMethods args = some r → runs Γ c_spec_AMethods args (fun v => v = r) := by
  intro args r h
  cases args <;> simp [con_AMethods] at h
  subst h
  simp -implicitDefEqProofs [c_spec_AMethods, aMeths, sAuth, sDkim, sDomk, sIprev, sSender, sSpf, sDmarc, sArc, snap, resolveA]
def con_ASpace : List AV → Option AV
  | [.int .u8 n] => if 0 ≤ n ∧ n < 256 then some (.str (aSp n.toNat)) else none
  | _ => none
theorem ok_ASpace (Γ : Gam) : ∀ args r, con_ASpace args = some r → runs Γ c_spec_ASpace args (fun v => v = r) := by
  intro args r h
  simp only [con_ASpace] at h
  split at h <;> (try simp at h; done)
  rename_i n
  obtain ⟨⟨h0, hn⟩, rfl⟩ := ite_some h
  clear h
  obtain ⟨m, rfl⟩ : ∃ m : Nat, n = (m : Int) := ⟨n.toNat, by omega⟩
  obtain ⟨q, e, hlt, hq⟩ : ∃ q : Nat, (m : Int).tmod 6 = (q : Int) ∧ q < 6 ∧ m % 6 = q := ⟨m % 6, by rw [Int.tmod_eq_emod_of_nonneg (by omega)]; rfl, Nat.mod_lt _ (by omega), rfl⟩
  simp only [aSp, Int.toNat_natCast, hq]
  simp -implicitDefEqProofs [c_spec_ASpace, e]
  clear e hq
  match q, hlt with
  | 0, _ => simp
  | 1, _ => simp
  | 2, _ => simp
  | 3, _ => simp
  | 4, _ => simp
  | 5, _ => simp

def con_APlain : List AV → Option AV
  | [.str s] => if s.length < mid then some (.bool (aPlain s)) else none
  | _ => none
theorem ok_APlain (Γ : Gam) (h102 : Γ.fn 102 = con_MailHalves) (h104 : Γ.fn 104 = con_MailToken) (h105 : Γ.fn 105 = con_MailDomain) : ∀ args r, con_APlain args = some r → runs Γ c_spec_APlain args (fun v => v = r) := by
  intro args r h
  simp only [con_APlain] at h
  split at h <;> (try simp at h; done)
  rename_i s
  obtain ⟨hs, rfl⟩ := ite_some h
  clear h
  have hs' : s.length < big := by simp only [mid] at hs; simp only [big]; omega
  have k102 : con_MailHalves [.str s, .int .u8 64] = some (cutV 64 s) := if_pos hs'
  have hI : decide ((s.length : Int) ≤ 200) = decide (s.length ≤ 200) := by rw [decide_eq_decide]; omega
  cases hc : cutAt 64 s with
  | none =>
    have k104 : con_MailToken [.str s] = some (.bool (mTok s)) := if_pos hs'
    simp only [aPlain, hc]
    cases ht : mTok s with
    | false =>
      rw [ht] at k104
      simp -implicitDefEqProofs [c_spec_APlain, acall, h102, k102, cutV, hc, h104, k104]
    | true =>
      rw [ht] at k104
      simp -implicitDefEqProofs [c_spec_APlain, acall, h102, k102, cutV, hc, h104, k104, hI]
  | some p =>
    obtain ⟨l1, l2⟩ := cutAt_lens hc
    have k104 : con_MailToken [.str p.1] = some (.bool (mTok p.1)) := if_pos (by omega)
    have k105 : con_MailDomain [.str p.2] = some (.bool (mDom p.2)) := if_pos (by omega)
    simp only [aPlain, hc]
    by_cases hp : p.1 = []
    · cases hd : mDom p.2 with
      | false =>
        rw [hd] at k105
        simp -implicitDefEqProofs [c_spec_APlain, acall, h102, k102, cutV, hc, h104, k104, h105, k105, hp]
      | true =>
        rw [hd] at k105
        simp -implicitDefEqProofs [c_spec_APlain, acall, h102, k102, cutV, hc, h104, k104, h105, k105, hp, hI]
    · cases ht : mTok p.1 with
      | false =>
        rw [ht] at k104
        simp -implicitDefEqProofs [c_spec_APlain, acall, h102, k102, cutV, hc, h104, k104, h105, k105, hp]
      | true =>
        rw [ht] at k104
        cases hd : mDom p.2 with
        | false =>
          rw [hd] at k105
          simp -implicitDefEqProofs [c_spec_APlain, acall, h102, k102, cutV, hc, h104, k104, h105, k105, hp]
        | true =>
          rw [hd] at k105
          simp -implicitDefEqProofs [c_spec_APlain, acall, h102, k102, cutV, hc, h104, k104, h105, k105, hp, hI]

/-- Rows of three texts. -/
def tr3 (l : List (L8 × L8 × L8)) : List AV := l.map fun p => .agg [.str p.1, .str p.2.1, .str p.2.2]
def tc3 (l : List (L8 × L8 × L8)) : List AV := l.flatMap fun p => [.str p.1, .str p.2.1, .str p.2.2]
@[simp] theorem tr3_nil : tr3 [] = [] := rfl
@[simp] theorem tr3_cons {x l} : tr3 (x :: l) = .agg [.str x.1, .str x.2.1, .str x.2.2] :: tr3 l := rfl
@[simp] theorem tr3_length {l} : (tr3 l).length = l.length := by simp [tr3]
@[simp] theorem tc3_nil : tc3 [] = [] := rfl
@[simp] theorem tc3_cons {x : L8 × L8 × L8} {l} : tc3 (x :: l) = .str x.1 :: .str x.2.1 :: .str x.2.2 :: tc3 l := rfl
@[simp] theorem tc3_app {l m} : tc3 (l ++ m) = tc3 l ++ tc3 m := by simp [tc3]
@[simp] theorem tc3_length {l : List (L8 × L8 × L8)} : (tc3 l).length = l.length * 3 := by induction l <;> simp_all; omega
@[simp] theorem atoms_tc3 {l} : atoms (tc3 l) = true := by induction l <;> simp_all
@[simp] theorem killL_tc3 {d l} : killL d (tc3 l) = tc3 l := by induction l <;> simp_all
@[simp] theorem map_snap_tc3 {n : Nat} {hp : List (Nat × AObj)} {l} : (tc3 l).map (snap (n + 1) hp) = tc3 l := by induction l <;> simp_all
@[simp] theorem snapWL_tc3 {g : AV → AV} {l} : snapWL g (tc3 l) = tc3 l := by induction l <;> simp_all
@[simp] theorem hasRefL_tr3 {l} : hasRefL (tr3 l) = false := by induction l <;> simp_all
@[simp] theorem group_tc3 : ∀ {l : List (L8 × L8 × L8)}, group 3 l.length (tc3 l) = tr3 l
  | [] => rfl
  | x :: l => by simp [group, group_tc3 (l := l)]
def tripV (l : List (L8 × L8 × L8)) : AV := match l with | [] => .nilS | _ => .sl 3 (tr3 l)

def con_AProps : List AV → Option AV
  | [.agg cs] => (asAR cs).map fun r => tripV r.props
  | _ => none
set_option maxHeartbeats 1000000 in
theorem ok_AProps (Γ : Gam) : ∀ args r, con_AProps args = some r → runs Γ c_spec_AProps args (fun v => v = r) := by
  intro args r h
  simp only [con_AProps] at h
  split at h <;> (try simp at h; done)
  rename_i cs
  simp only [Option.map_eq_some_iff] at h
  obtain ⟨r, hr, rfl⟩ := h
  rw [asAR_spec hr]
  have cu := slP_cells r.ps
  simp only [cells] at cu
  by_cases h1 : r.kind = 1
  · simp -implicitDefEqProofs [c_spec_AProps, AR.cells, cu, h1, AR.props, tripV, group, tSmtp, nAuth]
  by_cases h2 : r.kind = 2
  · simp -implicitDefEqProofs [c_spec_AProps, AR.cells, cu, h2, AR.props, tripV, group, tHeader, nD, nI]
  by_cases h3 : r.kind = 3
  · simp -implicitDefEqProofs [c_spec_AProps, AR.cells, cu, h3, AR.props, tripV, group, tHeader, nD, nFrom, nSender]
  by_cases h4 : r.kind = 4
  · simp -implicitDefEqProofs [c_spec_AProps, AR.cells, cu, h4, AR.props, tripV, group, tPolicy, nIprev]
  by_cases h5 : r.kind = 5
  · simp -implicitDefEqProofs [c_spec_AProps, AR.cells, cu, h5, AR.props, tripV, group, tHeader]
  by_cases h6 : r.kind = 6
  · simp -implicitDefEqProofs [c_spec_AProps, AR.cells, cu, h6, AR.props, tripV, group, tSmtp, nMail, nHelo]
  by_cases h7 : r.kind = 7
  · simp -implicitDefEqProofs [c_spec_AProps, AR.cells, cu, h7, AR.props, tripV, group, tHeader, nFrom]
  simp -implicitDefEqProofs [c_spec_AProps, AR.cells, cu, h1, h2, h3, h4, h5, h6, h7, AR.props, tripV, group]

def con_AOnly : List AV → Option AV
  | [.agg cs] => (asAR cs).map fun r => .agg r.only.cells
  | _ => none
set_option maxHeartbeats 2000000 in
theorem ok_AOnly (Γ : Gam) : ∀ args r, con_AOnly args = some r → runs Γ c_spec_AOnly args (fun v => v = r) := by
  intro args r h
  simp only [con_AOnly] at h
  split at h <;> (try simp at h; done)
  rename_i cs
  simp only [Option.map_eq_some_iff] at h
  obtain ⟨r, hr, rfl⟩ := h
  rw [asAR_spec hr]
  have cu := slP_cells r.ps
  simp only [cells] at cu
  by_cases h0 : r.kind = 0
  · simp -implicitDefEqProofs [c_spec_AOnly, AR.cells, cu, h0, AR.only, ar0]
  by_cases h1 : r.kind = 1
  · simp -implicitDefEqProofs [c_spec_AOnly, AR.cells, cu, h1, AR.only, ar0]
  by_cases h2 : r.kind = 2
  · simp -implicitDefEqProofs [c_spec_AOnly, AR.cells, cu, h2, AR.only, ar0]
  by_cases h3 : r.kind = 3
  · simp -implicitDefEqProofs [c_spec_AOnly, AR.cells, cu, h3, AR.only, ar0]
  by_cases h4 : r.kind = 4
  · simp -implicitDefEqProofs [c_spec_AOnly, AR.cells, cu, h4, AR.only, ar0]
  by_cases h5 : r.kind = 5
  · simp -implicitDefEqProofs [c_spec_AOnly, AR.cells, cu, h5, AR.only, ar0]
  by_cases h6 : r.kind = 6
  · simp -implicitDefEqProofs [c_spec_AOnly, AR.cells, cu, h6, AR.only, ar0]
  by_cases h7 : r.kind = 7
  · simp -implicitDefEqProofs [c_spec_AOnly, AR.cells, cu, h7, AR.only, ar0]
  simp -implicitDefEqProofs [c_spec_AOnly, AR.cells, cu, h0, h1, h2, h3, h4, h5, h6, h7, AR.only, ar0]
end Wax


namespace Wax
open Go (IntKind)

def halfP (s : L8) : L8 × L8 := match cutAt 46 s with | some q => q | none => (s, [])
def AR.iprops (r : AR) : List (L8 × L8 × L8) := if r.kind = 0 then (r.ps.getD []).map fun p => ((halfP p.1).1, (halfP p.1).2, p.2) else r.props
def infoV (r : AR) : AV := .agg [.str r.meth, .str [], .str r.value, .str r.reason, tripV r.iprops]
def con_AInfoOf : List AV → Option AV
  | [.agg cs] => match asAR cs with
    | some r => if 0 ≤ r.kind ∧ r.kind ≤ 8 ∧ (r.kind = 0 → (r.ps.getD []).length < half ∧ (∀ p ∈ r.ps.getD [], p.1.length < big)) then some (infoV r) else none
    | none => none
  | _ => none

theorem tripV_ref (l : List (L8 × L8 × L8)) : hasRef (tripV l) = false := by cases l <;> simp [tripV, ← tr3_cons, -tr3_cons]
theorem tripV_cells (l : List (L8 × L8 × L8)) : cells (tripV l) = [tripV l] := by cases l <;> rfl
theorem tripV_atom (l : List (L8 × L8 × L8)) : atom (tripV l) = true := by cases l <;> rfl
theorem tripV_kill (l : List (L8 × L8 × L8)) (d : Nat) : kill d (tripV l) = tripV l := by cases l <;> rfl

set_option maxHeartbeats 2000000 in
theorem ok_AInfoOf (Γ : Gam) (h200 : Γ.fn 200 = con_AMethods) (h201 : Γ.fn 201 = con_AProps) (h102 : Γ.fn 102 = con_MailHalves) : ∀ args r, con_AInfoOf args = some r → runs Γ c_spec_AInfoOf args (fun v => v = r) := by
  intro args r h
  simp only [con_AInfoOf] at h
  split at h <;> (try simp at h; done)
  rename_i cs
  split at h <;> (try simp at h; done)
  rename_i r hr
  obtain ⟨⟨hk0, hk8, hpk⟩, rfl⟩ := ite_some h
  clear h
  rw [asAR_spec hr]
  clear hr cs
  have cu := slP_cells r.ps
  simp only [cells] at cu
  by_cases h0 : r.kind = 0
  · obtain ⟨hps, hkl⟩ := hpk h0
    clear hpk
    have hm : r.meth = r.method := by simp only [AR.meth, h0, if_true]
    have hi : r.iprops = (r.ps.getD []).map fun p => ((halfP p.1).1, (halfP p.1).2, p.2) := by simp only [AR.iprops, h0, if_true]
    have ha := slP_alen r.ps
    simp only [infoV, hm, hi]
    have hcase : r.ps.getD [] = [] ∨ r.ps = some (r.ps.getD []) := by cases r.ps <;> simp
    generalize hL : r.ps.getD [] = L at *
    simp only [half] at hps
    simp -implicitDefEqProofs [-alen, c_spec_AInfoOf, AR.cells, cu, h0, ha, hL]
    refine awp_loop2 (σ := List KVp × List KVp) (fun q => ⟨[(2, .ref 2 0), (3, .ref 3 0), (20, slP r.ps), (21, .int .i64 L.length), (22, .int .i64 q.1.length)], grH 41 q.1.length (tc3 (q.1.map fun p => ((halfP p.1).1, (halfP p.1).2, p.2))) ++ [(3, .cells [.str r.method, .str [], .str r.value, .str r.reason, grV 41 3 q.1.length]), (2, .cells [.str [], .str [], .str [], .str [], .nilS])]⟩)
      (fun q => L = q.1 ++ q.2) (fun q => q.2.length) ([], L) (by simp) (by simp) ?_
    rintro ⟨pre, post⟩ e1 LQ hLQ
    simp only at e1
    cases post with
    | nil =>
      simp only [List.append_nil] at e1
      subst e1
      have hnl : ¬ ((L.length : Int) < (L.length : Int)) := by omega
      cases L with
      | nil => simp -implicitDefEqProofs [b_spec_AInfoOf_1, t_spec_AInfoOf_2, tripV]
      | cons x L =>
        have hg := group_tc3 (l := (x :: L).map fun p => ((halfP p.1).1, (halfP p.1).2, p.2))
        simp only [List.length_map, List.length_cons, List.map_cons, tc3_cons, tr3_cons] at hg
        simp -implicitDefEqProofs [b_spec_AInfoOf_1, t_spec_AInfoOf_2, tripV, hg]
        try omega
    | cons x post =>
      have hs := hcase.resolve_left (by rw [e1]; simp)
      rw [hs] at hLQ ⊢
      simp only [slP] at hLQ ⊢
      have hlen : L.length = pre.length + (post.length + 1) := by rw [e1]; simp
      have hlt : (pre.length : Int) < (L.length : Int) := by omega
      have g : L[pre.length]? = some x := by rw [e1]; exact get_mid rfl
      have g2 : (pr2 L)[pre.length]? = some (.agg [.str x.1, .str x.2]) := by simp [pr2, g]
      have ew : IntKind.i64.wrap ((pre.length : Int) + 1) = (pre.length : Int) + 1 := wrap64 (by omega) (by omega)
      have k102 : con_MailHalves [.str x.1, .int .u8 46] = some (cutV 46 x.1) := if_pos (hkl x (by rw [e1]; simp))
      obtain ⟨z, hz⟩ : ∃ z : L8 × L8 × AV, cutV 46 x.1 = .tup [.str z.1, .str z.2.1, z.2.2] ∧ halfP x.1 = (z.1, z.2.1) := by
        simp only [cutV, halfP]
        cases hc : cutAt 46 x.1 with
        | none => exact ⟨(x.1, [], .bool false), rfl, rfl⟩
        | some q => exact ⟨(q.1, q.2, .bool true), rfl, rfl⟩
      rw [hz.1] at k102
      have hz3 : hasRef z.2.2 = false := by
        have h1 := hz.1
        simp only [cutV] at h1
        cases hc : cutAt 46 x.1 with
        | none => rw [hc] at h1; simp at h1; rw [← h1.2.2]; rfl
        | some q => rw [hc] at h1; simp at h1; rw [← h1.2.2]; rfl
      have f : ∀ st, norm [2, 3, 20, 21, 22] st = ⟨[(2, .ref 2 0), (3, .ref 3 0), (20, .sl 2 (pr2 L)), (21, .int .i64 L.length), (22, .int .i64 ((pre.length : Int) + 1))], [(41, .cells (tc3 (pre.map fun p => ((halfP p.1).1, (halfP p.1).2, p.2)) ++ [.str z.1, .str z.2.1, .str x.2])), (3, .cells [.str r.method, .str [], .str r.value, .str r.reason, .msl 41 3 0 (pre.length + 1)]), (2, .cells [.str [], .str [], .str [], .str [], .nilS])]⟩ → LQ st := by
        intro st hst
        refine hLQ (pre ++ [x], post) (by rw [e1]; simp) (by simp) st ?_
        rw [hst]; simp [hz.2]
      cases pre with
      | nil =>
        simp only [List.nil_append] at e1
        subst e1
        have ew0 : IntKind.i64.wrap 1 = 1 := rfl
        have hl0 : (0 : Int) < (post.length : Int) + 1 := by omega
        simp -implicitDefEqProofs [b_spec_AInfoOf_1, hl0, ew0, acall, h102, k102, hz3]
        exact f _ (by simp)
      | cons y pre =>
        have hln2 : L.length = pre.length + 1 + (post.length + 1) := hlen
        have hlt1 : (pre.length : Int) + 1 < (L.length : Int) := by omega
        have g1 : L[pre.length + 1]? = some x := g
        have g3 : (pr2 L)[pre.length + 1]? = some (.agg [.str x.1, .str x.2]) := g2
        have ew1 : IntKind.i64.wrap ((pre.length : Int) + 1 + 1) = (pre.length : Int) + 1 + 1 := wrap64 (by omega) (by omega)
        have et : ((pre.length : Int) + 1).toNat = pre.length + 1 := by omega
        have hle : (0 : Int) ≤ (pre.length : Int) + 1 := by omega
        have tk : List.take ((pre.length + 1) * 3) (AV.str (halfP y.1).1 :: AV.str (halfP y.1).2 :: AV.str y.2 :: tc3 (pre.map fun p => ((halfP p.1).1, (halfP p.1).2, p.2))) = AV.str (halfP y.1).1 :: AV.str (halfP y.1).2 :: AV.str y.2 :: tc3 (pre.map fun p => ((halfP p.1).1, (halfP p.1).2, p.2)) := List.take_of_length_le (by simp; omega)
        simp -implicitDefEqProofs [b_spec_AInfoOf_1, hlt1, g1, g3, ew1, et, hle, acall, h102, k102, hz3, tk]
        exact ⟨⟨by omega, by omega⟩, f _ (by simp)⟩
  · have hi : r.iprops = r.props := by simp only [AR.iprops, if_neg h0]
    obtain ⟨q, hq, hqm⟩ : ∃ q : Nat, r.kind - 1 = (q : Int) ∧ aMeths[q]? = some r.meth := by
      refine ⟨(r.kind - 1).toNat, by omega, ?_⟩
      have hlt : (r.kind - 1).toNat < aMeths.length := by simp [aMeths]; omega
      simp only [AR.meth, if_neg h0, List.getD_eq_getElem?_getD, List.getElem?_eq_getElem hlt, Option.getD_some]
    have ew : IntKind.i64.wrap (r.kind - 1) = (q : Int) := by rw [wrap64 (by omega) (by omega)]; exact hq
    have k200 : con_AMethods [] = some (.sl 1 (strsA aMeths)) := rfl
    have k201 : con_AProps [.agg r.cells] = some (tripV r.props) := by simp [con_AProps, asAR_cells]
    have tr := tripV_ref r.props
    have tc := tripV_cells r.props
    have ta := tripV_atom r.props
    have tk := tripV_kill r.props
    simp only [cells] at tc
    simp only [infoV, hi]
    generalize tripV r.props = V at *
    generalize hM : aMeths = Ms at *
    generalize r.meth = m at *
    simp only [AR.cells] at k201
    simp -implicitDefEqProofs [c_spec_AInfoOf, t_spec_AInfoOf_3, AR.cells, cu, h0, acall, h200, k200, h201, k201, ew, hqm, tr, tc, ta, tk]

def cntA (fm : L8) (k : Nat) : Nat := if fm = [] then 0 else k
def con_AText1 : List AV → List (Nat × AObj) → Option (AV × List (Nat × AObj))
  | [.bx [u], .ref 0 0], [(0, .cells [.int .i64 n])] => match slBytes u with
    | some fm => if 0 ≤ n ∧ n < 1099511627776 then some (.int .u8 (nx fm (n.toNat + 1) : Nat), [(0, .cells [.int .i64 (if fm = [] then n else n + 1)])]) else none
    | none => none
  | _, _ => none
theorem ok_AText1 (Γ : Gam) : ∀ args hp q, con_AText1 args hp = some q → runsS Γ c_spec_AText_1 args hp (fun v => v = some q) := by
  intro args hp q h
  simp only [con_AText1] at h
  split at h <;> (try simp at h; done)
  rename_i u n
  split at h <;> (try simp at h; done)
  rename_i fm hu
  obtain ⟨⟨h0, hn⟩, rfl⟩ := ite_some h
  clear h
  rcases slBytes_cases hu with ⟨rfl, rfl⟩ | rfl
  · simp -implicitDefEqProofs [c_spec_AText_1, nx, reach_succ]
  · by_cases hf : fm = []
    · subst hf
      simp -implicitDefEqProofs [c_spec_AText_1, nx, reach_succ]
    · have hl : 0 < fm.length := List.length_pos_iff.2 hf
      have hz : ¬ ((fm.length : Int) = 0) := by omega
      have ew : IntKind.i64.wrap (n + 1) = n + 1 := wrap64 (by omega) (by omega)
      obtain ⟨m, rfl⟩ : ∃ m : Nat, n = (m : Int) := ⟨n.toNat, by omega⟩
      obtain ⟨q, e, hlt, hq⟩ : ∃ q : Nat, ((m : Int) + 1).tmod (fm.length : Int) = (q : Int) ∧ q < fm.length ∧ (m + 1) % fm.length = q :=
        ⟨(m + 1) % fm.length, by rw [Int.tmod_eq_emod_of_nonneg (by omega)]; simp, Nat.mod_lt _ hl, rfl⟩
      obtain ⟨b, hb⟩ : ∃ b, fm[q]? = some b := ⟨fm[q], by simp [hlt]⟩
      have hb' : fm[q] = b := by rw [List.getElem?_eq_getElem hlt] at hb; injection hb
      have hgd : fm.getD q 0 = b := by rw [List.getD_eq_getElem?_getD, hb]; rfl
      have es : nx fm (m + 1) = b.toNat := by simp only [nx, if_neg hf, hq, hgd]
      simp -implicitDefEqProofs [c_spec_AText_1, hf, ew, hz, e, hlt, hb, hb', es, reach_succ]
theorem nx_lt (fm : L8) (k : Nat) : nx fm k < 256 := by
  unfold nx
  split
  · omega
  · exact (fm.getD (k % fm.length) 0).toNat_lt

end Wax


namespace Wax
@[simp 2000] theorem guardK_tt {Γ : Gam} {dst : Option Nat} {op : SOp} {g : Nat} {r : List SO} {dd : List (List Nat)} {st : St} {K : St → Prop} : guardK (.bool true) Γ dst op g true r dd st K = opsK Γ (⟨dst, op, none⟩ :: r) dd ⟨(g, .bool true) :: st.fr, st.hp⟩ K := by simp [guardK]
@[simp 2000] theorem guardK_ff {Γ : Gam} {dst : Option Nat} {op : SOp} {g : Nat} {r : List SO} {dd : List (List Nat)} {st : St} {K : St → Prop} : guardK (.bool false) Γ dst op g false r dd st K = opsK Γ (⟨dst, op, none⟩ :: r) dd ⟨(g, .bool false) :: st.fr, st.hp⟩ K := by simp [guardK]
@[simp 2000] theorem guardK_tf {Γ : Gam} {dst : Option Nat} {op : SOp} {g : Nat} {r : List SO} {dd : List (List Nat)} {st : St} {K : St → Prop} : guardK (.bool true) Γ dst op g false r dd st K = opsK Γ r (dTl dd) ⟨rmF (dHd dd) (putS ((g, .bool true) :: st.fr) dst (.tup [])), st.hp⟩ K := by simp [guardK]
@[simp 2000] theorem guardK_ft {Γ : Gam} {dst : Option Nat} {op : SOp} {g : Nat} {r : List SO} {dd : List (List Nat)} {st : St} {K : St → Prop} : guardK (.bool false) Γ dst op g true r dd st K = opsK Γ r (dTl dd) ⟨rmF (dHd dd) (putS ((g, .bool false) :: st.fr) dst (.tup [])), st.hp⟩ K := by simp [guardK]
end Wax


namespace Wax
open Go (IntKind)

def arSame (a b : AR) : Bool := decide (a.norm = b.norm)
theorem arSame_iff {a b : AR} : arSame a b = true ↔ a.norm = b.norm := by simp [arSame]
theorem norm_eq_iff {a b : AR} : a.norm = b.norm ↔ ((a.ps.getD [] = b.ps.getD []) ∧ a.kind = b.kind ∧ a.method = b.method ∧ a.value = b.value ∧ a.reason = b.reason ∧ a.domain = b.domain ∧ a.ident = b.ident ∧ a.fr = b.fr ∧ a.sender = b.sender ∧ a.ip = b.ip ∧ a.helo = b.helo ∧ a.auth = b.auth ∧ a.hkey = b.hkey ∧ a.hval = b.hval ∧ a.remote = b.remote ∧ a.oldest = b.oldest) := by
  have hn : nilO (a.ps.getD []) = nilO (b.ps.getD []) ↔ a.ps.getD [] = b.ps.getD [] := by
    constructor
    · intro h
      have := congrArg (fun x => x.getD []) h
      simpa [nilO_getD] using this
    · intro h; rw [h]
  simp only [AR.norm, AR.mk.injEq, hn]
  constructor
  · rintro ⟨h0, h1, h2, h3, h4, h5, h6, h7, h8, h9, h10, h11, h12, h13, h14, z⟩
    exact ⟨z, h0, h1, h2, h3, h4, h5, h6, h7, h8, h9, h10, h11, h12, h13, h14⟩
  · rintro ⟨z, h0, h1, h2, h3, h4, h5, h6, h7, h8, h9, h10, h11, h12, h13, h14⟩
    exact ⟨h0, h1, h2, h3, h4, h5, h6, h7, h8, h9, h10, h11, h12, h13, h14, z⟩
def con_ASame : List AV → Option AV
  | [.agg x, .agg y] => match asAR x, asAR y with
    | some a, some b => if (a.ps.getD []).length < half ∧ (b.ps.getD []).length < half then some (.bool (arSame a b)) else none
    | _, _ => none
  | _ => none

set_option maxRecDepth 100000 in
set_option maxHeartbeats 4000000 in
theorem as_tail (Γ : Gam) (u v : AV) (a1 b1 a2 b2 a3 b3 a4 b4 a5 b5 a6 b6 a7 b7 a8 b8 a9 b9 a10 b10 a11 b11 a12 b12 a13 b13 : L8) (a0 b0 a14 b14 : Int) (ex : List (Nat × AV)) (R : Bool) (hR : R = decide (a0 = b0 ∧ a1 = b1 ∧ a2 = b2 ∧ a3 = b3 ∧ a4 = b4 ∧ a5 = b5 ∧ a6 = b6 ∧ a7 = b7 ∧ a8 = b8 ∧ a9 = b9 ∧ a10 = b10 ∧ a11 = b11 ∧ a12 = b12 ∧ a13 = b13 ∧ a14 = b14)) :
    awp Γ t_spec_ASame_2 (finQ [.t 4] fun w => w = .bool R) ⟨(2, .ptr [.int .i64 a0, .str a1, .str a2, .str a3, .str a4, .str a5, .str a6, .str a7, .str a8, .str a9, .str a10, .str a11, .str a12, .str a13, .int .i64 a14, u]) :: (3, .ptr [.int .i64 b0, .str b1, .str b2, .str b3, .str b4, .str b5, .str b6, .str b7, .str b8, .str b9, .str b10, .str b11, .str b12, .str b13, .int .i64 b14, v]) :: ex, []⟩ := by
  subst hR
  by_cases c0 : a0 = b0
  case neg => simp -implicitDefEqProofs [t_spec_ASame_2, c0]
  by_cases c1 : a1 = b1
  case neg => simp -implicitDefEqProofs [t_spec_ASame_2, c0, c1]
  by_cases c2 : a2 = b2
  case neg => simp -implicitDefEqProofs [t_spec_ASame_2, c0, c1, c2]
  by_cases c3 : a3 = b3
  case neg => simp -implicitDefEqProofs [t_spec_ASame_2, c0, c1, c2, c3]
  by_cases c4 : a4 = b4
  case neg => simp -implicitDefEqProofs [t_spec_ASame_2, c0, c1, c2, c3, c4]
  by_cases c5 : a5 = b5
  case neg => simp -implicitDefEqProofs [t_spec_ASame_2, c0, c1, c2, c3, c4, c5]
  by_cases c6 : a6 = b6
  case neg => simp -implicitDefEqProofs [t_spec_ASame_2, c0, c1, c2, c3, c4, c5, c6]
  by_cases c7 : a7 = b7
  case neg => simp -implicitDefEqProofs [t_spec_ASame_2, c0, c1, c2, c3, c4, c5, c6, c7]
  by_cases c8 : a8 = b8
  case neg => simp -implicitDefEqProofs [t_spec_ASame_2, c0, c1, c2, c3, c4, c5, c6, c7, c8]
  by_cases c9 : a9 = b9
  case neg => simp -implicitDefEqProofs [t_spec_ASame_2, c0, c1, c2, c3, c4, c5, c6, c7, c8, c9]
  by_cases c10 : a10 = b10
  case neg => simp -implicitDefEqProofs [t_spec_ASame_2, c0, c1, c2, c3, c4, c5, c6, c7, c8, c9, c10]
  by_cases c11 : a11 = b11
  case neg => simp -implicitDefEqProofs [t_spec_ASame_2, c0, c1, c2, c3, c4, c5, c6, c7, c8, c9, c10, c11]
  by_cases c12 : a12 = b12
  case neg => simp -implicitDefEqProofs [t_spec_ASame_2, c0, c1, c2, c3, c4, c5, c6, c7, c8, c9, c10, c11, c12]
  by_cases c13 : a13 = b13
  case neg => simp -implicitDefEqProofs [t_spec_ASame_2, c0, c1, c2, c3, c4, c5, c6, c7, c8, c9, c10, c11, c12, c13]
  by_cases c14 : a14 = b14
  · simp -implicitDefEqProofs [t_spec_ASame_2, c0, c1, c2, c3, c4, c5, c6, c7, c8, c9, c10, c11, c12, c13, c14]
  · simp -implicitDefEqProofs [t_spec_ASame_2, c0, c1, c2, c3, c4, c5, c6, c7, c8, c9, c10, c11, c12, c13, c14]

set_option maxHeartbeats 2000000 in
theorem ok_ASame (Γ : Gam) : ∀ args r, con_ASame args = some r → runs Γ c_spec_ASame args (fun v => v = r) := by
  intro args r h
  simp only [con_ASame] at h
  split at h <;> (try simp at h; done)
  rename_i x y
  split at h <;> (try simp at h; done)
  rename_i a b ha hb
  obtain ⟨⟨la, lb⟩, rfl⟩ := ite_some h
  clear h
  rw [asAR_spec ha, asAR_spec hb]
  clear ha hb x y
  have cua := slP_cells a.ps
  have cub := slP_cells b.ps
  simp only [cells] at cua cub
  have lea := slP_alen a.ps
  have leb := slP_alen b.ps
  have T := fun ex R hR => as_tail Γ (slP a.ps) (slP b.ps) a.method b.method a.value b.value a.reason b.reason a.domain b.domain a.ident b.ident a.fr b.fr a.sender b.sender a.ip b.ip a.helo b.helo a.auth b.auth a.hkey b.hkey a.hval b.hval a.remote b.remote a.kind b.kind a.oldest b.oldest ex R hR
  have ni := norm_eq_iff (a := a) (b := b)
  have hca : a.ps.getD [] = [] ∨ a.ps = some (a.ps.getD []) := by cases a.ps <;> simp
  have hcb : b.ps.getD [] = [] ∨ b.ps = some (b.ps.getD []) := by cases b.ps <;> simp
  have hS1 : a.ps.getD [] ≠ b.ps.getD [] → arSame a b = false := by
    intro h; rw [Bool.eq_false_iff, ne_eq, arSame_iff, ni]; exact fun q => h q.1
  have hS2 : a.ps.getD [] = b.ps.getD [] → arSame a b = decide (a.kind = b.kind ∧ a.method = b.method ∧ a.value = b.value ∧ a.reason = b.reason ∧ a.domain = b.domain ∧ a.ident = b.ident ∧ a.fr = b.fr ∧ a.sender = b.sender ∧ a.ip = b.ip ∧ a.helo = b.helo ∧ a.auth = b.auth ∧ a.hkey = b.hkey ∧ a.hval = b.hval ∧ a.remote = b.remote ∧ a.oldest = b.oldest) := by
    intro h
    simp only [arSame]
    rw [decide_eq_decide, ni]
    exact ⟨fun q => q.2, fun q => ⟨h, q⟩⟩
  generalize arSame a b = R at *
  clear ni
  generalize hLa : a.ps.getD [] = La at *
  generalize hLb : b.ps.getD [] = Lb at *
  simp only [half] at la lb
  by_cases hlen : (La.length : Int) = (Lb.length : Int)
  · simp -implicitDefEqProofs [-alen, c_spec_ASame, AR.cells, cua, cub, lea, leb, hlen, hLa, hLb]
    refine awp_loop2 (σ := List KVp × List KVp × List KVp × List KVp) (fun q => ⟨[(2, .ptr [.int .i64 a.kind, .str a.method, .str a.value, .str a.reason, .str a.domain, .str a.ident, .str a.fr, .str a.sender, .str a.ip, .str a.helo, .str a.auth, .str a.hkey, .str a.hval, .str a.remote, .int .i64 a.oldest, slP a.ps]), (3, .ptr [.int .i64 b.kind, .str b.method, .str b.value, .str b.reason, .str b.domain, .str b.ident, .str b.fr, .str b.sender, .str b.ip, .str b.helo, .str b.auth, .str b.hkey, .str b.hval, .str b.remote, .int .i64 b.oldest, slP b.ps]), (15, .int .i64 Lb.length), (16, .int .i64 q.1.length)], []⟩)
      (fun q => La = q.1 ++ q.2.1 ∧ Lb = q.2.2.1 ++ q.2.2.2 ∧ q.1 = q.2.2.1) (fun q => q.2.1.length) ([], La, [], Lb) ?_ (by simp) ?_
    · simp
    rintro ⟨p1, q1, p2, q2⟩ ⟨e1, e2, e3⟩ LQ hLQ
    simp only at e1 e2 e3
    subst e3
    have hn : q1.length = q2.length := by
      have h1 := congrArg List.length e1
      have h2 := congrArg List.length e2
      simp at h1 h2; omega
    cases q1 with
    | nil =>
      have hq2 : q2 = [] := by cases q2 <;> simp at hn; rfl
      subst hq2
      simp only [List.append_nil] at e1 e2
      have hnl : ¬ ((p1.length : Int) < (Lb.length : Int)) := by rw [e2]; omega
      simp -implicitDefEqProofs [b_spec_ASame_1, hnl]
      exact T _ R (hS2 (by rw [e1, e2]))
    | cons x q1 =>
      cases q2 with
      | nil => simp at hn
      | cons y q2 =>
        have sa := hca.resolve_left (by rw [e1]; simp)
        have sb := hcb.resolve_left (by rw [e2]; simp)
        rw [sa, sb] at hLQ ⊢
        simp only [slP] at hLQ ⊢
        have hlb : Lb.length = p1.length + (q2.length + 1) := by rw [e2]; simp
        have hlt : (p1.length : Int) < (Lb.length : Int) := by omega
        have g1 : La[p1.length]? = some x := by rw [e1]; exact get_mid rfl
        have g2 : Lb[p1.length]? = some y := by rw [e2]; exact get_mid rfl
        have ew : IntKind.i64.wrap ((p1.length : Int) + 1) = (p1.length : Int) + 1 := wrap64 (by omega) (by omega)
        by_cases hxy : x = y
        · subst hxy
          simp -implicitDefEqProofs [b_spec_ASame_1, hlt, g1, g2, ew, leafEqL, leafEq]
          refine hLQ (p1 ++ [x], q1, p1 ++ [x], q2) ⟨by rw [e1]; simp, by rw [e2]; simp, rfl⟩ (by simp) _ ?_
          simp
        · have hne : La ≠ Lb := by
            rw [e1, e2]
            intro h
            have := List.append_cancel_left h
            simp only [List.cons.injEq] at this
            exact hxy this.1
          have hd : (decide (x.1 = y.1) && decide (x.2 = y.2)) = false := by
            by_cases h1 : x.1 = y.1
            · have : ¬ x.2 = y.2 := fun h2 => hxy (Prod.ext h1 h2)
              simp [this]
            · simp [h1]
          rw [hS1 hne]
          simp -implicitDefEqProofs [b_spec_ASame_1, hlt, g1, g2, ew, leafEqL, leafEq, hd]
  · have hne : La ≠ Lb := fun h => hlen (by rw [h])
    have hlen' : ¬ La.length = Lb.length := fun h => hlen (by rw [h])
    rw [hS1 hne]
    simp -implicitDefEqProofs [-alen, c_spec_ASame, AR.cells, cua, cub, lea, leb, hlen, hlen', hLa, hLb]
end Wax


namespace Wax
open Go

def lkF : List (Nat × SFn) → Nat → Option SFn
  | [], _ => none
  | (i, v) :: r, j => if i == j then some v else lkF r j

/-- The table's functions are the program's. -/
inductive TbOk (P : Program) (T : Tab) : List (Nat × SFn) → Prop where
  | nil : TbOk P T []
  | cons {f g : Nat} {fn : Func} {sfn : SFn} {L : Lay} {r : List (Nat × SFn)} (hf : lkN T.fns f = some g) (hb : hasBody P f = true) (hfn : P.funcs[f]? = some fn) (hc : compFn P T L fn = some sfn) (hr : TbOk P T r) : TbOk P T ((g, sfn) :: r)

theorem TbOk.get {P : Program} {T : Tab} : ∀ {tb : List (Nat × SFn)}, TbOk P T tb → ∀ {g : Nat} {sfn : SFn}, lkF tb g = some sfn → ∃ f fn L, lkN T.fns f = some g ∧ hasBody P f = true ∧ P.funcs[f]? = some fn ∧ compFn P T L fn = some sfn
  | _, .nil, g, sfn, h => by simp [lkF] at h
  | _, .cons (f := f) (fn := fn) (L := L) hf hb hfn hc hr, g, sfn, h => by
    simp only [lkF] at h
    split at h
    · rename_i e
      simp only [beq_iff_eq] at e
      simp only [Option.some.injEq] at h
      subst e; subst h
      exact ⟨f, fn, L, hf, hb, hfn, hc⟩
    · exact hr.get h

end Wax


namespace Wax
open Go
def aIn : List UInt8 := [97, 59, 32, 100, 107, 105, 109, 61, 112, 97, 115, 115, 32, 104, 101, 97, 100, 101, 114, 46, 100, 61, 98]
def aOut : AV := .tup [.str [97], .sl 16 [.agg [.int .i64 2, .str [], .str [112, 97, 115, 115], .str [], .str [98], .str [], .str [], .str [], .str [], .str [], .str [], .str [], .str [], .str [], .int .i64 0, .nilS]], .bool true]
end Wax


namespace Wax
open Go (IntKind)
def tIn : L8 := [118, 61, 68, 77, 65, 82, 67, 49, 59, 32, 112, 61, 110, 111, 110, 101]
def con_awake : List AV → Option AV
  | [] => some (.bool true)
  | _ => none
theorem tIn_ok : mpV (mdText tIn) = .tup [.agg (MR.cells { mr0 with adkim := sR, aspf := sR, p := sNone }), .bool true] := by rfl
end Wax


namespace Wax
open Go (IntKind)

theorem adIn : adText aIn = some ([97], [.dkim [112, 97, 115, 115] [] [98] []]) := by kernel_rfl
theorem au_ok_awake (Γ : Gam) (h144 : Γ.fn 144 = con_AParse) (h133 : Γ.fn 133 = con_MParse) : ∀ args r, con_awake args = some r → runs Γ c_laws_awake args (fun v => v = r) := by
  intro args r h
  simp only [con_awake] at h
  split at h <;> (try simp at h; done)
  injection h with h
  subst h
  have k : con_AParse [.str [97, 59, 32, 100, 107, 105, 109, 61, 112, 97, 115, 115, 32, 104, 101, 97, 100, 101, 114, 46, 100, 61, 98]] = some aOut := by
    have e : aIn.length < qtr ∧ plain aIn = true := ⟨by simp [aIn, qtr], by kernel_rfl⟩
    show con_AParse [.str aIn] = _
    simp only [con_AParse]
    rw [if_pos e, adIn]
    rfl
  have k2 : con_MParse [.str tIn] = some (.tup [.agg (MR.cells { mr0 with adkim := sR, aspf := sR, p := sNone }), .bool true]) := by
    have e : tIn.length < mid ∧ plain tIn = true := ⟨by simp [tIn, mid], by kernel_rfl⟩
    simp only [con_MParse]
    rw [if_pos e, tIn_ok]
  simp only [aOut] at k
  simp only [MR.cells, mr0, slO_none, tIn, sR, sNone] at k2
  simp -implicitDefEqProofs [c_laws_awake, acall, h144, h133, k, k2, sNone]

end Wax


namespace Wax
open Go (IntKind)

/-- Pairs, each behind a row of blanks, taken by number from k on. -/
def sepT (fm : L8) (k : Nat) (l : List KVp) : L8 := flatW ((sepKv fm k l).map fun p => (p.1, kvW p.2))
theorem sepT_nil (fm : L8) (k : Nat) : sepT fm k [] = [] := rfl
theorem sepT_cons (fm : L8) (k : Nat) (p : KVp) (l : List KVp) : sepT fm k (p :: l) = aSp (nx fm k) ++ (kvW p ++ sepT fm (k + 1) l) := by simp [sepT, sepKv, flatW]
theorem sepT_app (fm : L8) : ∀ (a b : List KVp) (k : Nat), sepT fm k (a ++ b) = sepT fm k a ++ sepT fm (k + a.length) b
  | [], b, k => by simp [sepT_nil]
  | p :: a, b, k => by
    simp only [List.cons_append, sepT_cons, sepT_app fm a b (k + 1), List.append_assoc, List.length_cons]
    rw [show k + 1 + a.length = k + (a.length + 1) by omega]
theorem sepT_len (fm : L8) : ∀ (l : List KVp) (k : Nat), l.length ≤ (sepT fm k l).length
  | [], _ => by simp [sepT_nil]
  | p :: l, k => by
    have ih := sepT_len fm l (k + 1)
    simp only [sepT_cons, List.length_append, List.length_cons, kvW]
    omega

theorem next_con {f : AV} {fm : L8} (hf : slBytes f = some fm) {m : Nat} (hm : m < 1099511627776) : con_AText1 [.bx [f], .ref 0 0] [(0, .cells [.int .i64 (cntA fm m : Nat)])] = some (.int .u8 (nx fm (m + 1) : Nat), [(0, .cells [.int .i64 (cntA fm (m + 1) : Nat)])]) := by
  simp only [con_AText1, hf]
  by_cases hfm : fm = []
  · simp [cntA, nx, hfm]
  · simp [cntA, hfm]; omega
theorem space_con (fm : L8) (k : Nat) : con_ASpace [.int .u8 (nx fm k : Nat)] = some (.str (aSp (nx fm k))) := by
  have := nx_lt fm k
  simp only [con_ASpace]
  rw [if_pos (by omega)]; simp
def propK (p : L8 × L8 × L8) : KVp := (p.1 ++ 46 :: p.2.1, p.2.2)

section
variable {Γ : Gam} (s205 : Γ.st 205 = con_AText1) (h207 : Γ.fn 207 = con_ASpace) {u f : AV} {fm : L8} (hf : slBytes f = some fm) (uk : ∀ d, kill d u = u) (us : ∀ g, snapW g u = u) (len i : Int)
include s205 h207 hf uk us

set_option maxHeartbeats 4000000 in
theorem at_2 {Q : APost} (m v rs : L8) (q : List (L8 × L8 × L8)) (s : L8) (k : Nat) (ex : List (Nat × AV)) (hB : s.length + (sepT fm (k + 1) (q.map propK)).length < qtr) (hk : k < qtr)
    (hQ : ∀ ex', Q .normal ⟨(1, u) :: (8, .fn 205 [.bx [f], .ref 7 0]) :: (9, .str (s ++ sepT fm (k + 1) (q.map propK))) :: (19, u) :: (20, .int .i64 len) :: (21, .int .i64 i) :: ex', [(7, .cells [.int .i64 (cntA fm (k + q.length) : Nat)])]⟩) :
    awp Γ f_spec_AText_2 Q ⟨(1, u) :: (8, .fn 205 [.bx [f], .ref 7 0]) :: (9, .str s) :: (12, .ptr [.str m, .str [], .str v, .str rs, tripV q]) :: (19, u) :: (20, .int .i64 len) :: (21, .int .i64 i) :: ex, [(7, .cells [.int .i64 (cntA fm k : Nat)])]⟩ := by
  have uf : refs f = [] := slb_refs hf
  have mf := slb_map hf
  have kf := slb_kill hf
  have rf := slb_ref hf
  have at_ := slb_atom hf
  have hal : ∀ hp, alen hp 1 (tripV q) = some q.length := by intro hp; cases q <;> simp [tripV, alen]
  have hta := tripV_atom q
  have hql : q.length ≤ (sepT fm (k + 1) (q.map propK)).length := by have := sepT_len fm (q.map propK) (k + 1); simpa using this
  simp only [qtr] at hB hk
  simp -implicitDefEqProofs [-alen, f_spec_AText_2, hal, hta]
  refine awp_loop2 (σ := List (L8 × L8 × L8) × List (L8 × L8 × L8)) (fun z => ⟨[(1, u), (8, .fn 205 [.bx [f], .ref 7 0]), (9, .str (s ++ sepT fm (k + 1) (z.1.map propK))), (19, u), (20, .int .i64 len), (21, .int .i64 i), (68, tripV q), (69, .int .i64 q.length), (70, .int .i64 z.1.length)], [(7, .cells [.int .i64 (cntA fm (k + z.1.length) : Nat)])]⟩)
    (fun z => q = z.1 ++ z.2) (fun z => z.2.length) ([], q) (by simp [sepT_nil]) (by simp) ?_
  rintro ⟨pre, post⟩ e1 LQ hLQ
  simp only at e1
  cases post with
  | nil =>
    simp only [List.append_nil] at e1
    subst e1
    have hnl : ¬ ((q.length : Int) < (q.length : Int)) := by omega
    simp -implicitDefEqProofs [b_spec_AText_1]
    exact hQ _
  | cons x post =>
    have hlen : q.length = pre.length + (post.length + 1) := by rw [e1]; simp
    have hlt : (pre.length : Int) < (q.length : Int) := by omega
    have ew : IntKind.i64.wrap ((pre.length : Int) + 1) = (pre.length : Int) + 1 := wrap64 (by omega) (by omega)
    have hq : tripV q = .sl 3 (tr3 q) := by cases q with
      | nil => simp at e1
      | cons _ _ => rfl
    have g : q[pre.length]? = some x := by rw [e1]; exact get_mid rfl
    have g2 : (tr3 q)[pre.length]? = some (.agg [.str x.1, .str x.2.1, .str x.2.2]) := by simp [tr3, g]
    rw [hq] at hLQ ⊢
    have kA := next_con hf (m := k + pre.length) (by omega)
    have kS := space_con fm (k + pre.length + 1)
    have hsp : q.map propK = pre.map propK ++ propK x :: post.map propK := by rw [e1]; simp
    rw [hsp, sepT_app, sepT_cons] at hB
    simp only [List.length_append, List.length_map, propK, kvW, List.length_cons] at hB
    rw [show k + 1 + pre.length = k + pre.length + 1 by omega] at hB
    have fin : ∀ st, norm [1, 8, 9, 19, 20, 21, 68, 69, 70] st = ⟨[(1, u), (8, .fn 205 [.bx [f], .ref 7 0]), (9, .str (s ++ (sepT fm (k + 1) (pre.map propK) ++ (aSp (nx fm (k + pre.length + 1)) ++ (x.1 ++ 46 :: (x.2.1 ++ 61 :: x.2.2)))))), (19, u), (20, .int .i64 len), (21, .int .i64 i), (68, .sl 3 (tr3 q)), (69, .int .i64 q.length), (70, .int .i64 ((pre.length : Int) + 1))], [(7, .cells [.int .i64 (cntA fm (k + pre.length + 1) : Nat)])]⟩ → LQ st := by
      intro st hst
      refine hLQ (pre ++ [x], post) (by rw [e1]; simp) (by simp) st ?_
      rw [hst]
      have e3 : sepT fm (k + 1) ((pre ++ [x]).map propK) = sepT fm (k + 1) (pre.map propK) ++ (aSp (nx fm (k + pre.length + 1)) ++ (x.1 ++ 46 :: (x.2.1 ++ 61 :: x.2.2))) := by
        rw [List.map_append, sepT_app, List.map_cons, List.map_nil, sepT_cons, sepT_nil]
        simp [propK, kvW, show k + 1 + pre.length = k + pre.length + 1 by omega]
      rw [e3]
      simp [Nat.add_assoc]
    simp -implicitDefEqProofs [b_spec_AText_1, hlt, g2, ew, uf, mf, kf, rf, at_, uk, us, acallS, reach_succ, s205, kA, acall, h207, kS]
    refine ⟨by omega, by omega, by omega, by omega, by omega, by omega, fin _ ?_⟩
    simp

set_option maxHeartbeats 2000000 in
theorem at_3 {Q : APost} (m v rs : L8) (q : List (L8 × L8 × L8)) (s : L8) (k : Nat) (ex : List (Nat × AV)) (hB : s.length + (sepT fm (k + 1) (rPs rs ++ q.map propK)).length < qtr) (hk : k + 1 < qtr)
    (hQ : ∀ ex', Q .normal ⟨(1, u) :: (8, .fn 205 [.bx [f], .ref 7 0]) :: (9, .str (s ++ sepT fm (k + 1) (rPs rs ++ q.map propK))) :: (19, u) :: (20, .int .i64 len) :: (21, .int .i64 i) :: ex', [(7, .cells [.int .i64 (cntA fm (k + (rPs rs ++ q.map propK).length) : Nat)])]⟩) :
    awp Γ f_spec_AText_3 Q ⟨(1, u) :: (8, .fn 205 [.bx [f], .ref 7 0]) :: (9, .str s) :: (12, .ptr [.str m, .str [], .str v, .str rs, tripV q]) :: (19, u) :: (20, .int .i64 len) :: (21, .int .i64 i) :: ex, [(7, .cells [.int .i64 (cntA fm k : Nat)])]⟩ := by
  have uf : refs f = [] := slb_refs hf
  have mf := slb_map hf
  have kf := slb_kill hf
  have rf := slb_ref hf
  have at_ := slb_atom hf
  have tk := tripV_kill q
  by_cases hr : rs = []
  · subst hr
    simp only [rPs, if_true, List.nil_append, List.length_map] at hB hQ
    have T := fun ex => at_2 (Q := Q) s205 h207 hf uk us len i m v [] q s k ex hB (by omega) hQ
    simp -implicitDefEqProofs [f_spec_AText_3]
    exact T _
  · have er : rPs rs = [(qReason, rs)] := by simp [rPs, hr]
    rw [er] at hB hQ
    simp only [List.cons_append, List.nil_append, sepT_cons, List.length_append, List.length_cons, List.length_map, kvW] at hB hQ
    simp only [qtr] at hB hk
    have T := fun ex => at_2 (Q := Q) s205 h207 hf uk us len i m v rs q (s ++ (aSp (nx fm (k + 1)) ++ (qReason ++ 61 :: rs))) (k + 1) ex (by simp only [List.length_append, List.length_cons, qtr]; omega) (by simp only [qtr]; omega) (by
      intro ex'
      have := hQ ex'
      rw [show k + (q.length + 1) = k + 1 + q.length by omega] at this
      simpa using this)
    have kA := next_con hf (m := k) (by omega)
    have kS := space_con fm (k + 1)
    simp only [qReason, List.length_cons, List.length_nil] at hB T
    simp -implicitDefEqProofs [f_spec_AText_3, hr, uf, mf, kf, rf, at_, uk, us, tk, acallS, reach_succ, s205, kA, acall, h207, kS]
    refine ⟨by omega, by omega, by omega, ?_⟩
    exact T _
set_option maxHeartbeats 2000000 in
theorem at_4 {Q : APost} (m v rs : L8) (q : List (L8 × L8 × L8)) (s : L8) (k : Nat) (ex : List (Nat × AV)) (hB : s.length + (m.length + 1 + v.length + (sepT fm (k + 1) (rPs rs ++ q.map propK)).length) < qtr) (hk : k + 1 < qtr)
    (hQ : ∀ ex', Q .normal ⟨(1, u) :: (8, .fn 205 [.bx [f], .ref 7 0]) :: (9, .str (s ++ (kvW (m, v) ++ sepT fm (k + 1) (rPs rs ++ q.map propK)))) :: (19, u) :: (20, .int .i64 len) :: (21, .int .i64 i) :: ex', [(7, .cells [.int .i64 (cntA fm (k + (rPs rs ++ q.map propK).length) : Nat)])]⟩) :
    awp Γ f_spec_AText_4 Q ⟨(1, u) :: (8, .fn 205 [.bx [f], .ref 7 0]) :: (9, .str s) :: (12, .ptr [.str m, .str [], .str v, .str rs, tripV q]) :: (19, u) :: (20, .int .i64 len) :: (21, .int .i64 i) :: ex, [(7, .cells [.int .i64 (cntA fm k : Nat)])]⟩ := by
  simp only [qtr] at hB hk
  have T := fun ex => at_3 (Q := Q) s205 h207 hf uk us len i m v rs q (s ++ (m ++ 61 :: v)) k ex (by simp only [List.length_append, List.length_cons, qtr]; omega) (by simp only [qtr]; omega) (by
    intro ex'
    have := hQ ex'
    simp only [kvW] at this
    simpa using this)
  simp -implicitDefEqProofs [f_spec_AText_4]
  refine ⟨by omega, by omega, by omega, ?_⟩
  exact T _
set_option maxHeartbeats 2000000 in
theorem at_4b {Q : APost} (m v rs : L8) (q : List (L8 × L8 × L8)) (s : L8) (k : Nat) (x14 : AV) (ex : List (Nat × AV)) (hB : s.length + (m.length + 1 + v.length + (sepT fm (k + 1) (rPs rs ++ q.map propK)).length) < qtr) (hk : k + 1 < qtr)
    (hQ : ∀ ex', Q .normal ⟨(1, u) :: (8, .fn 205 [.bx [f], .ref 7 0]) :: (9, .str (s ++ (kvW (m, v) ++ sepT fm (k + 1) (rPs rs ++ q.map propK)))) :: (19, u) :: (20, .int .i64 len) :: (21, .int .i64 i) :: ex', [(7, .cells [.int .i64 (cntA fm (k + (rPs rs ++ q.map propK).length) : Nat)])]⟩) :
    awp Γ f_spec_AText_4 Q ⟨(1, u) :: (8, .fn 205 [.bx [f], .ref 7 0]) :: (9, .str s) :: (12, .ptr [.str m, .str [], .str v, .str rs, tripV q]) :: (14, x14) :: (19, u) :: (20, .int .i64 len) :: (21, .int .i64 i) :: ex, [(7, .cells [.int .i64 (cntA fm k : Nat)])]⟩ := by
  simp only [qtr] at hB hk
  have T := fun ex => at_3 (Q := Q) s205 h207 hf uk us len i m v rs q (s ++ (m ++ 61 :: v)) k ex (by simp only [List.length_append, List.length_cons, qtr]; omega) (by simp only [qtr]; omega) (by
    intro ex'
    have := hQ ex'
    simp only [kvW] at this
    simpa using this)
  simp -implicitDefEqProofs [f_spec_AText_4]
  refine ⟨by omega, by omega, by omega, ?_⟩
  exact T _
set_option maxHeartbeats 1000000 in
theorem at_5 {Q : APost} (m v rs : L8) (q : List (L8 × L8 × L8)) (s : L8) (k : Nat) (ex : List (Nat × AV)) (hB : s.length + 1 + ((aBeh (nx fm (k + 1))).length + (m.length + 1 + v.length + (sepT fm (k + 1 + 1) (rPs rs ++ q.map propK)).length)) < qtr) (hk : k + 1 + 1 < qtr)
    (hQ : ∀ ex', Q .normal ⟨(1, u) :: (8, .fn 205 [.bx [f], .ref 7 0]) :: (9, .str (s ++ 59 :: (aBeh (nx fm (k + 1)) ++ (kvW (m, v) ++ sepT fm (k + 1 + 1) (rPs rs ++ q.map propK))))) :: (19, u) :: (20, .int .i64 len) :: (21, .int .i64 i) :: ex', [(7, .cells [.int .i64 (cntA fm (k + 1 + (rPs rs ++ q.map propK).length) : Nat)])]⟩) :
    awp Γ f_spec_AText_5 Q ⟨(1, u) :: (8, .fn 205 [.bx [f], .ref 7 0]) :: (9, .str s) :: (12, .ptr [.str m, .str [], .str v, .str rs, tripV q]) :: (19, u) :: (20, .int .i64 len) :: (21, .int .i64 i) :: ex, [(7, .cells [.int .i64 (cntA fm k : Nat)])]⟩ := by
  have uf : refs f = [] := slb_refs hf
  have mf := slb_map hf
  have kf := slb_kill hf
  have rf := slb_ref hf
  have at_ := slb_atom hf
  have tk := tripV_kill q
  simp only [qtr] at hB hk
  have kA := next_con hf (m := k) (by omega)
  have kS := space_con fm (k + 1)
  have hlt := nx_lt fm (k + 1)
  have e3 : ((nx fm (k + 1) : Nat) : Int).tmod 3 = ((nx fm (k + 1) % 3 : Nat) : Int) := by rw [Int.tmod_eq_emod_of_nonneg (by omega)]; rfl
  by_cases hz : nx fm (k + 1) % 3 = 0
  · have eb : aBeh (nx fm (k + 1)) = [] := by simp only [aBeh, if_pos hz]
    rw [eb] at hB hQ
    simp only [List.length_nil, List.nil_append] at hB hQ
    have T := fun x14 ex => at_4b (Q := Q) s205 h207 hf uk us len i m v rs q (s ++ [59]) (k + 1) x14 ex (by simp only [List.length_append, List.length_cons, List.length_nil, qtr]; omega) (by simp only [qtr]; omega) (by
      intro ex'
      have := hQ ex'
      simpa using this)
    have h0 : ((nx fm (k + 1) % 3 : Nat) : Int) = 0 := by omega
    rw [h0] at e3
    clear hlt hz h0 hQ kS eb
    simp -implicitDefEqProofs [f_spec_AText_5, uf, mf, kf, rf, at_, uk, us, tk, acallS, reach_succ, s205, kA, e3]
    refine ⟨by omega, ?_⟩
    exact T _ _
  · have eb : aBeh (nx fm (k + 1)) = aSp (nx fm (k + 1)) := by simp only [aBeh, if_neg hz]
    rw [eb] at hB hQ
    have T := fun ex => at_4 (Q := Q) s205 h207 hf uk us len i m v rs q (s ++ 59 :: aSp (nx fm (k + 1))) (k + 1) ex (by simp only [List.length_append, List.length_cons, List.length_nil, qtr]; omega) (by simp only [qtr]; omega) (by
      intro ex'
      have := hQ ex'
      simpa using this)
    have h0 : ¬ ((nx fm (k + 1) % 3 : Nat) : Int) = 0 := by omega
    generalize ((nx fm (k + 1) % 3 : Nat) : Int) = z3 at e3 h0
    clear hlt hz hQ eb
    simp -implicitDefEqProofs [f_spec_AText_5, uf, mf, kf, rf, at_, uk, us, tk, acallS, reach_succ, s205, kA, e3, h0, acall, h207, kS]
    refine ⟨by omega, by omega, ?_⟩
    exact T _
set_option maxHeartbeats 1000000 in
theorem at_5b {Q : APost} (m v rs : L8) (q : List (L8 × L8 × L8)) (s : L8) (k : Nat) (x13 : AV) (ex : List (Nat × AV)) (hB : s.length + 1 + ((aBeh (nx fm (k + 1))).length + (m.length + 1 + v.length + (sepT fm (k + 1 + 1) (rPs rs ++ q.map propK)).length)) < qtr) (hk : k + 1 + 1 < qtr)
    (hQ : ∀ ex', Q .normal ⟨(1, u) :: (8, .fn 205 [.bx [f], .ref 7 0]) :: (9, .str (s ++ 59 :: (aBeh (nx fm (k + 1)) ++ (kvW (m, v) ++ sepT fm (k + 1 + 1) (rPs rs ++ q.map propK))))) :: (19, u) :: (20, .int .i64 len) :: (21, .int .i64 i) :: ex', [(7, .cells [.int .i64 (cntA fm (k + 1 + (rPs rs ++ q.map propK).length) : Nat)])]⟩) :
    awp Γ f_spec_AText_5 Q ⟨(1, u) :: (8, .fn 205 [.bx [f], .ref 7 0]) :: (9, .str s) :: (12, .ptr [.str m, .str [], .str v, .str rs, tripV q]) :: (13, x13) :: (19, u) :: (20, .int .i64 len) :: (21, .int .i64 i) :: ex, [(7, .cells [.int .i64 (cntA fm k : Nat)])]⟩ := by
  have uf : refs f = [] := slb_refs hf
  have mf := slb_map hf
  have kf := slb_kill hf
  have rf := slb_ref hf
  have at_ := slb_atom hf
  have tk := tripV_kill q
  simp only [qtr] at hB hk
  have kA := next_con hf (m := k) (by omega)
  have kS := space_con fm (k + 1)
  have hlt := nx_lt fm (k + 1)
  have e3 : ((nx fm (k + 1) : Nat) : Int).tmod 3 = ((nx fm (k + 1) % 3 : Nat) : Int) := by rw [Int.tmod_eq_emod_of_nonneg (by omega)]; rfl
  by_cases hz : nx fm (k + 1) % 3 = 0
  · have eb : aBeh (nx fm (k + 1)) = [] := by simp only [aBeh, if_pos hz]
    rw [eb] at hB hQ
    simp only [List.length_nil, List.nil_append] at hB hQ
    have T := fun x14 ex => at_4b (Q := Q) s205 h207 hf uk us len i m v rs q (s ++ [59]) (k + 1) x14 ex (by simp only [List.length_append, List.length_cons, List.length_nil, qtr]; omega) (by simp only [qtr]; omega) (by
      intro ex'
      have := hQ ex'
      simpa using this)
    have h0 : ((nx fm (k + 1) % 3 : Nat) : Int) = 0 := by omega
    rw [h0] at e3
    clear hlt hz h0 hQ kS eb
    simp -implicitDefEqProofs [f_spec_AText_5, uf, mf, kf, rf, at_, uk, us, tk, acallS, reach_succ, s205, kA, e3]
    refine ⟨by omega, ?_⟩
    exact T _ _
  · have eb : aBeh (nx fm (k + 1)) = aSp (nx fm (k + 1)) := by simp only [aBeh, if_neg hz]
    rw [eb] at hB hQ
    have T := fun ex => at_4 (Q := Q) s205 h207 hf uk us len i m v rs q (s ++ 59 :: aSp (nx fm (k + 1))) (k + 1) ex (by simp only [List.length_append, List.length_cons, List.length_nil, qtr]; omega) (by simp only [qtr]; omega) (by
      intro ex'
      have := hQ ex'
      simpa using this)
    have h0 : ¬ ((nx fm (k + 1) % 3 : Nat) : Int) = 0 := by omega
    generalize ((nx fm (k + 1) % 3 : Nat) : Int) = z3 at e3 h0
    clear hlt hz hQ eb
    simp -implicitDefEqProofs [f_spec_AText_5, uf, mf, kf, rf, at_, uk, us, tk, acallS, reach_succ, s205, kA, e3, h0, acall, h207, kS]
    refine ⟨by omega, by omega, ?_⟩
    exact T _
set_option maxHeartbeats 1000000 in
theorem at_6 {Q : APost} (m v rs : L8) (q : List (L8 × L8 × L8)) (s : L8) (k : Nat) (ex : List (Nat × AV)) (hB : s.length + (aPre (nx fm (k + 1))).length + 1 + ((aBeh (nx fm (k + 1 + 1))).length + (m.length + 1 + v.length + (sepT fm (k + 1 + 1 + 1) (rPs rs ++ q.map propK)).length)) < qtr) (hk : k + 1 + 1 + 1 < qtr)
    (hQ : ∀ ex', Q .normal ⟨(1, u) :: (8, .fn 205 [.bx [f], .ref 7 0]) :: (9, .str (s ++ (aPre (nx fm (k + 1)) ++ 59 :: (aBeh (nx fm (k + 1 + 1)) ++ (kvW (m, v) ++ sepT fm (k + 1 + 1 + 1) (rPs rs ++ q.map propK)))))) :: (19, u) :: (20, .int .i64 len) :: (21, .int .i64 i) :: ex', [(7, .cells [.int .i64 (cntA fm (k + 1 + 1 + (rPs rs ++ q.map propK).length) : Nat)])]⟩) :
    awp Γ f_spec_AText_6 Q ⟨(1, u) :: (8, .fn 205 [.bx [f], .ref 7 0]) :: (9, .str s) :: (12, .ptr [.str m, .str [], .str v, .str rs, tripV q]) :: (19, u) :: (20, .int .i64 len) :: (21, .int .i64 i) :: ex, [(7, .cells [.int .i64 (cntA fm k : Nat)])]⟩ := by
  have uf : refs f = [] := slb_refs hf
  have mf := slb_map hf
  have kf := slb_kill hf
  have rf := slb_ref hf
  have at_ := slb_atom hf
  have tk := tripV_kill q
  simp only [qtr] at hB hk
  have kA := next_con hf (m := k) (by omega)
  have kS := space_con fm (k + 1)
  have hlt := nx_lt fm (k + 1)
  have e3 : ((nx fm (k + 1) : Nat) : Int).tmod 3 = ((nx fm (k + 1) % 3 : Nat) : Int) := by rw [Int.tmod_eq_emod_of_nonneg (by omega)]; rfl
  by_cases hz : nx fm (k + 1) % 3 = 0
  · have eb : aPre (nx fm (k + 1)) = aSp (nx fm (k + 1)) := by simp only [aPre, if_pos hz]
    rw [eb] at hB hQ
    have T := fun ex => at_5 (Q := Q) s205 h207 hf uk us len i m v rs q (s ++ aSp (nx fm (k + 1))) (k + 1) ex (by simp only [List.length_append, qtr]; omega) (by simp only [qtr]; omega) (by
      intro ex'
      have := hQ ex'
      simpa using this)
    have h0 : ((nx fm (k + 1) % 3 : Nat) : Int) = 0 := by omega
    rw [h0] at e3
    clear hlt hz h0 hQ eb
    simp -implicitDefEqProofs [f_spec_AText_6, uf, mf, kf, rf, at_, uk, us, tk, acallS, reach_succ, s205, kA, e3, acall, h207, kS]
    refine ⟨by omega, ?_⟩
    exact T _
  · have eb : aPre (nx fm (k + 1)) = [] := by simp only [aPre, if_neg hz]
    rw [eb] at hB hQ
    simp only [List.length_nil, List.nil_append] at hB hQ
    have T := fun x13 ex => at_5b (Q := Q) s205 h207 hf uk us len i m v rs q s (k + 1) x13 ex (by simp only [qtr]; omega) (by simp only [qtr]; omega) hQ
    have h0 : ¬ ((nx fm (k + 1) % 3 : Nat) : Int) = 0 := by omega
    generalize ((nx fm (k + 1) % 3 : Nat) : Int) = z3 at e3 h0
    clear hlt hz hQ eb kS
    simp -implicitDefEqProofs [f_spec_AText_6, uf, mf, kf, rf, at_, uk, us, tk, acallS, reach_succ, s205, kA, e3, h0]
    exact T _ _
end
end Wax


namespace Wax
open Go (IntKind)

def asARs : List AV → Option (List AR)
  | [] => some []
  | .agg cs :: r => match asAR cs, asARs r with
    | some x, some l => some (x :: l)
    | _, _ => none
  | _ :: _ => none
def slAR : AV → Option (List AR)
  | .nilS => some []
  | .sl es xs => if es = 16 then asARs xs else none
  | _ => none
theorem asARs_arA : ∀ l, asARs (arA l) = some l
  | [] => rfl
  | x :: l => by simp [asARs, asAR_cells, asARs_arA l]
theorem asARs_spec : ∀ {xs : List AV} {l : List AR}, asARs xs = some l → xs = arA l
  | [], l, h => by simp [asARs] at h; subst h; rfl
  | v :: r, l, h => by
    unfold asARs at h
    split at h
    · rename_i e; simp at e
    · rename_i cs r' e
      simp at e; obtain ⟨rfl, rfl⟩ := e
      split at h
      · rename_i x l' h1 h2
        simp at h; subst h
        rw [asAR_spec h1, asARs_spec h2]; rfl
      · simp at h
    · simp at h
theorem slAR_cases {v : AV} {l} (h : slAR v = some l) : (v = .nilS ∧ l = []) ∨ v = .sl 16 (arA l) := by
  cases v <;> simp [slAR] at h
  · left; exact ⟨rfl, h⟩
  · right; obtain ⟨e, h⟩ := h; rw [asARs_spec h, e]
section
variable {u : AV} {l : List AR} (h : slAR u = some l)
include h
theorem sar_kill (d : Nat) : kill d u = u := by rcases slAR_cases h with ⟨rfl, _⟩ | rfl <;> rfl
theorem sar_snapW (g : AV → AV) : snapW g u = u := by rcases slAR_cases h with ⟨rfl, _⟩ | rfl <;> rfl
theorem sar_alen (hp : List (Nat × AObj)) : alen hp 1 u = some l.length := by rcases slAR_cases h with ⟨rfl, rfl⟩ | rfl <;> simp [alen]
theorem sar_ne (hn : l ≠ []) : u = .sl 16 (arA l) := by
  rcases slAR_cases h with ⟨_, rfl⟩ | rfl
  · exact absurd rfl hn
  · rfl
end
theorem slAR_arV (l : List AR) : slAR (arV l) = some l := by cases l <;> simp [arV, slAR, ← arA_cons, asARs_arA, -arA_cons]

/-- How many numbers results take. -/
def cntR : List AR → Nat
  | [] => 0
  | r :: l => 2 + r.prm.length + cntR l
theorem cntR_app : ∀ (a : List AR) (r : AR), cntR (a ++ [r]) = cntR a + (2 + r.prm.length)
  | [], r => by simp [cntR]
  | x :: a, r => by simp only [List.cons_append, cntR, cntR_app a r]; omega
theorem aParts_app (fm : L8) (r : AR) : ∀ (a : List AR) (k : Nat), aParts fm k (a ++ [r]) = aParts fm k a ++ [aPart fm (k + cntR a) r]
  | [], k => by simp [aParts, cntR]
  | x :: a, k => by
    simp only [List.cons_append, aParts, aParts_app fm r a, cntR]
    rw [show k + 2 + x.prm.length + cntR a = k + (2 + x.prm.length + cntR a) by omega]
theorem flatP_app (a b : List (L8 × ResT)) : flatP (a ++ b) = flatP a ++ flatP b := by simp [flatP]
theorem flatP_one (fm : L8) (k : Nat) (r : AR) : flatP [aPart fm k r] = aPre (nx fm (k + 1)) ++ 59 :: (aBeh (nx fm (k + 1 + 1)) ++ (kvW (r.meth, r.value) ++ sepT fm (k + 1 + 1 + 1) r.prm)) := by
  simp [flatP, aPart, ResT.txt, sepT]
theorem part_cnt (fm : L8) (k : Nat) (r : AR) (hv : r.value ≠ []) : 2 + r.prm.length ≤ (flatP [aPart fm k r]).length := by
  have := sepT_len fm r.prm (k + 1 + 1 + 1)
  have hl := List.length_pos_iff.2 hv
  rw [flatP_one]
  simp only [List.length_append, List.length_cons, kvW]
  omega
theorem cnt_len (fm : L8) : ∀ (l : List AR) (k : Nat), (∀ r ∈ l, r.value ≠ []) → cntR l ≤ (flatP (aParts fm k l)).length
  | [], _, _ => by simp [cntR]
  | r :: l, k, h => by
    have h1 := part_cnt fm k r (h r (by simp))
    have h2 := cnt_len fm l (k + 2 + r.prm.length) (fun q hq => h q (by simp [hq]))
    have e : flatP (aParts fm k (r :: l)) = flatP [aPart fm k r] ++ flatP (aParts fm (k + 2 + r.prm.length) l) := by simp [aParts, flatP]
    rw [e, List.length_append]
    simp only [cntR]
    omega
theorem fit_iprm {r : AR} (hf : aFit1 r = true) : rPs r.reason ++ r.iprops.map propK = r.prm := by
  simp only [aFit1, Bool.and_eq_true, decide_eq_true_eq, Bool.or_eq_true] at hf
  obtain ⟨_, f5⟩ := hf
  simp only [AR.prm, AR.iprops]
  by_cases h0 : r.kind = 0
  · simp only [if_pos h0] at f5 ⊢
    simp only [Bool.and_eq_true, decide_eq_true_eq] at f5
    obtain ⟨a, _, _⟩ := gFit_spec _ _ f5.2
    congr 1
    rw [List.map_map]
    conv => rhs; rw [← List.map_id (r.ps.getD [])]
    refine List.map_congr_left fun p hp => ?_
    obtain ⟨q, hq, _, _⟩ := (a p hp).2.2.1
    have e := cut_mem (c := 46) hq
    have hq' : cutAt 46 p.1 = some q := hq
    simp only [Function.comp, propK, halfP, hq', id]
    rw [← e]
  · simp only [if_neg h0]
    rfl
theorem fit_val {r : AR} (hf : aFit1 r = true) : r.value ≠ [] := by
  simp only [aFit1, Bool.and_eq_true] at hf
  exact (val_low hf.1.1.1.1).2.2
theorem fit_info {r : AR} (hf : aFit1 r = true) {n : Nat} (hn : n < qtr) (fm : L8) (k : Nat) (h : (sepT fm k r.prm).length ≤ n) : con_AInfoOf [.agg r.cells] = some (infoV r) := by
  simp only [con_AInfoOf, asAR_cells]
  have hk := kind_cases hf
  refine if_pos ⟨by omega, by omega, fun h0 => ?_⟩
  have hp : r.prm = r.ps.getD [] := by
    have hf' := hf
    simp only [aFit1, Bool.and_eq_true, decide_eq_true_eq, Bool.or_eq_true, if_pos h0] at hf'
    simp only [AR.prm, if_pos h0, hf'.2.1.1.1.2, rPs, if_true, List.nil_append]
  rw [hp] at h
  simp only [qtr] at hn
  have hl := sepT_len fm (r.ps.getD []) k
  refine ⟨by simp only [half]; omega, fun p hpm => ?_⟩
  have : p.1.length ≤ (sepT fm k (r.ps.getD [])).length := by
    clear hl h hp
    generalize r.ps.getD [] = L at *
    induction L generalizing k with
    | nil => simp at hpm
    | cons x L ih =>
      simp only [sepT_cons, List.length_append, kvW, List.length_cons]
      rcases List.mem_cons.1 hpm with rfl | hpm
      · omega
      · have := ih (k + 1) hpm; omega
  simp only [big]; omega

def con_AText : List AV → Option AV
  | [.str i, u, f] => match slAR u, slBytes f with
    | some l, some fm => if aFits l = true ∧ (aTextOf i l fm).length < qtr then some (.str (aTextOf i l fm)) else none
    | _, _ => none
  | _ => none

set_option maxHeartbeats 2000000 in
theorem ok_AText (Γ : Gam) (s205 : Γ.st 205 = con_AText1) (h206 : Γ.fn 206 = con_AInfoOf) (h207 : Γ.fn 207 = con_ASpace) : ∀ args r, con_AText args = some r → runs Γ c_spec_AText args (fun v => v = r) := by
  intro args r h
  simp only [con_AText] at h
  split at h <;> (try simp at h; done)
  rename_i i u f
  split at h <;> (try simp at h; done)
  rename_i l fm hl hf
  obtain ⟨⟨hfit, hB⟩, rfl⟩ := ite_some h
  clear h
  have hfit' := hfit
  simp only [aFits, Bool.and_eq_true, List.all_eq_true, decide_eq_true_eq] at hfit'
  obtain ⟨hfa, hl10⟩ := hfit'
  have uk := sar_kill hl
  have us := sar_snapW hl
  have ua := sar_alen hl
  have uf : refs f = [] := slb_refs hf
  have mf := slb_map hf
  have kf := slb_kill hf
  have rf := slb_ref hf
  have at_ := slb_atom hf
  have cf := slb_cells hf
  simp only [cells] at cf
  have hBq := hB
  simp only [qtr] at hB
  have c0 : cntA fm 0 = 0 := by simp [cntA]
  have hlen : i.length + (flatP (aParts fm 0 l)).length ≤ (aTextOf i l fm).length := by simp only [aTextOf, List.length_append]; omega
  have hcl := cnt_len fm l 0 (fun r hr => fit_val (hfa r hr))
  simp -implicitDefEqProofs [-alen, c_spec_AText, cf, at_, rf, kf, uk, us, ua]
  refine awp_loop2 (σ := List AR × List AR) (fun z => ⟨[(1, u), (8, .fn 205 [.bx [f], .ref 7 0]), (9, .str (i ++ flatP (aParts fm 0 z.1))), (19, u), (20, .int .i64 l.length), (21, .int .i64 z.1.length)], [(7, .cells [.int .i64 (cntA fm (cntR z.1) : Nat)])]⟩)
    (fun z => l = z.1 ++ z.2) (fun z => z.2.length) ([], l) ?_ (by simp) ?_
  · simp [aParts, flatP, cntR, c0]
  rintro ⟨pre, post⟩ e1 LQ hLQ
  simp only at e1
  cases post with
  | nil =>
    simp only [List.append_nil] at e1
    subst e1
    have hnl : ¬ ((l.length : Int) < (l.length : Int)) := by omega
    cases l with
    | nil =>
      have kA : con_AText1 [.bx [f], .ref 0 0] [(0, .cells [.int .i64 0])] = some (.int .u8 (nx fm 1 : Nat), [(0, .cells [.int .i64 (cntA fm 1 : Nat)])]) := by
        have := next_con hf (m := 0) (by omega)
        rw [c0] at this
        simpa using this
      have kS := space_con fm 1
      simp only [aTextOf, aParts, flatP, List.flatMap_nil, List.nil_append, if_true, List.length_append, List.length_cons, sNone0, List.length_nil] at hB ⊢
      simp -implicitDefEqProofs [-alen, b_spec_AText_8, f_spec_AText_9, ua, uf, mf, kf, rf, at_, uk, us, acallS, reach_succ, s205, kA, acall, h207, kS, cntR, c0, aParts, flatP]
      first
        | (refine ⟨?_, ?_⟩ <;> omega)
        | omega
        | skip
    | cons x l =>
      have hn0 : ¬ ((l.length : Int) + 1 = 0) := by omega
      simp -implicitDefEqProofs [-alen, b_spec_AText_8, f_spec_AText_9, ua, hn0, aTextOf]
  | cons r post =>
    have hln : l.length = pre.length + (post.length + 1) := by rw [e1]; simp
    have hlt : (pre.length : Int) < (l.length : Int) := by omega
    have ew : IntKind.i64.wrap ((pre.length : Int) + 1) = (pre.length : Int) + 1 := wrap64 (by omega) (by omega)
    have hu := sar_ne hl (by rw [e1]; simp)
    have hr : aFit1 r = true := hfa r (by rw [e1]; simp)
    have g : (arA l)[pre.length]? = some (.agg r.cells) := by rw [e1, arA_app]; exact get_mid (by simp)
    have hcut : flatP (aParts fm 0 (pre ++ [r])) = flatP (aParts fm 0 pre) ++ flatP [aPart fm (cntR pre) r] := by rw [aParts_app, flatP_app, Nat.zero_add]
    have hBr : i.length + (flatP (aParts fm 0 pre)).length + (flatP [aPart fm (cntR pre) r]).length < qtr := by
      have e2 : flatP (aParts fm 0 l) = flatP (aParts fm 0 (pre ++ [r])) ++ flatP (aParts fm (cntR (pre ++ [r])) post) := by
        have : ∀ (a b : List AR) (k : Nat), aParts fm k (a ++ b) = aParts fm k a ++ aParts fm (k + cntR a) b := by
          intro a
          induction a with
          | nil => intro b k; simp [aParts, cntR]
          | cons x a ih =>
            intro b k
            simp only [List.cons_append, aParts, ih, cntR]
            rw [show k + 2 + x.prm.length + cntR a = k + (2 + x.prm.length + cntR a) by omega]
        rw [e1, show pre ++ r :: post = (pre ++ [r]) ++ post by simp, this, flatP_app, Nat.zero_add]
      rw [e2, hcut] at hlen
      simp only [List.length_append] at hlen
      simp only [qtr]; omega
    have hpc := cnt_len fm pre 0 (fun q hq => fit_val (hfa q (by rw [e1]; simp [hq])))
    have hpi := fit_iprm hr
    have hfl := flatP_one fm (cntR pre) r
    have hki : con_AInfoOf [.agg r.cells] = some (infoV r) := fit_info hr hBr fm (cntR pre + 1 + 1 + 1) (by rw [hfl]; simp only [List.length_append, List.length_cons]; omega)
    have hcnt : cntR (pre ++ [r]) = cntR pre + (2 + (rPs r.reason ++ r.iprops.map propK).length) := by rw [cntR_app, hpi]
    have hfl' := hfl
    rw [← hpi] at hfl'
    rw [hfl'] at hBr
    have hv := List.length_pos_iff.2 (fit_val hr)
    simp only [List.length_append, List.length_cons, kvW] at hBr
    have tc := tripV_cells r.iprops
    have ta := tripV_atom r.iprops
    have tk := tripV_kill r.iprops
    have tr := tripV_ref r.iprops
    simp only [cells] at tc
    have cu := slP_cells r.ps
    simp only [cells] at cu
    subst hu
    have T := fun Q ex hQ => at_6 (Γ := Γ) (Q := Q) s205 h207 hf uk us (l.length : Int) (pre.length : Int) r.meth r.value r.reason r.iprops (i ++ flatP (aParts fm 0 pre)) (cntR pre) ex (by simp only [List.length_append]; omega) (by simp only [qtr] at hBr ⊢; omega) hQ
    simp only [AR.cells, infoV] at g hki
    simp -implicitDefEqProofs [-alen, b_spec_AText_8, hlt, g, cu, uk, us, uf, mf, kf, rf, at_, h206, acall, hki, tc, ta, tk, tr]
    refine T _ _ (fun ex' => ?_)
    simp -implicitDefEqProofs [-alen, t_spec_AText_7, uk, us, ew]
    refine hLQ (pre ++ [r], post) (by simp [e1]) (by simp) _ ?_
    simp only [hcut, hfl', hcnt]
    simp -implicitDefEqProofs [-alen, uk, us, Nat.add_assoc]
end Wax


namespace Wax
open Go (IntKind)

def con_zzFits4 : List AV → Option AV
  | [.agg [.str a, .str b]] => some (.bool (fits14 a b))
  | _ => none
theorem ok_zzFits4 (Γ : Gam) : ∀ args r, con_zzFits4 args = some r → runs Γ c_laws_zzFits4 args (fun v => v = r) := by
  intro args r h
  simp only [con_zzFits4] at h
  split at h <;> simp at h
  rename_i a b
  subst h
  by_cases h1 : (2147483647 : Int) < (a.length : Int)
  · have e : ¬ a.length ≤ 2147483647 := by omega
    simp -implicitDefEqProofs [c_laws_zzFits4, h1, fits14, e]
  · have e : a.length ≤ 2147483647 := by omega
    by_cases h2 : (2147483647 : Int) < (b.length : Int)
    · have e2 : ¬ b.length ≤ 2147483647 := by omega
      simp -implicitDefEqProofs [c_laws_zzFits4, h1, h2, fits14, e, e2]
    · have e2 : b.length ≤ 2147483647 := by omega
      simp -implicitDefEqProofs [c_laws_zzFits4, h1, h2, fits14, e, e2]


def con_zzFits3 : List AV → Option AV
  | [u] => match slPairs u with
    | some l => if l.length < 9223372036854775808 then some (.bool (fits13 l)) else none
    | none => none
  | _ => none
theorem ok_zzFits3 (Γ : Gam) (h211 : Γ.fn 211 = con_zzFits4) : ∀ args r, con_zzFits3 args = some r → runs Γ c_laws_zzFits3 args (fun v => v = r) := by
  intro args r h
  simp only [con_zzFits3] at h
  split at h <;> (try simp at h; done)
  rename_i u
  split at h <;> (try simp at h; done)
  rename_i l hl
  obtain ⟨h1, rfl⟩ := ite_some h
  clear h
  by_cases hb : (2147483647 : Int) < (l.length : Int)
  · have e : ¬ l.length ≤ 2147483647 := by omega
    simp -implicitDefEqProofs [-alen, c_laws_zzFits3, slp_alen hl, hb, fits13, e]
  · have e : l.length ≤ 2147483647 := by omega
    simp -implicitDefEqProofs [-alen, c_laws_zzFits3, slp_alen hl, hb]
    refine awp_loop2 (σ := List KVp × List KVp) (fun p => ⟨[(8, u), (9, .int .i64 l.length), (10, .int .i64 p.1.length)], []⟩)
      (fun p => l = p.1 ++ p.2 ∧ (p.1.all fun t => fits14 t.1 t.2) = true) (fun p => p.2.length) ([], l) (by simp) (by simp) ?_
    rintro ⟨pre, post⟩ ⟨e1, e2⟩ LQ hLQ
    simp only at e1 e2
    cases post with
    | nil =>
      simp only [List.append_nil] at e1
      subst e1
      have : fits13 l = true := by simp only [fits13, e2, e]; rfl
      simp -implicitDefEqProofs [b_laws_zzFits3_1, t_laws_zzFits3_2, this]
    | cons x post =>
      obtain ⟨a, b⟩ := x
      have hu := slp_ne hl (by rw [e1]; simp)
      subst hu
      have hlen : l.length = pre.length + (post.length + 1) := by rw [e1]; simp
      have hlt : (pre.length : Int) < (l.length : Int) := by omega
      have ew : IntKind.i64.wrap ((pre.length : Int) + 1) = (pre.length : Int) + 1 := wrap64 (by omega) (by omega)
      have g : l[pre.length]? = some (a, b) := by rw [e1]; exact get_mid rfl
      cases hf : fits14 a b with
      | true =>
        simp -implicitDefEqProofs [b_laws_zzFits3_1, hlt, g, acall, h211, con_zzFits4, hf, ew]
        exact hLQ (pre ++ [(a, b)], post) ⟨by rw [e1]; simp, by simp only [List.all_append, e2, List.all_cons, hf]; rfl⟩ (by simp) _ (by simp)
      | false =>
        have : fits13 l = false := by
          have : (l.all fun t => fits14 t.1 t.2) = false := by rw [e1]; simp [hf]
          simp only [fits13, this, Bool.and_false]
        simp -implicitDefEqProofs [b_laws_zzFits3_1, hlt, g, acall, h211, con_zzFits4, hf, this]


def lenB (s : L8) : Bool := decide (s.length ≤ 2147483647)
def fit2 (r : AR) : Bool := lenB r.method && (lenB r.value && (lenB r.reason && (lenB r.domain && (lenB r.ident && (lenB r.fr && (lenB r.sender && (lenB r.ip && (lenB r.helo && (lenB r.auth && (lenB r.hkey && (lenB r.hval && (lenB r.remote && fits13 (r.ps.getD [])))))))))))))
def con_zzFits2 : List AV → Option AV
  | [.agg cs] => match asAR cs with
    | some r => if (r.ps.getD []).length < 9223372036854775808 then some (.bool (fit2 r)) else none
    | none => none
  | _ => none
theorem lenB_f {s : L8} (h : (2147483647 : Int) < (s.length : Int)) : lenB s = false := decide_eq_false (by omega)
theorem lenB_t {s : L8} (h : ¬ (2147483647 : Int) < (s.length : Int)) : lenB s = true := decide_eq_true (by omega)
set_option maxRecDepth 100000 in
set_option maxHeartbeats 4000000 in
theorem ok_zzFits2 (Γ : Gam) (h210 : Γ.fn 210 = con_zzFits3) : ∀ args r, con_zzFits2 args = some r → runs Γ c_laws_zzFits2 args (fun v => v = r) := by
  intro args r h
  simp only [con_zzFits2] at h
  split at h <;> (try simp at h; done)
  rename_i cs
  split at h <;> (try simp at h; done)
  rename_i r hr
  obtain ⟨h1, rfl⟩ := ite_some h
  clear h
  rw [asAR_spec hr]
  obtain ⟨kind, method, value, reason, domain, ident, fr, sender, ip, helo, auth, hkey, hval, remote, oldest, ps⟩ := r
  simp only at h1
  have k3 : con_zzFits3 [slP ps] = some (.bool (fits13 (ps.getD []))) := by
    simp only [con_zzFits3, slP_pairs]
    exact if_pos h1
  have cu := slP_cells ps
  simp only [cells] at cu
  have ca := slP_atom ps
  have cr := slP_ref ps
  have ck := slP_kill ps
  simp only [fit2, AR.cells]
  by_cases q0 : (2147483647 : Int) < (method.length : Int)
  · have e := lenB_f q0
    simp -implicitDefEqProofs [c_laws_zzFits2, cu, ca, cr, ck, q0, e]
  have e0 := lenB_t q0
  simp only [e0, Bool.true_and]
  by_cases q1 : (2147483647 : Int) < (value.length : Int)
  · have e := lenB_f q1
    simp -implicitDefEqProofs [c_laws_zzFits2, cu, ca, cr, ck, q0, q1, e]
  have e1 := lenB_t q1
  simp only [e1, Bool.true_and]
  by_cases q2 : (2147483647 : Int) < (reason.length : Int)
  · have e := lenB_f q2
    simp -implicitDefEqProofs [c_laws_zzFits2, cu, ca, cr, ck, q0, q1, q2, e]
  have e2 := lenB_t q2
  simp only [e2, Bool.true_and]
  by_cases q3 : (2147483647 : Int) < (domain.length : Int)
  · have e := lenB_f q3
    simp -implicitDefEqProofs [c_laws_zzFits2, cu, ca, cr, ck, q0, q1, q2, q3, e]
  have e3 := lenB_t q3
  simp only [e3, Bool.true_and]
  by_cases q4 : (2147483647 : Int) < (ident.length : Int)
  · have e := lenB_f q4
    simp -implicitDefEqProofs [c_laws_zzFits2, cu, ca, cr, ck, q0, q1, q2, q3, q4, e]
  have e4 := lenB_t q4
  simp only [e4, Bool.true_and]
  by_cases q5 : (2147483647 : Int) < (fr.length : Int)
  · have e := lenB_f q5
    simp -implicitDefEqProofs [c_laws_zzFits2, cu, ca, cr, ck, q0, q1, q2, q3, q4, q5, e]
  have e5 := lenB_t q5
  simp only [e5, Bool.true_and]
  by_cases q6 : (2147483647 : Int) < (sender.length : Int)
  · have e := lenB_f q6
    simp -implicitDefEqProofs [c_laws_zzFits2, cu, ca, cr, ck, q0, q1, q2, q3, q4, q5, q6, e]
  have e6 := lenB_t q6
  simp only [e6, Bool.true_and]
  by_cases q7 : (2147483647 : Int) < (ip.length : Int)
  · have e := lenB_f q7
    simp -implicitDefEqProofs [c_laws_zzFits2, cu, ca, cr, ck, q0, q1, q2, q3, q4, q5, q6, q7, e]
  have e7 := lenB_t q7
  simp only [e7, Bool.true_and]
  by_cases q8 : (2147483647 : Int) < (helo.length : Int)
  · have e := lenB_f q8
    simp -implicitDefEqProofs [c_laws_zzFits2, cu, ca, cr, ck, q0, q1, q2, q3, q4, q5, q6, q7, q8, e]
  have e8 := lenB_t q8
  simp only [e8, Bool.true_and]
  by_cases q9 : (2147483647 : Int) < (auth.length : Int)
  · have e := lenB_f q9
    simp -implicitDefEqProofs [c_laws_zzFits2, cu, ca, cr, ck, q0, q1, q2, q3, q4, q5, q6, q7, q8, q9, e]
  have e9 := lenB_t q9
  simp only [e9, Bool.true_and]
  by_cases q10 : (2147483647 : Int) < (hkey.length : Int)
  · have e := lenB_f q10
    simp -implicitDefEqProofs [c_laws_zzFits2, cu, ca, cr, ck, q0, q1, q2, q3, q4, q5, q6, q7, q8, q9, q10, e]
  have e10 := lenB_t q10
  simp only [e10, Bool.true_and]
  by_cases q11 : (2147483647 : Int) < (hval.length : Int)
  · have e := lenB_f q11
    simp -implicitDefEqProofs [c_laws_zzFits2, cu, ca, cr, ck, q0, q1, q2, q3, q4, q5, q6, q7, q8, q9, q10, q11, e]
  have e11 := lenB_t q11
  simp only [e11, Bool.true_and]
  by_cases q12 : (2147483647 : Int) < (remote.length : Int)
  · have e := lenB_f q12
    simp -implicitDefEqProofs [c_laws_zzFits2, cu, ca, cr, ck, q0, q1, q2, q3, q4, q5, q6, q7, q8, q9, q10, q11, q12, e]
  have e12 := lenB_t q12
  simp only [e12, Bool.true_and]
  generalize fits13 (ps.getD []) = b at k3 ⊢
  cases b <;> simp -implicitDefEqProofs [c_laws_zzFits2, cu, ca, cr, ck, q0, q1, q2, q3, q4, q5, q6, q7, q8, q9, q10, q11, q12, acall, h210, k3]

end Wax


namespace Wax
open Go (IntKind)

theorem keyw_con {s : L8} (h : s.length < mid) : con_MailKeyword [.str s] = some (.bool (mKw s)) := if_pos (by simp only [mid] at h; simp only [big]; omega)
theorem plain_con {s : L8} (h : s.length < mid) : con_APlain [.str s] = some (.bool (aPlain s)) := if_pos h
theorem halves_con {s : L8} {c : Int} (h : s.length < mid) : con_MailHalves [.str s, .int .u8 c] = some (cutV c s) := if_pos (by simp only [mid] at h; simp only [big]; omega)
theorem tokn_con {s : L8} (h : s.length < mid) : con_MailToken [.str s] = some (.bool (mTok s)) := if_pos (by simp only [mid] at h; simp only [big]; omega)

section
variable {Γ : Gam} (h99 : Γ.fn 99 = con_MailKeyword) (h102 : Γ.fn 102 = con_MailHalves) (h104 : Γ.fn 104 = con_MailToken) (h112 : Γ.fn 112 = con_MailLower) (h200 : Γ.fn 200 = con_AMethods) (h201 : Γ.fn 201 = con_AProps) (h203 : Γ.fn 203 = con_AValues) (h204 : Γ.fn 204 = con_APlain)
variable {u : AV} (uk : ∀ d, kill d u = u) (us : ∀ g, snapW g u = u) (n i : Int)

/-- One property of a generic result. -/
def g1Fit (prev : Option L8) (p : KVp) : Bool := (match cutAt 46 p.1 with | some q => mKw q.1 && mKw q.2 | none => false) && decide (lowS p.1 = p.1) && aPlain p.2 && (match prev with | none => true | some k => decide (k < p.1))
theorem gFit_cons (prev : Option L8) (p : KVp) (r : List KVp) : gFit prev (p :: r) = (g1Fit prev p && gFit (some p.1) r) := rfl

include h99 h102 h112 h204 uk us in
set_option maxRecDepth 100000 in
set_option maxHeartbeats 4000000 in
theorem af_4 {Q : APost} (r : AR) (L : List KVp) (hL : r.ps.getD [] = L) (hl : L.length < mid) (hz : ∀ p ∈ L, p.1.length < mid ∧ p.2.length < mid) (ex : List (Nat × AV))
    (hT : gFit none L = true → ∀ ex', Q (.exit 1) ⟨(0, u) :: (4, .ptr r.cells) :: (17, u) :: (18, .int .i64 n) :: (19, .int .i64 i) :: ex', []⟩)
    (hF : gFit none L = false → Q .ret ⟨[(2, .bool false)], []⟩) :
    awp Γ f_spec_AFits_4 Q ⟨(0, u) :: (4, .ptr r.cells) :: (17, u) :: (18, .int .i64 n) :: (19, .int .i64 i) :: ex, []⟩ := by
  have ha : ∀ hp, alen hp 1 (slP r.ps) = some L.length := by
    intro hp; rw [← hL]; cases r.ps <;> simp [slP, alen]
  have cu := slP_cells r.ps
  have at_ := slP_atom r.ps
  have kl := slP_kill r.ps
  have sn := slP_snapW r.ps
  simp only [cells] at cu
  simp only [mid] at hl
  have hc : r.cells = [.int .i64 r.kind, .str r.method, .str r.value, .str r.reason, .str r.domain, .str r.ident, .str r.fr, .str r.sender, .str r.ip, .str r.helo, .str r.auth, .str r.hkey, .str r.hval, .str r.remote, .int .i64 r.oldest, slP r.ps] := rfl
  have hne : L ≠ [] → slP r.ps = .sl 2 (pr2 L) := by
    intro h; cases hp : r.ps with
    | none => rw [hp] at hL; exact absurd hL.symm h
    | some x => rw [hp] at hL; simp at hL; subst hL; rfl
  simp only [hc] at hT ⊢
  generalize slP r.ps = S at *
  simp -implicitDefEqProofs [-alen, f_spec_AFits_4, cu, ha, at_, kl, sn, uk, us]
  refine awp_loop2 (σ := List KVp × List KVp) (fun z => ⟨[(0, u), (4, .ptr [.int .i64 r.kind, .str r.method, .str r.value, .str r.reason, .str r.domain, .str r.ident, .str r.fr, .str r.sender, .str r.ip, .str r.helo, .str r.auth, .str r.hkey, .str r.hval, .str r.remote, .int .i64 r.oldest, S]), (17, u), (18, .int .i64 n), (19, .int .i64 i), (103, S), (104, .int .i64 L.length), (105, .int .i64 z.1.length)], []⟩)
    (fun z => L = z.1 ++ z.2 ∧ gFit none L = gFit (z.1.getLast?.map (·.1)) z.2) (fun z => z.2.length) ([], L) (by simp) (by simp) ?_
  rintro ⟨pre, post⟩ ⟨e1, e2⟩ LQ hLQ
  simp only at e1 e2
  cases post with
  | nil =>
    simp only [List.append_nil] at e1
    subst e1
    have hnl : ¬ ((L.length : Int) < (L.length : Int)) := by omega
    simp -implicitDefEqProofs [b_spec_AFits_3]
    exact hT e2 _
  | cons p post =>
    have hS := hne (by rw [e1]; simp)
    subst hS
    have hlen : L.length = pre.length + (post.length + 1) := by rw [e1]; simp
    have hlt : (pre.length : Int) < (L.length : Int) := by omega
    have ew : IntKind.i64.wrap ((pre.length : Int) + 1) = (pre.length : Int) + 1 := wrap64 (by omega) (by omega)
    have ew1 : IntKind.i64.wrap ((pre.length : Int) - 1) = (pre.length : Int) - 1 := wrap64 (by omega) (by omega)
    have g : L[pre.length]? = some p := by rw [e1]; exact get_mid rfl
    obtain ⟨k, v⟩ := p
    obtain ⟨z1, z2⟩ := hz (k, v) (by rw [e1]; simp)
    simp only at z1 z2
    have k1 := halves_con (c := 46) z1
    have k2 := low_con z1
    have k3 := plain_con z2
    rw [gFit_cons] at e2
    have bad : g1Fit (pre.getLast?.map (·.1)) (k, v) = false → Q .ret ⟨[(2, .bool false)], []⟩ := fun h => hF (by rw [e2, h]; rfl)
    have good : g1Fit (pre.getLast?.map (·.1)) (k, v) = true → LQ ⟨[(0, u), (4, .ptr [.int .i64 r.kind, .str r.method, .str r.value, .str r.reason, .str r.domain, .str r.ident, .str r.fr, .str r.sender, .str r.ip, .str r.helo, .str r.auth, .str r.hkey, .str r.hval, .str r.remote, .int .i64 r.oldest, .sl 2 (pr2 L)]), (17, u), (18, .int .i64 n), (19, .int .i64 i), (103, .sl 2 (pr2 L)), (104, .int .i64 L.length), (105, .int .i64 ((pre.length : Int) + 1))], []⟩ := fun h =>
      hLQ (pre ++ [(k, v)], post) ⟨by rw [e1]; simp, by rw [e2, h]; simp⟩ (by simp) _ (by simp)
    simp only [g1Fit] at bad good
    cases hc2 : cutAt 46 k with
    | none =>
      simp only [cutV, hc2] at k1
      have b := bad (by simp [hc2])
      simp -implicitDefEqProofs [b_spec_AFits_3, hlt, g, acall, h102, k1]
      exact b
    | some q =>
      simp only [cutV, hc2] at k1
      have hq := cutAt_lens hc2
      have w1 := keyw_con (s := q.1) (by omega)
      have w2 := keyw_con (s := q.2) (by omega)
      simp only [hc2] at bad good
      by_cases b1 : mKw q.1 = true
      case neg =>
        have b := bad (by simp [b1])
        simp only [Bool.not_eq_true] at b1
        rw [b1] at w1
        simp -implicitDefEqProofs [b_spec_AFits_3, hlt, g, acall, h102, k1, h99, w1]
        exact b
      rw [b1] at w1
      by_cases b2 : mKw q.2 = true
      case neg =>
        have b := bad (by simp [b2])
        simp only [Bool.not_eq_true] at b2
        rw [b2] at w2
        simp -implicitDefEqProofs [b_spec_AFits_3, hlt, g, acall, h102, k1, h99, w1, w2]
        exact b
      rw [b2] at w2
      by_cases b3 : lowS k = k
      case neg =>
        have b := bad (by simp [b3])
        simp -implicitDefEqProofs [b_spec_AFits_3, hlt, g, acall, h102, k1, h99, w1, w2, h112, k2, b3]
        exact b
      rw [b3] at k2
      by_cases b4 : aPlain v = true
      case neg =>
        have b := bad (by simp [b4])
        simp only [Bool.not_eq_true] at b4
        rw [b4] at k3
        simp -implicitDefEqProofs [b_spec_AFits_3, hlt, g, acall, h102, k1, h99, w1, w2, h112, k2, h204, k3]
        exact b
      rw [b4] at k3
      simp only [b1, b2, b3, b4, Bool.and_self, decide_true, Bool.true_and] at bad good
      rcases List.eq_nil_or_concat pre with rfl | ⟨p', y, rfl⟩
      · have gd := good (by simp)
        simp only [List.nil_append] at e1
        subst e1
        have hl0 : (0 : Int) < (post.length : Int) + 1 := by omega
        have ew0 : IntKind.i64.wrap 1 = 1 := rfl
        simp at gd
        simp -implicitDefEqProofs [b_spec_AFits_3, hl0, ew0, acall, h102, k1, h99, w1, w2, h112, k2, h204, k3, uk, us]
        exact gd
      · have hlt' : (p'.length : Int) + 1 < (L.length : Int) := by simpa using hlt
        have g' : L[p'.length + 1]? = some (k, v) := by simpa using g
        have gy : L[p'.length]? = some y := by rw [e1]; simp
        have ew' : IntKind.i64.wrap ((p'.length : Int) + 1 + 1) = (p'.length : Int) + 1 + 1 := wrap64 (by omega) (by omega)
        have ew2 : IntKind.i64.wrap ((p'.length : Int)) = (p'.length : Int) := wrap64 (by omega) (by omega)
        have et : ((p'.length : Int) + 1).toNat = p'.length + 1 := by omega
        have hle : (0 : Int) ≤ (p'.length : Int) + 1 := by omega
        have hpos : (0 : Int) < (p'.length : Int) + 1 := by omega
        simp at bad good
        obtain ⟨yk, yv⟩ := y
        by_cases b5 : yk < k
        · have gd := good b5
          simp -implicitDefEqProofs [b_spec_AFits_3, hlt', g', et, hle, hpos, ew', ew2, gy, acall, h102, k1, h99, w1, w2, h112, k2, h204, k3, uk, us, lexLt_eq, b5]
          exact gd
        · have b := bad (by simpa using b5)
          simp -implicitDefEqProofs [b_spec_AFits_3, hlt', g', et, hle, hpos, ew', ew2, gy, acall, h102, k1, h99, w1, w2, h112, k2, h204, k3, uk, us, lexLt_eq, b5]
          exact b

theorem ms_any (m : L8) (pre post : List L8) : (pre ++ post).contains m = (pre.contains m || post.contains m) := by
  rw [Bool.eq_iff_iff]; simp
include h99 h102 h112 h200 h204 uk us in
set_option maxRecDepth 100000 in
set_option maxHeartbeats 4000000 in
theorem af_5 {Q : APost} (r : AR) (L : List KVp) (hL : r.ps.getD [] = L) (hl : L.length < mid) (hz : ∀ p ∈ L, p.1.length < mid ∧ p.2.length < mid) (ex : List (Nat × AV))
    (hT : (!aMeths.contains r.method && gFit none L) = true → ∀ ex', Q (.exit 1) ⟨(0, u) :: (4, .ptr r.cells) :: (17, u) :: (18, .int .i64 n) :: (19, .int .i64 i) :: ex', []⟩)
    (hF : (!aMeths.contains r.method && gFit none L) = false → Q .ret ⟨[(2, .bool false)], []⟩) :
    awp Γ f_spec_AFits_5 Q ⟨(0, u) :: (4, .ptr r.cells) :: (17, u) :: (18, .int .i64 n) :: (19, .int .i64 i) :: ex, []⟩ := by
  have cu := slP_cells r.ps
  have at_ := slP_atom r.ps
  have kl := slP_kill r.ps
  have sn := slP_snapW r.ps
  simp only [cells] at cu
  have hc : r.cells = [.int .i64 r.kind, .str r.method, .str r.value, .str r.reason, .str r.domain, .str r.ident, .str r.fr, .str r.sender, .str r.ip, .str r.helo, .str r.auth, .str r.hkey, .str r.hval, .str r.remote, .int .i64 r.oldest, slP r.ps] := rfl
  have k0 : con_AMethods [] = some (.sl 1 (strsA aMeths)) := rfl
  have hal : aMeths.length = 8 := rfl
  have T := fun (b : aMeths.contains r.method = false) ex => af_4 (Q := Q) h99 h102 h112 h204 uk us n i r L hL hl hz ex (fun h => hT (by rw [b, h]; rfl)) (fun h => hF (by rw [b, h]; rfl))
  generalize aMeths = M at *
  simp only [hc] at T ⊢
  simp -implicitDefEqProofs [f_spec_AFits_5, cu, at_, kl, sn, uk, us, acall, h200, k0]
  refine awp_loop2 (σ := List L8 × List L8) (fun z => ⟨[(0, u), (4, .ptr [.int .i64 r.kind, .str r.method, .str r.value, .str r.reason, .str r.domain, .str r.ident, .str r.fr, .str r.sender, .str r.ip, .str r.helo, .str r.auth, .str r.hkey, .str r.hval, .str r.remote, .int .i64 r.oldest, slP r.ps]), (17, u), (18, .int .i64 n), (19, .int .i64 i), (91, .sl 1 (strsA M)), (92, .int .i64 M.length), (93, .int .i64 z.1.length)], []⟩)
    (fun z => M = z.1 ++ z.2 ∧ z.1.contains r.method = false) (fun z => z.2.length) ([], M) (by simp) (by simp) ?_
  rintro ⟨pre, post⟩ ⟨e1, e2⟩ LQ hLQ
  simp only at e1 e2
  cases post with
  | nil =>
    simp only [List.append_nil] at e1
    subst e1
    have hnl : ¬ ((M.length : Int) < (M.length : Int)) := by omega
    simp -implicitDefEqProofs [b_spec_AFits_2]
    exact T e2 _
  | cons m post =>
    have hlen : M.length = pre.length + (post.length + 1) := by rw [e1]; simp
    have hlt : (pre.length : Int) < (M.length : Int) := by omega
    have ew : IntKind.i64.wrap ((pre.length : Int) + 1) = (pre.length : Int) + 1 := wrap64 (by omega) (by omega)
    have g : M[pre.length]? = some m := by rw [e1]; exact get_mid rfl
    by_cases hm : m = r.method
    · have b : M.contains r.method = true := by rw [e1, hm]; simp
      have f := hF (by rw [b]; rfl)
      simp -implicitDefEqProofs [b_spec_AFits_2, hlt, g, hm]
      exact f
    · have b : (pre ++ [m]).contains r.method = false := by rw [ms_any, e2]; simp [Ne.symm hm]
      simp -implicitDefEqProofs [b_spec_AFits_2, hlt, g, hm, ew, uk, us]
      exact hLQ (pre ++ [m], post) ⟨by rw [e1]; simp, b⟩ (by simp) _ (by simp)

theorem props_len (r : AR) : r.props.length ≤ 10 := by
  unfold AR.props
  repeat' split
  all_goals simp
theorem tripV_ne {L : List (L8 × L8 × L8)} (h : L ≠ []) : tripV L = .sl 3 (tr3 L) := by cases L with
  | nil => exact absurd rfl h
  | cons _ _ => rfl
def t1Fit (p : L8 × L8 × L8) : Bool := aPlain p.2.2 && mKw p.2.1 && decide (lowS p.2.1 = p.2.1)
include h99 h112 h201 h204 uk us in
set_option maxRecDepth 100000 in
set_option maxHeartbeats 4000000 in
theorem af_7 {Q : APost} (r : AR) (hz : ∀ p ∈ r.props, p.2.1.length < mid ∧ p.2.2.length < mid) (ex : List (Nat × AV))
    (hT : r.props.all t1Fit = true → ∀ ex', Q .normal ⟨(0, u) :: (17, u) :: (18, .int .i64 n) :: (19, .int .i64 i) :: ex', []⟩)
    (hF : r.props.all t1Fit = false → Q .ret ⟨[(2, .bool false)], []⟩) :
    awp Γ f_spec_AFits_7 Q ⟨(0, u) :: (4, .ptr r.cells) :: (17, u) :: (18, .int .i64 n) :: (19, .int .i64 i) :: ex, []⟩ := by
  have cu := slP_cells r.ps
  have at_ := slP_atom r.ps
  have kl := slP_kill r.ps
  have sn := slP_snapW r.ps
  simp only [cells] at cu
  have hc : r.cells = [.int .i64 r.kind, .str r.method, .str r.value, .str r.reason, .str r.domain, .str r.ident, .str r.fr, .str r.sender, .str r.ip, .str r.helo, .str r.auth, .str r.hkey, .str r.hval, .str r.remote, .int .i64 r.oldest, slP r.ps] := rfl
  have k0 : con_AProps [.agg r.cells] = some (tripV r.props) := by simp only [con_AProps, asAR_cells, Option.map]
  have hq : r.props.length ≤ 10 := props_len r
  generalize r.props = L at *
  have ha : ∀ hp, alen hp 1 (tripV L) = some L.length := by intro hp; cases L <;> simp [tripV, alen]
  have tc := tripV_cells L
  have ta := tripV_atom L
  have tk := tripV_kill L
  have tr := tripV_ref L
  simp only [cells] at tc
  have hne : L ≠ [] → tripV L = .sl 3 (tr3 L) := fun h => tripV_ne h
  simp only [hc] at k0 ⊢
  generalize tripV L = S at *
  simp -implicitDefEqProofs [-alen, f_spec_AFits_7, cu, at_, kl, sn, uk, us, acall, h201, k0, ha, tc, ta, tk, tr]
  refine awp_loop2 (σ := List (L8 × L8 × L8) × List (L8 × L8 × L8)) (fun z => ⟨[(0, u), (17, u), (18, .int .i64 n), (19, .int .i64 i), (161, S), (162, .int .i64 L.length), (163, .int .i64 z.1.length)], []⟩)
    (fun z => L = z.1 ++ z.2 ∧ z.1.all t1Fit = true) (fun z => z.2.length) ([], L) (by simp) (by simp) ?_
  rintro ⟨pre, post⟩ ⟨e1, e2⟩ LQ hLQ
  simp only at e1 e2
  cases post with
  | nil =>
    simp only [List.append_nil] at e1
    subst e1
    have hnl : ¬ ((L.length : Int) < (L.length : Int)) := by omega
    simp -implicitDefEqProofs [b_spec_AFits_6]
    exact hT e2 _
  | cons p post =>
    have hS := hne (by rw [e1]; simp)
    subst hS
    have hlen : L.length = pre.length + (post.length + 1) := by rw [e1]; simp
    have hlt : (pre.length : Int) < (L.length : Int) := by omega
    have ew : IntKind.i64.wrap ((pre.length : Int) + 1) = (pre.length : Int) + 1 := wrap64 (by omega) (by omega)
    have g : L[pre.length]? = some p := by rw [e1]; exact get_mid rfl
    have g2 : (tr3 L)[pre.length]? = some (.agg [.str p.1, .str p.2.1, .str p.2.2]) := by simp [tr3, g]
    obtain ⟨z1, z2⟩ := hz p (by rw [e1]; simp)
    obtain ⟨a, b, c⟩ := p
    simp only at z1 z2 g2
    have k1 := plain_con z2
    have k2 := keyw_con z1
    have k3 := low_con z1
    have bad : t1Fit (a, b, c) = false → Q .ret ⟨[(2, .bool false)], []⟩ := fun h => hF (by rw [e1]; simp [h])
    have good : t1Fit (a, b, c) = true → LQ ⟨[(0, u), (17, u), (18, .int .i64 n), (19, .int .i64 i), (161, .sl 3 (tr3 L)), (162, .int .i64 L.length), (163, .int .i64 ((pre.length : Int) + 1))], []⟩ := fun h =>
      hLQ (pre ++ [(a, b, c)], post) ⟨by rw [e1]; simp, by rw [List.all_append, e2]; simp [h]⟩ (by simp) _ (by simp)
    simp only [t1Fit] at bad good
    by_cases b1 : aPlain c = true
    case neg =>
      have f := bad (by simp [b1])
      simp only [Bool.not_eq_true] at b1
      rw [b1] at k1
      simp -implicitDefEqProofs [b_spec_AFits_6, hlt, g2, uk, us, acall, h204, k1]
      exact f
    rw [b1] at k1
    by_cases b2 : mKw b = true
    case neg =>
      have f := bad (by simp [b2])
      simp only [Bool.not_eq_true] at b2
      rw [b2] at k2
      simp -implicitDefEqProofs [b_spec_AFits_6, hlt, g2, uk, us, acall, h204, k1, h99, k2]
      exact f
    rw [b2] at k2
    by_cases b3 : lowS b = b
    case neg =>
      have f := bad (by simp [b3])
      simp -implicitDefEqProofs [b_spec_AFits_6, hlt, g2, uk, us, acall, h204, k1, h99, k2, h112, k3, b3]
      exact f
    rw [b3] at k3
    have f := good (by simp [b1, b2, b3])
    simp -implicitDefEqProofs [b_spec_AFits_6, hlt, g2, uk, us, acall, h204, k1, h99, k2, h112, k3, ew]
    exact f

/-- What is behind the reason. -/
def k1Fit (r : AR) : Bool := if r.kind = 0 then mKw r.method && decide (lowS r.method = r.method) && decide (r.method ≠ sNone0) && decide (r.reason = []) && decide (r.method.length ≤ 30) && !aMeths.contains r.method && gFit none (r.ps.getD [])
   else r.props.all t1Fit
structure SzR (r : AR) : Prop where
  m : r.method.length < mid
  rs : r.reason.length < mid
  l : (r.ps.getD []).length < mid
  z : ∀ p ∈ r.ps.getD [], p.1.length < mid ∧ p.2.length < mid
  q : ∀ p ∈ r.props, p.2.1.length < mid ∧ p.2.2.length < mid

include h99 h102 h112 h200 h201 h204 uk us in
set_option maxRecDepth 100000 in
set_option maxHeartbeats 4000000 in
theorem af_8 {Q : APost} (r : AR) (sz : SzR r) (ex : List (Nat × AV))
    (hT : k1Fit r = true → ∀ ex', Q .normal ⟨(0, u) :: (17, u) :: (18, .int .i64 n) :: (19, .int .i64 i) :: ex', []⟩)
    (hT2 : k1Fit r = true → ∀ ex', Q (.exit 1) ⟨(0, u) :: (4, .ptr r.cells) :: (17, u) :: (18, .int .i64 n) :: (19, .int .i64 i) :: ex', []⟩)
    (hF : k1Fit r = false → Q .ret ⟨[(2, .bool false)], []⟩) :
    awp Γ f_spec_AFits_8 Q ⟨(0, u) :: (4, .ptr r.cells) :: (17, u) :: (18, .int .i64 n) :: (19, .int .i64 i) :: ex, []⟩ := by
  have cu := slP_cells r.ps
  have at_ := slP_atom r.ps
  have kl := slP_kill r.ps
  have sn := slP_snapW r.ps
  simp only [cells] at cu
  have hc : r.cells = [.int .i64 r.kind, .str r.method, .str r.value, .str r.reason, .str r.domain, .str r.ident, .str r.fr, .str r.sender, .str r.ip, .str r.helo, .str r.auth, .str r.hkey, .str r.hval, .str r.remote, .int .i64 r.oldest, slP r.ps] := rfl
  by_cases h0 : r.kind = 0
  · simp only [k1Fit, if_pos h0] at hT hT2 hF
    have k1 := keyw_con sz.m
    have k2 := low_con sz.m
    by_cases b1 : mKw r.method = true
    case neg =>
      have f := hF (by simp [b1])
      simp only [Bool.not_eq_true] at b1
      rw [b1] at k1
      simp only [hc]
      simp -implicitDefEqProofs [f_spec_AFits_8, h0, cu, at_, kl, sn, uk, us, acall, h99, k1]
      exact f
    rw [b1] at k1
    by_cases b2 : lowS r.method = r.method
    case neg =>
      have f := hF (by simp [b2])
      simp only [hc]
      simp -implicitDefEqProofs [f_spec_AFits_8, h0, cu, at_, kl, sn, uk, us, acall, h99, k1, h112, k2, b2]
      exact f
    rw [b2] at k2
    by_cases b3 : r.method = sNone0
    · have f := hF (by simp [b3])
      have b3' : r.method = [110, 111, 110, 101] := b3
      rw [b3'] at k1 k2
      simp only [hc]
      simp -implicitDefEqProofs [f_spec_AFits_8, h0, cu, at_, kl, sn, uk, us, acall, h99, k1, h112, k2, b3']
      exact f
    have b3' : ¬ r.method = [110, 111, 110, 101] := b3
    by_cases b4 : r.reason = []
    case neg =>
      have f := hF (by simp [b4])
      simp only [hc]
      simp -implicitDefEqProofs [f_spec_AFits_8, h0, cu, at_, kl, sn, uk, us, acall, h99, k1, h112, k2, b3', b4]
      exact f
    by_cases b5 : r.method.length ≤ 30
    case neg =>
      have f := hF (by simp [b5])
      have b5' : (30 : Int) < (r.method.length : Int) := by omega
      simp only [hc]
      simp -implicitDefEqProofs [f_spec_AFits_8, h0, cu, at_, kl, sn, uk, us, acall, h99, k1, h112, k2, b3', b4, b5']
      exact f
    have b5' : ¬ (30 : Int) < (r.method.length : Int) := by omega
    simp only [b1, b2, b3, b4, b5, decide_true, Bool.and_self, Bool.true_and, ne_eq, not_false_eq_true] at hT hT2 hF
    have T := fun ex => af_5 (Q := thenQ (awp Γ f_spec_AFits_7 Q) Q) h99 h102 h112 h200 h204 uk us n i r _ rfl sz.l sz.z ex (fun h => hT2 h) (fun h => hF h)
    simp only [hc, h0, b4] at T
    simp only [hc]
    simp -implicitDefEqProofs [f_spec_AFits_8, h0, cu, at_, kl, sn, uk, us, acall, h99, k1, h112, k2, b3', b4, b5']
    exact T _
  · simp only [k1Fit, if_neg h0] at hT hF
    have T := fun ex => af_7 (Q := Q) h99 h112 h201 h204 uk us n i r sz.q ex hT hF
    simp only [hc] at T ⊢
    simp -implicitDefEqProofs [f_spec_AFits_8, h0, cu, at_, kl, sn, uk, us]
    exact T _

theorem fit1_k (r : AR) : aFit1 r = (aVals.contains r.value && (decide (0 ≤ r.kind) && (decide (r.kind ≤ 7) && ((decide (r.reason = []) || mTok r.reason) && k1Fit r)))) := by
  have e : t1Fit = fun p => aPlain p.2.2 && mKw p.2.1 && decide (lowS p.2.1 = p.2.1) := rfl
  simp only [aFit1, k1Fit, e, Bool.and_assoc]

include h99 h102 h104 h112 h200 h201 h204 uk us in
set_option maxRecDepth 100000 in
set_option maxHeartbeats 4000000 in
theorem af_9 {Q : APost} (r : AR) (sz : SzR r) (ex : List (Nat × AV))
    (hT : aFit1 r = true → ∀ ex', Q .normal ⟨(0, u) :: (17, u) :: (18, .int .i64 n) :: (19, .int .i64 i) :: ex', []⟩)
    (hT2 : aFit1 r = true → ∀ ex', Q (.exit 1) ⟨(0, u) :: (4, .ptr r.cells) :: (17, u) :: (18, .int .i64 n) :: (19, .int .i64 i) :: ex', []⟩)
    (hF : aFit1 r = false → Q .ret ⟨[(2, .bool false)], []⟩) :
    awp Γ f_spec_AFits_9 Q ⟨(0, u) :: (4, .ptr r.cells) :: (5, .bool (aVals.contains r.value)) :: (17, u) :: (18, .int .i64 n) :: (19, .int .i64 i) :: ex, []⟩ := by
  have cu := slP_cells r.ps
  have at_ := slP_atom r.ps
  have kl := slP_kill r.ps
  have sn := slP_snapW r.ps
  simp only [cells] at cu
  have hc : r.cells = [.int .i64 r.kind, .str r.method, .str r.value, .str r.reason, .str r.domain, .str r.ident, .str r.fr, .str r.sender, .str r.ip, .str r.helo, .str r.auth, .str r.hkey, .str r.hval, .str r.remote, .int .i64 r.oldest, slP r.ps] := rfl
  have T := fun (h : aFit1 r = k1Fit r) ex => af_8 (Q := Q) h99 h102 h112 h200 h201 h204 uk us n i r sz ex (fun e => hT (h.trans e)) (fun e => hT2 (h.trans e)) (fun e => hF (h.trans e))
  rw [fit1_k] at T hF
  clear hT hT2
  have kt := tokn_con sz.rs
  cases b1 : aVals.contains r.value with
  | false =>
    have f := hF (by simp only [b1, Bool.false_and])
    simp only [hc]
    simp -implicitDefEqProofs [f_spec_AFits_9, cu, at_, kl, sn, uk, us]
    exact f
  | true =>
    by_cases b2 : r.kind < 0
    · have f := hF (by simp only [b1, show ¬ (0 ≤ r.kind) by omega, decide_false, Bool.false_and, Bool.and_false])
      simp only [hc]
      simp -implicitDefEqProofs [f_spec_AFits_9, cu, at_, kl, sn, uk, us, b2]
      exact f
    by_cases b3 : 7 < r.kind
    · have f := hF (by simp only [b1, show ¬ (r.kind ≤ 7) by omega, decide_false, Bool.false_and, Bool.and_false])
      simp only [hc]
      simp -implicitDefEqProofs [f_spec_AFits_9, cu, at_, kl, sn, uk, us, b2, b3]
      exact f
    have c2 : 0 ≤ r.kind := by omega
    have c3 : r.kind ≤ 7 := by omega
    simp only [b1, c2, c3, decide_true, Bool.true_and] at T hF
    by_cases b4 : r.reason = []
    · have T' := T (by rw [b4]; simp)
      simp only [hc, b4] at T'
      simp only [hc]
      simp -implicitDefEqProofs [f_spec_AFits_9, cu, at_, kl, sn, uk, us, b2, b3, b4]
      exact T' _
    · cases b5 : mTok r.reason with
      | false =>
        have f := hF (by simp [b4, b5])
        rw [b5] at kt
        simp only [hc]
        simp -implicitDefEqProofs [f_spec_AFits_9, cu, at_, kl, sn, uk, us, b2, b3, b4, acall, h104, kt]
        exact f
      | true =>
        have T' := T (by simp [b5])
        rw [b5] at kt
        simp only [hc] at T' ⊢
        simp -implicitDefEqProofs [f_spec_AFits_9, cu, at_, kl, sn, uk, us, b2, b3, b4, acall, h104, kt]
        exact T' _
end

section
variable {Γ : Gam} {u : AV} (uk : ∀ d, kill d u = u) (us : ∀ g, snapW g u = u) (n i : Int)
include uk us in
set_option maxRecDepth 100000 in
set_option maxHeartbeats 4000000 in
theorem af_v {Q : APost} (r : AR) (V : List L8) (hV : V.length ≤ 10)
    (hT : ∀ ex', Q (.exit 2) ⟨(0, u) :: (4, .ptr r.cells) :: (5, .bool (V.contains r.value)) :: (17, u) :: (18, .int .i64 n) :: (19, .int .i64 i) :: ex', []⟩) :
    awp Γ (.loop [0, 4, 5, 17, 18, 19, 23, 24, 25] b_spec_AFits_1) Q ⟨[(0, u), (4, .ptr r.cells), (5, .bool false), (17, u), (18, .int .i64 n), (19, .int .i64 i), (23, .sl 1 (strsA V)), (24, .int .i64 V.length), (25, .int .i64 0)], []⟩ := by
  have cu := slP_cells r.ps
  have at_ := slP_atom r.ps
  have kl := slP_kill r.ps
  have sn := slP_snapW r.ps
  simp only [cells] at cu
  have hc : r.cells = [.int .i64 r.kind, .str r.method, .str r.value, .str r.reason, .str r.domain, .str r.ident, .str r.fr, .str r.sender, .str r.ip, .str r.helo, .str r.auth, .str r.hkey, .str r.hval, .str r.remote, .int .i64 r.oldest, slP r.ps] := rfl
  simp only [hc] at hT ⊢
  refine awp_loop2 (σ := List L8 × List L8) (fun z => ⟨[(0, u), (4, .ptr [.int .i64 r.kind, .str r.method, .str r.value, .str r.reason, .str r.domain, .str r.ident, .str r.fr, .str r.sender, .str r.ip, .str r.helo, .str r.auth, .str r.hkey, .str r.hval, .str r.remote, .int .i64 r.oldest, slP r.ps]), (5, .bool (z.1.contains r.value)), (17, u), (18, .int .i64 n), (19, .int .i64 i), (23, .sl 1 (strsA V)), (24, .int .i64 V.length), (25, .int .i64 z.1.length)], []⟩)
    (fun z => V = z.1 ++ z.2) (fun z => z.2.length) ([], V) (by simp) (by simp) ?_
  rintro ⟨pre, post⟩ e1 LQ hLQ
  simp only at e1
  cases post with
  | nil =>
    simp only [List.append_nil] at e1
    subst e1
    have hnl : ¬ ((V.length : Int) < (V.length : Int)) := by omega
    simp -implicitDefEqProofs [b_spec_AFits_1]
    simpa using hT _
  | cons m post =>
    have hlen : V.length = pre.length + (post.length + 1) := by rw [e1]; simp
    have hlt : (pre.length : Int) < (V.length : Int) := by omega
    have ew : IntKind.i64.wrap ((pre.length : Int) + 1) = (pre.length : Int) + 1 := wrap64 (by omega) (by omega)
    have g : V[pre.length]? = some m := by rw [e1]; exact get_mid rfl
    have f : LQ ⟨[(0, u), (4, .ptr [.int .i64 r.kind, .str r.method, .str r.value, .str r.reason, .str r.domain, .str r.ident, .str r.fr, .str r.sender, .str r.ip, .str r.helo, .str r.auth, .str r.hkey, .str r.hval, .str r.remote, .int .i64 r.oldest, slP r.ps]), (5, .bool ((pre ++ [m]).contains r.value)), (17, u), (18, .int .i64 n), (19, .int .i64 i), (23, .sl 1 (strsA V)), (24, .int .i64 V.length), (25, .int .i64 ((pre.length : Int) + 1))], []⟩ :=
      hLQ (pre ++ [m], post) (by rw [e1]; simp) (by simp) _ (by simp)
    rw [ms_any] at f
    cases hb : pre.contains r.value with
    | true =>
      rw [hb] at f
      simp -implicitDefEqProofs [b_spec_AFits_1, hlt, g, ew, uk, us, cu, at_, kl, sn]
      simpa using f
    | false =>
      rw [hb] at f
      have e : [m].contains r.value = decide (m = r.value) := by rw [Bool.eq_iff_iff]; simp [eq_comm]
      rw [e] at f
      simp -implicitDefEqProofs [b_spec_AFits_1, hlt, g, ew, uk, us, cu, at_, kl, sn]
      simpa using f
/-- Bounds that results meet. -/
theorem sz_fit2 {r : AR} (h : fit2 r = true) : SzR r := by
  simp only [fit2, lenB, fits13, fits14, Bool.and_eq_true, decide_eq_true_eq, List.all_eq_true] at h
  obtain ⟨h1, h2, h3, h4, h5, h6, h7, h8, h9, h10, h11, h12, h13, h14, h15⟩ := h
  refine ⟨by simp only [mid]; omega, by simp only [mid]; omega, by simp only [mid]; omega, fun p hp => by have := h15 p hp; simp only [mid]; omega, ?_⟩
  have M : (2147483647 : Nat) < mid := by simp only [mid]; omega
  intro p hp
  unfold AR.props at hp
  have c5 : ∀ s : L8, s.length ≤ 10 → s.length < mid := fun s h => by simp only [mid]; omega
  repeat' split at hp
  all_goals simp at hp
  all_goals try rcases hp with rfl | rfl | rfl
  all_goals try rcases hp with rfl | rfl
  all_goals try subst hp
  all_goals (refine ⟨?_, ?_⟩ <;> first | (simp only [mid]; omega) | (simp [nAuth, nD, nI, nFrom, nSender, nIprev, nMail, nHelo, mid]))
end

def con_AFits : List AV → Option AV
  | [u] => match slAR u with
    | some l => if l.length < half ∧ l.all fit2 = true then some (.bool (aFits l)) else none
    | none => none
  | _ => none
set_option maxRecDepth 100000 in
set_option maxHeartbeats 4000000 in
theorem ok_AFits (Γ : Gam) (h99 : Γ.fn 99 = con_MailKeyword) (h102 : Γ.fn 102 = con_MailHalves) (h104 : Γ.fn 104 = con_MailToken) (h112 : Γ.fn 112 = con_MailLower) (h200 : Γ.fn 200 = con_AMethods) (h201 : Γ.fn 201 = con_AProps) (h203 : Γ.fn 203 = con_AValues) (h204 : Γ.fn 204 = con_APlain) :
    ∀ args r, con_AFits args = some r → runs Γ c_spec_AFits args (fun v => v = r) := by
  intro args r h
  simp only [con_AFits] at h
  split at h <;> (try simp at h; done)
  rename_i u
  split at h <;> (try simp at h; done)
  rename_i l hl
  obtain ⟨⟨h1, h2⟩, rfl⟩ := ite_some h
  clear h
  have uk := sar_kill hl
  have us := sar_snapW hl
  have ua := sar_alen hl
  simp only [half] at h1
  rw [List.all_eq_true] at h2
  simp -implicitDefEqProofs [-alen, c_spec_AFits, ua]
  refine awp_loop2 (σ := List AR × List AR) (fun z => ⟨[(0, u), (17, u), (18, .int .i64 l.length), (19, .int .i64 z.1.length)], []⟩)
    (fun z => l = z.1 ++ z.2 ∧ z.1.all aFit1 = true) (fun z => z.2.length) ([], l) (by simp) (by simp) ?_
  rintro ⟨pre, post⟩ ⟨e1, e2⟩ LQ hLQ
  simp only at e1 e2
  cases post with
  | nil =>
    simp only [List.append_nil] at e1
    subst e1
    have hnl : ¬ ((l.length : Int) < (l.length : Int)) := by omega
    have e : aFits l = decide ((l.length : Int) ≤ 10) := by
      simp only [aFits, e2, Bool.true_and]
      exact decide_eq_decide.2 (by omega)
    simp -implicitDefEqProofs [-alen, b_spec_AFits_11, t_spec_AFits_12, ua, e]
  | cons x post =>
    have hu := sar_ne hl (by rw [e1]; simp)
    subst hu
    have hlen : l.length = pre.length + (post.length + 1) := by rw [e1]; simp
    have hlt : (pre.length : Int) < (l.length : Int) := by omega
    have ew : IntKind.i64.wrap ((pre.length : Int) + 1) = (pre.length : Int) + 1 := wrap64 (by omega) (by omega)
    have g : (arA l)[pre.length]? = some (.agg x.cells) := by rw [e1, arA_app]; exact get_mid (by simp)
    have sz := sz_fit2 (h2 x (by rw [e1]; simp))
    have cu := slP_cells x.ps
    simp only [cells] at cu
    have k203 : con_AValues [] = some (.sl 1 (strsA aVals)) := rfl
    have bad : aFit1 x = false → aFits l = false := fun h => by
      have : l.all aFit1 = false := by rw [e1]; simp [h]
      simp only [aFits, this, Bool.false_and]
    have good : aFit1 x = true → LQ ⟨[(0, .sl 16 (arA l)), (17, .sl 16 (arA l)), (18, .int .i64 l.length), (19, .int .i64 ((pre.length : Int) + 1))], []⟩ := fun h =>
      hLQ (pre ++ [x], post) ⟨by rw [e1]; simp, by rw [List.all_append, e2]; simp [h]⟩ (by simp) _ (by simp)
    have hc : x.cells = [.int .i64 x.kind, .str x.method, .str x.value, .str x.reason, .str x.domain, .str x.ident, .str x.fr, .str x.sender, .str x.ip, .str x.helo, .str x.auth, .str x.hkey, .str x.hval, .str x.remote, .int .i64 x.oldest, slP x.ps] := rfl
    have T := fun Q a b c ex => af_9 (Γ := Γ) (Q := Q) h99 h102 h104 h112 h200 h201 h204 uk us (l.length : Int) (pre.length : Int) x sz ex a b c
    have hal : aVals.length = 9 := rfl
    have V := fun Q hT => af_v (Γ := Γ) (Q := Q) uk us (l.length : Int) (pre.length : Int) x aVals (by omega) hT
    rw [hal] at V
    simp only [hc] at g T V
    generalize hVV : aVals = V9 at *
    simp -implicitDefEqProofs [b_spec_AFits_11, hlt, g, cu, uk, us, acall, h203, k203, hal]
    refine V _ fun ex' => ?_
    refine T _ ?_ ?_ ?_ _
    · intro h ex''
      have gd := good h
      simp -implicitDefEqProofs [t_spec_AFits_10, ew]
      exact gd
    · intro h ex''
      have gd := good h
      simp -implicitDefEqProofs [t_spec_AFits_10, ew]
      exact gd
    · intro h
      have b := bad h
      simp -implicitDefEqProofs [b]
end Wax


namespace Wax
open Go (IntKind)

theorem only_only (r : AR) : r.only.only = r.only := by
  by_cases h0 : r.kind = 0
  · simp [AR.only, h0]
  by_cases h1 : r.kind = 1
  · simp [AR.only, h1]
  by_cases h2 : r.kind = 2
  · simp [AR.only, h2]
  by_cases h3 : r.kind = 3
  · simp [AR.only, h3]
  by_cases h4 : r.kind = 4
  · simp [AR.only, h4]
  by_cases h5 : r.kind = 5
  · simp [AR.only, h5]
  by_cases h6 : r.kind = 6
  · simp [AR.only, h6]
  by_cases h7 : r.kind = 7
  · simp [AR.only, h7]
  simp [AR.only, h0, h1, h2, h3, h4, h5, h6, h7]
theorem fit2_only {r : AR} (h : fit2 r = true) : fit2 r.only = true := by
  simp only [fit2, lenB, Bool.and_eq_true, decide_eq_true_eq] at h
  obtain ⟨h1, h2, h3, h4, h5, h6, h7, h8, h9, h10, h11, h12, h13, h14⟩ := h
  have hn : fits13 [] = true := rfl
  unfold AR.only
  repeat' split
  all_goals simp [fit2, lenB, ar0, h1, h2, h3, h4, h5, h6, h7, h8, h9, h10, h11, h12, h13, h14, hn]
theorem norm_norm (r : AR) : r.norm.norm = r.norm := by
  obtain ⟨a, b, c, d, e, f, g, h, i, j, k, l, m, n, o, ps⟩ := r
  cases ps with
  | none => rfl
  | some p => cases p <;> rfl
theorem norm_ps (r : AR) : r.norm.ps.getD [] = r.ps.getD [] := by
  obtain ⟨a, b, c, d, e, f, g, h, i, j, k, l, m, n, o, ps⟩ := r
  cases ps with
  | none => rfl
  | some p => cases p <;> rfl
theorem fit2_ps {r : AR} (h : fit2 r = true) : (r.ps.getD []).length < half := by
  simp only [fit2, lenB, fits13, Bool.and_eq_true, decide_eq_true_eq] at h
  simp only [half]; omega
end Wax


namespace Wax
open Go (IntKind)

def kKeys : List L8 := [qReason, qAuth, qD, qI, qFrom, qSend, qIprev, qMail, qHelo]
theorem prOf_congr {m v : L8} {l l' : List KVp} (hm : m ∈ aMeths) (ha : m ≠ sArc) (h : ∀ k ∈ kKeys, lookP l k = lookP l' k) (hs : m = sSender → sidOf l = sidOf l') : prOf m v l = prOf m v l' := by
  have k1 := h qReason (by simp [kKeys])
  have k2 := h qAuth (by simp [kKeys])
  have k3 := h qD (by simp [kKeys])
  have k4 := h qI (by simp [kKeys])
  have k5 := h qFrom (by simp [kKeys])
  have k6 := h qSend (by simp [kKeys])
  have k7 := h qIprev (by simp [kKeys])
  have k8 := h qMail (by simp [kKeys])
  have k9 := h qHelo (by simp [kKeys])
  simp only [prOf, if_neg ha, k1, k2, k3, k4, k5, k6, k7, k8, k9]
  simp only [aMeths, List.mem_cons, List.not_mem_nil, or_false] at hm
  rcases hm with rfl | rfl | rfl | rfl | rfl | rfl | rfl | rfl <;> first | exact absurd rfl ha | rfl | (have hs := hs rfl; simp only [hs]; rfl)

theorem lookP_pset : ∀ (l : List KVp) (k v j : L8), lookP (psetL l k v) j = if j = k then v else lookP l j
  | [], k, v, j => by simp [psetL, lookP]
  | (i, u) :: r, k, v, j => by
    simp only [psetL]
    split
    · rename_i e
      subst e
      simp only [lookP]
      split <;> rfl
    · rename_i e
      simp only [lookP, lookP_pset r k v j]
      split
      · rename_i e2
        subst e2
        rw [if_neg (fun h => e h.symm)]
      · rfl
theorem pset_keys : ∀ (l : List KVp) (k v : L8), (∀ x ∈ (psetL l k v).map (·.1), x = k ∨ x ∈ l.map (·.1)) ∧ ∀ x ∈ l.map (·.1), x ∈ (psetL l k v).map (·.1)
  | [], k, v => by simp [psetL]
  | (i, u) :: r, k, v => by
    obtain ⟨h1, h2⟩ := pset_keys r k v
    simp only [psetL]
    split
    · rename_i e
      subst e
      exact ⟨fun x hx => .inr hx, fun x hx => hx⟩
    · refine ⟨fun x hx => ?_, fun x hx => ?_⟩
      · simp only [List.map_cons, List.mem_cons] at hx ⊢
        rcases hx with rfl | hx
        · exact .inr (.inl rfl)
        · rcases h1 x hx with h | h
          · exact .inl h
          · exact .inr (.inr h)
      · simp only [List.map_cons, List.mem_cons] at hx ⊢
        rcases hx with rfl | hx
        · exact .inl rfl
        · exact .inr (h2 x hx)
theorem prmsOf_app : ∀ (a b : List L8) (acc : List KVp), prmsOf (a ++ b) acc = prmsOf b (prmsOf a acc)
  | [], b, acc => rfl
  | w :: a, b, acc => by
    simp only [List.cons_append, prmsOf]
    cases kvOf w with
    | none => exact prmsOf_app a b acc
    | some p => exact prmsOf_app a b _
/-- Words whose keys are not asked for. -/
theorem prms_more : ∀ (l : List KVp) (acc : List KVp), (∀ p ∈ l, KvOk p) →
    (∀ j, (∀ p ∈ l, lowS p.1 ≠ j) → lookP (prmsOf (l.map kvW) acc) j = lookP acc j) ∧
    (∀ x ∈ (prmsOf (l.map kvW) acc).map (·.1), x ∈ acc.map (·.1) ∨ ∃ p ∈ l, lowS p.1 = x) ∧ ∀ x ∈ acc.map (·.1), x ∈ (prmsOf (l.map kvW) acc).map (·.1)
  | [], acc, _ => ⟨fun _ _ => rfl, fun x hx => .inl hx, fun x hx => hx⟩
  | p :: r, acc, h => by
    obtain ⟨h1, h2, h3⟩ := prms_more r (psetL acc (lowS p.1) p.2) (fun q hq => h q (by simp [hq]))
    obtain ⟨g1, g2⟩ := pset_keys acc (lowS p.1) p.2
    simp only [List.map_cons, prmsOf, kvW_of (h p (by simp))]
    refine ⟨fun j hj => ?_, fun x hx => ?_, fun x hx => h3 x (g2 x hx)⟩
    · rw [h1 j (fun q hq => hj q (by simp [hq])), lookP_pset, if_neg (fun e => hj p (by simp) e.symm)]
    · rcases h2 x hx with h | ⟨q, hq, e⟩
      · rcases g1 x h with rfl | h
        · exact .inr ⟨p, by simp, rfl⟩
        · exact .inl h
      · exact .inr ⟨q, by simp [hq], e⟩
/-- The one key of a header is the first. -/
theorem sid_only {l : List KVp} {k : L8} (hk : headB k = true) (hin : k ∈ l.map (·.1)) (ho : ∀ x ∈ l.map (·.1), x = k ∨ headB x = false) : sidOf l = (k.drop 7, lookP l k) := by
  have hf : (sortB (l.map (·.1))).find? headB = some k := by
    have hin' : k ∈ sortB (l.map (·.1)) := by simpa [sortB] using hin
    have ho' : ∀ x ∈ sortB (l.map (·.1)), x = k ∨ headB x = false := fun x hx => ho x (by simpa [sortB] using hx)
    generalize sortB (l.map (·.1)) = L at *
    cases hf : L.find? headB with
    | none =>
      have := List.find?_eq_none.1 hf k hin'
      rw [hk] at this; simp at this
    | some y =>
      have h1 := List.find?_some hf
      rcases ho' y (List.mem_of_find?_eq_some hf) with rfl | h
      · rfl
      · rw [h] at h1; simp at h1
  simp only [sidOf, hf]
/-- A result's text, where a key may stand twice. -/
structure ResT.OkW (t : ResT) : Prop where
  pre : allWs t.pre
  head : KvOk t.head
  ps : ∀ p ∈ t.ps, (p.1 ≠ [] ∧ allWs p.1) ∧ KvOk p.2
theorem ResT.OkW.res {t : ResT} (h : t.OkW) {b : L8} (hb : allWs b) {x : PR} (hx : prOf (lowS t.head.1) (lowS t.head.2) (prmsOf ((t.ps.map (·.2)).map kvW) []) = .inr x) : trimS (t.txt ++ b) ≠ [] ∧ resAOf (trimS (t.txt ++ b)) = .inr (some x) := by
  have hw : wordsOf (t.txt ++ b) = kvW t.head :: (t.ps.map (·.2)).map kvW := by
    have e : t.txt ++ b = t.pre ++ (kvW t.head ++ (flatW (t.ps.map fun p => (p.1, kvW p.2)) ++ b)) := by simp [ResT.txt]
    rw [e, wordsOf_flat h.pre hb kvW_ne (gW_non (kvW_g h.head))]
    · simp
    · intro p hp
      obtain ⟨q, hq, rfl⟩ := List.mem_map.1 hp
      have := h.ps q hq
      exact ⟨this.1, kvW_ne, gW_non (kvW_g this.2)⟩
  have hw2 := wordsOf_trim (t.txt ++ b)
  rw [hw] at hw2
  refine ⟨fun e => ?_, ?_⟩
  · rw [e] at hw2; simp [wordsOf, wordsGo] at hw2
  · simp only [resAOf, hw2]
    rw [if_neg kvW_not_none, kvW_of h.head]
    simp only [hx]
theorem ResT.OkW.no {t : ResT} (h : t.OkW) : noB 59 t.txt := by
  refine noB_app (allWs_no h.pre) (noB_app (gW_no (kvW_g h.head)) ?_)
  intro x hx
  simp only [flatW, List.mem_flatMap, List.mem_map] at hx
  obtain ⟨_, ⟨q, hq, rfl⟩, hx⟩ := hx
  have := h.ps q hq
  rcases List.mem_append.1 hx with hx | hx
  · exact allWs_no this.1.2 x hx
  · exact gW_no (kvW_g this.2) x hx
theorem ResT.OkW.pl {t : ResT} (h : t.OkW) : plain t.txt = true := by
  refine plain_appB (allWs_plain h.pre) (plain_appB (gW_plain (kvW_g h.head)) ?_)
  simp only [plain, List.all_eq_true]
  intro x hx
  simp only [flatW, List.mem_flatMap, List.mem_map] at hx
  obtain ⟨_, ⟨q, hq, rfl⟩, hx⟩ := hx
  have := h.ps q hq
  have hp : plain (q.1 ++ kvW q.2) = true := plain_appB (allWs_plain this.1.2) (gW_plain (kvW_g this.2))
  exact List.all_eq_true.1 hp x hx
/-- A field of one result. -/
theorem ad_text1 {i p : L8} (hi : aPlain i = true) (hp : allWs p) {t : ResT} (h : t.OkW) {x : PR} (hx : prOf (lowS t.head.1) (lowS t.head.2) (prmsOf ((t.ps.map (·.2)).map kvW) []) = .inr x) :
    adText (i ++ (p ++ 59 :: t.txt)) = some (i, [x]) ∧ plain (i ++ (p ++ 59 :: t.txt)) = true := by
  obtain ⟨g1, g2, _⟩ := aPlain_g hi
  have e : i ++ (p ++ 59 :: t.txt) = (i ++ p) ++ 59 :: t.txt := by simp
  have h1 := (h.res (b := []) (by intro y hy; simp at hy) hx)
  simp only [List.append_nil] at h1
  refine ⟨?_, ?_⟩
  · simp only [adText]
    rw [e, splitB_app (b := 59) (noB_app (gW_no g1) (allWs_no hp)), splitB_only (b := 59) h.no]
    simp only [adId_word g1 g2 hp, adGo, if_neg h1.1, h1.2]
    rfl
  · rw [e]
    refine plain_appB (plain_appB (gW_plain g1) (allWs_plain hp)) ?_
    have : plain ([59] ++ t.txt) = true := plain_appB (by decide) h.pl
    exact this

def xKey (n : L8) : L8 := 120 :: 45 :: (n ++ 46 :: n)
def xKvs (l : List (L8 × L8 × L8)) : List (L8 × KVp) := l.map fun p => ([32], (xKey p.2.1, p.2.2))
def xTxt (l : List (L8 × L8 × L8)) : L8 := l.flatMap fun p => 32 :: (xKey p.2.1 ++ 61 :: p.2.2)
theorem xKvs_txt (l : List (L8 × L8 × L8)) : flatW ((xKvs l).map fun p => (p.1, kvW p.2)) = xTxt l := by
  induction l with
  | nil => rfl
  | cons p l ih =>
    simp only [xKvs, List.map_cons, flatW, List.flatMap_cons, xTxt] at ih ⊢
    rw [ih]; rfl
theorem xKv_ok {n v : L8} (hn : mKw n = true) (hv : aPlain v = true) : KvOk (xKey n, v) := by
  obtain ⟨k1, k2, k3⟩ := kw_g hn
  obtain ⟨v1, _, _⟩ := aPlain_g hv
  refine ⟨?_, ?_, v1⟩
  · have : gW ([120, 45] ++ (n ++ ([46] ++ n))) := gW_app (by simp only [gW]; decide) (gW_app k1 (gW_app (by simp only [gW]; decide) k1))
    exact this
  · intro x hx
    simp only [xKey, List.mem_cons, List.mem_append] at hx
    rcases hx with rfl | rfl | hx | rfl | hx
    · decide
    · decide
    · exact k2 x hx
    · decide
    · exact k2 x hx
theorem kKeys_head : ∀ k ∈ kKeys, k.head? ≠ some 120 := by decide
theorem ResT.Ok.prms {t : ResT} (h : t.Ok) : prmsOf ((t.ps.map (·.2)).map kvW) [] = t.prm := by
  rw [prmsOf_kv _ [] (fun p hp => by obtain ⟨q, hq, rfl⟩ := List.mem_map.1 hp; exact (h.ps q hq).2)]
  · simp [ResT.prm]
  · simpa [Function.comp_def] using h.nd
/-- A result with more properties is read as the one without them. -/
theorem more_read {i : L8} (hi : aPlain i = true) {r : AR} (hf : aFit1 r = true) (h0 : r.kind ≠ 0) {l : List (L8 × L8 × L8)} (hl : ∀ p ∈ l, mKw p.2.1 = true ∧ aPlain p.2.2 = true) (fm : L8) :
    ∃ x : PR, adText (aTextOf i [r] fm ++ xTxt l) = some (i, [x]) ∧ x.ar = r.only.norm ∧ plain (aTextOf i [r] fm ++ xTxt l) = true := by
  obtain ⟨p1, p2, p3⟩ := aPart_ok hf fm 0
  obtain ⟨x, hx, ex⟩ := reads_all hf
  obtain ⟨q1, q2, q3, q4⟩ := fit_parts hf
  have hk : ∀ p ∈ (xKvs l).map (·.2), KvOk p := by
    intro p hp
    simp only [xKvs, List.map_map, List.mem_map, Function.comp] at hp
    obtain ⟨q, hq, rfl⟩ := hp
    exact xKv_ok (hl q hq).1 (hl q hq).2
  have hx120 : ∀ p ∈ (xKvs l).map (·.2), (lowS p.1).head? = some 120 := by
    intro p hp
    simp only [xKvs, List.map_map, List.mem_map, Function.comp] at hp
    obtain ⟨q, hq, rfl⟩ := hp
    rfl
  have ht : (⟨(aPart fm 0 r).2.pre, (aPart fm 0 r).2.head, (aPart fm 0 r).2.ps ++ xKvs l⟩ : ResT).OkW := by
    refine ⟨p2.pre, p2.head, ?_⟩
    intro p hp
    rcases List.mem_append.1 hp with hp | hp
    · exact p2.ps p hp
    · refine ⟨?_, hk p.2 (List.mem_map.2 ⟨p, hp, rfl⟩)⟩
      simp only [xKvs, List.mem_map] at hp
      obtain ⟨q, _, rfl⟩ := hp
      exact ⟨by simp, by intro y hy; simp at hy; subst hy; decide⟩
  have hprm : prmsOf (((aPart fm 0 r).2.ps ++ xKvs l).map (·.2) |>.map kvW) [] = prmsOf (((xKvs l).map (·.2)).map kvW) r.prm := by
    rw [List.map_append, List.map_append, prmsOf_app, p2.prms, p3]
  obtain ⟨g1, g2, g3⟩ := prms_more ((xKvs l).map (·.2)) r.prm hk
  have hpr : prOf (lowS r.meth) (lowS r.value) (prmsOf (((xKvs l).map (·.2)).map kvW) r.prm) = .inr x := by
    rw [q3, q4, ← hx]
    have hkd := kind_cases hf
    obtain ⟨m, hm7, hkm⟩ : ∃ m : Nat, m < 7 ∧ r.kind = (m + 1 : Nat) := ⟨(r.kind - 1).toNat, by omega, by omega⟩
    have hmem0 : ∀ m : Nat, m < 7 → aMeths.getD m [] ∈ aMeths ∧ aMeths.getD m [] ≠ sArc ∧ (aMeths.getD m [] = sSender → m = 4) := by decide
    have hmem := hmem0 m hm7
    rw [← meth_of hkm] at hmem
    refine prOf_congr hmem.1 hmem.2.1 (fun k hk' => g1 k fun p hp e => kKeys_head k hk' (by rw [← e]; exact hx120 p hp)) (fun hs => ?_)
    have h5 : r.kind = 5 := by
      have := hmem.2.2 hs
      omega
    have hp : r.prm = rPs r.reason ++ [(tHeader ++ 46 :: r.hkey, r.hval)] := by simp only [AR.prm, AR.props, h5]; rfl
    have hb : headB (tHeader ++ 46 :: r.hkey) = true := by
      simp only [headB, tHeader, qHead]
      simp [List.isPrefixOf]
    have hin : (tHeader ++ 46 :: r.hkey) ∈ r.prm.map (·.1) := by rw [hp]; simp
    have ho : ∀ y ∈ r.prm.map (·.1), y = tHeader ++ 46 :: r.hkey ∨ headB y = false := by
      rw [hp]
      intro y hy
      simp only [rPs] at hy
      split at hy
      · simp at hy; exact .inl hy
      · simp at hy
        rcases hy with rfl | rfl
        · exact .inr (by decide)
        · exact .inl rfl
    rw [sid_only hb hin ho, sid_only hb (g3 _ hin)]
    · congr 1
      refine g1 _ fun p hp e => ?_
      have := hx120 p hp
      rw [e] at this
      simp [tHeader] at this
    · intro y hy
      rcases g2 y hy with h | ⟨p, hp, e⟩
      · exact ho y h
      · right
        have := hx120 p hp
        rw [e] at this
        cases y with
        | nil => simp at this
        | cons c y =>
          simp only [List.head?_cons, Option.some.injEq] at this
          subst this
          simp [headB, qHead, List.isPrefixOf]
  have etxt : aTextOf i [r] fm ++ xTxt l = i ++ ((aPart fm 0 r).1 ++ 59 :: (⟨(aPart fm 0 r).2.pre, (aPart fm 0 r).2.head, (aPart fm 0 r).2.ps ++ xKvs l⟩ : ResT).txt) := by
    simp only [aTextOf, aParts, flatP, List.flatMap_cons, List.flatMap_nil, ResT.txt, List.map_append, flatW, List.flatMap_append]
    have := xKvs_txt l
    simp only [flatW] at this
    rw [this]
    simp
  obtain ⟨a1, a2⟩ := ad_text1 hi p1 ht (x := x) (by
    show prOf (lowS r.meth) (lowS r.value) _ = _
    rw [hprm]; exact hpr)
  rw [etxt]
  exact ⟨x, a1, ex, a2⟩
end Wax


namespace Wax
open Go (IntKind)

theorem k_text' {i fm : L8} {v f : AV} {l : List AR} (hv : slAR v = some l) (hf : slBytes f = some fm) (h1 : aFits l = true) (h2 : (aTextOf i l fm).length < qtr) : con_AText [.str i, v, f] = some (.str (aTextOf i l fm)) := by
  simp only [con_AText, hv, hf]
  exact if_pos ⟨h1, h2⟩

end Wax


namespace Wax
open Go Go.ChangeShapes Go.WideShapes Go.RowKit

section
variable {P : Program} {T : Tab} {w : World} {H : Type} {enc : TypeId × Value → H}

theorem has_block {a : Addr} {e : TypeId} {n : Nat} {r : Reach} {base : Nat} (h : w.has P r base a e n) : ∃ o, a = ⟨a.block, o, none⟩ ∧ a.block < w.heap.size := by
  obtain ⟨_, h2, row, cells, h3, _⟩ := h
  refine ⟨a.off, ?_, ?_⟩
  · cases a; simp at h2; simp [h2]
  · rcases Nat.lt_or_ge a.block w.heap.size with h | h
    · exact h
    · simp [World.shape?, Array.getElem?_eq_none h] at h3

/-- A slice's place, from its outer form. -/
theorem okWide_place {t e : TypeId} {r : Reach} {base : Nat} {a : Addr} {len cap : Nat} (ht : P.underlying t = some (.slice e)) (h : Value.okWide P w r base t (.slice (some a) len cap)) : ∃ b o, a = ⟨b, o, none⟩ ∧ b < w.heap.size := by
  simp only [Value.okWide, ht, Cell.okWide, Cell.ok] at h
  obtain ⟨o, h1, h2⟩ := has_block h.2.2
  exact ⟨a.block, o, h1, h2⟩

end
theorem lkGl_mem : ∀ {l : List (Nat × List AV)} {g : Nat} {cs : List AV}, lkGl l g = some cs → (g, cs) ∈ l
  | [], _, _, h => by simp [lkGl] at h
  | (i, v) :: r, g, cs, h => by
    simp only [lkGl] at h
    split at h
    · rename_i e
      simp only [beq_iff_eq] at e
      simp only [Option.some.injEq] at h
      subst e; subst h; simp
    · exact List.mem_cons_of_mem _ (lkGl_mem h)

theorem GlobOk.of {T : Tab} {w : World} {F : Frz} (h : ∀ p ∈ T.gl, RepAt T w F p.1 0 p.2 ∧ F p.1 ∧ ∃ vs q a, w.heap[p.1]? = some (.cells vs q a) ∧ vs.size = p.2.length) : GlobOk T w F := fun g cs hg => h (g, cs) (lkGl_mem hg)

theorem var_heap {P : Program} {w : World} {n : String} {g : Nat} {cs : Array Value} (hg : P.globalNamed n = some g) (hv : w.var? P n = some cs) : ∃ q a, w.heap[g]? = some (.cells cs q a) := by
  simp only [World.var?, hg, Option.bind_some] at hv
  split at hv
  · rename_i cs' q a h
    injection hv with hv
    subst hv
    exact ⟨q, a, h⟩
  · simp at hv

theorem lt_of_heap {w : World} {g : Nat} {x : Obj} (h : w.heap[g]? = some x) : g < w.heap.size := by
  rcases Nat.lt_or_ge g w.heap.size with h' | h'
  · exact h'
  · rw [Array.getElem?_eq_none h'] at h; simp at h

/-- A variable that bears an error. -/
theorem repAt_err {T : Tab} {P : Program} {w : World} {n : String} {g tp : Nat} {y : Value} (hg : P.globalNamed n = some g) (hv : w.var? P n = some #[.iface tp y]) (ht : lkN T.tys tp = some 3) :
    RepAt T w (fun b => b < w.heap.size) g 0 [.ifc 3 .junk] ∧ g < w.heap.size ∧ ∃ vs q a, w.heap[g]? = some (.cells vs q a) ∧ vs.size = 1 := by
  obtain ⟨q, a, h⟩ := var_heap hg hv
  refine ⟨?_, lt_of_heap h, _, q, a, h, rfl⟩
  simp only [RepAt, and_true]
  exact ⟨lt_of_heap h, _, by simpa using World.var?_cell hg hv 0, tp, y, rfl, ht, trivial⟩

theorem repAt_ints {T : Tab} {w : World} {F : Frz} {g : Nat} {k : IntKind} (hF : F g) : ∀ (zs : List Int) (o : Nat), (∀ j z, zs[j]? = some z → w.cell? ⟨g, o + j, none⟩ = some (.int k z)) → RepAt T w F g o (zs.map (AV.int k))
  | [], _, _ => trivial
  | z :: r, o, h => by
    simp only [List.map_cons, RepAt]
    refine ⟨⟨hF, _, by simpa using h 0 z rfl, by simp [Rep]⟩, ?_⟩
    exact repAt_ints hF r (o + 1) fun j s hj => by
      rw [show o + 1 + j = o + (j + 1) by omega]
      exact h (j + 1) s (by simpa using hj)

/-- A table of integers. -/
theorem repAt_tab {T : Tab} {P : Program} {w : World} {n : String} {g : Nat} {k : IntKind} {zs : List Int} (hg : P.globalNamed n = some g) (hv : Lib.TabIs P w n k zs) :
    RepAt T w (fun b => b < w.heap.size) g 0 (zs.map (AV.int k)) ∧ g < w.heap.size ∧ ∃ vs q a, w.heap[g]? = some (.cells vs q a) ∧ vs.size = (zs.map (AV.int k)).length := by
  have hv' : w.var? P n = some (zs.map fun z => Value.int k z).toArray := hv
  obtain ⟨q, a, h⟩ := var_heap hg hv'
  refine ⟨repAt_ints (F := fun b => b < w.heap.size) (lt_of_heap h) zs 0 fun j z hj => ?_, lt_of_heap h, _, q, a, h, by simp⟩
  have hc := World.var?_cell hg hv' j
  rw [Nat.zero_add, hc]
  simp [hj]

end Wax


namespace Wax
open Go Go.ChangeShapes Go.WideShapes Go.RowKit Go.Joins Go.Deep

section
variable {P : Program} {T : Tab} {w : World} {H : Type} {enc : TypeId × Value → H}

theorem repSl_pairs {F : Frz} {b : Nat} (hF : F b) : ∀ (l : List (List UInt8 × List UInt8)) (o : Nat), (∀ (j : Nat) p, l[j]? = some p → w.cell? ⟨b, o + j * 2, none⟩ = some (.string ⟨p.1.toArray⟩) ∧ w.cell? ⟨b, o + j * 2 + 1, none⟩ = some (.string ⟨p.2.toArray⟩)) → RepSl T w F 2 b o (pr2 l)
  | [], _, _ => trivial
  | p :: r, o, h => by
    have h0 := h 0 p rfl
    simp only [Nat.zero_mul, Nat.add_zero] at h0
    simp only [pr2_cons, RepSl, RepAt, and_true]
    refine ⟨rfl, ⟨⟨hF, _, h0.1, by simp [Rep]⟩, hF, _, h0.2, by simp [Rep]⟩, ?_⟩
    exact repSl_pairs hF r (o + 2) fun j q hj => by
      have := h (j + 1) q (by simpa using hj)
      rwa [show o + (j + 1) * 2 = o + 2 + j * 2 by omega] at this

def strOf : Value → List UInt8
  | .string s => s.data.toList
  | _ => []

end
end Wax


namespace Wax
open Go Go.ChangeShapes Go.WideShapes Go.RowKit Go.Joins Go.Deep

/-- A measure of what came in. -/
structure Bulk (H : Type) where
  B : DataW H → Nat
  A : List (DataW H) → Nat
  str : ∀ b, B (.lit (.string b)) = b.length + 1
  agg : ∀ l, B (.agg l) = A l + 1
  slice : ∀ e s, B (.slice e s) = A e + A s + 1
  nil : A [] = 0
  cons : ∀ d l, A (d :: l) = B d + A l
theorem Bulk.range {H : Type} (K : Bulk H) (D : Nat → DataW H) (f : Nat → Nat) : ∀ (l : List Nat), (∀ i ∈ l, f i ≤ K.B (D i)) → (l.map f).sum ≤ K.A (l.map D)
  | [], _ => by simp
  | i :: l, h => by
    rw [List.map_cons, List.map_cons, List.sum_cons, K.cons]
    have h1 := h i (by simp)
    have h2 := K.range D f l (fun j hj => h j (by simp [hj]))
    omega
def kvSz (p : List UInt8 × List UInt8) : Nat := p.1.length + p.2.length
def AR.bulk (r : AR) : Nat := r.method.length + r.value.length + r.reason.length + r.domain.length + r.ident.length + r.fr.length + r.sender.length + r.ip.length + r.helo.length + r.auth.length + r.hkey.length + r.hval.length + r.remote.length + ((r.ps.getD []).map fun p => kvSz p + 1).sum

section
variable {P : Program} {T : Tab} {w : World} {H : Type} {enc : TypeId × Value → H}

theorem addr_eta {a : Addr} (h : a.spot = none) : a = ⟨a.block, a.off, none⟩ := by cases a; simp_all
theorem cell_spot {a : Addr} {v : Value} (h : w.cell? a = some v) : a.spot = none ∧ a.block < w.heap.size := by
  unfold World.cell? at h
  split at h
  · rename_i c t f hh
    split at h
    · simp at h
    · rename_i hs
      refine ⟨by simpa using hs, ?_⟩
      rcases Nat.lt_or_ge a.block w.heap.size with h1 | h1
      · exact h1
      · rw [Array.getElem?_eq_none h1] at hh; simp at hh
  · simp at h
/-- A slice of pairs of texts, as a cell holds it. -/
theorem trod_pairs {t e : TypeId} {f0 f1 : Field} {n : Nat} {v : Value} {y : DataW H × List MemPlace} (K : Bulk H) (ht : P.underlying t = some (.slice e)) (he : P.underlying e = some (.struct #[f0, f1]))
    (ce : P.cellsOf e = 2) (o0 : f0.offset = 0) (o1 : f1.offset = 1) (c0 : P.cellsOf f0.type = 1) (c1 : P.cellsOf f1.type = 1) (s0 : P.underlying f0.type = some .string) (s1 : P.underlying f1.type = some .string)
    (h : DataW.trod enc P w 0 (fun _ => true) true n t [v] = some y) :
    ∃ x : Option (List (List UInt8 × List UInt8)), Rep T w (fun k => k < w.heap.size) noRho (slP x) v ∧ (x.getD []).length < 9223372036854775808 ∧ ((x.getD []).map fun p => kvSz p + 1).sum ≤ K.B y.1 := by
  rcases open_slice_pairs ht he ce o0 o1 c0 c1 h with ⟨hcs, rfl⟩ | ⟨a, len, cap, m, k, V0, V1, D0, D1, P0, P1, hcs, _, hl, hm, hmm, rfl, hcell⟩
  · simp at hcs
    subst hcs
    exact ⟨none, by simp [slP, Rep], by simp, by simp⟩
  · simp at hcs
    subst hcs
    simp only [if_true] at hmm
    have h1 : cap ≤ 9223372036854775807 := hm
    by_cases h0 : len = 0
    · subst h0
      refine ⟨some [], ?_, by simp, by simp⟩
      simp only [slP, pr2, List.map_nil, Rep]
      exact .inr ⟨trivial, a, cap, rfl⟩
    · obtain ⟨g0, _, _, _⟩ := hcell 0 (by omega)
      have ea : a.add (0 * 2) = a := by simp [Addr.add]
      rw [ea] at g0
      obtain ⟨hs, hb⟩ := cell_spot g0
      rw [addr_eta hs] at hcell ⊢
      generalize a.block = b at *
      generalize a.off = o at *
      obtain ⟨l, hl'⟩ : ∃ l : List (List UInt8 × List UInt8), l = (List.range len).map fun i => (strOf (V0 i), strOf (V1 i)) := ⟨_, rfl⟩
      have hll : l.length = len := by rw [hl']; simp
      refine ⟨some l, ?_, by simp only [Option.getD_some]; omega, ?_⟩
      · simp only [slP, Rep]
        refine .inl ⟨b, o, cap, ?_, ?_, ?_⟩
        · simp [pr2, hll]
        · simp [pr2, hll]; exact hl
        · refine repSl_pairs (F := fun k => k < w.heap.size) hb l o ?_
          intro j p hj
          have hjl : j < len := by
            rcases Nat.lt_or_ge j l.length with h | h
            · omega
            · simp [List.getElem?_eq_none h] at hj
          obtain ⟨g0, g1, r0, r1⟩ := hcell j (by omega)
          rw [addr_add] at g0
          have e1 : ((⟨b, o, none⟩ : Addr).add (j * 2 + 1)) = ⟨b, o + (j * 2 + 1), none⟩ := addr_add _ _ _
          rw [e1, ← Nat.add_assoc] at g1
          rw [hl', List.getElem?_map, List.getElem?_range hjl] at hj
          simp only [Option.map_some, Option.some.injEq] at hj
          subst hj
          rw [g0, g1]
          obtain ⟨t0, q0, _, _⟩ := DataW.trod_string s0 r0
          obtain ⟨t1, q1, _, _⟩ := DataW.trod_string s1 r1
          injection q0 with q0
          injection q1 with q1
          rw [q0, q1]
          exact ⟨rfl, rfl⟩
      · simp only [Option.getD_some]
        have hr := K.range (fun i => .agg [D0 i, D1 i]) (fun i => kvSz (strOf (V0 i), strOf (V1 i)) + 1) (List.range len) (fun i hi => by
          have hi' : i < m := by have := List.mem_range.1 hi; omega
          obtain ⟨_, _, r0, r1⟩ := hcell i hi'
          obtain ⟨t0, q0, z0, _⟩ := DataW.trod_string s0 r0
          obtain ⟨t1, q1, z1, _⟩ := DataW.trod_string s1 r1
          injection q0 with q0
          injection q1 with q1
          injection z0 with z0
          injection z1 with z1
          rw [z0, z1, q0, q1, K.agg, K.cons, K.cons, K.nil, K.str, K.str]
          simp only [kvSz, strOf]
          omega)
        rw [K.slice]
        have : (l.map fun p => kvSz p + 1) = (List.range len).map (fun i => kvSz (strOf (V0 i), strOf (V1 i)) + 1) := by rw [hl', List.map_map]; rfl
        rw [this]
        omega

theorem list16 {α : Type} {l : List α} (h : l.length = 16) : ∃ c0 c1 c2 c3 c4 c5 c6 c7 c8 c9 c10 c11 c12 c13 c14 c15, l = [c0, c1, c2, c3, c4, c5, c6, c7, c8, c9, c10, c11, c12, c13, c14, c15] := by
  match l, h with
  | [c0, c1, c2, c3, c4, c5, c6, c7, c8, c9, c10, c11, c12, c13, c14, c15], _ => exact ⟨c0, c1, c2, c3, c4, c5, c6, c7, c8, c9, c10, c11, c12, c13, c14, c15, rfl⟩
/-- The fields of a result. -/
def arFlds (ps : TypeId) : List (Nat × Nat × Option TypeDesc) := [(0, 1, some (.int .i64)), (1, 1, some .string), (2, 1, some .string), (3, 1, some .string), (4, 1, some .string), (5, 1, some .string), (6, 1, some .string), (7, 1, some .string), (8, 1, some .string), (9, 1, some .string), (10, 1, some .string), (11, 1, some .string), (12, 1, some .string), (13, 1, some .string), (14, 1, some (.int .i64)), (15, 1, some (.slice ps))]

theorem trod_ar {e pt : TypeId} {f0 f1 : Field} {fs : Array Field} {n : Nat} {cs : List Value} {y : DataW H × List MemPlace} (K : Bulk H) (he : P.underlying e = some (.struct fs)) (ce : P.cellsOf e = 16)
    (hfs : (fs.toList.map fun f => (f.offset, P.cellsOf f.type, P.underlying f.type)) = arFlds pt) (hp : P.underlying pt = some (.struct #[f0, f1]))
    (cp : P.cellsOf pt = 2) (o0 : f0.offset = 0) (o1 : f1.offset = 1) (c0 : P.cellsOf f0.type = 1) (c1 : P.cellsOf f1.type = 1) (s0 : P.underlying f0.type = some .string) (s1 : P.underlying f1.type = some .string)
    (h : DataW.trod enc P w 0 (fun _ => true) true n e cs = some y) :
    ∃ r : AR, RepL T w (fun k => k < w.heap.size) noRho r.cells cs ∧ (r.ps.getD []).length < 9223372036854775808 ∧ r.bulk + 1 ≤ K.B y.1 := by
  obtain ⟨xs, k, _, rfl, hcl, hxl, hf⟩ := DataW.trod_struct he h
  rw [ce] at hcl
  obtain ⟨g⟩ := fs
  have hgl : g.length = 16 := by have := congrArg List.length hfs; simpa [arFlds] using this
  obtain ⟨a0, a1, a2, a3, a4, a5, a6, a7, a8, a9, a10, a11, a12, a13, a14, a15, rfl⟩ := list16 hgl
  obtain ⟨y0, y1, y2, y3, y4, y5, y6, y7, y8, y9, y10, y11, y12, y13, y14, y15, rfl⟩ := list16 (hxl.trans (by simp))
  obtain ⟨v0, v1, v2, v3, v4, v5, v6, v7, v8, v9, v10, v11, v12, v13, v14, v15, rfl⟩ := list16 hcl
  simp only [arFlds, List.map_cons, List.map_nil, List.cons.injEq, Prod.mk.injEq, and_true] at hfs
  obtain ⟨⟨p0, q0, u0⟩, ⟨p1, q1, u1⟩, ⟨p2, q2, u2⟩, ⟨p3, q3, u3⟩, ⟨p4, q4, u4⟩, ⟨p5, q5, u5⟩, ⟨p6, q6, u6⟩, ⟨p7, q7, u7⟩, ⟨p8, q8, u8⟩, ⟨p9, q9, u9⟩, ⟨p10, q10, u10⟩, ⟨p11, q11, u11⟩, ⟨p12, q12, u12⟩, ⟨p13, q13, u13⟩, ⟨p14, q14, u14⟩, p15, q15, u15⟩ := hfs
  have F : ∀ (i : Nat) (f : Field) (v : Value) (z : DataW H × List MemPlace), [a0, a1, a2, a3, a4, a5, a6, a7, a8, a9, a10, a11, a12, a13, a14, a15][i]? = some f → f.offset = i → P.cellsOf f.type = 1 → ([v0, v1, v2, v3, v4, v5, v6, v7, v8, v9, v10, v11, v12, v13, v14, v15].drop i).take 1 = [v] → [y0, y1, y2, y3, y4, y5, y6, y7, y8, y9, y10, y11, y12, y13, y14, y15][i]? = some z → DataW.trod enc P w 0 (fun _ => true) true k f.type [v] = some z := by
    intro i f v z h1 h2 h3 h4 h5
    have := hf i f (by simpa using h1)
    rw [h2, h3, h4, h5] at this
    exact this
  obtain ⟨n0, e0, d0, _⟩ := DataW.trod_int u0 (F 0 a0 v0 y0 rfl p0 q0 rfl rfl)
  obtain ⟨t1, e1, d1, _⟩ := DataW.trod_string u1 (F 1 a1 v1 y1 rfl p1 q1 rfl rfl)
  obtain ⟨t2, e2, d2, _⟩ := DataW.trod_string u2 (F 2 a2 v2 y2 rfl p2 q2 rfl rfl)
  obtain ⟨t3, e3, d3, _⟩ := DataW.trod_string u3 (F 3 a3 v3 y3 rfl p3 q3 rfl rfl)
  obtain ⟨t4, e4, d4, _⟩ := DataW.trod_string u4 (F 4 a4 v4 y4 rfl p4 q4 rfl rfl)
  obtain ⟨t5, e5, d5, _⟩ := DataW.trod_string u5 (F 5 a5 v5 y5 rfl p5 q5 rfl rfl)
  obtain ⟨t6, e6, d6, _⟩ := DataW.trod_string u6 (F 6 a6 v6 y6 rfl p6 q6 rfl rfl)
  obtain ⟨t7, e7, d7, _⟩ := DataW.trod_string u7 (F 7 a7 v7 y7 rfl p7 q7 rfl rfl)
  obtain ⟨t8, e8, d8, _⟩ := DataW.trod_string u8 (F 8 a8 v8 y8 rfl p8 q8 rfl rfl)
  obtain ⟨t9, e9, d9, _⟩ := DataW.trod_string u9 (F 9 a9 v9 y9 rfl p9 q9 rfl rfl)
  obtain ⟨t10, e10, d10, _⟩ := DataW.trod_string u10 (F 10 a10 v10 y10 rfl p10 q10 rfl rfl)
  obtain ⟨t11, e11, d11, _⟩ := DataW.trod_string u11 (F 11 a11 v11 y11 rfl p11 q11 rfl rfl)
  obtain ⟨t12, e12, d12, _⟩ := DataW.trod_string u12 (F 12 a12 v12 y12 rfl p12 q12 rfl rfl)
  obtain ⟨t13, e13, d13, _⟩ := DataW.trod_string u13 (F 13 a13 v13 y13 rfl p13 q13 rfl rfl)
  obtain ⟨n14, e14, d14, _⟩ := DataW.trod_int u14 (F 14 a14 v14 y14 rfl p14 q14 rfl rfl)
  obtain ⟨x, rx, lx, bx⟩ := trod_pairs (T := T) K u15 hp cp o0 o1 c0 c1 s0 s1 (F 15 a15 v15 y15 rfl p15 q15 rfl rfl)
  simp only [List.cons.injEq, and_true] at e0 e1 e2 e3 e4 e5 e6 e7 e8 e9 e10 e11 e12 e13 e14
  subst e0 e1 e2 e3 e4 e5 e6 e7 e8 e9 e10 e11 e12 e13 e14
  refine ⟨⟨n0, t1.data.toList, t2.data.toList, t3.data.toList, t4.data.toList, t5.data.toList, t6.data.toList, t7.data.toList, t8.data.toList, t9.data.toList, t10.data.toList, t11.data.toList, t12.data.toList, t13.data.toList, n14, x⟩, ?_, lx, ?_⟩
  · simp [AR.cells, RepL, Rep, rx]
  · rw [K.agg]
    simp only [List.map_cons, List.map_nil, K.cons, K.nil, d1, d2, d3, d4, d5, d6, d7, d8, d9, d10, d11, d12, d13, K.str]
    simp only [AR.bulk]
    omega

end
end Wax


namespace Wax
open Go (IntKind)

theorem aSp_le3 (n : Nat) : (aSp n).length ≤ 3 := by
  have h : n % 6 < 6 := Nat.mod_lt _ (by omega)
  simp only [aSp]
  generalize n % 6 = q at *
  match q, h with
  | 0, _ => simp
  | 1, _ => simp
  | 2, _ => simp
  | 3, _ => simp
  | 4, _ => simp
  | 5, _ => simp
def prmSz (l : List KVp) : Nat := (l.map fun p => kvSz p + 4).sum
theorem prmSz_app (a b : List KVp) : prmSz (a ++ b) = prmSz a + prmSz b := by simp [prmSz]
theorem sepT_sz (fm : L8) : ∀ (l : List KVp) (k : Nat), (sepT fm k l).length ≤ prmSz l
  | [], k => by simp [sepT_nil, prmSz]
  | p :: l, k => by
    have h1 := sepT_sz fm l (k + 1)
    have h2 := aSp_le3 (nx fm k)
    simp only [sepT_cons, prmSz, List.map_cons, List.sum_cons, List.length_append, kvW, List.length_cons, kvSz] at h1 ⊢
    omega
theorem part_len (fm : L8) (k : Nat) (r : AR) : (flatP [aPart fm k r]).length ≤ 8 + r.meth.length + r.value.length + prmSz r.prm := by
  rw [flatP_one]
  have h1 := aSp_le3 (nx fm (k + 1))
  have h2 := aSp_le3 (nx fm (k + 1 + 1))
  have h3 := sepT_sz fm r.prm (k + 1 + 1 + 1)
  have a1 : (aPre (nx fm (k + 1))).length ≤ 3 := by unfold aPre; split <;> simp_all
  have a2 : (aBeh (nx fm (k + 1 + 1))).length ≤ 3 := by unfold aBeh; split <;> simp_all
  simp only [List.length_append, List.length_cons, kvW]
  omega
theorem meth_len (r : AR) : r.meth.length ≤ 10 + r.method.length := by
  unfold AR.meth
  split
  · omega
  · generalize (r.kind - 1).toNat = q
    match q with
    | 0 | 1 | 2 | 3 | 4 | 5 | 6 | 7 => (simp [aMeths, sAuth, sDkim, sDomk, sIprev, sSender, sSpf, sDmarc, sArc]; try omega)
    | q + 8 => simp [aMeths, List.getD]
end Wax


namespace Wax
open Go (IntKind)

def asTr : List AV → Option (List (L8 × L8 × L8))
  | [] => some []
  | .agg [.str a, .str b, .str c] :: r => (asTr r).map ((a, b, c) :: ·)
  | _ :: _ => none
def slTr : AV → Option (List (L8 × L8 × L8))
  | .nilS => some []
  | .sl es xs => if es = 3 then asTr xs else none
  | _ => none
theorem asTr_tr3 : ∀ l, asTr (tr3 l) = some l
  | [] => rfl
  | (a, b, c) :: l => by simp [asTr, asTr_tr3 l]
theorem asTr_spec : ∀ {xs : List AV} {l}, asTr xs = some l → xs = tr3 l
  | [], l, h => by simp [asTr] at h; subst h; rfl
  | v :: r, l, h => by
    unfold asTr at h
    split at h
    · rename_i e; simp at e
    · rename_i a b c r' e
      simp at e; obtain ⟨rfl, rfl⟩ := e
      cases hr : asTr r with
      | none => simp [hr] at h
      | some l' => simp [hr] at h; subst h; rw [asTr_spec hr]; rfl
    · simp at h
theorem slTr_cases {v : AV} {l} (h : slTr v = some l) : (v = .nilS ∧ l = []) ∨ v = .sl 3 (tr3 l) := by
  cases v <;> simp [slTr] at h
  · left; exact ⟨rfl, h⟩
  · right; obtain ⟨e, h⟩ := h; rw [asTr_spec h, e]
theorem slTr_or {x : AV} {l} (h : x = .nilS ∧ l = [] ∨ x = .sl 3 (tr3 l)) : slTr x = some l := by
  rcases h with ⟨rfl, rfl⟩ | rfl
  · rfl
  · simp [slTr, asTr_tr3]
section
variable {u : AV} {l : List (L8 × L8 × L8)} (h : slTr u = some l)
include h
theorem str_kill (d : Nat) : kill d u = u := by rcases slTr_cases h with ⟨rfl, _⟩ | rfl <;> rfl
theorem str_ref : hasRef u = false := by rcases slTr_cases h with ⟨rfl, _⟩ | rfl <;> rfl
theorem str_snapW (g : AV → AV) : snapW g u = u := by rcases slTr_cases h with ⟨rfl, _⟩ | rfl <;> rfl
theorem str_alen (hp : List (Nat × AObj)) : alen hp 1 u = some l.length := by rcases slTr_cases h with ⟨rfl, rfl⟩ | rfl <;> simp [alen]
theorem str_ne (hn : l ≠ []) : u = .sl 3 (tr3 l) := by
  rcases slTr_cases h with ⟨_, rfl⟩ | rfl
  · exact absurd rfl hn
  · rfl
end
@[simp] theorem tr3_app {l m} : tr3 (l ++ m) = tr3 l ++ tr3 m := by simp [tr3]

def fits6 (p : L8 × L8 × L8) : Bool := lenB p.1 && (lenB p.2.1 && lenB p.2.2)
def con_zzFits6 : List AV → Option AV
  | [.agg [.str a, .str b, .str c]] => some (.bool (fits6 (a, b, c)))
  | _ => none
theorem ok_zzFits6 (Γ : Gam) : ∀ args r, con_zzFits6 args = some r → runs Γ c_laws_zzFits6 args (fun v => v = r) := by
  intro args r h
  simp only [con_zzFits6] at h
  split at h <;> simp at h
  rename_i a b c
  subst h
  by_cases h1 : (2147483647 : Int) < (a.length : Int)
  · simp -implicitDefEqProofs [c_laws_zzFits6, h1, fits6, lenB_f h1]
  · by_cases h2 : (2147483647 : Int) < (b.length : Int)
    · simp -implicitDefEqProofs [c_laws_zzFits6, h1, h2, fits6, lenB_f h2]
    · by_cases h3 : (2147483647 : Int) < (c.length : Int)
      · simp -implicitDefEqProofs [c_laws_zzFits6, h1, h2, h3, fits6, lenB_f h3]
      · simp -implicitDefEqProofs [c_laws_zzFits6, h1, h2, h3, fits6, lenB_t h1, lenB_t h2, lenB_t h3]

def fits5 (l : List (L8 × L8 × L8)) : Bool := decide (l.length ≤ 2147483647) && l.all fits6
def con_zzFits5 : List AV → Option AV
  | [u] => match slTr u with
    | some l => if l.length < 9223372036854775808 then some (.bool (fits5 l)) else none
    | none => none
  | _ => none
theorem ok_zzFits5 (Γ : Gam) (h221 : Γ.fn 221 = con_zzFits6) : ∀ args r, con_zzFits5 args = some r → runs Γ c_laws_zzFits5 args (fun v => v = r) := by
  intro args r h
  simp only [con_zzFits5] at h
  split at h <;> (try simp at h; done)
  rename_i u
  split at h <;> (try simp at h; done)
  rename_i l hl
  obtain ⟨h1, rfl⟩ := ite_some h
  clear h
  by_cases hb : (2147483647 : Int) < (l.length : Int)
  · have e : ¬ l.length ≤ 2147483647 := by omega
    simp -implicitDefEqProofs [-alen, c_laws_zzFits5, str_alen hl, hb, fits5, e]
  · have e : l.length ≤ 2147483647 := by omega
    simp -implicitDefEqProofs [-alen, c_laws_zzFits5, str_alen hl, hb]
    refine awp_loop2 (σ := List (L8 × L8 × L8) × List (L8 × L8 × L8)) (fun p => ⟨[(8, u), (9, .int .i64 l.length), (10, .int .i64 p.1.length)], []⟩)
      (fun p => l = p.1 ++ p.2 ∧ p.1.all fits6 = true) (fun p => p.2.length) ([], l) (by simp) (by simp) ?_
    rintro ⟨pre, post⟩ ⟨e1, e2⟩ LQ hLQ
    simp only at e1 e2
    cases post with
    | nil =>
      simp only [List.append_nil] at e1
      subst e1
      have : fits5 l = true := by simp only [fits5, e2, e]; rfl
      simp -implicitDefEqProofs [b_laws_zzFits5_1, t_laws_zzFits5_2, this]
    | cons x post =>
      have hu := str_ne hl (by rw [e1]; simp)
      subst hu
      have hlen : l.length = pre.length + (post.length + 1) := by rw [e1]; simp
      have hlt : (pre.length : Int) < (l.length : Int) := by omega
      have ew : IntKind.i64.wrap ((pre.length : Int) + 1) = (pre.length : Int) + 1 := wrap64 (by omega) (by omega)
      have g : (tr3 l)[pre.length]? = some (.agg [.str x.1, .str x.2.1, .str x.2.2]) := by rw [e1, tr3_app]; exact get_mid (by simp)
      have kx : con_zzFits6 [.agg [.str x.1, .str x.2.1, .str x.2.2]] = some (.bool (fits6 x)) := rfl
      cases hf : fits6 x with
      | true =>
        rw [hf] at kx
        simp -implicitDefEqProofs [b_laws_zzFits5_1, hlt, g, acall, h221, kx, ew]
        exact hLQ (pre ++ [x], post) ⟨by rw [e1]; simp, by simp only [List.all_append, e2, List.all_cons, hf]; rfl⟩ (by simp) _ (by simp)
      | false =>
        rw [hf] at kx
        have : fits5 l = false := by
          have : l.all fits6 = false := by rw [e1]; simp [hf]
          simp only [fits5, this, Bool.and_false]
        simp -implicitDefEqProofs [b_laws_zzFits5_1, hlt, g, acall, h221, kx, this]

theorem lenB_le {s : L8} (h : lenB s = true) : s.length ≤ 2147483647 := of_decide_eq_true h
theorem xTxt_app (a b : List (L8 × L8 × L8)) : xTxt (a ++ b) = xTxt a ++ xTxt b := by simp [xTxt]
theorem xTxt_len : ∀ {l : List (L8 × L8 × L8)}, (∀ p ∈ l, p.2.1.length ≤ 2147483647 ∧ p.2.2.length ≤ 2147483647) → (xTxt l).length ≤ l.length * 6442451000
  | [], _ => by simp [xTxt]
  | p :: l, h => by
    have ih := xTxt_len (l := l) (fun q hq => h q (by simp [hq]))
    have hp := h p (by simp)
    simp only [xTxt, List.flatMap_cons, List.length_append, List.length_cons, xKey] at ih ⊢
    omega
theorem prm_small {r : AR} (hf : aFit1 r = true) (h0 : r.kind ≠ 0) (hfit : fit2 r = true) : prmSz r.prm ≤ 8589936000 := by
  have hr : r.reason.length ≤ 2147483647 := by
    simp only [fit2, Bool.and_eq_true] at hfit; exact lenB_le hfit.2.2.1
  have hk : r.hkey.length ≤ 2147483647 := by
    simp only [fit2, Bool.and_eq_true] at hfit; exact lenB_le hfit.2.2.2.2.2.2.2.2.2.2.1
  have h1 : prmSz (rPs r.reason) ≤ 2147483647 + 10 := by
    unfold rPs
    split
    · simp [prmSz]
    · simp [prmSz, kvSz, qReason]; omega
  have hp : ∀ p ∈ r.props, p.2.2.length ≤ 200 := by
    intro p hp
    simp only [aFit1, Bool.and_eq_true, if_neg h0, List.all_eq_true] at hf
    exact (aPlain_g (hf.2 p hp).1.1).2.2
  have h2 : prmSz (r.props.map fun p => (p.1 ++ 46 :: p.2.1, p.2.2)) ≤ 2147483647 + 1000 := by
    revert hp
    unfold AR.props
    repeat' split
    all_goals intro hp
    all_goals simp only [List.map_cons, List.map_nil, prmSz, kvSz, List.sum_cons, List.sum_nil, List.length_append, List.length_cons, tSmtp, tHeader, tPolicy, nAuth, nD, nI, nFrom, nSender, nIprev, nMail, nHelo, List.length_nil]
    all_goals (try simp only [List.mem_cons, List.not_mem_nil, or_false, forall_eq_or_imp, forall_eq] at hp)
    all_goals omega
  have e : r.prm = rPs r.reason ++ r.props.map fun p => (p.1 ++ 46 :: p.2.1, p.2.2) := by simp only [AR.prm, if_neg h0]
  rw [e, prmSz_app]
  omega
theorem text_small1 {i fm : L8} {r : AR} (hf : aFit1 r = true) (h0 : r.kind ≠ 0) (hfit : fit2 r = true) (hi : i.length ≤ 200) : (aTextOf i [r] fm).length ≤ 12884904000 := by
  have h1 := part_len fm 0 r
  have h2 := prm_small hf h0 hfit
  have h3 := meth_len r
  have h4 : r.method.length ≤ 2147483647 ∧ r.value.length ≤ 2147483647 := by
    simp only [fit2, Bool.and_eq_true] at hfit; exact ⟨lenB_le hfit.1, lenB_le hfit.2.1⟩
  have e : aTextOf i [r] fm = i ++ flatP [aPart fm 0 r] := by simp [aTextOf, aParts]
  rw [e, List.length_append]
  omega

def con_FnAuthMore : List AV → Option AV
  | [.str i, .agg cs, w, f] => match asAR cs, slTr w, slBytes f with
    | some r, some l, some fm => if i.length < 9223372036854775808 ∧ (r.ps.getD []).length < 9223372036854775808 ∧ l.length < 9223372036854775808 ∧ fm.length < 9223372036854775808 then some (.bool true) else none
    | _, _, _ => none
  | _ => none
set_option maxRecDepth 100000 in
set_option maxHeartbeats 4000000 in
theorem ok_FnAuthMore (Γ : Gam) (h209 : Γ.fn 209 = con_zzFits2) (h223 : Γ.fn 223 = con_zzFits5) (h208 : Γ.fn 208 = con_AOnly) (h204 : Γ.fn 204 = con_APlain) (h215 : Γ.fn 215 = con_AFits) (h216 : Γ.fn 216 = con_AText) (h99 : Γ.fn 99 = con_MailKeyword) (h144 : Γ.fn 144 = con_AParse) (h202 : Γ.fn 202 = con_ASame) (h137 : Γ.fn 137 = con_awake) :
    ∀ args r, con_FnAuthMore args = some r → runs Γ c_laws_FnAuthMore args (fun v => v = r) := by
  intro args res h
  simp only [con_FnAuthMore] at h
  split at h <;> (try simp at h; done)
  rename_i i cs w f
  split at h <;> (try simp at h; done)
  rename_i r l fm hr hl hf
  obtain ⟨⟨h1, h2, h3, h4⟩, rfl⟩ := ite_some h
  clear h
  rw [asAR_spec hr]
  clear hr
  have k6 : con_awake [] = some (.bool true) := rfl
  have alS : ∀ (hp : List (Nat × AObj)) (s : L8), alen hp 0 (.str s) = some s.length := fun _ _ => rfl
  have wk := str_kill hl
  have ws := str_snapW hl
  have wr := str_ref hl
  have wa := str_alen hl
  have fk := slb_kill hf
  have fr_ := slb_ref hf
  have fa := slb_alen hf
  have fat := slb_atom hf
  have uk := slP_cells r.ps
  have fsn := slb_snap hf 3
  have k1 : con_zzFits2 [.agg r.cells] = some (.bool (fit2 r)) := by simp only [con_zzFits2, asAR_cells]; exact if_pos h2
  have k2 : con_zzFits5 [w] = some (.bool (fits5 l)) := by simp only [con_zzFits5, hl]; exact if_pos h3
  have ko : con_AOnly [.agg r.cells] = some (.agg r.only.cells) := by simp only [con_AOnly, asAR_cells, Option.map]
  simp only [AR.cells] at k1 ko ⊢
  simp only [cells] at uk
  by_cases b1 : (2147483647 : Int) < (i.length : Int)
  · simp -implicitDefEqProofs [-alen, c_laws_FnAuthMore, f_laws_FnAuthMore_2, f_laws_FnAuthMore_3, f_laws_FnAuthMore_4, f_laws_FnAuthMore_5, alS, b1, uk, wk, ws, wr, wa, fk, fr_, fa, fat]
  cases b2 : fit2 r with
  | false =>
    rw [b2] at k1
    simp -implicitDefEqProofs [-alen, c_laws_FnAuthMore, f_laws_FnAuthMore_2, f_laws_FnAuthMore_3, f_laws_FnAuthMore_4, f_laws_FnAuthMore_5, alS, b1, uk, wk, ws, wr, wa, fk, fr_, fa, fat, acall, h209, k1]
  | true =>
    rw [b2] at k1
    cases b2' : fits5 l with
    | false =>
      rw [b2'] at k2
      simp -implicitDefEqProofs [-alen, c_laws_FnAuthMore, f_laws_FnAuthMore_2, f_laws_FnAuthMore_3, f_laws_FnAuthMore_4, f_laws_FnAuthMore_5, alS, b1, uk, wk, ws, wr, wa, fk, fr_, fa, fat, acall, h209, k1, h223, k2]
    | true =>
      rw [b2'] at k2
      by_cases b3 : (2147483647 : Int) < (fm.length : Int)
      · simp -implicitDefEqProofs [-alen, c_laws_FnAuthMore, f_laws_FnAuthMore_2, f_laws_FnAuthMore_3, f_laws_FnAuthMore_4, f_laws_FnAuthMore_5, alS, b1, uk, wk, ws, wr, wa, fk, fr_, fa, fat, acall, h209, k1, h223, k2, b3]
      have kp := plain_con (s := i) (by simp only [mid]; omega)
      have uo := slP_cells r.only.ps
      simp only [cells] at uo
      have hfo := fit2_only b2
      have kf : con_AFits [.sl 16 [.agg r.only.cells]] = some (.bool (aFits [r.only])) := by
        have e : slAR (.sl 16 [.agg r.only.cells]) = some [r.only] := slAR_arV [r.only]
        simp only [con_AFits, e]
        exact if_pos ⟨by simp [half], by simp [hfo]⟩
      have kt : ∀ z, aFits [r.only] = true → (aTextOf i [r.only] z).length < qtr → ∀ f, slBytes f = some z → con_AText [.str i, .sl 16 [.agg r.only.cells], f] = some (.str (aTextOf i [r.only] z)) := fun z q1 q2 f q3 => k_text' (slAR_arV [r.only]) q3 q1 q2
      have ks : ∀ y : AR, (y.ps.getD []).length < half → arSame y r.only = true → con_ASame [.agg y.cells, .agg r.only.cells] = some (.bool true) := by
        intro y q1 q2
        simp only [con_ASame, asAR_cells, q2]
        exact if_pos ⟨q1, fit2_ps hfo⟩
      have hko : r.only.kind = r.kind := by
        unfold AR.only
        repeat' split
        all_goals rfl
      generalize hq : r.only = q at *
      simp only [AR.cells] at ko kf kt ks
      cases b4 : aPlain i with
      | false =>
        rw [b4] at kp
        simp -implicitDefEqProofs [-alen, c_laws_FnAuthMore, f_laws_FnAuthMore_2, f_laws_FnAuthMore_3, f_laws_FnAuthMore_4, f_laws_FnAuthMore_5, alS, b1, uk, wk, ws, wr, wa, fk, fr_, fa, fat, acall, h209, k1, h223, k2, b3, h208, ko, h204, kp, group, uo]
      | true =>
        rw [b4] at kp
        cases b5 : aFits [q] with
        | false =>
          rw [b5] at kf
          simp -implicitDefEqProofs [-alen, c_laws_FnAuthMore, f_laws_FnAuthMore_2, f_laws_FnAuthMore_3, f_laws_FnAuthMore_4, f_laws_FnAuthMore_5, alS, b1, uk, wk, ws, wr, wa, fk, fr_, fa, fat, acall, h209, k1, h223, k2, b3, h208, ko, h204, kp, group, uo, h215, kf]
        | true =>
          rw [b5] at kf
          by_cases b6 : q.kind = 0
          · have b6' : (q.kind = 0) = True := eq_true b6
            simp -implicitDefEqProofs [-alen, c_laws_FnAuthMore, f_laws_FnAuthMore_2, f_laws_FnAuthMore_3, f_laws_FnAuthMore_4, f_laws_FnAuthMore_5, alS, b1, uk, wk, ws, wr, wa, fk, fr_, fa, fat, acall, h209, k1, h223, k2, b3, h208, ko, h204, kp, group, uo, h215, kf, b6']
          by_cases b7 : (5 : Int) < (l.length : Int)
          · simp -implicitDefEqProofs [-alen, c_laws_FnAuthMore, f_laws_FnAuthMore_2, f_laws_FnAuthMore_3, f_laws_FnAuthMore_4, f_laws_FnAuthMore_5, alS, b1, uk, wk, ws, wr, wa, fk, fr_, fa, fat, acall, h209, k1, h223, k2, b3, h208, ko, h204, kp, group, uo, h215, kf, b6, b7]
          by_cases b8 : (50 : Int) < (fm.length : Int)
          · simp -implicitDefEqProofs [-alen, c_laws_FnAuthMore, f_laws_FnAuthMore_2, f_laws_FnAuthMore_3, f_laws_FnAuthMore_4, f_laws_FnAuthMore_5, alS, b1, uk, wk, ws, wr, wa, fk, fr_, fa, fat, acall, h209, k1, h223, k2, b3, h208, ko, h204, kp, group, uo, h215, kf, b6, b7, b8]
          have hf1 : aFit1 q = true := by simp only [aFits, List.all_cons, List.all_nil, Bool.and_true, Bool.and_eq_true] at b5; exact b5.1
          have hi200 := (aPlain_g b4).2.2
          have hsm := text_small1 (fm := fm) hf1 b6 hfo hi200
          have kt := kt fm b5 (by simp only [qtr]; omega) f hf
          have hfl : ∀ p ∈ l, p.2.1.length ≤ 2147483647 ∧ p.2.2.length ≤ 2147483647 := by
            intro p hp
            simp only [fits5, Bool.and_eq_true, List.all_eq_true] at b2'
            have := b2'.2 p hp
            simp only [fits6, Bool.and_eq_true] at this
            exact ⟨lenB_le this.2.1, lenB_le this.2.2⟩
          generalize hT : aTextOf i [q] fm = T at *
          simp -implicitDefEqProofs [-alen, c_laws_FnAuthMore, f_laws_FnAuthMore_2, f_laws_FnAuthMore_3, f_laws_FnAuthMore_4, f_laws_FnAuthMore_5, alS, b1, uk, wk, ws, wr, wa, fk, fr_, fa, fat, acall, h209, k1, h223, k2, b3, h208, ko, h204, kp, group, uo, h215, kf, b6, b7, b8, h216, kt, fsn]
          refine awp_loop2 (σ := List (L8 × L8 × L8) × List (L8 × L8 × L8)) (fun p => ⟨[(0, .str i), (5, .ref 5 0), (9, .str (T ++ xTxt p.1)), (64, w), (65, .int .i64 l.length), (66, .int .i64 p.1.length)], [(5, .cells [.int .i64 q.kind, .str q.method, .str q.value, .str q.reason, .str q.domain, .str q.ident, .str q.fr, .str q.sender, .str q.ip, .str q.helo, .str q.auth, .str q.hkey, .str q.hval, .str q.remote, .int .i64 q.oldest, slP q.ps])]⟩)
            (fun p => l = p.1 ++ p.2 ∧ ∀ x ∈ p.1, mKw x.2.1 = true ∧ aPlain x.2.2 = true) (fun p => p.2.length) ([], l) ?_ (by simp) ?_
          · simp [xTxt]
          rintro ⟨pre, post⟩ ⟨e1, e2⟩ LQ hLQ
          simp only at e1 e2
          have hxl : (xTxt pre).length ≤ 32212255000 := by
            have h1 := xTxt_len (l := pre) (fun p hp => hfl p (by rw [e1]; exact List.mem_append_left _ hp))
            have h2 : pre.length ≤ 5 := by have := congrArg List.length e1; simp only [List.length_append] at this; omega
            omega
          cases post with
          | nil =>
            simp only [List.append_nil] at e1
            subst e1
            have hnl : ¬ ((l.length : Int) < (l.length : Int)) := by omega
            obtain ⟨x, g1, g2, g3⟩ := more_read b4 hf1 b6 e2 fm
            rw [hT] at g1 g3
            have ka : con_AParse [.str (T ++ xTxt l)] = some (.tup [.str i, .sl 16 [.agg x.ar.cells], .bool true]) := by
              have : con_AParse [.str (T ++ xTxt l)] = some (adV (adText (T ++ xTxt l))) := if_pos ⟨by simp only [qtr, List.length_append]; omega, g3⟩
              rw [this, g1]; rfl
            have ho : q.only = q := by rw [← hq, only_only]
            rw [ho] at g2
            have ks := ks x.ar (by rw [g2, norm_ps]; exact fit2_ps hfo) (by rw [arSame_iff, g2, norm_norm])
            generalize hz : x.ar = z at *
            simp only [AR.cells] at ks ka
            have uz := slP_cells z.ps
            simp only [cells] at uz
            have hob : (0 : Int) ≤ 0 := by omega
            simp -implicitDefEqProofs [b_laws_FnAuthMore_1, f_laws_FnAuthMore_2, h144, ka, acall, uo, uz, h202, ks, h137, k6]
          | cons x post =>
            have hu := str_ne hl (by rw [e1]; simp)
            subst hu
            have hlen : l.length = pre.length + (post.length + 1) := by rw [e1]; simp
            have hlt : (pre.length : Int) < (l.length : Int) := by omega
            have ew : IntKind.i64.wrap ((pre.length : Int) + 1) = (pre.length : Int) + 1 := wrap64 (by omega) (by omega)
            have g : (tr3 l)[pre.length]? = some (.agg [.str x.1, .str x.2.1, .str x.2.2]) := by rw [e1, tr3_app]; exact get_mid (by simp)
            have hx := hfl x (by rw [e1]; simp)
            have kk := keyw_con (s := x.2.1) (by simp only [mid]; omega)
            have kv := plain_con (s := x.2.2) (by simp only [mid]; omega)
            cases c1 : mKw x.2.1 with
            | false =>
              rw [c1] at kk
              simp -implicitDefEqProofs [b_laws_FnAuthMore_1, hlt, g, acall, h99, kk]
            | true =>
              rw [c1] at kk
              cases c2 : aPlain x.2.2 with
              | false =>
                rw [c2] at kv
                simp -implicitDefEqProofs [b_laws_FnAuthMore_1, hlt, g, acall, h99, kk, h204, kv]
              | true =>
                rw [c2] at kv
                simp -implicitDefEqProofs [b_laws_FnAuthMore_1, hlt, g, acall, h99, kk, h204, kv, ew]
                refine ⟨by omega, by omega, by omega, by omega, by omega, by omega, ?_⟩
                exact hLQ (pre ++ [x], post) ⟨by rw [e1]; simp, fun y hy => by
                  rcases List.mem_append.1 hy with hy | hy
                  · exact e2 y hy
                  · simp only [List.mem_singleton] at hy; subst hy; exact ⟨c1, c2⟩⟩ (by simp) _ (by simp [xTxt_app, xTxt, xKey])
end Wax


namespace Wax
open Go Go.RowKit

theorem repSl_mk {T : Tab} {w : World} {F : Frz} {b : Nat} (hF : F b) : ∀ (l : List (List UInt8)) (o : Nat), (∀ (j : Nat) s, l[j]? = some s → w.cell? ⟨b, o + j, none⟩ = some (.string ⟨s.toArray⟩)) → RepSl T w F 1 b o (strsA l)
  | [], _, _ => trivial
  | x :: r, o, h => by
    simp only [strsA, List.map_cons, RepSl]
    refine ⟨trivial, ⟨hF, _, by simpa using h 0 x rfl, by simp [Rep]⟩, ?_⟩
    exact repSl_mk hF r (o + 1) fun j s hj => by
      rw [show o + 1 + j = o + (j + 1) by omega]
      exact h (j + 1) s (by simpa using hj)

theorem owned_strs {T : Tab} {w w' : World} {F : Frz} {e9 : TypeId} {v' : Value} {l : List (List UInt8)} (ho : w'.ownsRow w.heap.size e9 1 v' l.length (l.map fun s => Value.string ⟨s.toArray⟩)) (hn : v' ≠ .slice none 0 0) :
    Rep T w' (fun b => F b ∨ (w.heap.size ≤ b ∧ b < w'.heap.size)) noRho (.sl 1 (strsA l)) v' := by
  have ho' := ho
  obtain ⟨_, hx⟩ := ho
  rcases hx with ⟨he, _⟩ | ⟨g, cap, cur, rfl, hg, hh, hcap, _, _, _⟩
  · exact absurd he hn
  · simp only [Rep]
    refine .inl ⟨g, 0, cap, by simp, by simpa using hcap, ?_⟩
    have hgl : g < w'.heap.size := by
      rcases Nat.lt_or_ge g w'.heap.size with h | h
      · exact h
      · rw [Array.getElem?_eq_none h] at hh; simp at hh
    refine repSl_mk (.inr ⟨hg, hgl⟩) l 0 fun j s hj => ?_
    have := ho'.cells (g := g) rfl j (.string ⟨s.toArray⟩) (by rw [List.getElem?_map, hj]; rfl)
    have e : ((⟨g, 0, none⟩ : Addr).add j) = ⟨g, 0 + j, none⟩ := by
      cases j <;> simp [Addr.add]
    rw [e] at this
    exact this

end Wax


namespace Wax
open Go Go.RowKit Go.Proofs

/-- Nothing is read of the values. -/
def noVal : Value → Option (DataW Nat × List MemPlace) := fun _ => some (.nil, [])

/-- What the shelf says of slices.Sorted at what maps.Keys hands back, in one piece. -/
def SortedSays (P : Program) (T : Tab) (f g : FuncId) : Prop :=
  (∀ h, lkN T.fns h = some 55 → h = g) ∧ ∃ e9 k : TypeId, P.underlying k = some .string ∧
  ∀ (Bm b nn : Nat) (D0 : DataW Nat) (w : World), Bm < w.heap.size → w.cell? ⟨Bm, 0, none⟩ = some (.map (some b)) → w.ownsMap P k noVal b nn D0 → Maps.size D0 ≤ maxLen → Maps.size D0 * 16 ≤ 140737488355328 →
    Calls P f #[.func (.func g) #[] #[.pointer (some ⟨Bm, 0, none⟩)]] w fun e w' => ∃ (v : Value) (ss : List (List UInt8)), e = .returned v ∧ ss.Perm (Go.strKeys D0) ∧
      w'.ownsRow w.heap.size e9 1 v ss.length ((ss.mergeSort (fun x y => decide (x ≤ y))).map encStr) ∧ (v = .slice none 0 0 ↔ ss = []) ∧ Below w.heap.size w w'

theorem repM_keyList {T : Tab} {w : World} {F : Frz} : ∀ {es : List (List UInt8 × AV)} {l : List MapEntry}, RepM T w F es l → l.map (·.key) = es.map fun p => Value.string ⟨p.1.toArray⟩
  | [], [], _ => rfl
  | (k, c) :: r, e :: s, h => by
    simp only [RepM] at h
    simp only [List.map_cons, h.1, repM_keyList h.2.2]
  | [], _ :: _, h => by simp [RepM] at h
  | _ :: _, [], h => by simp [RepM] at h

theorem ok_Sorted {P : Program} {T : Tab} {f g : FuncId} (H : SortedSays P T f g) : ∀ args r, con_Sorted args = some r → OkCall P T f args r := by
  intro args r h w F vs hF _ hx
  obtain ⟨hinj, e9, k, hk, H⟩ := H
  simp only [con_Sorted] at h
  split at h <;> (try simp at h; done)
  rename_i es
  obtain ⟨⟨hlen, hkl⟩, rfl⟩ := ite_some h
  clear h
  simp only [half] at hlen
  match vs, hx with
  | [v], hx =>
    simp only [RepL, and_true] at hx
    simp only [Rep] at hx
    obtain ⟨f', vs', rfl, hf', hcap⟩ := hx
    obtain rfl := hinj f' hf'
    obtain ⟨l⟩ := vs'
    match l, hcap with
    | [p], hcap =>
      simp only [RepL, and_true, Rep] at hcap
      obtain ⟨Bm, rfl, hat⟩ := hcap
      simp only [RepAt, and_true] at hat
      obtain ⟨hFB, x, hcell, hmp⟩ := hat
      simp only [Rep] at hmp
      obtain ⟨b, ents, clk, rfl, hFb, hheap, ⟨el, hpe, hM⟩, hst⟩ := hmp
      have hBm : Bm < w.heap.size := hF Bm hFB
      have hkeys : (ents.toList.map (·.key)).Perm (es.map fun p => Value.string ⟨p.1.toArray⟩) := by
        rw [← repM_keyList hM]; exact (hpe.map _).symm
      have hsz : ents.size = es.length := by
        have := hkeys.length_eq
        simpa using this
      have hread : ∀ x ∈ ents.toList, ∃ s : List UInt8, x.key = .string ⟨s.toArray⟩ ∧ keyOf P k x.key = some (.string s) := by
        intro x hx
        have hm : x.key ∈ ents.toList.map (·.key) := List.mem_map_of_mem hx
        rw [hkeys.mem_iff, List.mem_map] at hm
        obtain ⟨q, hq, e⟩ := hm
        refine ⟨q.1, e.symm, ?_⟩
        have hs := hkl q hq
        simp only [half] at hs
        rw [← e]
        have hsz : (⟨q.1.toArray⟩ : ByteArray).size = q.1.length := by show q.1.toArray.size = _; simp
        have := Go.WideMaps.keyOf_string_mk hk (s := ⟨q.1.toArray⟩) (by rw [hsz]; simp only [maxLen]; omega)
        simpa using this
      have hown : w.ownsMap P k noVal b ents.size (.map ((ents.toList.map (WideElems.rg P k noVal)).foldr DataW.insert [])) := by
        refine ⟨ents, clk, hheap, ⟨by rw [hsz]; simp only [maxLen]; omega, hst, fun x hx => ?_⟩, Nat.le_refl _, rfl⟩
        obtain ⟨s, _, hs⟩ := hread x hx
        exact ⟨_, WideElems.rd_mk (val := x.val) (born := x.born) hs rfl⟩
      have hds : Maps.size (.map ((ents.toList.map (WideElems.rg P k noVal)).foldr DataW.insert [])) = es.length := by
        simp only [Maps.size]
        rw [(WideShapes.sorted_perm _).length_eq]
        simp [hsz]
      have hsk : (Go.strKeys (.map ((ents.toList.map (WideElems.rg P k noVal)).foldr DataW.insert []))).Perm (es.map (·.1)) := by
        simp only [Go.strKeys]
        refine ((WideShapes.sorted_perm _).map _).trans ?_
        have : ((ents.toList.map (WideElems.rg P k noVal)).map (fun p => Go.strOf p.1)).Perm (es.map (·.1)) := by
          rw [List.map_map]
          have e1 : ents.toList.map ((fun p => Go.strOf p.1) ∘ WideElems.rg P k noVal) = (ents.toList.map (·.key)).map (fun v => match v with | .string s => s.data.toList | _ => []) := by
            rw [List.map_map]
            refine List.map_congr_left fun x hx => ?_
            obtain ⟨s, h1, h2⟩ := hread x hx
            have h3 := WideElems.rg_of (WideElems.rd_mk (R := noVal) (val := x.val) (born := x.born) h2 rfl)
            simp only [Function.comp_apply]
            rw [show x = ⟨x.key, x.val, x.born⟩ from rfl, h3, h1]
            rfl
          have e2 : (es.map fun p => Value.string ⟨p.1.toArray⟩).map (fun v => match v with | .string s => s.data.toList | _ => []) = es.map (·.1) := by
            rw [List.map_map]
            refine List.map_congr_left fun x _ => ?_
            simp
          rw [e1, ← e2]
          exact hkeys.map _
        exact this
      refine (H Bm b ents.size _ w hBm hcell hown (by rw [hds]; simp only [maxLen]; omega) (by rw [hds]; omega)).mono ?_
      rintro e w' ⟨v, ss, rfl, hp, ho, hn, hbl⟩
      have hperm : ss.Perm (es.map (·.1)) := hp.trans hsk
      have hms : ss.mergeSort (fun x y => decide (x ≤ y)) = sortB (es.map (·.1)) := Go.mergeSort_of_perm hperm
      rw [hms] at ho
      have hl : ss.length = (sortB (es.map (·.1))).length := by rw [hperm.length_eq]; simp [sortB]
      rw [hl] at ho
      refine ⟨v, rfl, hbl, ?_⟩
      by_cases he : es = []
      · subst he
        have hss : ss = [] := by simpa using hperm
        rw [hn.2 hss]
        simp [sortB, strV, Rep]
      · have hss : ss ≠ [] := fun e => he (by rw [e] at hperm; simpa using hperm.symm)
        have hne : sortB (es.map (·.1)) ≠ [] := fun e => by rw [e] at hl; exact hss (List.length_eq_zero_iff.1 hl)
        have : strV (sortB (es.map (·.1))) = .sl 1 (strsA (sortB (es.map (·.1)))) := by
          cases hq : sortB (es.map (·.1)) with
          | nil => exact absurd hq hne
          | cons _ _ => rfl
        rw [this]
        exact owned_strs (e9 := e9) (l := sortB (es.map (·.1))) ho (fun e => hss (hn.1 e))

/-- Only one function bears this number. -/
def lkOnly (l : List (Nat × Nat)) (n g : Nat) : Bool := l.all fun p => p.2 != n || p.1 == g

theorem lkN_only {l : List (Nat × Nat)} {n g : Nat} (h : lkOnly l n g = true) : ∀ i, lkN l i = some n → i = g := by
  intro i hi
  induction l with
  | nil => simp [lkN] at hi
  | cons p r ih =>
    simp only [lkOnly, List.all_cons, Bool.and_eq_true, Bool.or_eq_true, bne_iff_ne, ne_eq, beq_iff_eq] at h
    obtain ⟨a, b⟩ := p
    simp only [lkN] at hi
    split at hi
    · rename_i e
      simp only [beq_iff_eq] at e
      simp only [Option.some.injEq] at hi
      rcases h.1 with h1 | h1
      · exact absurd hi h1
      · exact e ▸ h1
    · exact ih (by simpa [lkOnly] using h.2) hi
end Wax


namespace Wax
open Go Go.ChangeShapes Go.WideShapes Go.RowKit

section
variable {P : Program} {T : Tab} {w : World} {H : Type} {enc : TypeId × Value → H}

theorem u8_has {n : Int} (h : (Lit.int .u8 n).wf = true) : 0 ≤ n ∧ n < 256 := by
  simp only [Lit.wf] at h
  have : 0 ≤ n ∧ n ≤ 255 := by simpa [IntKind.min, IntKind.max, IntKind.bits, IntKind.signed] using h
  omega

/-- Numbers of bytes as bytes. -/
def toB (zs : List Int) : List UInt8 := zs.map fun n => UInt8.ofNat n.toNat

theorem repSl_bytes {F : Frz} {b : Nat} (hF : F b) : ∀ (o : List UInt8) (k : Nat), (∀ (j : Nat) s, o[j]? = some s → w.cell? ⟨b, k + j, none⟩ = some (.int .u8 (s.toNat : Int))) → RepSl T w F 1 b k (bcA o)
  | [], _, _ => trivial
  | x :: r, k, h => by
    simp only [bcA_cons, RepSl]
    refine ⟨trivial, ⟨hF, _, by simpa using h 0 x rfl, by simp [Rep]⟩, ?_⟩
    exact repSl_bytes hF r (k + 1) fun j s hj => by
      rw [show k + 1 + j = k + (j + 1) by omega]
      exact h (j + 1) s (by simpa using hj)

theorem open_bytes {t e : TypeId} {base : Nat} {v : Value} {d : DataW H} {ps : List MemPlace} (ht : P.underlying t = some (.slice e)) (he : P.underlying e = some (.int .u8)) (hc : P.cellsOf e = 1)
    (hval : Value.okWide P w .any base t v) (h : DataW.Trod enc P w 0 (fun _ => true) true t v d ps) :
    ∃ (x : AV) (o : List UInt8), slBytes x = some o ∧ Rep T w (fun k => k < w.heap.size) noRho x v ∧ o.length < 9223372036854775808 := by
  obtain ⟨a0, len0, cap0, rfl⟩ := okWide_slice ht hval
  obtain ⟨fuel, hf⟩ := h
  rcases open_ints ht he hc hf with ⟨hcs, _⟩ | ⟨a, len, cap, zs, hcs, _, hl, hm, hsl, _, hcell, hwf⟩
  · simp [Value.cells] at hcs
    obtain ⟨rfl, rfl, rfl⟩ := hcs
    exact ⟨.nilS, [], rfl, by simp [Rep], by simp⟩
  · simp [Value.cells] at hcs
    obtain ⟨rfl, rfl, rfl⟩ := hcs
    obtain ⟨b, o, rfl, hb⟩ := okWide_place ht hval
    simp only [if_true] at hsl
    obtain ⟨l, hl'⟩ : ∃ l : List UInt8, l = toB (zs.take len0) := ⟨_, rfl⟩
    have hll : l.length = len0 := by rw [hl', toB, List.length_map, List.length_take]; omega
    have h1 : cap0 ≤ 9223372036854775807 := hm
    refine ⟨.sl 1 (bcA l), l, ?_, ?_, by omega⟩
    · simp [slBytes]
    · simp only [Rep]
      refine .inl ⟨b, o, cap0, ?_, ?_, ?_⟩
      · simp [hll]
      · simp [hll]; exact hl
      · refine repSl_bytes (F := fun k => k < w.heap.size) hb l o ?_
        intro j s hj
        have hjl : j < l.length := by
          rcases Nat.lt_or_ge j l.length with h | h
          · exact h
          · simp [List.getElem?_eq_none h] at hj
        have hjs : j < zs.length := by omega
        have := hcell j hjs
        rw [addr_add] at this
        rw [this]
        rw [hl', toB, List.getElem?_map, List.getElem?_take_of_lt (by omega), List.getElem?_eq_getElem hjs] at hj
        simp at hj
        have hz := u8_has (hwf zs[j] (List.getElem_mem hjs))
        rw [List.getD_eq_getElem?_getD, List.getElem?_eq_getElem hjs, Option.getD_some, ← hj]
        have h2 : zs[j].toNat % 256 = zs[j].toNat := Nat.mod_eq_of_lt (by omega)
        simp [h2]
        omega

end
end Wax


namespace Wax
open Go Go.ChangeShapes Go.WideShapes Go.RowKit Go.Joins Go.Deep

section
variable {P : Program} {T : Tab} {w : World} {H : Type} {enc : TypeId × Value → H}

/-- A result that came in. -/
theorem open_ar {e pt : TypeId} {f0 f1 : Field} {fs : Array Field} {base : Nat} {v : Value} {d : DataW H} {ps : List MemPlace} (K : Bulk H) (he : P.underlying e = some (.struct fs)) (ce : P.cellsOf e = 16)
    (hfs : (fs.toList.map fun f => (f.offset, P.cellsOf f.type, P.underlying f.type)) = arFlds pt) (hp : P.underlying pt = some (.struct #[f0, f1]))
    (cp : P.cellsOf pt = 2) (o0 : f0.offset = 0) (o1 : f1.offset = 1) (c0 : P.cellsOf f0.type = 1) (c1 : P.cellsOf f1.type = 1) (s0 : P.underlying f0.type = some .string) (s1 : P.underlying f1.type = some .string)
    (hval : Value.okWide P w .any base e v) (h : DataW.Trod enc P w 0 (fun _ => true) true e v d ps) :
    ∃ r : AR, Rep T w (fun k => k < w.heap.size) noRho (.agg r.cells) v ∧ (r.ps.getD []).length < 9223372036854775808 ∧ r.bulk + 1 ≤ K.B d := by
  unfold Value.okWide at hval
  rw [he] at hval
  obtain ⟨cs, rfl, _⟩ := hval
  obtain ⟨fuel, hf⟩ := h
  obtain ⟨r, h1, h2, h3⟩ := trod_ar (T := T) K he ce hfs hp cp o0 o1 c0 c1 s0 s1 hf
  refine ⟨r, ⟨cs, rfl, ?_⟩, h2, h3⟩
  simpa [Value.cells] using h1

theorem trod_tr {e : TypeId} {f0 f1 f2 : Field} {n : Nat} {cs : List Value} {y : DataW H × List MemPlace} (he : P.underlying e = some (.struct #[f0, f1, f2])) (ce : P.cellsOf e = 3)
    (o0 : f0.offset = 0) (o1 : f1.offset = 1) (o2 : f2.offset = 2) (c0 : P.cellsOf f0.type = 1) (c1 : P.cellsOf f1.type = 1) (c2 : P.cellsOf f2.type = 1) (s0 : P.underlying f0.type = some .string) (s1 : P.underlying f1.type = some .string) (s2 : P.underlying f2.type = some .string)
    (h : DataW.trod enc P w 0 (fun _ => true) true n e cs = some y) : ∃ p : List UInt8 × List UInt8 × List UInt8, RepL T w (fun k => k < w.heap.size) noRho [.str p.1, .str p.2.1, .str p.2.2] cs := by
  obtain ⟨xs, k, _, rfl, hcl, hxl, hf⟩ := DataW.trod_struct he h
  rw [ce] at hcl
  match cs, hcl with
  | [v0, v1, v2], _ =>
    have hxl : xs.length = 3 := hxl
    match xs, hxl with
    | [y0, y1, y2], _ =>
      have g0 := hf 0 f0 rfl
      have g1 := hf 1 f1 rfl
      have g2 := hf 2 f2 rfl
      rw [o0, c0] at g0
      rw [o1, c1] at g1
      rw [o2, c2] at g2
      obtain ⟨t0, e0, _, _⟩ := DataW.trod_string s0 g0
      obtain ⟨t1, e1, _, _⟩ := DataW.trod_string s1 g1
      obtain ⟨t2, e2, _, _⟩ := DataW.trod_string s2 g2
      replace e0 : v0 = .string t0 := by simpa using e0
      replace e1 : v1 = .string t1 := by simpa using e1
      replace e2 : v2 = .string t2 := by simpa using e2
      subst e0; subst e1; subst e2
      exact ⟨(t0.data.toList, t1.data.toList, t2.data.toList), by simp [RepL, Rep]⟩

theorem repSl_trs {b : Nat} (hb : b < w.heap.size) : ∀ (l : List (List UInt8 × List UInt8 × List UInt8)) (o : Nat), (∀ (j : Nat) p, l[j]? = some p → ∃ cs : List Value, (∀ k c, cs[k]? = some c → w.cell? ⟨b, o + j * 3 + k, none⟩ = some c) ∧ RepL T w (fun k => k < w.heap.size) noRho [.str p.1, .str p.2.1, .str p.2.2] cs) → RepSl T w (fun k => k < w.heap.size) 3 b o (tr3 l)
  | [], _, _ => trivial
  | p :: l, o, h => by
    obtain ⟨cs, h1, h2⟩ := h 0 p rfl
    simp only [tr3_cons, RepSl]
    refine ⟨rfl, ?_, repSl_trs hb l (o + 3) fun j q hj => ?_⟩
    · have := repAt_of (s := fun x => x) (T := T) (w := w) (F := fun k => k < w.heap.size) (ρ := noRho) (G := fun k => k < w.heap.size) (b := b) (cs := [.str p.1, .str p.2.1, .str p.2.2]) (us := cs) (off := o) (fun x v h => h) hb (fun k c hk => by
        have := h1 k c hk
        simpa using this) h2
      simpa using this
    · obtain ⟨cs, h1, h2⟩ := h (j + 1) q (by simpa using hj)
      refine ⟨cs, fun k c hk => ?_, h2⟩
      have := h1 k c hk
      rwa [show o + (j + 1) * 3 + k = o + 3 + j * 3 + k by omega] at this

/-- Rows of three texts that came in. -/
theorem open_trs {t e : TypeId} {f0 f1 f2 : Field} {base : Nat} {v : Value} {d : DataW H} {ps : List MemPlace} (ht : P.underlying t = some (.slice e)) (he : P.underlying e = some (.struct #[f0, f1, f2])) (ce : P.cellsOf e = 3)
    (o0 : f0.offset = 0) (o1 : f1.offset = 1) (o2 : f2.offset = 2) (c0 : P.cellsOf f0.type = 1) (c1 : P.cellsOf f1.type = 1) (c2 : P.cellsOf f2.type = 1) (s0 : P.underlying f0.type = some .string) (s1 : P.underlying f1.type = some .string) (s2 : P.underlying f2.type = some .string)
    (hval : Value.okWide P w .any base t v) (h : DataW.Trod enc P w 0 (fun _ => true) true t v d ps) :
    ∃ (x : AV) (l : List (List UInt8 × List UInt8 × List UInt8)), (x = .nilS ∧ l = [] ∨ x = .sl 3 (tr3 l)) ∧ Rep T w (fun k => k < w.heap.size) noRho x v ∧ l.length < 9223372036854775808 := by
  obtain ⟨a0, len0, cap0, rfl⟩ := okWide_slice ht hval
  obtain ⟨fuel, hf⟩ := h
  rcases Go.Deep.open_slice ht hf with ⟨hcs, _⟩ | ⟨a, len, cap, m, n, D, Pl, hcs, _, hl, hm, hmm, hx, hcell⟩
  · simp [Value.cells] at hcs
    obtain ⟨rfl, rfl, rfl⟩ := hcs
    exact ⟨.nilS, [], .inl ⟨rfl, rfl⟩, by simp [Rep], by simp⟩
  · simp [Value.cells] at hcs
    obtain ⟨rfl, rfl, rfl⟩ := hcs
    obtain ⟨b, o, rfl, hb⟩ := okWide_place ht hval
    simp only [if_true] at hmm
    simp only [Prod.mk.injEq] at hx
    obtain ⟨rfl, _⟩ := hx
    have h1 : cap0 ≤ 9223372036854775807 := hm
    have each : ∀ i, i < m → ∃ p : List UInt8 × List UInt8 × List UInt8, ∃ cs : List Value, (∀ k c, cs[k]? = some c → w.cell? ⟨b, o + i * 3 + k, none⟩ = some c) ∧ RepL T w (fun k => k < w.heap.size) noRho [.str p.1, .str p.2.1, .str p.2.2] cs := by
      intro i hi
      obtain ⟨cs', g1, g2⟩ := hcell i hi
      rw [ce] at g1
      obtain ⟨_, hlen, hce⟩ := World.cells?_some g1
      obtain ⟨p, r1⟩ := trod_tr (T := T) he ce o0 o1 o2 c0 c1 c2 s0 s1 s2 g2
      refine ⟨p, cs', fun k c hk => ?_, r1⟩
      have hk' : k < 3 := by
        rcases Nat.lt_or_ge k cs'.length with h | h
        · omega
        · simp [List.getElem?_eq_none h] at hk
      have := hce k hk'
      rw [hk, addr_add, addr_add] at this
      exact this
    let f : Nat → List UInt8 × List UInt8 × List UInt8 := fun i => if h : i < m then Classical.choose (each i h) else ([], [], [])
    have hfi : ∀ i, i < m → ∃ cs : List Value, (∀ k c, cs[k]? = some c → w.cell? ⟨b, o + i * 3 + k, none⟩ = some c) ∧ RepL T w (fun k => k < w.heap.size) noRho [.str (f i).1, .str (f i).2.1, .str (f i).2.2] cs := by
      intro i hi
      have e : f i = Classical.choose (each i hi) := dif_pos hi
      rw [e]; exact Classical.choose_spec (each i hi)
    obtain ⟨l, hl'⟩ : ∃ l, l = (List.range len0).map f := ⟨_, rfl⟩
    have hll : l.length = len0 := by rw [hl']; simp
    refine ⟨.sl 3 (tr3 l), l, .inr rfl, ?_, by omega⟩
    simp only [Rep]
    refine .inl ⟨b, o, cap0, ?_, ?_, ?_⟩
    · simp [hll]
    · simp [hll]; exact hl
    · refine repSl_trs hb l o fun j r hj => ?_
      have hjl : j < len0 := by
        rcases Nat.lt_or_ge j l.length with h | h
        · omega
        · simp [List.getElem?_eq_none h] at hj
      rw [hl', List.getElem?_map, List.getElem?_range hjl] at hj
      simp only [Option.map_some, Option.some.injEq] at hj
      subst hj
      exact hfi j (by omega)
end
end Wax


