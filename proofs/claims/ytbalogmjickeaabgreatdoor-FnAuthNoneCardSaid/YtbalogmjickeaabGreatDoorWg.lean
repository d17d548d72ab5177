/- The machine by which the functions are read, and what is proved of them (part 7): no premise. -/
import Derived.WideShapes
import Derived.SliceStrings
import Derived.OpenShut
import Derived.Lib.LaidTab
import Derived.Deep.SlicePairs
import Derived.ChangeArms
import Derived.Lib.SmallJoins
import Derived.Laws.OwnMore
import Derived.Maps.Own
import Derived.Sort.KeysCollected
import Derived.ChangeSlices
import Derived.Test.YtbalogmjickeaabGreatDoorWf
set_option linter.all false
namespace Wax
open Go (IntKind)

@[simp] theorem slP_none : slP none = .nilS := rfl
def con_AMethods : List AV → Option AV
  | [] => some (.sl 1 (strsA aMeths))
  | _ => none
theorem ok_AMethods (Γ : Gam) : ∀ args r, con_AMethods args = some r → runs Γ c_spec_AMethods args (fun v => v = r) := by
  intro args r h
  cases args <;> simp [con_AMethods] at h
  subst h
  simp -implicitDefEqProofs [c_spec_AMethods, aMeths, sAuth, sDkim, sDomk, sIprev, sSender, sSpf, sDmarc, sArc, snap, resolveA]
def con_ASpace : List AV → Option AV
  | [.int .u8 n] => if 0 ≤ n ∧ n < 256 then some (.str (aSp n.toNat)) else none
  | _ => none
theorem ok_ASpace (Γ : Gam) : ∀ args r, con_ASpace args = some r → runs Γ c_spec_ASpace args (fun v => v = r) := by
  intro args r h
  simp only [con_ASpace] at h
  split at h <;> (try simp at h; done)
  rename_i n
  obtain ⟨⟨h0, hn⟩, rfl⟩ := ite_some h
  clear h
  obtain ⟨m, rfl⟩ : ∃ m : Nat, n = (m : Int) := ⟨n.toNat, by omega⟩
  obtain ⟨q, e, hlt, hq⟩ : ∃ q : Nat, (m : Int).tmod 6 = (q : Int) ∧ q < 6 ∧ m % 6 = q := ⟨m % 6, by rw [Int.tmod_eq_emod_of_nonneg (by omega)]; rfl, Nat.mod_lt _ (by omega), rfl⟩
  simp only [aSp, Int.toNat_natCast, hq]
  simp -implicitDefEqProofs [c_spec_ASpace, e]
  clear e hq
  match q, hlt with
  | 0, _ => simp
  | 1, _ => simp
  | 2, _ => simp
  | 3, _ => simp
  | 4, _ => simp
  | 5, _ => simp

def con_APlain : List AV → Option AV
  | [.str s] => if s.length < mid then some (.bool (aPlain s)) else none
  | _ => none
theorem ok_APlain (Γ : Gam) (h102 : Γ.fn 102 = con_MailHalves) (h104 : Γ.fn 104 = con_MailToken) (h105 : Γ.fn 105 = con_MailDomain) : ∀ args r, con_APlain args = some r → runs Γ c_spec_APlain args (fun v => v = r) := by
  intro args r h
  simp only [con_APlain] at h
  split at h <;> (try simp at h; done)
  rename_i s
  obtain ⟨hs, rfl⟩ := ite_some h
  clear h
  have hs' : s.length < big := by simp only [mid] at hs; simp only [big]; omega
  have k102 : con_MailHalves [.str s, .int .u8 64] = some (cutV 64 s) := if_pos hs'
  have hI : decide ((s.length : Int) ≤ 200) = decide (s.length ≤ 200) := by rw [decide_eq_decide]; omega
  cases hc : cutAt 64 s with
  | none =>
    have k104 : con_MailToken [.str s] = some (.bool (mTok s)) := if_pos hs'
    simp only [aPlain, hc]
    cases ht : mTok s with
    | false =>
      rw [ht] at k104
      simp -implicitDefEqProofs [c_spec_APlain, acall, h102, k102, cutV, hc, h104, k104]
    | true =>
      rw [ht] at k104
      simp -implicitDefEqProofs [c_spec_APlain, acall, h102, k102, cutV, hc, h104, k104, hI]
  | some p =>
    obtain ⟨l1, l2⟩ := cutAt_lens hc
    have k104 : con_MailToken [.str p.1] = some (.bool (mTok p.1)) := if_pos (by omega)
    have k105 : con_MailDomain [.str p.2] = some (.bool (mDom p.2)) := if_pos (by omega)
    simp only [aPlain, hc]
    by_cases hp : p.1 = []
    · cases hd : mDom p.2 with
      | false =>
        rw [hd] at k105
        simp -implicitDefEqProofs [c_spec_APlain, acall, h102, k102, cutV, hc, h104, k104, h105, k105, hp]
      | true =>
        rw [hd] at k105
        simp -implicitDefEqProofs [c_spec_APlain, acall, h102, k102, cutV, hc, h104, k104, h105, k105, hp, hI]
    · cases ht : mTok p.1 with
      | false =>
        rw [ht] at k104
        simp -implicitDefEqProofs [c_spec_APlain, acall, h102, k102, cutV, hc, h104, k104, h105, k105, hp]
      | true =>
        rw [ht] at k104
        cases hd : mDom p.2 with
        | false =>
          rw [hd] at k105
          simp -implicitDefEqProofs [c_spec_APlain, acall, h102, k102, cutV, hc, h104, k104, h105, k105, hp]
        | true =>
          rw [hd] at k105
          simp -implicitDefEqProofs [c_spec_APlain, acall, h102, k102, cutV, hc, h104, k104, h105, k105, hp, hI]

/-- Rows of three texts. -/
def tr3 (l : List (L8 × L8 × L8)) : List AV := l.map fun p => .agg [.str p.1, .str p.2.1, .str p.2.2]
def tc3 (l : List (L8 × L8 × L8)) : List AV := l.flatMap fun p => [.str p.1, .str p.2.1, .str p.2.2]
@[simp] theorem tr3_nil : tr3 [] = [] := rfl
@[simp] theorem tr3_cons {x l} : tr3 (x :: l) = .agg [.str x.1, .str x.2.1, .str x.2.2] :: tr3 l := rfl
@[simp] theorem tr3_length {l} : (tr3 l).length = l.length := by simp [tr3]
@[simp] theorem tc3_nil : tc3 [] = [] := rfl
@[simp] theorem tc3_cons {x : L8 × L8 × L8} {l} : tc3 (x :: l) = .str x.1 :: .str x.2.1 :: .str x.2.2 :: tc3 l := rfl
@[simp] theorem tc3_app {l m} : tc3 (l ++ m) = tc3 l ++ tc3 m := by simp [tc3]
@[simp] theorem tc3_length {l : List (L8 × L8 × L8)} : (tc3 l).length = l.length * 3 := by induction l <;> simp_all; omega
@[simp] theorem atoms_tc3 {l} : atoms (tc3 l) = true := by induction l <;> simp_all
@[simp] theorem killL_tc3 {d l} : killL d (tc3 l) = tc3 l := by induction l <;> simp_all
@[simp] theorem map_snap_tc3 {n : Nat} {hp : List (Nat × AObj)} {l} : (tc3 l).map (snap (n + 1) hp) = tc3 l := by induction l <;> simp_all
@[simp] theorem snapWL_tc3 {g : AV → AV} {l} : snapWL g (tc3 l) = tc3 l := by induction l <;> simp_all
@[simp] theorem hasRefL_tr3 {l} : hasRefL (tr3 l) = false := by induction l <;> simp_all
@[simp] theorem group_tc3 : ∀ {l : List (L8 × L8 × L8)}, group 3 l.length (tc3 l) = tr3 l
  | [] => rfl
  | x :: l => by simp [group, group_tc3 (l := l)]
def tripV (l : List (L8 × L8 × L8)) : AV := match l with | [] => .nilS | _ => .sl 3 (tr3 l)

def con_AProps : List AV → Option AV
  | [.agg cs] => (asAR cs).map fun r => tripV r.props
  | _ => none
set_option maxHeartbeats 1000000 in
theorem ok_AProps (Γ : Gam) : ∀ args r, con_AProps args = some r → runs Γ c_spec_AProps args (fun v => v = r) := by
  intro args r h
  simp only [con_AProps] at h
  split at h <;> (try simp at h; done)
  rename_i cs
  simp only [Option.map_eq_some_iff] at h
  obtain ⟨r, hr, rfl⟩ := h
  rw [asAR_spec hr]
  have cu := slP_cells r.ps
  simp only [cells] at cu
  by_cases h1 : r.kind = 1
  · simp -implicitDefEqProofs [c_spec_AProps, AR.cells, cu, h1, AR.props, tripV, group, tSmtp, nAuth]
  by_cases h2 : r.kind = 2
  · simp -implicitDefEqProofs [c_spec_AProps, AR.cells, cu, h2, AR.props, tripV, group, tHeader, nD, nI]
  by_cases h3 : r.kind = 3
  · simp -implicitDefEqProofs [c_spec_AProps, AR.cells, cu, h3, AR.props, tripV, group, tHeader, nD, nFrom, nSender]
  by_cases h4 : r.kind = 4
  · simp -implicitDefEqProofs [c_spec_AProps, AR.cells, cu, h4, AR.props, tripV, group, tPolicy, nIprev]
  by_cases h5 : r.kind = 5
  · simp -implicitDefEqProofs [c_spec_AProps, AR.cells, cu, h5, AR.props, tripV, group, tHeader]
  by_cases h6 : r.kind = 6
  · simp -implicitDefEqProofs [c_spec_AProps, AR.cells, cu, h6, AR.props, tripV, group, tSmtp, nMail, nHelo]
  by_cases h7 : r.kind = 7
  · simp -implicitDefEqProofs [c_spec_AProps, AR.cells, cu, h7, AR.props, tripV, group, tHeader, nFrom]
  simp -implicitDefEqProofs [c_spec_AProps, AR.cells, cu, h1, h2, h3, h4, h5, h6, h7, AR.props, tripV, group]

end Wax


namespace Wax
open Go (IntKind)

def halfP (s : L8) : L8 × L8 := match cutAt 46 s with | some q => q | none => (s, [])
def AR.iprops (r : AR) : List (L8 × L8 × L8) := if r.kind = 0 then (r.ps.getD []).map fun p => ((halfP p.1).1, (halfP p.1).2, p.2) else r.props
def infoV (r : AR) : AV := .agg [.str r.meth, .str [], .str r.value, .str r.reason, tripV r.iprops]
def con_AInfoOf : List AV → Option AV
  | [.agg cs] => match asAR cs with
    | some r => if 0 ≤ r.kind ∧ r.kind ≤ 8 ∧ (r.kind = 0 → (r.ps.getD []).length < half ∧ (∀ p ∈ r.ps.getD [], p.1.length < big)) then some (infoV r) else none
    | none => none
  | _ => none

theorem tripV_ref (l : List (L8 × L8 × L8)) : hasRef (tripV l) = false := by cases l <;> simp [tripV, ← tr3_cons, -tr3_cons]
theorem tripV_cells (l : List (L8 × L8 × L8)) : cells (tripV l) = [tripV l] := by cases l <;> rfl
theorem tripV_atom (l : List (L8 × L8 × L8)) : atom (tripV l) = true := by cases l <;> rfl
theorem tripV_kill (l : List (L8 × L8 × L8)) (d : Nat) : kill d (tripV l) = tripV l := by cases l <;> rfl

set_option maxHeartbeats 2000000 in
theorem ok_AInfoOf (Γ : Gam) (h200 : Γ.fn 200 = con_AMethods) (h201 : Γ.fn 201 = con_AProps) (h102 : Γ.fn 102 = con_MailHalves) : ∀ args r, con_AInfoOf args = some r → runs Γ c_spec_AInfoOf args (fun v => v = r) := by
  intro args r h
  simp only [con_AInfoOf] at h
  split at h <;> (try simp at h; done)
  rename_i cs
  split at h <;> (try simp at h; done)
  rename_i r hr
  obtain ⟨⟨hk0, hk8, hpk⟩, rfl⟩ := ite_some h
  clear h
  rw [asAR_spec hr]
  clear hr cs
  have cu := slP_cells r.ps
  simp only [cells] at cu
  by_cases h0 : r.kind = 0
  · obtain ⟨hps, hkl⟩ := hpk h0
    clear hpk
    have hm : r.meth = r.method := by simp only [AR.meth, h0, if_true]
    have hi : r.iprops = (r.ps.getD []).map fun p => ((halfP p.1).1, (halfP p.1).2, p.2) := by simp only [AR.iprops, h0, if_true]
    have ha := slP_alen r.ps
    simp only [infoV, hm, hi]
    have hcase : r.ps.getD [] = [] ∨ r.ps = some (r.ps.getD []) := by cases r.ps <;> simp
    generalize hL : r.ps.getD [] = L at *
    simp only [half] at hps
    simp -implicitDefEqProofs [-alen, c_spec_AInfoOf, AR.cells, cu, h0, ha, hL]
    refine awp_loop2 (σ := List KVp × List KVp) (fun q => ⟨[(2, .ref 2 0), (3, .ref 3 0), (20, slP r.ps), (21, .int .i64 L.length), (22, .int .i64 q.1.length)], grH 41 q.1.length (tc3 (q.1.map fun p => ((halfP p.1).1, (halfP p.1).2, p.2))) ++ [(3, .cells [.str r.method, .str [], .str r.value, .str r.reason, grV 41 3 q.1.length]), (2, .cells [.str [], .str [], .str [], .str [], .nilS])]⟩)
      (fun q => L = q.1 ++ q.2) (fun q => q.2.length) ([], L) (by simp) (by simp) ?_
    rintro ⟨pre, post⟩ e1 LQ hLQ
    simp only at e1
    cases post with
    | nil =>
      simp only [List.append_nil] at e1
      subst e1
      have hnl : ¬ ((L.length : Int) < (L.length : Int)) := by omega
      cases L with
      | nil => simp -implicitDefEqProofs [b_spec_AInfoOf_1, t_spec_AInfoOf_2, tripV]
      | cons x L =>
        have hg := group_tc3 (l := (x :: L).map fun p => ((halfP p.1).1, (halfP p.1).2, p.2))
        simp only [List.length_map, List.length_cons, List.map_cons, tc3_cons, tr3_cons] at hg
        simp -implicitDefEqProofs [b_spec_AInfoOf_1, t_spec_AInfoOf_2, tripV, hg]
        try omega
    | cons x post =>
      have hs := hcase.resolve_left (by rw [e1]; simp)
      rw [hs] at hLQ ⊢
      simp only [slP] at hLQ ⊢
      have hlen : L.length = pre.length + (post.length + 1) := by rw [e1]; simp
      have hlt : (pre.length : Int) < (L.length : Int) := by omega
      have g : L[pre.length]? = some x := by rw [e1]; exact get_mid rfl
      have g2 : (pr2 L)[pre.length]? = some (.agg [.str x.1, .str x.2]) := by simp [pr2, g]
      have ew : IntKind.i64.wrap ((pre.length : Int) + 1) = (pre.length : Int) + 1 := wrap64 (by omega) (by omega)
      have k102 : con_MailHalves [.str x.1, .int .u8 46] = some (cutV 46 x.1) := if_pos (hkl x (by rw [e1]; simp))
      obtain ⟨z, hz⟩ : ∃ z : L8 × L8 × AV, cutV 46 x.1 = .tup [.str z.1, .str z.2.1, z.2.2] ∧ halfP x.1 = (z.1, z.2.1) := by
        simp only [cutV, halfP]
        cases hc : cutAt 46 x.1 with
        | none => exact ⟨(x.1, [], .bool false), rfl, rfl⟩
        | some q => exact ⟨(q.1, q.2, .bool true), rfl, rfl⟩
      rw [hz.1] at k102
      have hz3 : hasRef z.2.2 = false := by
        have h1 := hz.1
        simp only [cutV] at h1
        cases hc : cutAt 46 x.1 with
        | none => rw [hc] at h1; simp at h1; rw [← h1.2.2]; rfl
        | some q => rw [hc] at h1; simp at h1; rw [← h1.2.2]; rfl
      have f : ∀ st, norm [2, 3, 20, 21, 22] st = ⟨[(2, .ref 2 0), (3, .ref 3 0), (20, .sl 2 (pr2 L)), (21, .int .i64 L.length), (22, .int .i64 ((pre.length : Int) + 1))], [(41, .cells (tc3 (pre.map fun p => ((halfP p.1).1, (halfP p.1).2, p.2)) ++ [.str z.1, .str z.2.1, .str x.2])), (3, .cells [.str r.method, .str [], .str r.value, .str r.reason, .msl 41 3 0 (pre.length + 1)]), (2, .cells [.str [], .str [], .str [], .str [], .nilS])]⟩ → LQ st := by
        intro st hst
        refine hLQ (pre ++ [x], post) (by rw [e1]; simp) (by simp) st ?_
        rw [hst]; simp [hz.2]
      cases pre with
      | nil =>
        simp only [List.nil_append] at e1
        subst e1
        have ew0 : IntKind.i64.wrap 1 = 1 := rfl
        have hl0 : (0 : Int) < (post.length : Int) + 1 := by omega
        simp -implicitDefEqProofs [b_spec_AInfoOf_1, hl0, ew0, acall, h102, k102, hz3]
        exact f _ (by simp)
      | cons y pre =>
        have hln2 : L.length = pre.length + 1 + (post.length + 1) := hlen
        have hlt1 : (pre.length : Int) + 1 < (L.length : Int) := by omega
        have g1 : L[pre.length + 1]? = some x := g
        have g3 : (pr2 L)[pre.length + 1]? = some (.agg [.str x.1, .str x.2]) := g2
        have ew1 : IntKind.i64.wrap ((pre.length : Int) + 1 + 1) = (pre.length : Int) + 1 + 1 := wrap64 (by omega) (by omega)
        have et : ((pre.length : Int) + 1).toNat = pre.length + 1 := by omega
        have hle : (0 : Int) ≤ (pre.length : Int) + 1 := by omega
        have tk : List.take ((pre.length + 1) * 3) (AV.str (halfP y.1).1 :: AV.str (halfP y.1).2 :: AV.str y.2 :: tc3 (pre.map fun p => ((halfP p.1).1, (halfP p.1).2, p.2))) = AV.str (halfP y.1).1 :: AV.str (halfP y.1).2 :: AV.str y.2 :: tc3 (pre.map fun p => ((halfP p.1).1, (halfP p.1).2, p.2)) := List.take_of_length_le (by simp; omega)
        simp -implicitDefEqProofs [b_spec_AInfoOf_1, hlt1, g1, g3, ew1, et, hle, acall, h102, k102, hz3, tk]
        exact ⟨⟨by omega, by omega⟩, f _ (by simp)⟩
  · have hi : r.iprops = r.props := by simp only [AR.iprops, if_neg h0]
    obtain ⟨q, hq, hqm⟩ : ∃ q : Nat, r.kind - 1 = (q : Int) ∧ aMeths[q]? = some r.meth := by
      refine ⟨(r.kind - 1).toNat, by omega, ?_⟩
      have hlt : (r.kind - 1).toNat < aMeths.length := by simp [aMeths]; omega
      simp only [AR.meth, if_neg h0, List.getD_eq_getElem?_getD, List.getElem?_eq_getElem hlt, Option.getD_some]
    have ew : IntKind.i64.wrap (r.kind - 1) = (q : Int) := by rw [wrap64 (by omega) (by omega)]; exact hq
    have k200 : con_AMethods [] = some (.sl 1 (strsA aMeths)) := rfl
    have k201 : con_AProps [.agg r.cells] = some (tripV r.props) := by simp [con_AProps, asAR_cells]
    have tr := tripV_ref r.props
    have tc := tripV_cells r.props
    have ta := tripV_atom r.props
    have tk := tripV_kill r.props
    simp only [cells] at tc
    simp only [infoV, hi]
    generalize tripV r.props = V at *
    generalize hM : aMeths = Ms at *
    generalize r.meth = m at *
    simp only [AR.cells] at k201
    simp -implicitDefEqProofs [c_spec_AInfoOf, t_spec_AInfoOf_3, AR.cells, cu, h0, acall, h200, k200, h201, k201, ew, hqm, tr, tc, ta, tk]

def cntA (fm : L8) (k : Nat) : Nat := if fm = [] then 0 else k
def con_AText1 : List AV → List (Nat × AObj) → Option (AV × List (Nat × AObj))
  | [.bx [u], .ref 0 0], [(0, .cells [.int .i64 n])] => match slBytes u with
    | some fm => if 0 ≤ n ∧ n < 1099511627776 then some (.int .u8 (nx fm (n.toNat + 1) : Nat), [(0, .cells [.int .i64 (if fm = [] then n else n + 1)])]) else none
    | none => none
  | _, _ => none
theorem ok_AText1 (Γ : Gam) : ∀ args hp q, con_AText1 args hp = some q → runsS Γ c_spec_AText_1 args hp (fun v => v = some q) := by
  intro args hp q h
  simp only [con_AText1] at h
  split at h <;> (try simp at h; done)
  rename_i u n
  split at h <;> (try simp at h; done)
  rename_i fm hu
  obtain ⟨⟨h0, hn⟩, rfl⟩ := ite_some h
  clear h
  rcases slBytes_cases hu with ⟨rfl, rfl⟩ | rfl
  · simp -implicitDefEqProofs [c_spec_AText_1, nx, reach_succ]
  · by_cases hf : fm = []
    · subst hf
      simp -implicitDefEqProofs [c_spec_AText_1, nx, reach_succ]
    · have hl : 0 < fm.length := List.length_pos_iff.2 hf
      have hz : ¬ ((fm.length : Int) = 0) := by omega
      have ew : IntKind.i64.wrap (n + 1) = n + 1 := wrap64 (by omega) (by omega)
      obtain ⟨m, rfl⟩ : ∃ m : Nat, n = (m : Int) := ⟨n.toNat, by omega⟩
      obtain ⟨q, e, hlt, hq⟩ : ∃ q : Nat, ((m : Int) + 1).tmod (fm.length : Int) = (q : Int) ∧ q < fm.length ∧ (m + 1) % fm.length = q :=
        ⟨(m + 1) % fm.length, by rw [Int.tmod_eq_emod_of_nonneg (by omega)]; simp, Nat.mod_lt _ hl, rfl⟩
      obtain ⟨b, hb⟩ : ∃ b, fm[q]? = some b := ⟨fm[q], by simp [hlt]⟩
      have hb' : fm[q] = b := by rw [List.getElem?_eq_getElem hlt] at hb; injection hb
      have hgd : fm.getD q 0 = b := by rw [List.getD_eq_getElem?_getD, hb]; rfl
      have es : nx fm (m + 1) = b.toNat := by simp only [nx, if_neg hf, hq, hgd]
      simp -implicitDefEqProofs [c_spec_AText_1, hf, ew, hz, e, hlt, hb, hb', es, reach_succ]
theorem nx_lt (fm : L8) (k : Nat) : nx fm k < 256 := by
  unfold nx
  split
  · omega
  · exact (fm.getD (k % fm.length) 0).toNat_lt

end Wax


namespace Wax
@[simp 2000] theorem guardK_tt {Γ : Gam} {dst : Option Nat} {op : SOp} {g : Nat} {r : List SO} {dd : List (List Nat)} {st : St} {K : St → Prop} : guardK (.bool true) Γ dst op g true r dd st K = opsK Γ (⟨dst, op, none⟩ :: r) dd ⟨(g, .bool true) :: st.fr, st.hp⟩ K := by simp [guardK]
@[simp 2000] theorem guardK_ff {Γ : Gam} {dst : Option Nat} {op : SOp} {g : Nat} {r : List SO} {dd : List (List Nat)} {st : St} {K : St → Prop} : guardK (.bool false) Γ dst op g false r dd st K = opsK Γ (⟨dst, op, none⟩ :: r) dd ⟨(g, .bool false) :: st.fr, st.hp⟩ K := by simp [guardK]
@[simp 2000] theorem guardK_tf {Γ : Gam} {dst : Option Nat} {op : SOp} {g : Nat} {r : List SO} {dd : List (List Nat)} {st : St} {K : St → Prop} : guardK (.bool true) Γ dst op g false r dd st K = opsK Γ r (dTl dd) ⟨rmF (dHd dd) (putS ((g, .bool true) :: st.fr) dst (.tup [])), st.hp⟩ K := by simp [guardK]
@[simp 2000] theorem guardK_ft {Γ : Gam} {dst : Option Nat} {op : SOp} {g : Nat} {r : List SO} {dd : List (List Nat)} {st : St} {K : St → Prop} : guardK (.bool false) Γ dst op g true r dd st K = opsK Γ r (dTl dd) ⟨rmF (dHd dd) (putS ((g, .bool false) :: st.fr) dst (.tup [])), st.hp⟩ K := by simp [guardK]
end Wax


namespace Wax
open Go

def lkF : List (Nat × SFn) → Nat → Option SFn
  | [], _ => none
  | (i, v) :: r, j => if i == j then some v else lkF r j

/-- The table's functions are the program's. -/
inductive TbOk (P : Program) (T : Tab) : List (Nat × SFn) → Prop where
  | nil : TbOk P T []
  | cons {f g : Nat} {fn : Func} {sfn : SFn} {L : Lay} {r : List (Nat × SFn)} (hf : lkN T.fns f = some g) (hb : hasBody P f = true) (hfn : P.funcs[f]? = some fn) (hc : compFn P T L fn = some sfn) (hr : TbOk P T r) : TbOk P T ((g, sfn) :: r)

theorem TbOk.get {P : Program} {T : Tab} : ∀ {tb : List (Nat × SFn)}, TbOk P T tb → ∀ {g : Nat} {sfn : SFn}, lkF tb g = some sfn → ∃ f fn L, lkN T.fns f = some g ∧ hasBody P f = true ∧ P.funcs[f]? = some fn ∧ compFn P T L fn = some sfn
  | _, .nil, g, sfn, h => by simp [lkF] at h
  | _, .cons (f := f) (fn := fn) (L := L) hf hb hfn hc hr, g, sfn, h => by
    simp only [lkF] at h
    split at h
    · rename_i e
      simp only [beq_iff_eq] at e
      simp only [Option.some.injEq] at h
      subst e; subst h
      exact ⟨f, fn, L, hf, hb, hfn, hc⟩
    · exact hr.get h

end Wax


namespace Wax
open Go
def aIn : List UInt8 := [97, 59, 32, 100, 107, 105, 109, 61, 112, 97, 115, 115, 32, 104, 101, 97, 100, 101, 114, 46, 100, 61, 98]
def aOut : AV := .tup [.str [97], .sl 16 [.agg [.int .i64 2, .str [], .str [112, 97, 115, 115], .str [], .str [98], .str [], .str [], .str [], .str [], .str [], .str [], .str [], .str [], .str [], .int .i64 0, .nilS]], .bool true]
end Wax


namespace Wax
open Go (IntKind)
def tIn : L8 := [118, 61, 68, 77, 65, 82, 67, 49, 59, 32, 112, 61, 110, 111, 110, 101]
def con_awake : List AV → Option AV
  | [] => some (.bool true)
  | _ => none
theorem tIn_ok : mpV (mdText tIn) = .tup [.agg (MR.cells { mr0 with adkim := sR, aspf := sR, p := sNone }), .bool true] := by rfl
end Wax


namespace Wax
open Go (IntKind)

theorem adIn : adText aIn = some ([97], [.dkim [112, 97, 115, 115] [] [98] []]) := by kernel_rfl
theorem au_ok_awake (Γ : Gam) (h144 : Γ.fn 144 = con_AParse) (h133 : Γ.fn 133 = con_MParse) : ∀ args r, con_awake args = some r → runs Γ c_laws_awake args (fun v => v = r) := by
  intro args r h
  simp only [con_awake] at h
  split at h <;> (try simp at h; done)
  injection h with h
  subst h
  have k : con_AParse [.str [97, 59, 32, 100, 107, 105, 109, 61, 112, 97, 115, 115, 32, 104, 101, 97, 100, 101, 114, 46, 100, 61, 98]] = some aOut := by
    have e : aIn.length < qtr ∧ plain aIn = true := ⟨by simp [aIn, qtr], by kernel_rfl⟩
    show con_AParse [.str aIn] = _
    simp only [con_AParse]
    rw [if_pos e, adIn]
    rfl
  have k2 : con_MParse [.str tIn] = some (.tup [.agg (MR.cells { mr0 with adkim := sR, aspf := sR, p := sNone }), .bool true]) := by
    have e : tIn.length < mid ∧ plain tIn = true := ⟨by simp [tIn, mid], by kernel_rfl⟩
    simp only [con_MParse]
    rw [if_pos e, tIn_ok]
  simp only [aOut] at k
  simp only [MR.cells, mr0, slO_none, tIn, sR, sNone] at k2
  simp -implicitDefEqProofs [c_laws_awake, acall, h144, h133, k, k2, sNone]

end Wax


namespace Wax
open Go (IntKind)

/-- Pairs, each behind a row of blanks, taken by number from k on. -/
def sepT (fm : L8) (k : Nat) (l : List KVp) : L8 := flatW ((sepKv fm k l).map fun p => (p.1, kvW p.2))
theorem sepT_nil (fm : L8) (k : Nat) : sepT fm k [] = [] := rfl
theorem sepT_cons (fm : L8) (k : Nat) (p : KVp) (l : List KVp) : sepT fm k (p :: l) = aSp (nx fm k) ++ (kvW p ++ sepT fm (k + 1) l) := by simp [sepT, sepKv, flatW]
theorem sepT_app (fm : L8) : ∀ (a b : List KVp) (k : Nat), sepT fm k (a ++ b) = sepT fm k a ++ sepT fm (k + a.length) b
  | [], b, k => by simp [sepT_nil]
  | p :: a, b, k => by
    simp only [List.cons_append, sepT_cons, sepT_app fm a b (k + 1), List.append_assoc, List.length_cons]
    rw [show k + 1 + a.length = k + (a.length + 1) by omega]
theorem sepT_len (fm : L8) : ∀ (l : List KVp) (k : Nat), l.length ≤ (sepT fm k l).length
  | [], _ => by simp [sepT_nil]
  | p :: l, k => by
    have ih := sepT_len fm l (k + 1)
    simp only [sepT_cons, List.length_append, List.length_cons, kvW]
    omega

theorem next_con {f : AV} {fm : L8} (hf : slBytes f = some fm) {m : Nat} (hm : m < 1099511627776) : con_AText1 [.bx [f], .ref 0 0] [(0, .cells [.int .i64 (cntA fm m : Nat)])] = some (.int .u8 (nx fm (m + 1) : Nat), [(0, .cells [.int .i64 (cntA fm (m + 1) : Nat)])]) := by
  simp only [con_AText1, hf]
  by_cases hfm : fm = []
  · simp [cntA, nx, hfm]
  · simp [cntA, hfm]; omega
theorem space_con (fm : L8) (k : Nat) : con_ASpace [.int .u8 (nx fm k : Nat)] = some (.str (aSp (nx fm k))) := by
  have := nx_lt fm k
  simp only [con_ASpace]
  rw [if_pos (by omega)]; simp
def propK (p : L8 × L8 × L8) : KVp := (p.1 ++ 46 :: p.2.1, p.2.2)

section
variable {Γ : Gam} (s205 : Γ.st 205 = con_AText1) (h207 : Γ.fn 207 = con_ASpace) {u f : AV} {fm : L8} (hf : slBytes f = some fm) (uk : ∀ d, kill d u = u) (us : ∀ g, snapW g u = u) (len i : Int)
include s205 h207 hf uk us

set_option maxHeartbeats 4000000 in
theorem at_2 {Q : APost} (m v rs : L8) (q : List (L8 × L8 × L8)) (s : L8) (k : Nat) (ex : List (Nat × AV)) (hB : s.length + (sepT fm (k + 1) (q.map propK)).length < qtr) (hk : k < qtr)
    (hQ : ∀ ex', Q .normal ⟨(1, u) :: (8, .fn 205 [.bx [f], .ref 7 0]) :: (9, .str (s ++ sepT fm (k + 1) (q.map propK))) :: (19, u) :: (20, .int .i64 len) :: (21, .int .i64 i) :: ex', [(7, .cells [.int .i64 (cntA fm (k + q.length) : Nat)])]⟩) :
    awp Γ f_spec_AText_2 Q ⟨(1, u) :: (8, .fn 205 [.bx [f], .ref 7 0]) :: (9, .str s) :: (12, .ptr [.str m, .str [], .str v, .str rs, tripV q]) :: (19, u) :: (20, .int .i64 len) :: (21, .int .i64 i) :: ex, [(7, .cells [.int .i64 (cntA fm k : Nat)])]⟩ := by
  have uf : refs f = [] := slb_refs hf
  have mf := slb_map hf
  have kf := slb_kill hf
  have rf := slb_ref hf
  have at_ := slb_atom hf
  have hal : ∀ hp, alen hp 1 (tripV q) = some q.length := by intro hp; cases q <;> simp [tripV, alen]
  have hta := tripV_atom q
  have hql : q.length ≤ (sepT fm (k + 1) (q.map propK)).length := by have := sepT_len fm (q.map propK) (k + 1); simpa using this
  simp only [qtr] at hB hk
  simp -implicitDefEqProofs [-alen, f_spec_AText_2, hal, hta]
  refine awp_loop2 (σ := List (L8 × L8 × L8) × List (L8 × L8 × L8)) (fun z => ⟨[(1, u), (8, .fn 205 [.bx [f], .ref 7 0]), (9, .str (s ++ sepT fm (k + 1) (z.1.map propK))), (19, u), (20, .int .i64 len), (21, .int .i64 i), (68, tripV q), (69, .int .i64 q.length), (70, .int .i64 z.1.length)], [(7, .cells [.int .i64 (cntA fm (k + z.1.length) : Nat)])]⟩)
    (fun z => q = z.1 ++ z.2) (fun z => z.2.length) ([], q) (by simp [sepT_nil]) (by simp) ?_
  rintro ⟨pre, post⟩ e1 LQ hLQ
  simp only at e1
  cases post with
  | nil =>
    simp only [List.append_nil] at e1
    subst e1
    have hnl : ¬ ((q.length : Int) < (q.length : Int)) := by omega
    simp -implicitDefEqProofs [b_spec_AText_1]
    exact hQ _
  | cons x post =>
    have hlen : q.length = pre.length + (post.length + 1) := by rw [e1]; simp
    have hlt : (pre.length : Int) < (q.length : Int) := by omega
    have ew : IntKind.i64.wrap ((pre.length : Int) + 1) = (pre.length : Int) + 1 := wrap64 (by omega) (by omega)
    have hq : tripV q = .sl 3 (tr3 q) := by cases q with
      | nil => simp at e1
      | cons _ _ => rfl
    have g : q[pre.length]? = some x := by rw [e1]; exact get_mid rfl
    have g2 : (tr3 q)[pre.length]? = some (.agg [.str x.1, .str x.2.1, .str x.2.2]) := by simp [tr3, g]
    rw [hq] at hLQ ⊢
    have kA := next_con hf (m := k + pre.length) (by omega)
    have kS := space_con fm (k + pre.length + 1)
    have hsp : q.map propK = pre.map propK ++ propK x :: post.map propK := by rw [e1]; simp
    rw [hsp, sepT_app, sepT_cons] at hB
    simp only [List.length_append, List.length_map, propK, kvW, List.length_cons] at hB
    rw [show k + 1 + pre.length = k + pre.length + 1 by omega] at hB
    have fin : ∀ st, norm [1, 8, 9, 19, 20, 21, 68, 69, 70] st = ⟨[(1, u), (8, .fn 205 [.bx [f], .ref 7 0]), (9, .str (s ++ (sepT fm (k + 1) (pre.map propK) ++ (aSp (nx fm (k + pre.length + 1)) ++ (x.1 ++ 46 :: (x.2.1 ++ 61 :: x.2.2)))))), (19, u), (20, .int .i64 len), (21, .int .i64 i), (68, .sl 3 (tr3 q)), (69, .int .i64 q.length), (70, .int .i64 ((pre.length : Int) + 1))], [(7, .cells [.int .i64 (cntA fm (k + pre.length + 1) : Nat)])]⟩ → LQ st := by
      intro st hst
      refine hLQ (pre ++ [x], post) (by rw [e1]; simp) (by simp) st ?_
      rw [hst]
      have e3 : sepT fm (k + 1) ((pre ++ [x]).map propK) = sepT fm (k + 1) (pre.map propK) ++ (aSp (nx fm (k + pre.length + 1)) ++ (x.1 ++ 46 :: (x.2.1 ++ 61 :: x.2.2))) := by
        rw [List.map_append, sepT_app, List.map_cons, List.map_nil, sepT_cons, sepT_nil]
        simp [propK, kvW, show k + 1 + pre.length = k + pre.length + 1 by omega]
      rw [e3]
      simp [Nat.add_assoc]
    simp -implicitDefEqProofs [b_spec_AText_1, hlt, g2, ew, uf, mf, kf, rf, at_, uk, us, acallS, reach_succ, s205, kA, acall, h207, kS]
    refine ⟨by omega, by omega, by omega, by omega, by omega, by omega, fin _ ?_⟩
    simp

set_option maxHeartbeats 2000000 in
theorem at_3 {Q : APost} (m v rs : L8) (q : List (L8 × L8 × L8)) (s : L8) (k : Nat) (ex : List (Nat × AV)) (hB : s.length + (sepT fm (k + 1) (rPs rs ++ q.map propK)).length < qtr) (hk : k + 1 < qtr)
    (hQ : ∀ ex', Q .normal ⟨(1, u) :: (8, .fn 205 [.bx [f], .ref 7 0]) :: (9, .str (s ++ sepT fm (k + 1) (rPs rs ++ q.map propK))) :: (19, u) :: (20, .int .i64 len) :: (21, .int .i64 i) :: ex', [(7, .cells [.int .i64 (cntA fm (k + (rPs rs ++ q.map propK).length) : Nat)])]⟩) :
    awp Γ f_spec_AText_3 Q ⟨(1, u) :: (8, .fn 205 [.bx [f], .ref 7 0]) :: (9, .str s) :: (12, .ptr [.str m, .str [], .str v, .str rs, tripV q]) :: (19, u) :: (20, .int .i64 len) :: (21, .int .i64 i) :: ex, [(7, .cells [.int .i64 (cntA fm k : Nat)])]⟩ := by
  have uf : refs f = [] := slb_refs hf
  have mf := slb_map hf
  have kf := slb_kill hf
  have rf := slb_ref hf
  have at_ := slb_atom hf
  have tk := tripV_kill q
  by_cases hr : rs = []
  · subst hr
    simp only [rPs, if_true, List.nil_append, List.length_map] at hB hQ
    have T := fun ex => at_2 (Q := Q) s205 h207 hf uk us len i m v [] q s k ex hB (by omega) hQ
    simp -implicitDefEqProofs [f_spec_AText_3]
    exact T _
  · have er : rPs rs = [(qReason, rs)] := by simp [rPs, hr]
    rw [er] at hB hQ
    simp only [List.cons_append, List.nil_append, sepT_cons, List.length_append, List.length_cons, List.length_map, kvW] at hB hQ
    simp only [qtr] at hB hk
    have T := fun ex => at_2 (Q := Q) s205 h207 hf uk us len i m v rs q (s ++ (aSp (nx fm (k + 1)) ++ (qReason ++ 61 :: rs))) (k + 1) ex (by simp only [List.length_append, List.length_cons, qtr]; omega) (by simp only [qtr]; omega) (by
      intro ex'
      have := hQ ex'
      rw [show k + (q.length + 1) = k + 1 + q.length by omega] at this
      simpa using this)
    have kA := next_con hf (m := k) (by omega)
    have kS := space_con fm (k + 1)
    simp only [qReason, List.length_cons, List.length_nil] at hB T
    simp -implicitDefEqProofs [f_spec_AText_3, hr, uf, mf, kf, rf, at_, uk, us, tk, acallS, reach_succ, s205, kA, acall, h207, kS]
    refine ⟨by omega, by omega, by omega, ?_⟩
    exact T _
set_option maxHeartbeats 2000000 in
theorem at_4 {Q : APost} (m v rs : L8) (q : List (L8 × L8 × L8)) (s : L8) (k : Nat) (ex : List (Nat × AV)) (hB : s.length + (m.length + 1 + v.length + (sepT fm (k + 1) (rPs rs ++ q.map propK)).length) < qtr) (hk : k + 1 < qtr)
    (hQ : ∀ ex', Q .normal ⟨(1, u) :: (8, .fn 205 [.bx [f], .ref 7 0]) :: (9, .str (s ++ (kvW (m, v) ++ sepT fm (k + 1) (rPs rs ++ q.map propK)))) :: (19, u) :: (20, .int .i64 len) :: (21, .int .i64 i) :: ex', [(7, .cells [.int .i64 (cntA fm (k + (rPs rs ++ q.map propK).length) : Nat)])]⟩) :
    awp Γ f_spec_AText_4 Q ⟨(1, u) :: (8, .fn 205 [.bx [f], .ref 7 0]) :: (9, .str s) :: (12, .ptr [.str m, .str [], .str v, .str rs, tripV q]) :: (19, u) :: (20, .int .i64 len) :: (21, .int .i64 i) :: ex, [(7, .cells [.int .i64 (cntA fm k : Nat)])]⟩ := by
  simp only [qtr] at hB hk
  have T := fun ex => at_3 (Q := Q) s205 h207 hf uk us len i m v rs q (s ++ (m ++ 61 :: v)) k ex (by simp only [List.length_append, List.length_cons, qtr]; omega) (by simp only [qtr]; omega) (by
    intro ex'
    have := hQ ex'
    simp only [kvW] at this
    simpa using this)
  simp -implicitDefEqProofs [f_spec_AText_4]
  refine ⟨by omega, by omega, by omega, ?_⟩
  exact T _
set_option maxHeartbeats 2000000 in
theorem at_4b {Q : APost} (m v rs : L8) (q : List (L8 × L8 × L8)) (s : L8) (k : Nat) (x14 : AV) (ex : List (Nat × AV)) (hB : s.length + (m.length + 1 + v.length + (sepT fm (k + 1) (rPs rs ++ q.map propK)).length) < qtr) (hk : k + 1 < qtr)
    (hQ : ∀ ex', Q .normal ⟨(1, u) :: (8, .fn 205 [.bx [f], .ref 7 0]) :: (9, .str (s ++ (kvW (m, v) ++ sepT fm (k + 1) (rPs rs ++ q.map propK)))) :: (19, u) :: (20, .int .i64 len) :: (21, .int .i64 i) :: ex', [(7, .cells [.int .i64 (cntA fm (k + (rPs rs ++ q.map propK).length) : Nat)])]⟩) :
    awp Γ f_spec_AText_4 Q ⟨(1, u) :: (8, .fn 205 [.bx [f], .ref 7 0]) :: (9, .str s) :: (12, .ptr [.str m, .str [], .str v, .str rs, tripV q]) :: (14, x14) :: (19, u) :: (20, .int .i64 len) :: (21, .int .i64 i) :: ex, [(7, .cells [.int .i64 (cntA fm k : Nat)])]⟩ := by
  simp only [qtr] at hB hk
  have T := fun ex => at_3 (Q := Q) s205 h207 hf uk us len i m v rs q (s ++ (m ++ 61 :: v)) k ex (by simp only [List.length_append, List.length_cons, qtr]; omega) (by simp only [qtr]; omega) (by
    intro ex'
    have := hQ ex'
    simp only [kvW] at this
    simpa using this)
  simp -implicitDefEqProofs [f_spec_AText_4]
  refine ⟨by omega, by omega, by omega, ?_⟩
  exact T _
set_option maxHeartbeats 1000000 in
theorem at_5 {Q : APost} (m v rs : L8) (q : List (L8 × L8 × L8)) (s : L8) (k : Nat) (ex : List (Nat × AV)) (hB : s.length + 1 + ((aBeh (nx fm (k + 1))).length + (m.length + 1 + v.length + (sepT fm (k + 1 + 1) (rPs rs ++ q.map propK)).length)) < qtr) (hk : k + 1 + 1 < qtr)
    (hQ : ∀ ex', Q .normal ⟨(1, u) :: (8, .fn 205 [.bx [f], .ref 7 0]) :: (9, .str (s ++ 59 :: (aBeh (nx fm (k + 1)) ++ (kvW (m, v) ++ sepT fm (k + 1 + 1) (rPs rs ++ q.map propK))))) :: (19, u) :: (20, .int .i64 len) :: (21, .int .i64 i) :: ex', [(7, .cells [.int .i64 (cntA fm (k + 1 + (rPs rs ++ q.map propK).length) : Nat)])]⟩) :
    awp Γ f_spec_AText_5 Q ⟨(1, u) :: (8, .fn 205 [.bx [f], .ref 7 0]) :: (9, .str s) :: (12, .ptr [.str m, .str [], .str v, .str rs, tripV q]) :: (19, u) :: (20, .int .i64 len) :: (21, .int .i64 i) :: ex, [(7, .cells [.int .i64 (cntA fm k : Nat)])]⟩ := by
  have uf : refs f = [] := slb_refs hf
  have mf := slb_map hf
  have kf := slb_kill hf
  have rf := slb_ref hf
  have at_ := slb_atom hf
  have tk := tripV_kill q
  simp only [qtr] at hB hk
  have kA := next_con hf (m := k) (by omega)
  have kS := space_con fm (k + 1)
  have hlt := nx_lt fm (k + 1)
  have e3 : ((nx fm (k + 1) : Nat) : Int).tmod 3 = ((nx fm (k + 1) % 3 : Nat) : Int) := by rw [Int.tmod_eq_emod_of_nonneg (by omega)]; rfl
  by_cases hz : nx fm (k + 1) % 3 = 0
  · have eb : aBeh (nx fm (k + 1)) = [] := by simp only [aBeh, if_pos hz]
    rw [eb] at hB hQ
    simp only [List.length_nil, List.nil_append] at hB hQ
    have T := fun x14 ex => at_4b (Q := Q) s205 h207 hf uk us len i m v rs q (s ++ [59]) (k + 1) x14 ex (by simp only [List.length_append, List.length_cons, List.length_nil, qtr]; omega) (by simp only [qtr]; omega) (by
      intro ex'
      have := hQ ex'
      simpa using this)
    have h0 : ((nx fm (k + 1) % 3 : Nat) : Int) = 0 := by omega
    rw [h0] at e3
    clear hlt hz h0 hQ kS eb
    simp -implicitDefEqProofs [f_spec_AText_5, uf, mf, kf, rf, at_, uk, us, tk, acallS, reach_succ, s205, kA, e3]
    refine ⟨by omega, ?_⟩
    exact T _ _
  · have eb : aBeh (nx fm (k + 1)) = aSp (nx fm (k + 1)) := by simp only [aBeh, if_neg hz]
    rw [eb] at hB hQ
    have T := fun ex => at_4 (Q := Q) s205 h207 hf uk us len i m v rs q (s ++ 59 :: aSp (nx fm (k + 1))) (k + 1) ex (by simp only [List.length_append, List.length_cons, List.length_nil, qtr]; omega) (by simp only [qtr]; omega) (by
      intro ex'
      have := hQ ex'
      simpa using this)
    have h0 : ¬ ((nx fm (k + 1) % 3 : Nat) : Int) = 0 := by omega
    generalize ((nx fm (k + 1) % 3 : Nat) : Int) = z3 at e3 h0
    clear hlt hz hQ eb
    simp -implicitDefEqProofs [f_spec_AText_5, uf, mf, kf, rf, at_, uk, us, tk, acallS, reach_succ, s205, kA, e3, h0, acall, h207, kS]
    refine ⟨by omega, by omega, ?_⟩
    exact T _
set_option maxHeartbeats 1000000 in
theorem at_5b {Q : APost} (m v rs : L8) (q : List (L8 × L8 × L8)) (s : L8) (k : Nat) (x13 : AV) (ex : List (Nat × AV)) (hB : s.length + 1 + ((aBeh (nx fm (k + 1))).length + (m.length + 1 + v.length + (sepT fm (k + 1 + 1) (rPs rs ++ q.map propK)).length)) < qtr) (hk : k + 1 + 1 < qtr)
    (hQ : ∀ ex', Q .normal ⟨(1, u) :: (8, .fn 205 [.bx [f], .ref 7 0]) :: (9, .str (s ++ 59 :: (aBeh (nx fm (k + 1)) ++ (kvW (m, v) ++ sepT fm (k + 1 + 1) (rPs rs ++ q.map propK))))) :: (19, u) :: (20, .int .i64 len) :: (21, .int .i64 i) :: ex', [(7, .cells [.int .i64 (cntA fm (k + 1 + (rPs rs ++ q.map propK).length) : Nat)])]⟩) :
    awp Γ f_spec_AText_5 Q ⟨(1, u) :: (8, .fn 205 [.bx [f], .ref 7 0]) :: (9, .str s) :: (12, .ptr [.str m, .str [], .str v, .str rs, tripV q]) :: (13, x13) :: (19, u) :: (20, .int .i64 len) :: (21, .int .i64 i) :: ex, [(7, .cells [.int .i64 (cntA fm k : Nat)])]⟩ := by
  have uf : refs f = [] := slb_refs hf
  have mf := slb_map hf
  have kf := slb_kill hf
  have rf := slb_ref hf
  have at_ := slb_atom hf
  have tk := tripV_kill q
  simp only [qtr] at hB hk
  have kA := next_con hf (m := k) (by omega)
  have kS := space_con fm (k + 1)
  have hlt := nx_lt fm (k + 1)
  have e3 : ((nx fm (k + 1) : Nat) : Int).tmod 3 = ((nx fm (k + 1) % 3 : Nat) : Int) := by rw [Int.tmod_eq_emod_of_nonneg (by omega)]; rfl
  by_cases hz : nx fm (k + 1) % 3 = 0
  · have eb : aBeh (nx fm (k + 1)) = [] := by simp only [aBeh, if_pos hz]
    rw [eb] at hB hQ
    simp only [List.length_nil, List.nil_append] at hB hQ
    have T := fun x14 ex => at_4b (Q := Q) s205 h207 hf uk us len i m v rs q (s ++ [59]) (k + 1) x14 ex (by simp only [List.length_append, List.length_cons, List.length_nil, qtr]; omega) (by simp only [qtr]; omega) (by
      intro ex'
      have := hQ ex'
      simpa using this)
    have h0 : ((nx fm (k + 1) % 3 : Nat) : Int) = 0 := by omega
    rw [h0] at e3
    clear hlt hz h0 hQ kS eb
    simp -implicitDefEqProofs [f_spec_AText_5, uf, mf, kf, rf, at_, uk, us, tk, acallS, reach_succ, s205, kA, e3]
    refine ⟨by omega, ?_⟩
    exact T _ _
  · have eb : aBeh (nx fm (k + 1)) = aSp (nx fm (k + 1)) := by simp only [aBeh, if_neg hz]
    rw [eb] at hB hQ
    have T := fun ex => at_4 (Q := Q) s205 h207 hf uk us len i m v rs q (s ++ 59 :: aSp (nx fm (k + 1))) (k + 1) ex (by simp only [List.length_append, List.length_cons, List.length_nil, qtr]; omega) (by simp only [qtr]; omega) (by
      intro ex'
      have := hQ ex'
      simpa using this)
    have h0 : ¬ ((nx fm (k + 1) % 3 : Nat) : Int) = 0 := by omega
    generalize ((nx fm (k + 1) % 3 : Nat) : Int) = z3 at e3 h0
    clear hlt hz hQ eb
    simp -implicitDefEqProofs [f_spec_AText_5, uf, mf, kf, rf, at_, uk, us, tk, acallS, reach_succ, s205, kA, e3, h0, acall, h207, kS]
    refine ⟨by omega, by omega, ?_⟩
    exact T _
set_option maxHeartbeats 1000000 in
theorem at_6 {Q : APost} (m v rs : L8) (q : List (L8 × L8 × L8)) (s : L8) (k : Nat) (ex : List (Nat × AV)) (hB : s.length + (aPre (nx fm (k + 1))).length + 1 + ((aBeh (nx fm (k + 1 + 1))).length + (m.length + 1 + v.length + (sepT fm (k + 1 + 1 + 1) (rPs rs ++ q.map propK)).length)) < qtr) (hk : k + 1 + 1 + 1 < qtr)
    (hQ : ∀ ex', Q .normal ⟨(1, u) :: (8, .fn 205 [.bx [f], .ref 7 0]) :: (9, .str (s ++ (aPre (nx fm (k + 1)) ++ 59 :: (aBeh (nx fm (k + 1 + 1)) ++ (kvW (m, v) ++ sepT fm (k + 1 + 1 + 1) (rPs rs ++ q.map propK)))))) :: (19, u) :: (20, .int .i64 len) :: (21, .int .i64 i) :: ex', [(7, .cells [.int .i64 (cntA fm (k + 1 + 1 + (rPs rs ++ q.map propK).length) : Nat)])]⟩) :
    awp Γ f_spec_AText_6 Q ⟨(1, u) :: (8, .fn 205 [.bx [f], .ref 7 0]) :: (9, .str s) :: (12, .ptr [.str m, .str [], .str v, .str rs, tripV q]) :: (19, u) :: (20, .int .i64 len) :: (21, .int .i64 i) :: ex, [(7, .cells [.int .i64 (cntA fm k : Nat)])]⟩ := by
  have uf : refs f = [] := slb_refs hf
  have mf := slb_map hf
  have kf := slb_kill hf
  have rf := slb_ref hf
  have at_ := slb_atom hf
  have tk := tripV_kill q
  simp only [qtr] at hB hk
  have kA := next_con hf (m := k) (by omega)
  have kS := space_con fm (k + 1)
  have hlt := nx_lt fm (k + 1)
  have e3 : ((nx fm (k + 1) : Nat) : Int).tmod 3 = ((nx fm (k + 1) % 3 : Nat) : Int) := by rw [Int.tmod_eq_emod_of_nonneg (by omega)]; rfl
  by_cases hz : nx fm (k + 1) % 3 = 0
  · have eb : aPre (nx fm (k + 1)) = aSp (nx fm (k + 1)) := by simp only [aPre, if_pos hz]
    rw [eb] at hB hQ
    have T := fun ex => at_5 (Q := Q) s205 h207 hf uk us len i m v rs q (s ++ aSp (nx fm (k + 1))) (k + 1) ex (by simp only [List.length_append, qtr]; omega) (by simp only [qtr]; omega) (by
      intro ex'
      have := hQ ex'
      simpa using this)
    have h0 : ((nx fm (k + 1) % 3 : Nat) : Int) = 0 := by omega
    rw [h0] at e3
    clear hlt hz h0 hQ eb
    simp -implicitDefEqProofs [f_spec_AText_6, uf, mf, kf, rf, at_, uk, us, tk, acallS, reach_succ, s205, kA, e3, acall, h207, kS]
    refine ⟨by omega, ?_⟩
    exact T _
  · have eb : aPre (nx fm (k + 1)) = [] := by simp only [aPre, if_neg hz]
    rw [eb] at hB hQ
    simp only [List.length_nil, List.nil_append] at hB hQ
    have T := fun x13 ex => at_5b (Q := Q) s205 h207 hf uk us len i m v rs q s (k + 1) x13 ex (by simp only [qtr]; omega) (by simp only [qtr]; omega) hQ
    have h0 : ¬ ((nx fm (k + 1) % 3 : Nat) : Int) = 0 := by omega
    generalize ((nx fm (k + 1) % 3 : Nat) : Int) = z3 at e3 h0
    clear hlt hz hQ eb kS
    simp -implicitDefEqProofs [f_spec_AText_6, uf, mf, kf, rf, at_, uk, us, tk, acallS, reach_succ, s205, kA, e3, h0]
    exact T _ _
end
end Wax


namespace Wax
open Go (IntKind)

def asARs : List AV → Option (List AR)
  | [] => some []
  | .agg cs :: r => match asAR cs, asARs r with
    | some x, some l => some (x :: l)
    | _, _ => none
  | _ :: _ => none
def slAR : AV → Option (List AR)
  | .nilS => some []
  | .sl es xs => if es = 16 then asARs xs else none
  | _ => none
theorem asARs_spec : ∀ {xs : List AV} {l : List AR}, asARs xs = some l → xs = arA l
  | [], l, h => by simp [asARs] at h; subst h; rfl
  | v :: r, l, h => by
    unfold asARs at h
    split at h
    · rename_i e; simp at e
    · rename_i cs r' e
      simp at e; obtain ⟨rfl, rfl⟩ := e
      split at h
      · rename_i x l' h1 h2
        simp at h; subst h
        rw [asAR_spec h1, asARs_spec h2]; rfl
      · simp at h
    · simp at h
theorem slAR_cases {v : AV} {l} (h : slAR v = some l) : (v = .nilS ∧ l = []) ∨ v = .sl 16 (arA l) := by
  cases v <;> simp [slAR] at h
  · left; exact ⟨rfl, h⟩
  · right; obtain ⟨e, h⟩ := h; rw [asARs_spec h, e]
section
variable {u : AV} {l : List AR} (h : slAR u = some l)
include h
theorem sar_kill (d : Nat) : kill d u = u := by rcases slAR_cases h with ⟨rfl, _⟩ | rfl <;> rfl
theorem sar_snapW (g : AV → AV) : snapW g u = u := by rcases slAR_cases h with ⟨rfl, _⟩ | rfl <;> rfl
theorem sar_alen (hp : List (Nat × AObj)) : alen hp 1 u = some l.length := by rcases slAR_cases h with ⟨rfl, rfl⟩ | rfl <;> simp [alen]
theorem sar_ne (hn : l ≠ []) : u = .sl 16 (arA l) := by
  rcases slAR_cases h with ⟨_, rfl⟩ | rfl
  · exact absurd rfl hn
  · rfl
end
/-- How many numbers results take. -/
def cntR : List AR → Nat
  | [] => 0
  | r :: l => 2 + r.prm.length + cntR l
theorem cntR_app : ∀ (a : List AR) (r : AR), cntR (a ++ [r]) = cntR a + (2 + r.prm.length)
  | [], r => by simp [cntR]
  | x :: a, r => by simp only [List.cons_append, cntR, cntR_app a r]; omega
theorem aParts_app (fm : L8) (r : AR) : ∀ (a : List AR) (k : Nat), aParts fm k (a ++ [r]) = aParts fm k a ++ [aPart fm (k + cntR a) r]
  | [], k => by simp [aParts, cntR]
  | x :: a, k => by
    simp only [List.cons_append, aParts, aParts_app fm r a, cntR]
    rw [show k + 2 + x.prm.length + cntR a = k + (2 + x.prm.length + cntR a) by omega]
theorem flatP_app (a b : List (L8 × ResT)) : flatP (a ++ b) = flatP a ++ flatP b := by simp [flatP]
theorem flatP_one (fm : L8) (k : Nat) (r : AR) : flatP [aPart fm k r] = aPre (nx fm (k + 1)) ++ 59 :: (aBeh (nx fm (k + 1 + 1)) ++ (kvW (r.meth, r.value) ++ sepT fm (k + 1 + 1 + 1) r.prm)) := by
  simp [flatP, aPart, ResT.txt, sepT]
theorem part_cnt (fm : L8) (k : Nat) (r : AR) (hv : r.value ≠ []) : 2 + r.prm.length ≤ (flatP [aPart fm k r]).length := by
  have := sepT_len fm r.prm (k + 1 + 1 + 1)
  have hl := List.length_pos_iff.2 hv
  rw [flatP_one]
  simp only [List.length_append, List.length_cons, kvW]
  omega
theorem cnt_len (fm : L8) : ∀ (l : List AR) (k : Nat), (∀ r ∈ l, r.value ≠ []) → cntR l ≤ (flatP (aParts fm k l)).length
  | [], _, _ => by simp [cntR]
  | r :: l, k, h => by
    have h1 := part_cnt fm k r (h r (by simp))
    have h2 := cnt_len fm l (k + 2 + r.prm.length) (fun q hq => h q (by simp [hq]))
    have e : flatP (aParts fm k (r :: l)) = flatP [aPart fm k r] ++ flatP (aParts fm (k + 2 + r.prm.length) l) := by simp [aParts, flatP]
    rw [e, List.length_append]
    simp only [cntR]
    omega
theorem fit_iprm {r : AR} (hf : aFit1 r = true) : rPs r.reason ++ r.iprops.map propK = r.prm := by
  simp only [aFit1, Bool.and_eq_true, decide_eq_true_eq, Bool.or_eq_true] at hf
  obtain ⟨_, f5⟩ := hf
  simp only [AR.prm, AR.iprops]
  by_cases h0 : r.kind = 0
  · simp only [if_pos h0] at f5 ⊢
    simp only [Bool.and_eq_true, decide_eq_true_eq] at f5
    obtain ⟨a, _, _⟩ := gFit_spec _ _ f5.2
    congr 1
    rw [List.map_map]
    conv => rhs; rw [← List.map_id (r.ps.getD [])]
    refine List.map_congr_left fun p hp => ?_
    obtain ⟨q, hq, _, _⟩ := (a p hp).2.2.1
    have e := cut_mem (c := 46) hq
    have hq' : cutAt 46 p.1 = some q := hq
    simp only [Function.comp, propK, halfP, hq', id]
    rw [← e]
  · simp only [if_neg h0]
    rfl
theorem fit_val {r : AR} (hf : aFit1 r = true) : r.value ≠ [] := by
  simp only [aFit1, Bool.and_eq_true] at hf
  exact (val_low hf.1.1.1.1).2.2
theorem fit_info {r : AR} (hf : aFit1 r = true) {n : Nat} (hn : n < qtr) (fm : L8) (k : Nat) (h : (sepT fm k r.prm).length ≤ n) : con_AInfoOf [.agg r.cells] = some (infoV r) := by
  simp only [con_AInfoOf, asAR_cells]
  have hk := kind_cases hf
  refine if_pos ⟨by omega, by omega, fun h0 => ?_⟩
  have hp : r.prm = r.ps.getD [] := by
    have hf' := hf
    simp only [aFit1, Bool.and_eq_true, decide_eq_true_eq, Bool.or_eq_true, if_pos h0] at hf'
    simp only [AR.prm, if_pos h0, hf'.2.1.1.1.2, rPs, if_true, List.nil_append]
  rw [hp] at h
  simp only [qtr] at hn
  have hl := sepT_len fm (r.ps.getD []) k
  refine ⟨by simp only [half]; omega, fun p hpm => ?_⟩
  have : p.1.length ≤ (sepT fm k (r.ps.getD [])).length := by
    clear hl h hp
    generalize r.ps.getD [] = L at *
    induction L generalizing k with
    | nil => simp at hpm
    | cons x L ih =>
      simp only [sepT_cons, List.length_append, kvW, List.length_cons]
      rcases List.mem_cons.1 hpm with rfl | hpm
      · omega
      · have := ih (k + 1) hpm; omega
  simp only [big]; omega

def con_AText : List AV → Option AV
  | [.str i, u, f] => match slAR u, slBytes f with
    | some l, some fm => if aFits l = true ∧ (aTextOf i l fm).length < qtr then some (.str (aTextOf i l fm)) else none
    | _, _ => none
  | _ => none

set_option maxHeartbeats 2000000 in
theorem ok_AText (Γ : Gam) (s205 : Γ.st 205 = con_AText1) (h206 : Γ.fn 206 = con_AInfoOf) (h207 : Γ.fn 207 = con_ASpace) : ∀ args r, con_AText args = some r → runs Γ c_spec_AText args (fun v => v = r) := by
  intro args r h
  simp only [con_AText] at h
  split at h <;> (try simp at h; done)
  rename_i i u f
  split at h <;> (try simp at h; done)
  rename_i l fm hl hf
  obtain ⟨⟨hfit, hB⟩, rfl⟩ := ite_some h
  clear h
  have hfit' := hfit
  simp only [aFits, Bool.and_eq_true, List.all_eq_true, decide_eq_true_eq] at hfit'
  obtain ⟨hfa, hl10⟩ := hfit'
  have uk := sar_kill hl
  have us := sar_snapW hl
  have ua := sar_alen hl
  have uf : refs f = [] := slb_refs hf
  have mf := slb_map hf
  have kf := slb_kill hf
  have rf := slb_ref hf
  have at_ := slb_atom hf
  have cf := slb_cells hf
  simp only [cells] at cf
  have hBq := hB
  simp only [qtr] at hB
  have c0 : cntA fm 0 = 0 := by simp [cntA]
  have hlen : i.length + (flatP (aParts fm 0 l)).length ≤ (aTextOf i l fm).length := by simp only [aTextOf, List.length_append]; omega
  have hcl := cnt_len fm l 0 (fun r hr => fit_val (hfa r hr))
  simp -implicitDefEqProofs [-alen, c_spec_AText, cf, at_, rf, kf, uk, us, ua]
  refine awp_loop2 (σ := List AR × List AR) (fun z => ⟨[(1, u), (8, .fn 205 [.bx [f], .ref 7 0]), (9, .str (i ++ flatP (aParts fm 0 z.1))), (19, u), (20, .int .i64 l.length), (21, .int .i64 z.1.length)], [(7, .cells [.int .i64 (cntA fm (cntR z.1) : Nat)])]⟩)
    (fun z => l = z.1 ++ z.2) (fun z => z.2.length) ([], l) ?_ (by simp) ?_
  · simp [aParts, flatP, cntR, c0]
  rintro ⟨pre, post⟩ e1 LQ hLQ
  simp only at e1
  cases post with
  | nil =>
    simp only [List.append_nil] at e1
    subst e1
    have hnl : ¬ ((l.length : Int) < (l.length : Int)) := by omega
    cases l with
    | nil =>
      have kA : con_AText1 [.bx [f], .ref 0 0] [(0, .cells [.int .i64 0])] = some (.int .u8 (nx fm 1 : Nat), [(0, .cells [.int .i64 (cntA fm 1 : Nat)])]) := by
        have := next_con hf (m := 0) (by omega)
        rw [c0] at this
        simpa using this
      have kS := space_con fm 1
      simp only [aTextOf, aParts, flatP, List.flatMap_nil, List.nil_append, if_true, List.length_append, List.length_cons, sNone0, List.length_nil] at hB ⊢
      simp -implicitDefEqProofs [-alen, b_spec_AText_8, f_spec_AText_9, ua, uf, mf, kf, rf, at_, uk, us, acallS, reach_succ, s205, kA, acall, h207, kS, cntR, c0, aParts, flatP]
      first
        | (refine ⟨?_, ?_⟩ <;> omega)
        | omega
        | skip
    | cons x l =>
      have hn0 : ¬ ((l.length : Int) + 1 = 0) := by omega
      simp -implicitDefEqProofs [-alen, b_spec_AText_8, f_spec_AText_9, ua, hn0, aTextOf]
  | cons r post =>
    have hln : l.length = pre.length + (post.length + 1) := by rw [e1]; simp
    have hlt : (pre.length : Int) < (l.length : Int) := by omega
    have ew : IntKind.i64.wrap ((pre.length : Int) + 1) = (pre.length : Int) + 1 := wrap64 (by omega) (by omega)
    have hu := sar_ne hl (by rw [e1]; simp)
    have hr : aFit1 r = true := hfa r (by rw [e1]; simp)
    have g : (arA l)[pre.length]? = some (.agg r.cells) := by rw [e1, arA_app]; exact get_mid (by simp)
    have hcut : flatP (aParts fm 0 (pre ++ [r])) = flatP (aParts fm 0 pre) ++ flatP [aPart fm (cntR pre) r] := by rw [aParts_app, flatP_app, Nat.zero_add]
    have hBr : i.length + (flatP (aParts fm 0 pre)).length + (flatP [aPart fm (cntR pre) r]).length < qtr := by
      have e2 : flatP (aParts fm 0 l) = flatP (aParts fm 0 (pre ++ [r])) ++ flatP (aParts fm (cntR (pre ++ [r])) post) := by
        have : ∀ (a b : List AR) (k : Nat), aParts fm k (a ++ b) = aParts fm k a ++ aParts fm (k + cntR a) b := by
          intro a
          induction a with
          | nil => intro b k; simp [aParts, cntR]
          | cons x a ih =>
            intro b k
            simp only [List.cons_append, aParts, ih, cntR]
            rw [show k + 2 + x.prm.length + cntR a = k + (2 + x.prm.length + cntR a) by omega]
        rw [e1, show pre ++ r :: post = (pre ++ [r]) ++ post by simp, this, flatP_app, Nat.zero_add]
      rw [e2, hcut] at hlen
      simp only [List.length_append] at hlen
      simp only [qtr]; omega
    have hpc := cnt_len fm pre 0 (fun q hq => fit_val (hfa q (by rw [e1]; simp [hq])))
    have hpi := fit_iprm hr
    have hfl := flatP_one fm (cntR pre) r
    have hki : con_AInfoOf [.agg r.cells] = some (infoV r) := fit_info hr hBr fm (cntR pre + 1 + 1 + 1) (by rw [hfl]; simp only [List.length_append, List.length_cons]; omega)
    have hcnt : cntR (pre ++ [r]) = cntR pre + (2 + (rPs r.reason ++ r.iprops.map propK).length) := by rw [cntR_app, hpi]
    have hfl' := hfl
    rw [← hpi] at hfl'
    rw [hfl'] at hBr
    have hv := List.length_pos_iff.2 (fit_val hr)
    simp only [List.length_append, List.length_cons, kvW] at hBr
    have tc := tripV_cells r.iprops
    have ta := tripV_atom r.iprops
    have tk := tripV_kill r.iprops
    have tr := tripV_ref r.iprops
    simp only [cells] at tc
    have cu := slP_cells r.ps
    simp only [cells] at cu
    subst hu
    have T := fun Q ex hQ => at_6 (Γ := Γ) (Q := Q) s205 h207 hf uk us (l.length : Int) (pre.length : Int) r.meth r.value r.reason r.iprops (i ++ flatP (aParts fm 0 pre)) (cntR pre) ex (by simp only [List.length_append]; omega) (by simp only [qtr] at hBr ⊢; omega) hQ
    simp only [AR.cells, infoV] at g hki
    simp -implicitDefEqProofs [-alen, b_spec_AText_8, hlt, g, cu, uk, us, uf, mf, kf, rf, at_, h206, acall, hki, tc, ta, tk, tr]
    refine T _ _ (fun ex' => ?_)
    simp -implicitDefEqProofs [-alen, t_spec_AText_7, uk, us, ew]
    refine hLQ (pre ++ [r], post) (by simp [e1]) (by simp) _ ?_
    simp only [hcut, hfl', hcnt]
    simp -implicitDefEqProofs [-alen, uk, us, Nat.add_assoc]
end Wax


namespace Wax
open Go (IntKind)

def ws4 (c : UInt8) : Bool := anyN c.toNat [32, 9, 13, 10]
def rB (t : L8) : L8 := t.dropWhile ws4
def tkC (m : L8) (c : UInt8) : Bool := tokB c || anyN c.toNat m
theorem mTok_one (c : UInt8) : mTok [c] = tokB c := by simp [mTok]
/-- The reader: its text and where it stands. -/
abbrev rdO (s : L8) (n : Nat) : AObj := .cells [.str s, .int .i64 (n : Int)]
/-- A function of a reader that answers and moves on by so much. -/
def rdMk (lim : Nat) (f : L8 → Option (AV × Nat)) (s : L8) (n : Int) : Option (AV × List (Nat × AObj)) :=
  if 0 ≤ n ∧ n.toNat ≤ s.length ∧ s.length < lim then (match f (s.drop n.toNat) with
    | some q => some (q.1, [(0, rdO s (n.toNat + q.2))])
    | none => none) else none
theorem rdMk_at {lim : Nat} {f : L8 → Option (AV × Nat)} {p t : L8} {v : AV} {k : Nat} (hf : f t = some (v, k)) (hl : (p ++ t).length < lim) : rdMk lim f (p ++ t) (p.length : Int) = some (v, [(0, rdO (p ++ t) (p.length + k))]) := by
  unfold rdMk
  rw [if_pos ⟨by omega, by simp, hl⟩]
  simp only [Int.toNat_natCast, List.drop_left, hf]
theorem rdMk_spec {lim : Nat} {f : L8 → Option (AV × Nat)} {s : L8} {n : Int} {q : AV × List (Nat × AObj)} (h : rdMk lim f s n = some q) : ∃ (p t : L8) (v : AV) (k : Nat), s = p ++ t ∧ n = (p.length : Int) ∧ f t = some (v, k) ∧ s.length < lim ∧ q = (v, [(0, rdO s (p.length + k))]) := by
  unfold rdMk at h
  split at h
  · rename_i hc
    cases hf : f (s.drop n.toNat) with
    | none => simp [hf] at h
    | some r =>
      simp only [hf, Option.some.injEq] at h
      refine ⟨s.take n.toNat, s.drop n.toNat, r.1, r.2, (List.take_append_drop _ _).symm, ?_, hf, hc.2.2, ?_⟩
      · simp; omega
      · rw [← h]; simp; omega
  · simp at h

def con_blank : List AV → List (Nat × AObj) → Option (AV × List (Nat × AObj))
  | [.ref 0 0], [(0, .cells [.str s, .int .i64 n])] => rdMk mid (fun t => if (rB t).head? = some 40 then none else some (.bool true, (t.takeWhile ws4).length)) s n
  | _, _ => none
theorem ok_blank (Γ : Gam) (h100 : Γ.fn 100 = con_MailAny) : ∀ args hp q, con_blank args hp = some q → runsS Γ c_spec_areader_blank args hp (fun v => v = some q) := by
  intro args hp q h
  simp only [con_blank] at h
  split at h <;> (try simp at h; done)
  rename_i s n
  obtain ⟨p0, t0, v, k, rfl, rfl, hf, hl, rfl⟩ := rdMk_spec h
  clear h
  try simp only at hf
  split at hf
  · simp at hf
  rename_i hb
  simp only [Option.some.injEq, Prod.mk.injEq] at hf
  obtain ⟨rfl, rfl⟩ := hf
  simp only [mid] at hl
  simp -implicitDefEqProofs [c_spec_areader_blank]
  refine awp_loop2 (σ := L8 × L8) (fun q => ⟨[(0, .ref 1000000 0)], [(1000000, .cells [.str (p0 ++ t0), .int .i64 ((p0 ++ q.1).length : Int)])]⟩)
    (fun q => t0 = q.1 ++ q.2 ∧ ∀ c ∈ q.1, ws4 c = true) (fun q => q.2.length) ([], t0) (by simp) (by simp) ?_
  rintro ⟨d, t⟩ ⟨e1, e2⟩ LQ hLQ
  simp only at e1 e2
  have hskip : ∀ c ∈ d, ws4 c = true := e2
  have etk : t0.takeWhile ws4 = d ++ t.takeWhile ws4 := by rw [e1, List.takeWhile_append_of_pos e2]
  have edk : rB t0 = rB t := by rw [e1, rB, List.dropWhile_append_of_pos e2]; rfl
  rw [edk] at hb
  rw [etk]
  subst e1
  cases t with
  | nil =>
    simp -implicitDefEqProofs [reach_succ]
  | cons c t =>
    have hlt : ((p0 ++ d).length : Int) < ((p0 ++ (d ++ c :: t)).length : Int) := by simp only [List.length_append, List.length_cons]; omega
    have g : (p0 ++ (d ++ c :: t))[(p0 ++ d).length]? = some c := by rw [← List.append_assoc]; exact get_mid rfl
    have k100 : con_MailAny [.int .u8 (c.toNat : Int), .str [32, 9, 13, 10]] = some (.bool (ws4 c)) := rfl
    have ew : IntKind.i64.wrap (((p0 ++ d).length : Int) + 1) = ((p0 ++ d).length : Int) + 1 := by
      have : (p0 ++ d).length < (p0 ++ (d ++ c :: t)).length := by simp only [List.length_append, List.length_cons]; omega
      exact wrap64 (by omega) (by omega)
    cases hc : ws4 c with
    | true =>
      rw [hc] at k100
      have fin : ∀ st, norm [0] st = ⟨[(0, .ref 1000000 0)], [(1000000, .cells [.str (p0 ++ (d ++ c :: t)), .int .i64 (((p0 ++ d).length : Int) + 1)])]⟩ → LQ st := by
        intro st hst
        refine hLQ (d ++ [c], t) ⟨by simp, fun x hx => ?_⟩ (by simp) st ?_
        · rcases List.mem_append.1 hx with hx | hx
          · exact e2 x hx
          · simp at hx; subst hx; exact hc
        · rw [hst]; simp; omega
      generalize (p0 ++ d).length = n at *
      generalize p0 ++ (d ++ c :: t) = S at *
      simp -implicitDefEqProofs [hlt, g, acall, h100, k100, ew]
      exact fin _ (by simp)
    | false =>
      rw [hc] at k100
      have h40 : ¬ (c.toNat : Int) = 40 := by
        intro e
        apply hb
        have : c = 40 := UInt8.toNat_inj.1 (by have : (40 : UInt8).toNat = 40 := rfl; omega)
        simp only [rB, List.dropWhile_cons, hc]
        simp [this]
      have e0 : (c :: t).takeWhile ws4 = [] := by simp [hc]
      rw [e0]
      have en : p0.length + (d ++ ([] : L8)).length = (p0 ++ d).length := by simp
      rw [en]
      clear en
      generalize (p0 ++ d).length = n at *
      generalize p0 ++ (d ++ c :: t) = S at *
      simp -implicitDefEqProofs [hlt, g, acall, h100, k100, h40, reach_succ]

def con_has : List AV → List (Nat × AObj) → Option (AV × List (Nat × AObj))
  | [.ref 0 0, .int .u8 c], [(0, .cells [.str s, .int .i64 n])] => rdMk mid (fun t => match t with | [] => some (.bool false, 0) | x :: _ => if (x.toNat : Int) = c then some (.bool true, 1) else some (.bool false, 0)) s n
  | _, _ => none
theorem ok_has (Γ : Gam) : ∀ args hp q, con_has args hp = some q → runsS Γ c_spec_areader_has args hp (fun v => v = some q) := by
  intro args hp q h
  simp only [con_has] at h
  split at h <;> (try simp at h; done)
  rename_i c s n
  obtain ⟨p, t, v, k, rfl, rfl, hf, hl, rfl⟩ := rdMk_spec h
  clear h
  simp only [mid] at hl
  cases t with
  | nil =>
    simp only [Option.some.injEq, Prod.mk.injEq] at hf
    obtain ⟨rfl, rfl⟩ := hf
    simp only [List.append_nil] at hl ⊢
    simp -implicitDefEqProofs [c_spec_areader_has, reach_succ]
  | cons x t =>
    simp only at hf
    have hlt : (p.length : Int) < ((p ++ x :: t).length : Int) := by simp only [List.length_append, List.length_cons]; omega
    have g : (p ++ x :: t)[p.length]? = some x := get_mid rfl
    have ew : IntKind.i64.wrap ((p.length : Int) + 1) = (p.length : Int) + 1 := wrap64 (by omega) (by omega)
    generalize p.length = n at *
    generalize p ++ x :: t = S at *
    by_cases hc : (x.toNat : Int) = c
    · rw [if_pos hc] at hf
      simp only [Option.some.injEq, Prod.mk.injEq] at hf
      obtain ⟨rfl, rfl⟩ := hf
      simp -implicitDefEqProofs [c_spec_areader_has, reach_succ, hlt, g, hc, ew]
    · rw [if_neg hc] at hf
      simp only [Option.some.injEq, Prod.mk.injEq] at hf
      obtain ⟨rfl, rfl⟩ := hf
      simp -implicitDefEqProofs [c_spec_areader_has, reach_succ, hlt, g, hc]

def rWd (m t : L8) : L8 := t.takeWhile (tkC m)
def con_word : List AV → List (Nat × AObj) → Option (AV × List (Nat × AObj))
  | [.ref 0 0, .str m], [(0, .cells [.str s, .int .i64 n])] => if m.length < big then rdMk mid (fun t => some (.str (rWd m t), (rWd m t).length)) s n else none
  | _, _ => none
theorem ok_word (Γ : Gam) (h100 : Γ.fn 100 = con_MailAny) (h104 : Γ.fn 104 = con_MailToken) : ∀ args hp q, con_word args hp = some q → runsS Γ c_spec_areader_word args hp (fun v => v = some q) := by
  intro args hp q h
  simp only [con_word] at h
  split at h <;> (try simp at h; done)
  rename_i m s n
  split at h <;> (try simp at h; done)
  rename_i hm
  obtain ⟨p0, t0, v, k, rfl, rfl, hf, hl, rfl⟩ := rdMk_spec h
  clear h
  simp only [Option.some.injEq, Prod.mk.injEq] at hf
  obtain ⟨rfl, rfl⟩ := hf
  simp only [mid] at hl
  simp -implicitDefEqProofs [c_spec_areader_word]
  refine awp_loop2 (σ := L8 × L8) (fun q => ⟨[(0, .ref 1000000 0), (1, .str m), (5, .int .i64 (p0.length : Int))], [(1000000, .cells [.str (p0 ++ t0), .int .i64 ((p0 ++ q.1).length : Int)])]⟩)
    (fun q => t0 = q.1 ++ q.2 ∧ ∀ c ∈ q.1, tkC m c = true) (fun q => q.2.length) ([], t0) (by simp) (by simp) ?_
  rintro ⟨d, t⟩ ⟨e1, e2⟩ LQ hLQ
  simp only at e1 e2
  have etk : rWd m t0 = d ++ rWd m t := by rw [e1, rWd, List.takeWhile_append_of_pos e2]; rfl
  rw [etk]
  subst e1
  cases t with
  | nil =>
    have e0 : rWd m [] = [] := rfl
    rw [e0]
    simp only [List.append_nil] at hl ⊢
    have hd : (p0 ++ d).drop p0.length = d := List.drop_left
    have hlen : ((p0 ++ d).length : Int) = (p0.length : Int) + (d.length : Int) := by simp
    have hle : p0.length ≤ (p0 ++ d).length := by simp
    have en : p0.length + d.length = (p0 ++ d).length := by simp
    rw [en]
    have htk : (p0 ++ d).take (p0 ++ d).length = p0 ++ d := List.take_length
    generalize p0 ++ d = S at *
    simp -implicitDefEqProofs [b_spec_areader_word_1, t_spec_areader_word_2, reach_succ]
    exact ⟨hle, hd⟩
  | cons c t =>
    have hlt : ((p0 ++ d).length : Int) < ((p0 ++ (d ++ c :: t)).length : Int) := by simp only [List.length_append, List.length_cons]; omega
    have g : (p0 ++ (d ++ c :: t))[(p0 ++ d).length]? = some c := by rw [← List.append_assoc]; exact get_mid rfl
    have k100 : con_MailAny [.int .u8 (c.toNat : Int), .str m] = some (.bool (anyN c.toNat m)) := if_pos hm
    have k104 : con_MailToken [.str [c]] = some (.bool (tokB c)) := by
      have : con_MailToken [.str [c]] = some (.bool (mTok [c])) := by
        simp only [con_MailToken]; exact if_pos (by simp [big])
      rw [this, mTok_one]
    have hN : (p0 ++ d).length + 1 ≤ (p0 ++ (d ++ c :: t)).length := by simp only [List.length_append, List.length_cons]; omega
    have hle0 : p0.length ≤ (p0 ++ d).length := by simp
    have ew : IntKind.i64.wrap (((p0 ++ d).length : Int) + 1) = ((p0 ++ d).length : Int) + 1 := wrap64 (by omega) (by omega)
    have hcut : ((p0 ++ (d ++ c :: t)).take ((p0 ++ d).length + 1)).drop (p0 ++ d).length = [c] := by
      rw [← List.append_assoc, List.take_append, List.take_of_length_le (by omega), show (p0 ++ d).length + 1 - (p0 ++ d).length = 1 by omega, List.drop_left]
      rfl
    have hcut0 : ((p0 ++ (d ++ c :: t)).take (p0 ++ d).length).drop p0.length = d := by
      rw [← List.append_assoc, List.take_left, List.drop_left]
    have fin : tkC m c = true → ∀ st, norm [0, 1, 5] st = ⟨[(0, .ref 1000000 0), (1, .str m), (5, .int .i64 (p0.length : Int))], [(1000000, .cells [.str (p0 ++ (d ++ c :: t)), .int .i64 (((p0 ++ d).length : Int) + 1)])]⟩ → LQ st := by
      intro hc st hst
      refine hLQ (d ++ [c], t) ⟨by simp, fun x hx => ?_⟩ (by simp) st ?_
      · rcases List.mem_append.1 hx with hx | hx
        · exact e2 x hx
        · simp at hx; subst hx; exact hc
      · rw [hst]; simp; omega
    have en : tkC m c = false → d ++ rWd m (c :: t) = d ∧ p0.length + (d ++ rWd m (c :: t)).length = (p0 ++ d).length := by
      intro hc
      have : rWd m (c :: t) = [] := by simp [rWd, hc]
      rw [this]; simp
    generalize (p0 ++ d).length = n at *
    generalize p0 ++ (d ++ c :: t) = S at *
    cases h1 : tokB c with
    | true =>
      rw [h1] at k104
      simp -implicitDefEqProofs [b_spec_areader_word_1, hlt, hN, g, acall, h100, k100, h104, k104, ew, hcut]
      exact ⟨⟨by omega, by omega⟩, fin (by simp [tkC, h1]) _ (by simp)⟩
    | false =>
      rw [h1] at k104
      cases h2 : anyN c.toNat m with
      | true =>
        rw [h2] at k100
        simp -implicitDefEqProofs [b_spec_areader_word_1, hlt, hN, g, acall, h100, k100, h104, k104, ew, hcut]
        exact ⟨⟨by omega, by omega⟩, fin (by simp [tkC, h2]) _ (by simp)⟩
      | false =>
        rw [h2] at k100
        obtain ⟨q1, q2⟩ := en (by simp [tkC, h1, h2])
        rw [q2, q1]
        simp -implicitDefEqProofs [b_spec_areader_word_1, t_spec_areader_word_2, reach_succ, hlt, hN, g, acall, h100, k100, h104, k104, ew, hcut, hcut0]
        exact ⟨⟨by omega, by omega⟩, hle0, by omega⟩

/-- A quoted text behind its first mark: what it says, whether it ends, how many bytes were read. -/
def rQ : L8 → L8 → L8 × Bool × Nat
  | out, [] => ([], false, 0)
  | out, c :: t =>
    if c = 34 then (out, true, 1)
    else if c = 92 then (match t with
      | [] => ([], false, 1)
      | d :: t' => ((rQ (out ++ [d]) t').1, (rQ (out ++ [d]) t').2.1, (rQ (out ++ [d]) t').2.2 + 2))
    else if c = 13 ∨ c = 10 then ((rQ out t).1, (rQ out t).2.1, (rQ out t).2.2 + 1)
    else ((rQ (out ++ [c]) t).1, (rQ (out ++ [c]) t).2.1, (rQ (out ++ [c]) t).2.2 + 1)
def con_quoted : List AV → List (Nat × AObj) → Option (AV × List (Nat × AObj))
  | [.ref 0 0], [(0, .cells [.str s, .int .i64 n])] => rdMk mid (fun t => some (.tup [.str (rQ [] t).1, .bool (rQ [] t).2.1], (rQ [] t).2.2)) s n
  | _, _ => none
set_option maxHeartbeats 2000000 in
theorem ok_quoted (Γ : Gam) : ∀ args hp q, con_quoted args hp = some q → runsS Γ c_spec_areader_quoted args hp (fun v => v = some q) := by
  intro args hp q h
  simp only [con_quoted] at h
  split at h <;> (try simp at h; done)
  rename_i s n
  obtain ⟨p0, t0, v, k, rfl, rfl, hf, hl, rfl⟩ := rdMk_spec h
  clear h
  simp only [Option.some.injEq, Prod.mk.injEq] at hf
  obtain ⟨rfl, rfl⟩ := hf
  simp only [mid] at hl
  simp -implicitDefEqProofs [c_spec_areader_quoted]
  refine awp_loop2 (σ := L8 × L8 × L8) (fun q => ⟨[(0, .ref 1000000 0), (4, outV 71 q.2.2)], outH 71 q.2.2 ++ [(1000000, .cells [.str (p0 ++ t0), .int .i64 (q.1.length : Int)])]⟩)
    (fun q => p0 ++ t0 = q.1 ++ q.2.1 ∧ (rQ [] t0).1 = (rQ q.2.2 q.2.1).1 ∧ (rQ [] t0).2.1 = (rQ q.2.2 q.2.1).2.1 ∧ p0.length + (rQ [] t0).2.2 = q.1.length + (rQ q.2.2 q.2.1).2.2 ∧ q.2.2.length ≤ q.1.length) (fun q => q.2.1.length) (p0, t0, []) (by simp) ?_ ?_
  · simp
  rintro ⟨p, t, out⟩ ⟨e1, e2, e3, e4, e5⟩ LQ hLQ
  simp only at e1 e2 e3 e4 e5
  rw [e2, e3, e4]
  have hlN : (p ++ t).length < 1099511627776 := by rw [← e1]; exact hl
  simp only [List.length_append] at hlN
  cases t with
  | nil =>
    simp only [rQ, Nat.add_zero]
    simp only [List.append_nil] at e1
    rw [e1]
    cases out with
    | nil => simp -implicitDefEqProofs [b_spec_areader_quoted_1, t_spec_areader_quoted_2, reach_succ]
    | cons o out => simp -implicitDefEqProofs [b_spec_areader_quoted_1, t_spec_areader_quoted_2, reach_succ, outV, outH]
  | cons c t =>
    have hlt : (p.length : Int) < ((p0 ++ t0).length : Int) := by rw [e1]; simp only [List.length_append, List.length_cons]; omega
    have g : (p0 ++ t0)[p.length]? = some c := by rw [e1]; exact get_mid rfl
    simp only [List.length_cons] at hlN
    have ew : IntKind.i64.wrap ((p.length : Int) + 1) = (p.length : Int) + 1 := wrap64 (by omega) (by omega)
    have e34 : ((c.toNat : Int) = 34) = (c = 34) := by
      apply propext; constructor
      · intro e; exact UInt8.toNat_inj.1 (by have : (34 : UInt8).toNat = 34 := rfl; omega)
      · rintro rfl; rfl
    have e92 : ((c.toNat : Int) = 92) = (c = 92) := by
      apply propext; constructor
      · intro e; exact UInt8.toNat_inj.1 (by have : (92 : UInt8).toNat = 92 := rfl; omega)
      · rintro rfl; rfl
    have e13 : ((c.toNat : Int) = 13) = (c = 13) := by
      apply propext; constructor
      · intro e; exact UInt8.toNat_inj.1 (by have : (13 : UInt8).toNat = 13 := rfl; omega)
      · rintro rfl; rfl
    have e10 : ((c.toNat : Int) = 10) = (c = 10) := by
      apply propext; constructor
      · intro e; exact UInt8.toNat_inj.1 (by have : (10 : UInt8).toNat = 10 := rfl; omega)
      · rintro rfl; rfl
    have fin : ∀ (t' : L8) (out' : L8) (p' : L8), p0 ++ t0 = p' ++ t' → t'.length < (c :: t).length → rQ out (c :: t) = ((rQ out' t').1, (rQ out' t').2.1, (rQ out (c :: t)).2.2) → p.length + (rQ out (c :: t)).2.2 = p'.length + (rQ out' t').2.2 → out'.length ≤ p'.length →
        ∀ st, norm [0, 4] st = ⟨[(0, .ref 1000000 0), (4, outV 71 out')], outH 71 out' ++ [(1000000, .cells [.str (p0 ++ t0), .int .i64 (p'.length : Int)])]⟩ → LQ st := by
      intro t' out' p' q1 q2 q3 q4 q5 st hst
      have q6 := congrArg (·.1) q3
      have q7 := congrArg (·.2.1) q3
      simp only at q6 q7
      exact hLQ (p', t', out') ⟨q1, e2.trans q6, e3.trans q7, e4.trans q4, q5⟩ q2 st hst
    have hS : p0 ++ t0 = p ++ c :: t := e1
    have hSl : (p0 ++ t0).length = p.length + (t.length + 1) := by rw [e1]; simp
    clear e2 e3 e4 hLQ
    generalize p0 ++ t0 = S at *
    by_cases c34 : c = 34
    · have er : rQ out (c :: t) = (out, true, 1) := by rw [rQ.eq_def]; simp only [if_pos c34]
      rw [er]
      clear fin er
      cases out with
      | nil => simp -implicitDefEqProofs [b_spec_areader_quoted_1, reach_succ, hlt, g, ew, e34, c34]
      | cons o out => simp -implicitDefEqProofs [b_spec_areader_quoted_1, reach_succ, outV, outH, hlt, g, ew, e34, c34]
    by_cases c92 : c = 92
    · cases t with
      | nil =>
        have er : rQ out [c] = ([], false, 1) := by rw [rQ.eq_def]; simp only [if_neg c34, if_pos c92]
        rw [er]
        clear fin er
        have hS1 : (S.length : Int) ≤ (p.length : Int) + 1 := by rw [hSl]; simp
        cases out with
        | nil => simp -implicitDefEqProofs [b_spec_areader_quoted_1, reach_succ, hlt, g, ew, e34, c34, e92, c92, hS1]
        | cons o out => simp -implicitDefEqProofs [b_spec_areader_quoted_1, reach_succ, outV, outH, hlt, g, ew, e34, c34, e92, c92, hS1]
      | cons d t =>
        have er : rQ out (c :: d :: t) = ((rQ (out ++ [d]) t).1, (rQ (out ++ [d]) t).2.1, (rQ (out ++ [d]) t).2.2 + 2) := by rw [rQ.eq_def]; simp only [if_neg c34, if_pos c92]
        have g2 : S[p.length + 1]? = some d := by
          rw [hS, show p ++ c :: d :: t = (p ++ [c]) ++ d :: t by simp]; exact get_mid (by simp)
        have hn : ¬ ((S.length : Int) ≤ (p.length : Int) + 1) := by rw [hSl]; simp only [List.length_cons]; omega
        have ew2 : IntKind.i64.wrap ((p.length : Int) + 1 + 1) = (p.length : Int) + 1 + 1 := wrap64 (by omega) (by omega)
        have fin := fin t (out ++ [d]) (p ++ [c, d]) (by rw [hS]; simp) (by simp only [List.length_cons]; omega) (by rw [er]) (by rw [er]; simp; omega) (by simp; omega)
        clear er
        cases out with
        | nil =>
          simp -implicitDefEqProofs [b_spec_areader_quoted_1, hlt, g, ew, e34, c34, e92, c92, hn, g2, ew2]
          exact ⟨by omega, fin _ (by simp [outV, outH]; omega)⟩
        | cons o out =>
          simp only [List.length_cons] at e5
          simp -implicitDefEqProofs [b_spec_areader_quoted_1, outV, outH, hlt, g, ew, e34, c34, e92, c92, hn, g2, ew2]
          exact ⟨by omega, by omega, fin _ (by simp [outV, outH]; omega)⟩
    by_cases c1310 : c = 13 ∨ c = 10
    · have er : rQ out (c :: t) = ((rQ out t).1, (rQ out t).2.1, (rQ out t).2.2 + 1) := by rw [rQ.eq_def]; simp only [if_neg c34, if_neg c92, if_pos c1310]
      have fin := fin t out (p ++ [c]) (by rw [hS]; simp) (by simp only [List.length_cons]; omega) (by rw [er]) (by rw [er]; simp; omega) (by simp; omega)
      clear er
      rcases c1310 with c13 | c10
      · cases out with
        | nil =>
          simp -implicitDefEqProofs [b_spec_areader_quoted_1, hlt, g, ew, e34, c34, e92, c92, e13, c13]
          exact fin _ (by simp [outV, outH])
        | cons o out =>
          simp -implicitDefEqProofs [b_spec_areader_quoted_1, outV, outH, hlt, g, ew, e34, c34, e92, c92, e13, c13]
          exact fin _ (by simp [outV, outH])
      · have c13 : ¬ c = 13 := by rw [c10]; decide
        cases out with
        | nil =>
          simp -implicitDefEqProofs [b_spec_areader_quoted_1, hlt, g, ew, e34, c34, e92, c92, e13, c13, e10, c10]
          exact fin _ (by simp [outV, outH])
        | cons o out =>
          simp -implicitDefEqProofs [b_spec_areader_quoted_1, outV, outH, hlt, g, ew, e34, c34, e92, c92, e13, c13, e10, c10]
          exact fin _ (by simp [outV, outH])
    · have er : rQ out (c :: t) = ((rQ (out ++ [c]) t).1, (rQ (out ++ [c]) t).2.1, (rQ (out ++ [c]) t).2.2 + 1) := by rw [rQ.eq_def]; simp only [if_neg c34, if_neg c92, if_neg c1310]
      have fin := fin t (out ++ [c]) (p ++ [c]) (by rw [hS]; simp) (by simp only [List.length_cons]; omega) (by rw [er]) (by rw [er]; simp; omega) (by simp; omega)
      clear er
      have c13 : ¬ c = 13 := fun h => c1310 (.inl h)
      have c10 : ¬ c = 10 := fun h => c1310 (.inr h)
      cases out with
      | nil =>
        simp -implicitDefEqProofs [b_spec_areader_quoted_1, hlt, g, ew, e34, c34, e92, c92, e13, c13, e10, c10]
        exact fin _ (by simp [outV, outH])
      | cons o out =>
        simp only [List.length_cons] at e5
        simp -implicitDefEqProofs [b_spec_areader_quoted_1, outV, outH, hlt, g, ew, e34, c34, e92, c92, e13, c13, e10, c10]
        exact ⟨by omega, fin _ (by simp [outV, outH])⟩

def rVal (m t : L8) : L8 × Bool × Nat := match t with
  | [] => ([], false, 0)
  | c :: t' => if c = 34 then ((rQ [] t').1, (rQ [] t').2.1, 1 + (rQ [] t').2.2) else (rWd m t, decide (rWd m t ≠ []), (rWd m t).length)
def con_value : List AV → List (Nat × AObj) → Option (AV × List (Nat × AObj))
  | [.ref 0 0, .str m], [(0, .cells [.str s, .int .i64 n])] => if m.length < big then rdMk mid (fun t => some (.tup [.str (rVal m t).1, .bool (rVal m t).2.1], (rVal m t).2.2)) s n else none
  | _, _ => none
theorem has_nil {c : Int} {p : L8} (hl : (p ++ []).length < mid) : con_has [.ref 0 0, .int .u8 c] [(0, rdO (p ++ []) p.length)] = some (.bool false, [(0, rdO (p ++ []) p.length)]) := by
  simp only [con_has]
  exact rdMk_at (k := 0) rfl hl
theorem has_yes {c : Int} {p t : L8} {x : UInt8} (h : (x.toNat : Int) = c) (hl : (p ++ x :: t).length < mid) : con_has [.ref 0 0, .int .u8 c] [(0, rdO (p ++ x :: t) p.length)] = some (.bool true, [(0, rdO (p ++ x :: t) (p.length + 1))]) := by
  simp only [con_has]
  exact rdMk_at (k := 1) (by simp only [if_pos h]) hl
theorem has_no {c : Int} {p t : L8} {x : UInt8} (h : ¬ (x.toNat : Int) = c) (hl : (p ++ x :: t).length < mid) : con_has [.ref 0 0, .int .u8 c] [(0, rdO (p ++ x :: t) p.length)] = some (.bool false, [(0, rdO (p ++ x :: t) p.length)]) := by
  simp only [con_has]
  exact rdMk_at (k := 0) (by simp only [if_neg h]) hl
theorem word_at {m p t : L8} (hm : m.length < big) (hl : (p ++ t).length < mid) : con_word [.ref 0 0, .str m] [(0, rdO (p ++ t) p.length)] = some (.str (rWd m t), [(0, rdO (p ++ t) (p.length + (rWd m t).length))]) := by
  simp only [con_word, if_pos hm]
  exact rdMk_at rfl hl
theorem quoted_at {p t : L8} (hl : (p ++ t).length < mid) : con_quoted [.ref 0 0] [(0, rdO (p ++ t) p.length)] = some (.tup [.str (rQ [] t).1, .bool (rQ [] t).2.1], [(0, rdO (p ++ t) (p.length + (rQ [] t).2.2))]) := by
  simp only [con_quoted]
  exact rdMk_at rfl hl
theorem value_at {m p t : L8} (hm : m.length < big) (hl : (p ++ t).length < mid) : con_value [.ref 0 0, .str m] [(0, rdO (p ++ t) p.length)] = some (.tup [.str (rVal m t).1, .bool (rVal m t).2.1], [(0, rdO (p ++ t) (p.length + (rVal m t).2.2))]) := by
  simp only [con_value, if_pos hm]
  exact rdMk_at rfl hl
theorem blank_at {p t : L8} (hb : (rB t).head? ≠ some 40) (hl : (p ++ t).length < mid) : con_blank [.ref 0 0] [(0, rdO (p ++ t) p.length)] = some (.bool true, [(0, rdO (p ++ t) (p.length + (t.takeWhile ws4).length))]) := by
  simp only [con_blank]
  exact rdMk_at (by simp only [if_neg hb]) hl
theorem ok_value (Γ : Gam) (s224 : Γ.st 224 = con_has) (s225 : Γ.st 225 = con_quoted) (s226 : Γ.st 226 = con_word) : ∀ args hp q, con_value args hp = some q → runsS Γ c_spec_areader_value args hp (fun v => v = some q) := by
  intro args hp q h
  simp only [con_value] at h
  split at h <;> (try simp at h; done)
  rename_i m s n
  split at h <;> (try simp at h; done)
  rename_i hm
  obtain ⟨p, t, v, k, rfl, rfl, hf, hl, rfl⟩ := rdMk_spec h
  clear h
  simp only [Option.some.injEq, Prod.mk.injEq] at hf
  obtain ⟨rfl, rfl⟩ := hf
  have k226 := word_at hm hl
  cases t with
  | nil =>
    have k224 := has_nil (c := 34) hl
    have e0 : rWd m [] = [] := rfl
    simp only [e0] at k226
    simp only [List.length_nil, Nat.add_zero] at k226
    simp only [rVal, Nat.add_zero]
    generalize p ++ [] = S at *
    generalize p.length = n at *
    simp -implicitDefEqProofs [c_spec_areader_value, acallS, reach_succ, s224, k224, s226, k226]
  | cons c t =>
    by_cases hc : c = 34
    · have hc' : (c.toNat : Int) = 34 := by rw [hc]; rfl
      have k224 := has_yes hc' hl
      have k225 := quoted_at (p := p ++ [c]) (t := t) (by simpa using hl)
      have e1 : (p ++ [c]) ++ t = p ++ c :: t := by simp
      have e2 : (p ++ [c]).length = p.length + 1 := by simp
      rw [e1, e2] at k225
      simp only [rVal, if_pos hc]
      rw [show p.length + (1 + (rQ [] t).2.2) = p.length + 1 + (rQ [] t).2.2 by omega]
      generalize rQ [] t = Q at *
      generalize p ++ c :: t = S at *
      generalize p.length = n at *
      simp only [rdO, Int.natCast_add, Int.natCast_one] at k224 k225
      simp -implicitDefEqProofs [c_spec_areader_value, acallS, reach_succ, s224, k224, s225, k225]
    · have hc' : ¬ (c.toNat : Int) = 34 := by
        intro e; exact hc (UInt8.toNat_inj.1 (by have : (34 : UInt8).toNat = 34 := rfl; omega))
      have k224 := has_no hc' hl
      simp only [rVal, if_neg hc]
      generalize rWd m (c :: t) = W at *
      generalize p ++ c :: t = S at *
      generalize p.length = n at *
      simp -implicitDefEqProofs [c_spec_areader_value, acallS, reach_succ, s224, k224, s226, k226]
end Wax


namespace Wax
open Go (IntKind)

def lenB (s : L8) : Bool := decide (s.length ≤ 2147483647)
def fit2 (r : AR) : Bool := lenB r.method && (lenB r.value && (lenB r.reason && (lenB r.domain && (lenB r.ident && (lenB r.fr && (lenB r.sender && (lenB r.ip && (lenB r.helo && (lenB r.auth && (lenB r.hkey && (lenB r.hval && (lenB r.remote && fits13 (r.ps.getD [])))))))))))))
end Wax


namespace Wax
open Go (IntKind)

theorem plain_con {s : L8} (h : s.length < mid) : con_APlain [.str s] = some (.bool (aPlain s)) := if_pos h
end Wax


namespace Wax
open Go (IntKind)

theorem only_only (r : AR) : r.only.only = r.only := by
  by_cases h0 : r.kind = 0
  · simp [AR.only, h0]
  by_cases h1 : r.kind = 1
  · simp [AR.only, h1]
  by_cases h2 : r.kind = 2
  · simp [AR.only, h2]
  by_cases h3 : r.kind = 3
  · simp [AR.only, h3]
  by_cases h4 : r.kind = 4
  · simp [AR.only, h4]
  by_cases h5 : r.kind = 5
  · simp [AR.only, h5]
  by_cases h6 : r.kind = 6
  · simp [AR.only, h6]
  by_cases h7 : r.kind = 7
  · simp [AR.only, h7]
  simp [AR.only, h0, h1, h2, h3, h4, h5, h6, h7]
/-- What every law of results has at hand. -/
structure LawAR (l : List AR) : Prop where
  len : l.length ≤ 2147483647
  fit : (l.map AR.only).all fit2 = true
/-- The text of results, read. -/
theorem law_text {i : L8} (hi : aPlain i = true) {l : List AR} (L : LawAR l) (hf : aFits (l.map AR.only) = true) (fm : L8) (hq : (aTextOf i (l.map AR.only) fm).length < qtr) :
    ∃ R : List AR, con_AParse [.str (aTextOf i (l.map AR.only) fm)] = some (.tup [.str i, arV R, .bool true]) ∧ R = (l.map AR.only).map AR.norm := by
  obtain ⟨xs, e1, e2⟩ := read_text hi hf fm
  refine ⟨xs.map PR.ar, ?_, ?_⟩
  · have : con_AParse [.str (aTextOf i (l.map AR.only) fm)] = some (adV (adText (aTextOf i (l.map AR.only) fm))) := if_pos ⟨hq, text_plain hi hf fm⟩
    rw [this, e1]; rfl
  · rw [e2]
    simp only [List.map_map]
    refine List.map_congr_left fun r _ => ?_
    simp only [Function.comp, only_only]
end Wax


namespace Wax
open Go (IntKind)

/-- A result's text, where a key may stand twice. -/
structure ResT.OkW (t : ResT) : Prop where
  pre : allWs t.pre
  head : KvOk t.head
  ps : ∀ p ∈ t.ps, (p.1 ≠ [] ∧ allWs p.1) ∧ KvOk p.2
theorem ResT.OkW.res {t : ResT} (h : t.OkW) {b : L8} (hb : allWs b) {x : PR} (hx : prOf (lowS t.head.1) (lowS t.head.2) (prmsOf ((t.ps.map (·.2)).map kvW) []) = .inr x) : trimS (t.txt ++ b) ≠ [] ∧ resAOf (trimS (t.txt ++ b)) = .inr (some x) := by
  have hw : wordsOf (t.txt ++ b) = kvW t.head :: (t.ps.map (·.2)).map kvW := by
    have e : t.txt ++ b = t.pre ++ (kvW t.head ++ (flatW (t.ps.map fun p => (p.1, kvW p.2)) ++ b)) := by simp [ResT.txt]
    rw [e, wordsOf_flat h.pre hb kvW_ne (gW_non (kvW_g h.head))]
    · simp
    · intro p hp
      obtain ⟨q, hq, rfl⟩ := List.mem_map.1 hp
      have := h.ps q hq
      exact ⟨this.1, kvW_ne, gW_non (kvW_g this.2)⟩
  have hw2 := wordsOf_trim (t.txt ++ b)
  rw [hw] at hw2
  refine ⟨fun e => ?_, ?_⟩
  · rw [e] at hw2; simp [wordsOf, wordsGo] at hw2
  · simp only [resAOf, hw2]
    rw [if_neg kvW_not_none, kvW_of h.head]
    simp only [hx]
theorem ResT.OkW.no {t : ResT} (h : t.OkW) : noB 59 t.txt := by
  refine noB_app (allWs_no h.pre) (noB_app (gW_no (kvW_g h.head)) ?_)
  intro x hx
  simp only [flatW, List.mem_flatMap, List.mem_map] at hx
  obtain ⟨_, ⟨q, hq, rfl⟩, hx⟩ := hx
  have := h.ps q hq
  rcases List.mem_append.1 hx with hx | hx
  · exact allWs_no this.1.2 x hx
  · exact gW_no (kvW_g this.2) x hx
theorem ResT.OkW.pl {t : ResT} (h : t.OkW) : plain t.txt = true := by
  refine plain_appB (allWs_plain h.pre) (plain_appB (gW_plain (kvW_g h.head)) ?_)
  simp only [plain, List.all_eq_true]
  intro x hx
  simp only [flatW, List.mem_flatMap, List.mem_map] at hx
  obtain ⟨_, ⟨q, hq, rfl⟩, hx⟩ := hx
  have := h.ps q hq
  have hp : plain (q.1 ++ kvW q.2) = true := plain_appB (allWs_plain this.1.2) (gW_plain (kvW_g this.2))
  exact List.all_eq_true.1 hp x hx
end Wax


namespace Wax
open Go Go.ChangeShapes Go.WideShapes Go.RowKit

theorem lkGl_mem : ∀ {l : List (Nat × List AV)} {g : Nat} {cs : List AV}, lkGl l g = some cs → (g, cs) ∈ l
  | [], _, _, h => by simp [lkGl] at h
  | (i, v) :: r, g, cs, h => by
    simp only [lkGl] at h
    split at h
    · rename_i e
      simp only [beq_iff_eq] at e
      simp only [Option.some.injEq] at h
      subst e; subst h; simp
    · exact List.mem_cons_of_mem _ (lkGl_mem h)

theorem GlobOk.of {T : Tab} {w : World} {F : Frz} (h : ∀ p ∈ T.gl, RepAt T w F p.1 0 p.2 ∧ F p.1 ∧ ∃ vs q a, w.heap[p.1]? = some (.cells vs q a) ∧ vs.size = p.2.length) : GlobOk T w F := fun g cs hg => h (g, cs) (lkGl_mem hg)

theorem var_heap {P : Program} {w : World} {n : String} {g : Nat} {cs : Array Value} (hg : P.globalNamed n = some g) (hv : w.var? P n = some cs) : ∃ q a, w.heap[g]? = some (.cells cs q a) := by
  simp only [World.var?, hg, Option.bind_some] at hv
  split at hv
  · rename_i cs' q a h
    injection hv with hv
    subst hv
    exact ⟨q, a, h⟩
  · simp at hv

theorem lt_of_heap {w : World} {g : Nat} {x : Obj} (h : w.heap[g]? = some x) : g < w.heap.size := by
  rcases Nat.lt_or_ge g w.heap.size with h' | h'
  · exact h'
  · rw [Array.getElem?_eq_none h'] at h; simp at h

/-- A variable that bears an error. -/
theorem repAt_err {T : Tab} {P : Program} {w : World} {n : String} {g tp : Nat} {y : Value} (hg : P.globalNamed n = some g) (hv : w.var? P n = some #[.iface tp y]) (ht : lkN T.tys tp = some 3) :
    RepAt T w (fun b => b < w.heap.size) g 0 [.ifc 3 .junk] ∧ g < w.heap.size ∧ ∃ vs q a, w.heap[g]? = some (.cells vs q a) ∧ vs.size = 1 := by
  obtain ⟨q, a, h⟩ := var_heap hg hv
  refine ⟨?_, lt_of_heap h, _, q, a, h, rfl⟩
  simp only [RepAt, and_true]
  exact ⟨lt_of_heap h, _, by simpa using World.var?_cell hg hv 0, tp, y, rfl, ht, trivial⟩

theorem repAt_ints {T : Tab} {w : World} {F : Frz} {g : Nat} {k : IntKind} (hF : F g) : ∀ (zs : List Int) (o : Nat), (∀ j z, zs[j]? = some z → w.cell? ⟨g, o + j, none⟩ = some (.int k z)) → RepAt T w F g o (zs.map (AV.int k))
  | [], _, _ => trivial
  | z :: r, o, h => by
    simp only [List.map_cons, RepAt]
    refine ⟨⟨hF, _, by simpa using h 0 z rfl, by simp [Rep]⟩, ?_⟩
    exact repAt_ints hF r (o + 1) fun j s hj => by
      rw [show o + 1 + j = o + (j + 1) by omega]
      exact h (j + 1) s (by simpa using hj)

/-- A table of integers. -/
theorem repAt_tab {T : Tab} {P : Program} {w : World} {n : String} {g : Nat} {k : IntKind} {zs : List Int} (hg : P.globalNamed n = some g) (hv : Lib.TabIs P w n k zs) :
    RepAt T w (fun b => b < w.heap.size) g 0 (zs.map (AV.int k)) ∧ g < w.heap.size ∧ ∃ vs q a, w.heap[g]? = some (.cells vs q a) ∧ vs.size = (zs.map (AV.int k)).length := by
  have hv' : w.var? P n = some (zs.map fun z => Value.int k z).toArray := hv
  obtain ⟨q, a, h⟩ := var_heap hg hv'
  refine ⟨repAt_ints (F := fun b => b < w.heap.size) (lt_of_heap h) zs 0 fun j z hj => ?_, lt_of_heap h, _, q, a, h, by simp⟩
  have hc := World.var?_cell hg hv' j
  rw [Nat.zero_add, hc]
  simp [hj]

end Wax


namespace Wax
open Go Go.ChangeShapes Go.WideShapes Go.RowKit Go.Joins Go.Deep

section
variable {P : Program} {T : Tab} {w : World} {H : Type} {enc : TypeId × Value → H}

def strOf : Value → List UInt8
  | .string s => s.data.toList
  | _ => []

end
end Wax


namespace Wax
open Go Go.ChangeShapes Go.WideShapes Go.RowKit Go.Joins Go.Deep

/-- A measure of what came in. -/
structure Bulk (H : Type) where
  B : DataW H → Nat
  A : List (DataW H) → Nat
  str : ∀ b, B (.lit (.string b)) = b.length + 1
  agg : ∀ l, B (.agg l) = A l + 1
  slice : ∀ e s, B (.slice e s) = A e + A s + 1
  nil : A [] = 0
  cons : ∀ d l, A (d :: l) = B d + A l
theorem Bulk.range {H : Type} (K : Bulk H) (D : Nat → DataW H) (f : Nat → Nat) : ∀ (l : List Nat), (∀ i ∈ l, f i ≤ K.B (D i)) → (l.map f).sum ≤ K.A (l.map D)
  | [], _ => by simp
  | i :: l, h => by
    rw [List.map_cons, List.map_cons, List.sum_cons, K.cons]
    have h1 := h i (by simp)
    have h2 := K.range D f l (fun j hj => h j (by simp [hj]))
    omega
end Wax


namespace Wax
open Go (IntKind)

theorem aSp_le3 (n : Nat) : (aSp n).length ≤ 3 := by
  have h : n % 6 < 6 := Nat.mod_lt _ (by omega)
  simp only [aSp]
  generalize n % 6 = q at *
  match q, h with
  | 0, _ => simp
  | 1, _ => simp
  | 2, _ => simp
  | 3, _ => simp
  | 4, _ => simp
  | 5, _ => simp
end Wax


namespace Wax
open Go (IntKind)

@[simp] theorem tr3_app {l m} : tr3 (l ++ m) = tr3 l ++ tr3 m := by simp [tr3]

end Wax


namespace Wax
open Go (IntKind)

/-- What a reader has before it, and what its functions say of it. -/
theorem blankA {S p t : L8} (e : S = p ++ t) (hb : (rB t).head? ≠ some 40) (hl : S.length < mid) : ∃ p', S = p' ++ rB t ∧ con_blank [.ref 0 0] [(0, .cells [.str S, .int .i64 (p.length : Int)])] = some (.bool true, [(0, .cells [.str S, .int .i64 (p'.length : Int)])]) := by
  subst e
  refine ⟨p ++ t.takeWhile ws4, ?_, ?_⟩
  · rw [List.append_assoc, rB, List.takeWhile_append_dropWhile]
  · have := blank_at hb hl
    rw [this, List.length_append]
theorem wordA {S p t m : L8} (e : S = p ++ t) (hm : m.length < big) (hl : S.length < mid) : ∃ p', S = p' ++ t.drop (rWd m t).length ∧ con_word [.ref 0 0, .str m] [(0, .cells [.str S, .int .i64 (p.length : Int)])] = some (.str (rWd m t), [(0, .cells [.str S, .int .i64 (p'.length : Int)])]) := by
  subst e
  refine ⟨p ++ rWd m t, ?_, ?_⟩
  · have h : rWd m t ++ t.dropWhile (tkC m) = t := List.takeWhile_append_dropWhile
    have h2 : t.drop (rWd m t).length = t.dropWhile (tkC m) := by
      have : t.drop (rWd m t).length = (rWd m t ++ t.dropWhile (tkC m)).drop (rWd m t).length := by rw [h]
      rw [this, List.drop_left]
    rw [h2, List.append_assoc, h]
  · have := word_at hm hl
    rw [this, List.length_append]
theorem hasA {S p t : L8} {x : UInt8} {c : Int} (e : S = p ++ x :: t) (hx : (x.toNat : Int) = c) (hl : S.length < mid) : ∃ p', S = p' ++ t ∧ con_has [.ref 0 0, .int .u8 c] [(0, .cells [.str S, .int .i64 (p.length : Int)])] = some (.bool true, [(0, .cells [.str S, .int .i64 (p'.length : Int)])]) := by
  subst e
  refine ⟨p ++ [x], by simp, ?_⟩
  have := has_yes hx hl
  rw [this, List.length_append]; rfl
theorem hasN {S p t : L8} {c : Int} (e : S = p ++ t) (hx : ∀ x : UInt8, t.head? = some x → ¬ (x.toNat : Int) = c) (hl : S.length < mid) : con_has [.ref 0 0, .int .u8 c] [(0, .cells [.str S, .int .i64 (p.length : Int)])] = some (.bool false, [(0, .cells [.str S, .int .i64 (p.length : Int)])]) := by
  subst e
  cases t with
  | nil => exact has_nil hl
  | cons x t => exact has_no (hx x rfl) hl
theorem ne_int {x c : UInt8} (h : ¬ x = c) : ¬ (x.toNat : Int) = (c.toNat : Int) := fun e => h (UInt8.toNat_inj.1 (by omega))
theorem rQ_le : ∀ (n : Nat) (t out : L8), t.length ≤ n → (rQ out t).2.2 ≤ t.length
  | 0, t, out, h => by
    cases t with
    | nil => simp [rQ]
    | cons _ _ => simp at h
  | n + 1, t, out, h => by
    cases t with
    | nil => simp [rQ]
    | cons c t =>
      simp only [List.length_cons] at h ⊢
      rw [rQ.eq_def]
      simp only
      split
      · show 1 ≤ t.length + 1
        omega
      split
      · cases t with
        | nil => simp
        | cons d t =>
          simp only [List.length_cons] at h ⊢
          have := rQ_le n t (out ++ [d]) (by omega)
          omega
      split
      · have := rQ_le n t out (by omega)
        simp only; omega
      · have := rQ_le n t (out ++ [c]) (by omega)
        simp only; omega
theorem rVal_le (m t : L8) : (rVal m t).2.2 ≤ t.length := by
  unfold rVal
  cases t with
  | nil => simp
  | cons c t =>
    simp only
    split
    · have := rQ_le t.length t [] (Nat.le_refl _)
      simp only [List.length_cons]; omega
    · exact (List.takeWhile_prefix _).length_le
theorem valueA {S p t m : L8} (e : S = p ++ t) (hm : m.length < big) (hl : S.length < mid) : ∃ p', S = p' ++ t.drop (rVal m t).2.2 ∧ con_value [.ref 0 0, .str m] [(0, .cells [.str S, .int .i64 (p.length : Int)])] = some (.tup [.str (rVal m t).1, .bool (rVal m t).2.1], [(0, .cells [.str S, .int .i64 (p'.length : Int)])]) := by
  subst e
  refine ⟨p ++ t.take (rVal m t).2.2, ?_, ?_⟩
  · rw [List.append_assoc, List.take_append_drop]
  · have := value_at hm hl
    rw [this, List.length_append, List.length_take, Nat.min_eq_left (rVal_le m t)]

/-- A result as it is read: method, value, reason, properties. -/
structure Inf where
  m : L8
  v : L8
  r : L8
  ps : List (L8 × L8 × L8)
def Inf.V (x : Inf) : AV := .agg [.str x.m, .str [], .str x.v, .str x.r, tripV x.ps]
def bB (t : L8) : Option L8 := if (rB t).head? = some 40 then none else some (rB t)
def halvesP (s : L8) : L8 × L8 × Bool := match cutAt 46 s with | some q => (q.1, q.2, true) | none => (s, [], false)
/-- The reason and the properties of a result. -/
def rLoop : Nat → Inf → L8 → Option (Inf × Bool × L8)
  | 0, _, _ => none
  | n + 1, x, t => match bB t with
    | none => none
    | some t1 =>
      if t1 = [] ∨ t1.head? = some 59 then some (x, true, t1)
      else match bB (t1.drop (rWd [] t1).length) with
        | none => none
        | some t3 => match t3 with
          | [] => some (x, false, [])
          | c :: t4 => if c = 61 then (match bB t4 with
              | none => none
              | some t5 =>
                if lowS (rWd [] t1) = qReason then
                  (if (rVal [] t5).2.1 = false ∨ x.r ≠ [] ∨ x.ps ≠ [] then some (x, false, t5.drop (rVal [] t5).2.2)
                   else rLoop n { x with r := (rVal [] t5).1 } (t5.drop (rVal [] t5).2.2))
                else
                  (if (rVal [64, 58] t5).2.1 = false ∨ (halvesP (rWd [] t1)).2.2 = false ∨ mKw (halvesP (rWd [] t1)).1 = false ∨ (halvesP (rWd [] t1)).2.1 = [] then some (x, false, t5.drop (rVal [64, 58] t5).2.2)
                   else rLoop n { x with ps := x.ps ++ [((halvesP (rWd [] t1)).1, (halvesP (rWd [] t1)).2.1, (rVal [64, 58] t5).1)] } (t5.drop (rVal [64, 58] t5).2.2)))
            else some (x, false, c :: t4)
/-- A result: what was read, whether it says that there is none, whether it is one, what is left. -/
def aInfo (t : L8) : Option (Inf × Bool × Bool × L8) := match bB t with
  | none => none
  | some t1 =>
    if mKw (rWd [] t1) = false then some (⟨rWd [] t1, [], [], []⟩, false, false, t1.drop (rWd [] t1).length)
    else match bB (t1.drop (rWd [] t1).length) with
      | none => none
      | some t3 =>
        if lowS (rWd [] t1) = sNone0 ∧ t3 = [] then some (⟨rWd [] t1, [], [], []⟩, true, true, [])
        else match t3 with
          | [] => some (⟨rWd [] t1, [], [], []⟩, false, false, [])
          | c :: t4 => if c = 47 then none else if c = 61 then (match bB t4 with
              | none => none
              | some t5 =>
                if mKw (rWd [] t5) = false then some (⟨rWd [] t1, rWd [] t5, [], []⟩, false, false, t5.drop (rWd [] t5).length)
                else (rLoop (t5.length + 1) ⟨rWd [] t1, rWd [] t5, [], []⟩ (t5.drop (rWd [] t5).length)).map fun r => (r.1, false, r.2.1, r.2.2))
            else some (⟨rWd [] t1, [], [], []⟩, false, false, c :: t4)
def con_info : List AV → List (Nat × AObj) → Option (AV × List (Nat × AObj))
  | [.ref 0 0], [(0, .cells [.str s, .int .i64 n])] => rdMk half (fun t => (aInfo t).map fun r => (.tup [r.1.V, .bool r.2.1, .bool r.2.2.1], t.length - r.2.2.2.length)) s n
  | _, _ => none
theorem bB_sf {t u : L8} (h : bB t = some u) : u <:+ t ∧ u = rB t ∧ (rB t).head? ≠ some 40 := by
  unfold bB at h
  split at h
  · simp at h
  · rename_i hb
    simp only [Option.some.injEq] at h
    exact ⟨h ▸ List.dropWhile_suffix _, h.symm, hb⟩
theorem bB_le {t u : L8} (h : bB t = some u) : u.length ≤ t.length ∧ u = rB t ∧ (rB t).head? ≠ some 40 := ⟨(bB_sf h).1.length_le, (bB_sf h).2⟩
theorem drop_le (t : L8) (n : Nat) : (t.drop n).length ≤ t.length := by simp
theorem rLoop_sf : ∀ (n : Nat) (x : Inf) (t : L8) {R : Inf × Bool × L8}, rLoop n x t = some R → R.2.2 <:+ t
  | 0, _, _, _, h => by simp [rLoop] at h
  | n + 1, x, t, R, h => by
    rw [rLoop] at h
    split at h
    · simp at h
    rename_i t1 h1
    have l1 := (bB_sf h1).1
    split at h
    · simp only [Option.some.injEq] at h; subst h; exact l1
    split at h
    · simp at h
    rename_i t3 h3
    have l3 := ((bB_sf h3).1.trans (List.drop_suffix _ _)).trans l1
    split at h
    · simp only [Option.some.injEq] at h; subst h; exact List.nil_suffix
    rename_i c t4
    split at h
    · split at h
      · simp at h
      rename_i t5 h5
      have l5 := ((bB_sf h5).1.trans (List.suffix_cons c t4)).trans l3
      split at h
      · split at h
        · simp only [Option.some.injEq] at h; subst h
          exact (List.drop_suffix _ _).trans l5
        · exact (rLoop_sf n _ _ h).trans ((List.drop_suffix _ _).trans l5)
      · split at h
        · simp only [Option.some.injEq] at h; subst h
          exact (List.drop_suffix _ _).trans l5
        · exact (rLoop_sf n _ _ h).trans ((List.drop_suffix _ _).trans l5)
    · simp only [Option.some.injEq] at h; subst h
      exact l3
theorem aInfo_sf {t : L8} {r : Inf × Bool × Bool × L8} (h : aInfo t = some r) : r.2.2.2 <:+ t := by
  unfold aInfo at h
  split at h
  · simp at h
  rename_i t1 h1
  have l1 := (bB_sf h1).1
  split at h
  · simp only [Option.some.injEq] at h; subst h
    exact (List.drop_suffix _ _).trans l1
  split at h
  · simp at h
  rename_i t3 h3
  have l3 := ((bB_sf h3).1.trans (List.drop_suffix _ _)).trans l1
  split at h
  · simp only [Option.some.injEq] at h; subst h; exact List.nil_suffix
  split at h
  · simp only [Option.some.injEq] at h; subst h; exact List.nil_suffix
  rename_i c t4 _
  split at h
  · simp at h
  split at h
  · split at h
    · simp at h
    rename_i t5 h5
    have l5 := ((bB_sf h5).1.trans (List.suffix_cons c t4)).trans l3
    split at h
    · simp only [Option.some.injEq] at h; subst h
      exact (List.drop_suffix _ _).trans l5
    · cases hr : rLoop (t5.length + 1) ⟨rWd [] t1, rWd [] t5, [], []⟩ (t5.drop (rWd [] t5).length) with
      | none => simp [hr] at h
      | some q =>
        simp only [hr, Option.map_some, Option.some.injEq] at h
        subst h
        exact (rLoop_sf _ _ _ hr).trans ((List.drop_suffix _ _).trans l5)
  · simp only [Option.some.injEq] at h; subst h
    exact l3
theorem hasRefL_tc3 : ∀ l : List (L8 × L8 × L8), hasRefL (tc3 l) = false
  | [] => rfl
  | x :: l => by simp [hasRefL, hasRefL_tc3 l]
theorem end_at {S p q u : L8} (e : S = p ++ u) (e0 : S = q ++ u) : p.length = q.length := by
  have h1 := congrArg List.length e
  have h2 := congrArg List.length e0
  simp only [List.length_append] at h1 h2
  omega
section
variable {Γ : Gam} (h99 : Γ.fn 99 = con_MailKeyword) (h102 : Γ.fn 102 = con_MailHalves) (h112 : Γ.fn 112 = con_MailLower) (s224 : Γ.st 224 = con_has) (s226 : Γ.st 226 = con_word) (s227 : Γ.st 227 = con_blank) (s228 : Γ.st 228 = con_value)
include h99 h102 h112 s224 s226 s227 s228
set_option maxRecDepth 100000 in
set_option maxHeartbeats 8000000 in
/-- The loop over the reason and the properties. -/
theorem info_loop {S : L8} (hlh : S.length < half) {pf : L8} {R : Inf × Bool × L8} (ef : S = pf ++ R.2.2) {n : Nat} {x : Inf} {p t : L8} (e : S = p ++ t) (hR : rLoop n x t = some R) (hps : x.ps = []) {ex : List (Nat × AV)} :
    awp Γ (.loop [0, 2] b_spec_areader_info_5) (blockQ 0 (finS 1 [.c (some 5) 2, .t 3, .t 4] fun v => v = some (.tup [R.1.V, .bool false, .bool R.2.1], [(0, rdO S pf.length)]))) ⟨(0, .ref 1000000 0) :: (2, .ref 2 0) :: ex, [(1000000, .cells [.str S, .int .i64 (p.length : Int)]), (2, .cells [.str x.m, .str [], .str x.v, .str x.r, .nilS])]⟩ := by
  refine awp_loop2 (σ := Inf × L8 × L8 × Nat) (fun q => ⟨[(0, .ref 1000000 0), (2, .ref 2 0)], grH 183 q.1.ps.length (tc3 q.1.ps) ++ [(1000000, .cells [.str S, .int .i64 (q.2.1.length : Int)]), (2, .cells [.str q.1.m, .str [], .str q.1.v, .str q.1.r, grV 183 3 q.1.ps.length])]⟩)
    (fun q => S = q.2.1 ++ q.2.2.1 ∧ rLoop q.2.2.2 q.1 q.2.2.1 = some R ∧ q.1.ps.length + q.2.2.1.length ≤ S.length) (fun q => q.2.2.2) (x, p, t, n) (by simp [hps]) ⟨e, hR, by rw [hps, e]; simp⟩ ?_
  clear hps hR e
  have hl : S.length < mid := by simp only [half] at hlh; simp only [mid]; omega
  rintro ⟨⟨xm, xv, xr, ps⟩, p, t, n⟩ ⟨e, hR, hpl⟩ LQ hLQ
  simp only at e hR hpl
  cases ps with
  | nil =>
    obtain ⟨n, rfl⟩ : ∃ k, n = k + 1 := by
      cases n with
      | zero => simp [rLoop] at hR
      | succ k => exact ⟨k, rfl⟩
    rw [rLoop] at hR
    split at hR
    · simp at hR
    rename_i t1 h1
    obtain ⟨_, rfl, hb1⟩ := bB_le h1
    obtain ⟨p1, e1, k1⟩ := blankA e hb1 hl
    have l1 := (bB_le h1).1
    clear h1 hb1
    generalize rB t = t1 at *
    have hS1 := congrArg List.length e1
    simp only [List.length_append] at hS1
    split at hR
    · rename_i hend
      simp only [Option.some.injEq] at hR
      subst hR
      have hpf := end_at e1 ef
      rw [← hpf]
      clear hpf ef
      cases t1 with
      | nil =>
        have hat : (p1.length : Int) = (S.length : Int) := by simp at hS1; omega
        simp -implicitDefEqProofs [b_spec_areader_info_5, f_spec_areader_info_4, acallS, reach_succ, s224, s226, s227, s228, k1, hat, Inf.V, tripV]
      | cons c t1 =>
        simp only [reduceCtorEq, false_or, List.head?_cons, Option.some.injEq] at hend
        subst hend
        have hat : ¬ (p1.length : Int) = (S.length : Int) := by simp only [List.length_cons] at hS1; omega
        have g : S[p1.length]? = some 59 := by rw [e1]; exact get_mid rfl
        simp -implicitDefEqProofs [b_spec_areader_info_5, f_spec_areader_info_4, acallS, reach_succ, s224, s226, s227, s228, k1, hat, g, Inf.V, tripV]
    rename_i hend
    have hne : t1 ≠ [] := fun h => hend (.inl h)
    obtain ⟨c, t1', ht1⟩ : ∃ c t', t1 = c :: t' := by cases t1 with | nil => exact absurd rfl hne | cons c t' => exact ⟨c, t', rfl⟩
    have hat : ¬ (p1.length : Int) = (S.length : Int) := by rw [ht1] at hS1; simp only [List.length_cons] at hS1; omega
    have g : S[p1.length]? = some c := by rw [e1, ht1]; exact get_mid rfl
    have hc59 : ¬ (c.toNat : Int) = 59 := by
      refine ne_int (c := 59) fun h => hend (.inr ?_)
      rw [ht1, h]; rfl
    simp -implicitDefEqProofs [b_spec_areader_info_5, f_spec_areader_info_4, acallS, reach_succ, s224, s226, s227, s228, k1, hat, g, hc59, tripV]
    clear hat g hc59 ht1 hne hend k1 hS1
    obtain ⟨p2, e2, k2⟩ := wordA (m := []) e1 (by simp [big]) hl
    have hwl : (rWd [] t1).length < big := by
      have := congrArg List.length e1
      have h3 : (rWd [] t1).length ≤ t1.length := (List.takeWhile_prefix _).length_le
      simp only [List.length_append] at this
      simp only [mid] at hl
      simp only [big]
      omega
    have k112 : con_MailLower [.str (rWd [] t1)] = some (.str (lowS (rWd [] t1))) := if_pos hwl
    have k102 : con_MailHalves [.str (rWd [] t1), .int .u8 46] = some (cutV 46 (rWd [] t1)) := if_pos hwl
    generalize rWd [] t1 = W at *
    split at hR
    · simp at hR
    rename_i t3 h3
    obtain ⟨_, rfl, hb3⟩ := bB_le h3
    obtain ⟨p3, e3, k3⟩ := blankA e2 hb3 hl
    have l3 := (bB_le h3).1
    simp only [List.length_drop] at l3
    clear h3 hb3
    generalize rB (t1.drop W.length) = t3 at *
    cases t3 with
    | nil =>
      simp only [Option.some.injEq] at hR
      subst hR
      have hpf := end_at e3 ef
      rw [← hpf]
      have q61 := hasN (c := 61) e3 (by intro x hx; simp at hx) hl
      simp -implicitDefEqProofs [f_spec_areader_info_3, acallS, reach_succ, s224, s226, s227, s228, k2, k3, q61, Inf.V, tripV]
    | cons c t4 =>
    simp only at hR
    by_cases c61 : c = 61
    rotate_left
    · rw [if_neg c61] at hR
      simp only [Option.some.injEq] at hR
      subst hR
      have hpf := end_at e3 ef
      rw [← hpf]
      have q61 := hasN (c := 61) e3 (by
            intro x hx; simp at hx; subst hx
            exact ne_int (c := 61) c61) hl
      simp -implicitDefEqProofs [f_spec_areader_info_3, acallS, reach_succ, s224, s226, s227, s228, k2, k3, q61, Inf.V, tripV]
    rw [if_pos c61] at hR
    obtain ⟨p4, e4, q61⟩ := hasA (c := 61) e3 (by rw [c61]; rfl) hl
    split at hR
    · simp at hR
    rename_i t5 h5
    obtain ⟨_, rfl, hb5⟩ := bB_le h5
    obtain ⟨p5, e5, k5⟩ := blankA e4 hb5 hl
    have l5 := (bB_le h5).1
    clear h5 hb5
    generalize rB t4 = t5 at *
    simp only [List.length_cons] at l3
    simp -implicitDefEqProofs [f_spec_areader_info_3, acallS, reach_succ, s224, s226, s227, s228, k2, k3, q61, k5, tripV]
    clear k2 k3 q61 k5
    split at hR
    · rename_i hre
      simp only [qReason] at hre
      obtain ⟨p6, e6, k6⟩ := valueA (m := []) e5 (by simp [big]) hl
      have l6 := drop_le t5 (rVal [] t5).2.2
      generalize t5.drop (rVal [] t5).2.2 = t6 at *
      generalize rVal [] t5 = V at *
      obtain ⟨w, ok, nn⟩ := V
      simp only at hR
      split at hR
      · rename_i hbad
        simp only [Option.some.injEq] at hR
        subst hR
        have hpf := end_at e6 ef
        rw [← hpf]
        clear hpf ef
        cases ok with
        | false =>
          simp -implicitDefEqProofs [acallS, reach_succ, s224, s226, s227, s228, f_spec_areader_info_2, f_spec_areader_info_1, k6, hre, acall, h112, k112, h102, k102, h99, Inf.V, tripV]
        | true =>
          by_cases hxr : xr = []
          · simp [hxr] at hbad
          · simp -implicitDefEqProofs [acallS, reach_succ, s224, s226, s227, s228, f_spec_areader_info_2, f_spec_areader_info_1, k6, hre, acall, h112, k112, h102, k102, h99, Inf.V, tripV, hxr]
      · rename_i hbad
        simp only [not_or, Bool.not_eq_false, ne_eq, Decidable.not_not] at hbad
        obtain ⟨rfl, hxr, hpz⟩ := hbad
        subst hxr
        simp -implicitDefEqProofs [acallS, reach_succ, s224, s226, s227, s228, f_spec_areader_info_2, f_spec_areader_info_1, k6, hre, acall, h112, k112, h102, k102, h99, tripV]
        exact hLQ (⟨xm, xv, w, []⟩, p6, t6, n) ⟨e6, hR, by simp; omega⟩ (by simp) _ (by simp)
    · rename_i hre
      simp only [qReason] at hre
      obtain ⟨p6, e6, k6⟩ := valueA (m := [64, 58]) e5 (by simp [big]) hl
      have l6 := drop_le t5 (rVal [64, 58] t5).2.2
      generalize t5.drop (rVal [64, 58] t5).2.2 = t6 at *
      generalize rVal [64, 58] t5 = V at *
      obtain ⟨w, ok, nn⟩ := V
      simp only at hR
      cases hc : cutAt 46 W with
      | none =>
        simp only [cutV, hc] at k102
        simp only [halvesP, hc] at hR
        rw [if_pos (by simp)] at hR
        simp only [Option.some.injEq] at hR
        subst hR
        have hpf := end_at e6 ef
        rw [← hpf]
        clear hpf ef
        cases ok with
        | false =>
          simp -implicitDefEqProofs [acallS, reach_succ, s224, s226, s227, s228, f_spec_areader_info_2, f_spec_areader_info_1, k6, hre, acall, h112, k112, h102, k102, h99, Inf.V, tripV]
        | true =>
          simp -implicitDefEqProofs [acallS, reach_succ, s224, s226, s227, s228, f_spec_areader_info_2, f_spec_areader_info_1, k6, hre, acall, h112, k112, h102, k102, h99, Inf.V, tripV]
      | some ab =>
        obtain ⟨a, b⟩ := ab
        have hlens := cutAt_lens hc
        simp only at hlens
        have k99 : con_MailKeyword [.str a] = some (.bool (mKw a)) := if_pos (by omega)
        simp only [cutV, hc] at k102
        simp only [halvesP, hc] at hR
        split at hR
        · rename_i hbad
          simp only [Option.some.injEq] at hR
          subst hR
          have hpf := end_at e6 ef
          rw [← hpf]
          clear hpf ef
          cases ok with
          | false =>
            simp -implicitDefEqProofs [acallS, reach_succ, s224, s226, s227, s228, f_spec_areader_info_2, f_spec_areader_info_1, k6, hre, acall, h112, k112, h102, k102, h99, Inf.V, tripV]
          | true =>
            cases hka : mKw a with
            | false =>
              rw [hka] at k99
              simp -implicitDefEqProofs [acallS, reach_succ, s224, s226, s227, s228, f_spec_areader_info_2, f_spec_areader_info_1, k6, hre, acall, h112, k112, h102, k102, h99, Inf.V, tripV, k99]
            | true =>
              rw [hka] at k99
              have hb : b = [] := by simpa [hka] using hbad
              subst hb
              simp -implicitDefEqProofs [acallS, reach_succ, s224, s226, s227, s228, f_spec_areader_info_2, f_spec_areader_info_1, k6, hre, acall, h112, k112, h102, k102, h99, Inf.V, tripV, k99]
        · rename_i hbad
          simp only [not_or, Bool.not_eq_false, ne_eq] at hbad
          obtain ⟨rfl, _, hka, hb⟩ := hbad
          rw [hka] at k99
          simp only [half] at hlh
          simp -implicitDefEqProofs [acallS, reach_succ, s224, s226, s227, s228, f_spec_areader_info_2, f_spec_areader_info_1, k6, hre, acall, h112, k112, h102, k102, h99, tripV, k99, hb]
          exact hLQ (⟨xm, xv, xr, [] ++ [(a, b, w)]⟩, p6, t6, n) ⟨e6, hR, by simp at hpl ⊢; omega⟩ (by simp) _ (by simp [])
  | cons y ys =>
    obtain ⟨ps, hps⟩ : ∃ l, l = y :: ys := ⟨_, rfl⟩
    have hk : ps.length = ys.length + 1 := by rw [hps]; rfl
    rw [← hps] at hR hLQ hpl ⊢
    have hG : group 3 (ys.length + 1) (tc3 ps) = tr3 ps := by rw [← hk]; exact group_tc3
    have hT : tripV ps = .sl 3 (tr3 ps) := by rw [hps]; rfl
    have hRf := hasRefL_tc3 ps
    have hTk : List.take ((ys.length + 1) * 3) (tc3 ps) = tc3 ps := by rw [← hk]; exact List.take_of_length_le (by simp)
    clear hps
    obtain ⟨n, rfl⟩ : ∃ k, n = k + 1 := by
      cases n with
      | zero => simp [rLoop] at hR
      | succ k => exact ⟨k, rfl⟩
    rw [rLoop] at hR
    split at hR
    · simp at hR
    rename_i t1 h1
    obtain ⟨_, rfl, hb1⟩ := bB_le h1
    obtain ⟨p1, e1, k1⟩ := blankA e hb1 hl
    have l1 := (bB_le h1).1
    clear h1 hb1
    generalize rB t = t1 at *
    have hS1 := congrArg List.length e1
    simp only [List.length_append] at hS1
    split at hR
    · rename_i hend
      simp only [Option.some.injEq] at hR
      subst hR
      have hpf := end_at e1 ef
      rw [← hpf]
      clear hpf ef
      cases t1 with
      | nil =>
        have hat : (p1.length : Int) = (S.length : Int) := by simp at hS1; omega
        simp -implicitDefEqProofs [b_spec_areader_info_5, f_spec_areader_info_4, acallS, reach_succ, s224, s226, s227, s228, k1, hat, Inf.V, hk, hG, hT, hRf]
      | cons c t1 =>
        simp only [reduceCtorEq, false_or, List.head?_cons, Option.some.injEq] at hend
        subst hend
        have hat : ¬ (p1.length : Int) = (S.length : Int) := by simp only [List.length_cons] at hS1; omega
        have g : S[p1.length]? = some 59 := by rw [e1]; exact get_mid rfl
        simp -implicitDefEqProofs [b_spec_areader_info_5, f_spec_areader_info_4, acallS, reach_succ, s224, s226, s227, s228, k1, hat, g, Inf.V, hk, hG, hT, hRf]
    rename_i hend
    have hne : t1 ≠ [] := fun h => hend (.inl h)
    obtain ⟨c, t1', ht1⟩ : ∃ c t', t1 = c :: t' := by cases t1 with | nil => exact absurd rfl hne | cons c t' => exact ⟨c, t', rfl⟩
    have hat : ¬ (p1.length : Int) = (S.length : Int) := by rw [ht1] at hS1; simp only [List.length_cons] at hS1; omega
    have g : S[p1.length]? = some c := by rw [e1, ht1]; exact get_mid rfl
    have hc59 : ¬ (c.toNat : Int) = 59 := by
      refine ne_int (c := 59) fun h => hend (.inr ?_)
      rw [ht1, h]; rfl
    simp -implicitDefEqProofs [b_spec_areader_info_5, f_spec_areader_info_4, acallS, reach_succ, s224, s226, s227, s228, k1, hat, g, hc59, hk, hG, hT, hRf]
    clear hat g hc59 ht1 hne hend k1 hS1
    obtain ⟨p2, e2, k2⟩ := wordA (m := []) e1 (by simp [big]) hl
    have hwl : (rWd [] t1).length < big := by
      have := congrArg List.length e1
      have h3 : (rWd [] t1).length ≤ t1.length := (List.takeWhile_prefix _).length_le
      simp only [List.length_append] at this
      simp only [mid] at hl
      simp only [big]
      omega
    have k112 : con_MailLower [.str (rWd [] t1)] = some (.str (lowS (rWd [] t1))) := if_pos hwl
    have k102 : con_MailHalves [.str (rWd [] t1), .int .u8 46] = some (cutV 46 (rWd [] t1)) := if_pos hwl
    generalize rWd [] t1 = W at *
    split at hR
    · simp at hR
    rename_i t3 h3
    obtain ⟨_, rfl, hb3⟩ := bB_le h3
    obtain ⟨p3, e3, k3⟩ := blankA e2 hb3 hl
    have l3 := (bB_le h3).1
    simp only [List.length_drop] at l3
    clear h3 hb3
    generalize rB (t1.drop W.length) = t3 at *
    cases t3 with
    | nil =>
      simp only [Option.some.injEq] at hR
      subst hR
      have hpf := end_at e3 ef
      rw [← hpf]
      have q61 := hasN (c := 61) e3 (by intro x hx; simp at hx) hl
      simp -implicitDefEqProofs [f_spec_areader_info_3, acallS, reach_succ, s224, s226, s227, s228, k2, k3, q61, Inf.V, hk, hG, hT, hRf]
    | cons c t4 =>
    simp only at hR
    by_cases c61 : c = 61
    rotate_left
    · rw [if_neg c61] at hR
      simp only [Option.some.injEq] at hR
      subst hR
      have hpf := end_at e3 ef
      rw [← hpf]
      have q61 := hasN (c := 61) e3 (by
            intro x hx; simp at hx; subst hx
            exact ne_int (c := 61) c61) hl
      simp -implicitDefEqProofs [f_spec_areader_info_3, acallS, reach_succ, s224, s226, s227, s228, k2, k3, q61, Inf.V, hk, hG, hT, hRf]
    rw [if_pos c61] at hR
    obtain ⟨p4, e4, q61⟩ := hasA (c := 61) e3 (by rw [c61]; rfl) hl
    split at hR
    · simp at hR
    rename_i t5 h5
    obtain ⟨_, rfl, hb5⟩ := bB_le h5
    obtain ⟨p5, e5, k5⟩ := blankA e4 hb5 hl
    have l5 := (bB_le h5).1
    clear h5 hb5
    generalize rB t4 = t5 at *
    simp only [List.length_cons] at l3
    simp -implicitDefEqProofs [f_spec_areader_info_3, acallS, reach_succ, s224, s226, s227, s228, k2, k3, q61, k5, hk, hG, hT, hRf]
    clear k2 k3 q61 k5
    split at hR
    · rename_i hre
      simp only [qReason] at hre
      obtain ⟨p6, e6, k6⟩ := valueA (m := []) e5 (by simp [big]) hl
      have l6 := drop_le t5 (rVal [] t5).2.2
      generalize t5.drop (rVal [] t5).2.2 = t6 at *
      generalize rVal [] t5 = V at *
      obtain ⟨w, ok, nn⟩ := V
      simp only at hR
      split at hR
      · rename_i hbad
        simp only [Option.some.injEq] at hR
        subst hR
        have hpf := end_at e6 ef
        rw [← hpf]
        clear hpf ef
        cases ok with
        | false =>
          simp -implicitDefEqProofs [acallS, reach_succ, s224, s226, s227, s228, f_spec_areader_info_2, f_spec_areader_info_1, k6, hre, acall, h112, k112, h102, k102, h99, Inf.V, hk, hG, hT, hRf]
        | true =>
          by_cases hxr : xr = []
          · subst hxr
            simp -implicitDefEqProofs [acallS, reach_succ, s224, s226, s227, s228, f_spec_areader_info_2, f_spec_areader_info_1, k6, hre, acall, h112, k112, h102, k102, h99, Inf.V, hk, hG, hT, hRf]
          · simp -implicitDefEqProofs [acallS, reach_succ, s224, s226, s227, s228, f_spec_areader_info_2, f_spec_areader_info_1, k6, hre, acall, h112, k112, h102, k102, h99, Inf.V, hk, hG, hT, hRf, hxr]
      · rename_i hbad
        simp only [not_or, Bool.not_eq_false, ne_eq, Decidable.not_not] at hbad
        obtain ⟨rfl, hxr, hpz⟩ := hbad
        rw [hpz] at hk
        simp at hk
    · rename_i hre
      simp only [qReason] at hre
      obtain ⟨p6, e6, k6⟩ := valueA (m := [64, 58]) e5 (by simp [big]) hl
      have l6 := drop_le t5 (rVal [64, 58] t5).2.2
      generalize t5.drop (rVal [64, 58] t5).2.2 = t6 at *
      generalize rVal [64, 58] t5 = V at *
      obtain ⟨w, ok, nn⟩ := V
      simp only at hR
      cases hc : cutAt 46 W with
      | none =>
        simp only [cutV, hc] at k102
        simp only [halvesP, hc] at hR
        rw [if_pos (by simp)] at hR
        simp only [Option.some.injEq] at hR
        subst hR
        have hpf := end_at e6 ef
        rw [← hpf]
        clear hpf ef
        cases ok with
        | false =>
          simp -implicitDefEqProofs [acallS, reach_succ, s224, s226, s227, s228, f_spec_areader_info_2, f_spec_areader_info_1, k6, hre, acall, h112, k112, h102, k102, h99, Inf.V, hk, hG, hT, hRf]
        | true =>
          simp -implicitDefEqProofs [acallS, reach_succ, s224, s226, s227, s228, f_spec_areader_info_2, f_spec_areader_info_1, k6, hre, acall, h112, k112, h102, k102, h99, Inf.V, hk, hG, hT, hRf]
      | some ab =>
        obtain ⟨a, b⟩ := ab
        have hlens := cutAt_lens hc
        simp only at hlens
        have k99 : con_MailKeyword [.str a] = some (.bool (mKw a)) := if_pos (by omega)
        simp only [cutV, hc] at k102
        simp only [halvesP, hc] at hR
        split at hR
        · rename_i hbad
          simp only [Option.some.injEq] at hR
          subst hR
          have hpf := end_at e6 ef
          rw [← hpf]
          clear hpf ef
          cases ok with
          | false =>
            simp -implicitDefEqProofs [acallS, reach_succ, s224, s226, s227, s228, f_spec_areader_info_2, f_spec_areader_info_1, k6, hre, acall, h112, k112, h102, k102, h99, Inf.V, hk, hG, hT, hRf]
          | true =>
            cases hka : mKw a with
            | false =>
              rw [hka] at k99
              simp -implicitDefEqProofs [acallS, reach_succ, s224, s226, s227, s228, f_spec_areader_info_2, f_spec_areader_info_1, k6, hre, acall, h112, k112, h102, k102, h99, Inf.V, hk, hG, hT, hRf, k99]
            | true =>
              rw [hka] at k99
              have hb : b = [] := by simpa [hka] using hbad
              subst hb
              simp -implicitDefEqProofs [acallS, reach_succ, s224, s226, s227, s228, f_spec_areader_info_2, f_spec_areader_info_1, k6, hre, acall, h112, k112, h102, k102, h99, Inf.V, hk, hG, hT, hRf, k99]
        · rename_i hbad
          simp only [not_or, Bool.not_eq_false, ne_eq] at hbad
          obtain ⟨rfl, _, hka, hb⟩ := hbad
          rw [hka] at k99
          simp only [half] at hlh
          simp -implicitDefEqProofs [acallS, reach_succ, s224, s226, s227, s228, f_spec_areader_info_2, f_spec_areader_info_1, k6, hre, acall, h112, k112, h102, k102, h99, hk, hG, hT, hRf, k99, hb]
          refine ⟨by omega, ?_⟩
          exact hLQ (⟨xm, xv, xr, ps ++ [(a, b, w)]⟩, p6, t6, n) ⟨e6, hR, by simp at hpl ⊢; omega⟩ (by simp) _ (by simp [hk, hTk])
set_option maxRecDepth 100000 in
set_option maxHeartbeats 4000000 in
theorem ok_info : ∀ args hp q, con_info args hp = some q → runsS Γ c_spec_areader_info args hp (fun v => v = some q) := by
  intro args hp q h
  simp only [con_info] at h
  split at h <;> (try simp at h; done)
  rename_i S n
  obtain ⟨p, t, v, k, e0, rfl, hf, hlh, rfl⟩ := rdMk_spec h
  have hl : S.length < mid := by simp only [half] at hlh; simp only [mid]; omega
  clear h
  cases hr : aInfo t with
  | none => simp [hr] at hf
  | some r =>
    simp only [hr, Option.map_some, Option.some.injEq, Prod.mk.injEq] at hf
    obtain ⟨rfl, rfl⟩ := hf
    obtain ⟨pf, ef, lf⟩ : ∃ pf, S = pf ++ r.2.2.2 ∧ p.length + (t.length - r.2.2.2.length) = pf.length := by
      obtain ⟨d, hd⟩ := aInfo_sf hr
      refine ⟨p ++ d, by rw [e0, ← hd, List.append_assoc], ?_⟩
      have := congrArg List.length hd
      simp only [List.length_append] at this ⊢
      omega
    rw [lf]
    have hlb : S.length < big := by simp only [mid] at hl; simp only [big]; omega
    unfold aInfo at hr
    split at hr
    · simp at hr
    rename_i t1 h1
    obtain ⟨_, rfl, hb1⟩ := bB_le h1
    obtain ⟨p1, e1, k1⟩ := blankA e0 hb1 hl
    obtain ⟨p2, e2, k2⟩ := wordA (m := []) e1 (by simp [big]) hl
    have hml : (rWd [] (rB t)).length < big := by
      have := congrArg List.length e1
      have h3 : (rWd [] (rB t)).length ≤ (rB t).length := (List.takeWhile_prefix _).length_le
      simp only [List.length_append] at this
      omega
    have k99 : con_MailKeyword [.str (rWd [] (rB t))] = some (.bool (mKw (rWd [] (rB t)))) := if_pos hml
    have k112 : con_MailLower [.str (rWd [] (rB t))] = some (.str (lowS (rWd [] (rB t)))) := if_pos hml
    generalize rWd [] (rB t) = M at *
    split at hr
    · rename_i hk
      rw [hk] at k99
      simp only [Option.some.injEq] at hr
      subst hr
      have := end_at e2 ef
      rw [← this]
      simp -implicitDefEqProofs [c_spec_areader_info, f_spec_areader_info_10, acallS, reach_succ, s224, s226, s227, s228, k1, k2, acall, h99, k99, Inf.V, tripV]
    rename_i hk
    replace hk : mKw M = true := by simpa using hk
    rw [hk] at k99
    split at hr
    · simp at hr
    rename_i t3 h3
    obtain ⟨_, rfl, hb3⟩ := bB_le h3
    obtain ⟨p3, e3, k3⟩ := blankA e2 hb3 hl
    generalize rB ((rB t).drop M.length) = t3 at *
    simp -implicitDefEqProofs [c_spec_areader_info, f_spec_areader_info_10, acallS, reach_succ, s224, s226, s227, s228, k1, k2, k3, acall, h99, k99]
    have hS3 := congrArg List.length e3
    simp only [List.length_append] at hS3
    have hat : ((p3.length : Int) = (S.length : Int)) = (t3 = []) := by
      apply propext
      cases t3 with
      | nil => simp at hS3 ⊢; omega
      | cons c t4 => simp only [List.length_cons] at hS3; simp; omega
    by_cases hcond : lowS M = sNone0 ∧ t3 = []
    · rw [if_pos hcond] at hr
      obtain ⟨hno, ht3⟩ := hcond
      simp only [sNone0] at hno
      simp only [Option.some.injEq] at hr
      subst hr
      subst ht3
      have := end_at e3 ef
      rw [← this]
      simp -implicitDefEqProofs [f_spec_areader_info_9, acallS, reach_succ, s224, s226, s227, s228, acall, h112, k112, hno, hat, Inf.V, tripV]
    rw [if_neg hcond] at hr
    have rest : ∀ ex : List (Nat × AV), awp Γ f_spec_areader_info_8 (finS 1 [.c (some 5) 2, .t 3, .t 4] fun v => v = some (.tup [r.1.V, .bool r.2.1, .bool r.2.2.1], [(0, rdO S pf.length)])) ⟨(0, .ref 1000000 0) :: (2, .ref 2 0) :: ex, [(1000000, .cells [.str S, .int .i64 (p3.length : Int)]), (2, .cells [.str M, .str [], .str [], .str [], .nilS])]⟩ := by
      intro ex
      clear k1 k2 k3 hat hS3
      cases t3 with
      | nil =>
        simp only [Option.some.injEq] at hr
        subst hr
        have q47 := hasN (c := 47) e3 (by intro x hx; simp at hx) hl
        have q61 := hasN (c := 61) e3 (by intro x hx; simp at hx) hl
        have := end_at e3 ef
        rw [← this]
        simp -implicitDefEqProofs [f_spec_areader_info_8, f_spec_areader_info_7, acallS, reach_succ, s224, s226, s227, s228, q47, q61, Inf.V, tripV]
      | cons c t4 =>
        simp only at hr
        by_cases c47 : c = 47
        · rw [if_pos c47] at hr; simp at hr
        rw [if_neg c47] at hr
        have q47 := hasN (c := 47) e3 (by
          intro x hx; simp at hx; subst hx
          exact ne_int (c := 47) c47) hl
        by_cases c61 : c = 61
        · rw [if_pos c61] at hr
          have q61 := hasA (c := 61) e3 (by rw [c61]; rfl) hl
          obtain ⟨p4, e4, q61⟩ := q61
          split at hr
          · simp at hr
          rename_i t5 h5
          obtain ⟨_, rfl, hb5⟩ := bB_le h5
          obtain ⟨p5, e5, k5⟩ := blankA e4 hb5 hl
          obtain ⟨p6, e6, k6⟩ := wordA (m := []) e5 (by simp [big]) hl
          have hvl : (rWd [] (rB t4)).length < big := by
            have := congrArg List.length e5
            have h3 : (rWd [] (rB t4)).length ≤ (rB t4).length := (List.takeWhile_prefix _).length_le
            simp only [List.length_append] at this
            omega
          have kv99 : con_MailKeyword [.str (rWd [] (rB t4))] = some (.bool (mKw (rWd [] (rB t4)))) := if_pos hvl
          generalize rB t4 = t5 at *
          generalize rWd [] t5 = W at *
          split at hr
          · rename_i hw
            rw [hw] at kv99
            simp only [Option.some.injEq] at hr
            subst hr
            have := end_at e6 ef
            rw [← this]
            simp -implicitDefEqProofs [f_spec_areader_info_8, f_spec_areader_info_7, f_spec_areader_info_6, acallS, reach_succ, s224, s226, s227, s228, q47, q61, k5, k6, acall, h99, kv99, Inf.V, tripV]
          · rename_i hw
            replace hw : mKw W = true := by simpa using hw
            rw [hw] at kv99
            simp -implicitDefEqProofs [f_spec_areader_info_8, f_spec_areader_info_7, f_spec_areader_info_6, acallS, reach_succ, s224, s226, s227, s228, q47, q61, k5, k6, acall, h99, kv99]
            cases hq : rLoop (t5.length + 1) ⟨M, W, [], []⟩ (t5.drop W.length) with
            | none => simp [hq] at hr
            | some R =>
              simp only [hq, Option.map_some, Option.some.injEq] at hr
              subst hr
              exact info_loop (n := t5.length + 1) (x := ⟨M, W, [], []⟩) (p := p6) (ex := []) h99 h102 h112 s224 s226 s227 s228 hlh ef e6 hq rfl
        · rw [if_neg c61] at hr
          simp only [Option.some.injEq] at hr
          subst hr
          have q61 := hasN (c := 61) e3 (by
            intro x hx; simp at hx; subst hx
            exact ne_int (c := 61) c61) hl
          have := end_at e3 ef
          rw [← this]
          simp -implicitDefEqProofs [f_spec_areader_info_8, f_spec_areader_info_7, acallS, reach_succ, s224, s226, s227, s228, q47, q61, Inf.V, tripV]
    by_cases hno : lowS M = sNone0
    · have ht3 : ¬ t3 = [] := fun h => hcond ⟨hno, h⟩
      simp only [sNone0] at hno
      simp -implicitDefEqProofs [f_spec_areader_info_9, acallS, reach_succ, s224, s226, s227, s228, acall, h112, k112, hno, hat, ht3]
      exact rest _
    · simp only [sNone0] at hno
      simp -implicitDefEqProofs [f_spec_areader_info_9, acallS, reach_succ, s224, s226, s227, s228, acall, h112, k112, hno]
      exact rest _
end
theorem rok_info (Γ : Gam) (h99 : Γ.fn 99 = con_MailKeyword) (h102 : Γ.fn 102 = con_MailHalves) (h112 : Γ.fn 112 = con_MailLower) (s224 : Γ.st 224 = con_has) (s226 : Γ.st 226 = con_word) (s227 : Γ.st 227 = con_blank) (s228 : Γ.st 228 = con_value) :
    ∀ args hp q, con_info args hp = some q → runsS Γ c_spec_areader_info args hp (fun v => v = some q) :=
  ok_info h99 h102 h112 s224 s226 s227 s228
end Wax


namespace Wax
open Go (IntKind)

@[simp] theorem trV3_atom (x : List (L8 × L8 × L8)) : atom (tripV x) = true := by cases x <;> rfl
@[simp] theorem trV3_ref (x : List (L8 × L8 × L8)) : hasRef (tripV x) = false := by cases x <;> simp [tripV, hasRef]
@[simp] theorem trV3_kill (x : List (L8 × L8 × L8)) (d : Nat) : kill d (tripV x) = tripV x := by cases x <;> simp [tripV]
@[simp] theorem trV3_snapW (x : List (L8 × L8 × L8)) (g : AV → AV) : snapW g (tripV x) = tripV x := by cases x <;> simp [tripV, snapW]
@[simp] theorem trV3_snap (x : List (L8 × L8 × L8)) (n : Nat) (hp : List (Nat × AObj)) : snap (n + 1) hp (tripV x) = tripV x := by cases x <;> simp [tripV]
@[simp] theorem trV3_cells (x : List (L8 × L8 × L8)) : cells (tripV x) = [tripV x] := by cases x <;> rfl
@[simp] theorem trV3_map (x : List (L8 × L8 × L8)) (g : Nat → Nat) : mapId g (tripV x) = tripV x := by cases x <;> rfl
@[simp] theorem trV3_refs (x : List (L8 × L8 × L8)) : refs (tripV x) = [] := by cases x <;> simp [tripV]
def Inf.cells (x : Inf) : List AV := [.str x.m, .str [], .str x.v, .str x.r, tripV x.ps]
def ifA (l : List Inf) : List AV := l.map Inf.V
def ifC (l : List Inf) : List AV := l.flatMap Inf.cells
@[simp] theorem ifA_nil : ifA [] = [] := rfl
@[simp] theorem ifA_cons {x : Inf} {l} : ifA (x :: l) = .agg x.cells :: ifA l := rfl
@[simp] theorem ifA_app {l m} : ifA (l ++ m) = ifA l ++ ifA m := by simp [ifA]
@[simp] theorem ifC_nil : ifC [] = [] := rfl
@[simp] theorem ifC_cons {x : Inf} {l} : ifC (x :: l) = x.cells ++ ifC l := rfl
@[simp] theorem ifC_app {l m} : ifC (l ++ m) = ifC l ++ ifC m := by simp [ifC]
@[simp] theorem ifcells_length {x : Inf} : x.cells.length = 5 := rfl
@[simp] theorem ifC_length {l : List Inf} : (ifC l).length = l.length * 5 := by induction l <;> simp_all; omega
@[simp] theorem atoms_ifcells {x : Inf} : atoms x.cells = true := by simp [Inf.cells]
@[simp] theorem atoms_ifC {l : List Inf} : atoms (ifC l) = true := by induction l <;> simp_all
@[simp] theorem killL_ifcells {d : Nat} {x : Inf} : killL d x.cells = x.cells := by simp [Inf.cells]
@[simp] theorem killL_ifC {d : Nat} {l : List Inf} : killL d (ifC l) = ifC l := by induction l <;> simp_all
@[simp] theorem snap_ifcells {n : Nat} {hp : List (Nat × AObj)} {x : Inf} : x.cells.map (snap (n + 1) hp) = x.cells := by simp [Inf.cells]
@[simp] theorem map_snap_ifC {n : Nat} {hp : List (Nat × AObj)} {l : List Inf} : (ifC l).map (snap (n + 1) hp) = ifC l := by induction l <;> simp_all
@[simp] theorem hasRefL_ifcells {x : Inf} : hasRefL x.cells = false := by simp [Inf.cells, hasRefL]
@[simp] theorem hasRefL_ifC {l : List Inf} : hasRefL (ifC l) = false := by induction l <;> simp_all [hasRefL]
@[simp] theorem refsL_ifcells {x : Inf} : refsL x.cells = [] := by simp [Inf.cells]
@[simp] theorem refsL_ifC {l : List Inf} : refsL (ifC l) = [] := by induction l <;> simp_all
@[simp] theorem snapWL_ifcells {g : AV → AV} {x : Inf} : snapWL g x.cells = x.cells := by simp [Inf.cells]
@[simp] theorem snapWL_ifC {g : AV → AV} {l : List Inf} : snapWL g (ifC l) = ifC l := by induction l <;> simp_all
@[simp] theorem group_ifC : ∀ {l : List Inf}, group 5 l.length (ifC l) = ifA l
  | [] => rfl
  | x :: l => by
    have h1 : (x.cells ++ ifC l).take 5 = x.cells := List.take_left' rfl
    have h2 : (x.cells ++ ifC l).drop 5 = ifC l := List.drop_left' rfl
    simp only [List.length_cons, group, ifC_cons, h1, h2, ifA_cons, group_ifC (l := l)]
def ifV (l : List Inf) : AV := match l with | [] => .nilS | _ => .sl 5 (ifA l)
/-- A field as it is read. -/
structure AFd where
  id : L8
  ver : L8
  l : List Inf
def AFd.V (f : AFd) : AV := .agg [.str f.id, .str f.ver, ifV f.l]
/-- The results of a field. -/
def aLoop : Nat → Nat → List Inf → L8 → Option (List Inf × Bool)
  | 0, _, _, _ => none
  | k + 1, n, acc, t => match t with
    | [] => some (acc, true)
    | c :: t1 => if c = 59 then (match aInfo t1 with
        | none => none
        | some r => if r.2.2.1 = false ∨ (r.2.1 = true ∧ n ≠ 0) then some (acc, false) else aLoop k (n + 1) (if r.2.1 = true then acc else acc ++ [r.1]) r.2.2.2)
      else some (acc, false)
def aRest (id ver t : L8) : Option (AFd × Bool) := (aLoop (t.length + 1) 0 [] t).map fun r => (⟨id, ver, r.1⟩, r.2)
def aField (s : L8) : Option (AFd × Bool) := match bB s with
  | none => none
  | some t1 =>
    if (rVal [64] t1).2.1 = false then some (⟨[], [], []⟩, false)
    else match bB (t1.drop (rVal [64] t1).2.2) with
      | none => none
      | some t2 =>
        if t2 = [] ∨ t2.head? = some 59 then aRest (rVal [64] t1).1 [] t2
        else if rWd [] t2 = [] then some (⟨(rVal [64] t1).1, [], []⟩, false)
        else match bB (t2.drop (rWd [] t2).length) with
          | none => none
          | some t3 => aRest (rVal [64] t1).1 (rWd [] t2) t3
def qrt : Nat := 274877906944
def con_ARead : List AV → Option AV
  | [.str s] => if s.length < qrt then (aField s).map fun r => .tup [r.1.V, .bool r.2] else none
  | _ => none
theorem infoA {S p t : L8} {r : Inf × Bool × Bool × L8} (e : S = p ++ t) (hr : aInfo t = some r) (hl : S.length < half) : ∃ p', S = p' ++ r.2.2.2 ∧ con_info [.ref 0 0] [(0, .cells [.str S, .int .i64 (p.length : Int)])] = some (.tup [r.1.V, .bool r.2.1, .bool r.2.2.1], [(0, .cells [.str S, .int .i64 (p'.length : Int)])]) := by
  subst e
  obtain ⟨d, hd⟩ := aInfo_sf hr
  refine ⟨p ++ d, by rw [List.append_assoc, hd], ?_⟩
  have hk : t.length - r.2.2.2.length = d.length := by rw [← hd]; simp
  have := rdMk_at (lim := half) (f := fun t => (aInfo t).map fun r => (.tup [r.1.V, .bool r.2.1, .bool r.2.2.1], t.length - r.2.2.2.length)) (p := p) (t := t) (v := .tup [r.1.V, .bool r.2.1, .bool r.2.2.1]) (k := d.length) (by simp [hr, hk]) hl
  simp only [con_info, this, List.length_append]
section
variable {Γ : Gam} (s224 : Γ.st 224 = con_has) (s226 : Γ.st 226 = con_word) (s227 : Γ.st 227 = con_blank) (s228 : Γ.st 228 = con_value) (s229 : Γ.st 229 = con_info)
include s224 s226 s227 s228 s229
set_option maxRecDepth 100000 in
set_option maxHeartbeats 8000000 in
theorem aread_loop {S : L8} (hlq : S.length < qrt) {id ver : L8} {R : List Inf × Bool} {p t : L8} (e : S = p ++ t) (hR : aLoop (t.length + 1) 0 [] t = some R) {ex : List (Nat × AV)} :
    awp Γ f_spec_ARead_3 (finQ [.c (some 3) 2, .t 3] fun v => v = .tup [(⟨id, ver, R.1⟩ : AFd).V, .bool R.2]) ⟨(2, .ref 2 0) :: (4, .ref 14 0) :: (5, .ref 5 0) :: ex, [(14, .cells [.str S, .int .i64 (p.length : Int)]), (5, .cells [.str id, .str ver, .nilS]), (2, .cells [.str [], .str [], .nilS])]⟩ := by
  simp -implicitDefEqProofs [f_spec_ARead_3]
  refine awp_loop2 (σ := List Inf × L8 × L8 × Nat × Nat) (fun q => ⟨[(2, .ref 2 0), (4, .ref 14 0), (5, .ref 5 0), (8, .int .i64 (q.2.2.2.1 : Int))], grH 106 q.1.length (ifC q.1) ++ [(14, .cells [.str S, .int .i64 (q.2.1.length : Int)]), (5, .cells [.str id, .str ver, grV 106 5 q.1.length]), (2, .cells [.str [], .str [], .nilS])]⟩)
    (fun q => S = q.2.1 ++ q.2.2.1 ∧ aLoop q.2.2.2.2 q.2.2.2.1 q.1 q.2.2.1 = some R ∧ q.1.length + q.2.2.1.length ≤ S.length ∧ q.2.2.2.1 + q.2.2.1.length ≤ S.length ∧ q.1.length ≤ q.2.2.2.1) (fun q => q.2.2.2.2) ([], p, t, 0, t.length + 1) (by simp) ⟨e, hR, by rw [e]; simp, by rw [e]; simp, by simp⟩ ?_
  clear hR e
  have hlh : S.length < half := by simp only [qrt] at hlq; simp only [half]; omega
  simp only [qrt] at hlq
  have hl : S.length < mid := by simp only [half] at hlh; simp only [mid]; omega
  rintro ⟨acc, p, t, n, k⟩ ⟨e, hR, hal, hnl, han⟩ LQ hLQ
  simp only at e hR hal hnl han
  obtain ⟨k, rfl⟩ : ∃ j, k = j + 1 := by
    cases k with
    | zero => simp [aLoop] at hR
    | succ k => exact ⟨k, rfl⟩
  have hSl := congrArg List.length e
  simp only [List.length_append] at hSl
  have hn0 : (0 < (n : Int)) = (n ≠ 0) := by apply propext; omega
  simp only [half] at hlh
  have ew : IntKind.i64.wrap ((n : Int) + 1) = (n : Int) + 1 := wrap64 (by omega) (by omega)
  cases acc with
  | nil =>
    cases t with
    | nil =>
      simp only [aLoop, Option.some.injEq] at hR
      subst hR
      have hat : (p.length : Int) = (S.length : Int) := by simp at hSl; omega
      have hnlt : ¬ (S.length : Int) < (S.length : Int) := by omega
      simp -implicitDefEqProofs [b_spec_ARead_1, t_spec_ARead_2, acallS, reach_succ, s224, s226, s227, s228, s229, hat, hnlt, AFd.V, ifV]
    | cons c t1 =>
    have hlt : (p.length : Int) < (S.length : Int) := by simp only [List.length_cons] at hSl; omega
    simp only [aLoop] at hR
    by_cases c59 : c = 59
    rotate_left
    · rw [if_neg c59] at hR
      simp only [Option.some.injEq] at hR
      subst hR
      have q59 := hasN (c := 59) e (by
            intro x hx; simp at hx; subst hx
            exact ne_int (c := 59) c59) hl
      simp -implicitDefEqProofs [b_spec_ARead_1, t_spec_ARead_2, acallS, reach_succ, s224, s226, s227, s228, s229, hlt, q59, AFd.V, ifV]
    rw [if_pos c59] at hR
    obtain ⟨p1, e1, q59⟩ := hasA (c := 59) e (by rw [c59]; rfl) hl
    split at hR
    · simp at hR
    rename_i r hr
    obtain ⟨p2, e2, k2⟩ := infoA e1 hr hlh
    have l2 := (aInfo_sf hr).length_le
    simp only [List.length_cons] at hal hnl
    clear hr
    obtain ⟨⟨m, v, r, ps⟩, no, ok, t2⟩ := r
    simp only [Inf.V] at hR k2 e2 l2
    split at hR
    · rename_i hbad
      simp only [Option.some.injEq] at hR
      subst hR
      cases ok with
      | false =>
        simp -implicitDefEqProofs [b_spec_ARead_1, acallS, reach_succ, s224, s226, s227, s228, s229, hlt, q59, k2, AFd.V, ifV]
      | true =>
        simp at hbad
        obtain ⟨rfl, hbad⟩ := hbad
        have hn1 : ¬ n = 0 := hbad
        simp -implicitDefEqProofs [b_spec_ARead_1, acallS, reach_succ, s224, s226, s227, s228, s229, hlt, q59, k2, AFd.V, ifV, hn0, hn1]
    · rename_i hbad
      simp at hbad
      obtain ⟨rfl, hbad⟩ := hbad
      cases no with
      | false =>
        simp -implicitDefEqProofs [b_spec_ARead_1, acallS, reach_succ, s224, s226, s227, s228, s229, hlt, q59, k2, ew]
        exact hLQ ([] ++ [⟨m, v, r, ps⟩], p2, t2, n + 1, k) ⟨e2, by simpa using hR, by simp at hal ⊢; omega, by simp; omega, by simp at han ⊢; try omega⟩ (by simp) _ (by simp [Inf.cells])
      | true =>
        have hn1 : n = 0 := hbad rfl
        simp -implicitDefEqProofs [b_spec_ARead_1, acallS, reach_succ, s224, s226, s227, s228, s229, hlt, q59, k2, ew, hn0, hn1]
        exact hLQ ([], p2, t2, n + 1, k) ⟨e2, by simpa using hR, by simp at hal ⊢; omega, by simp; omega, by simp at han ⊢; try omega⟩ (by simp) _ (by simp [hn1, show IntKind.i64.wrap 1 = 1 by decide])
  | cons y ys =>
    obtain ⟨acc, hps⟩ : ∃ l, l = y :: ys := ⟨_, rfl⟩
    have hk : acc.length = ys.length + 1 := by rw [hps]; rfl
    rw [← hps] at hR hLQ hal han ⊢
    have hG : group 5 (ys.length + 1) (ifC acc) = ifA acc := by rw [← hk]; exact group_ifC
    have hT : ifV acc = .sl 5 (ifA acc) := by rw [hps]; rfl
    have hRf : hasRefL (ifC acc) = false := hasRefL_ifC
    have hTk : List.take ((ys.length + 1) * 5) (ifC acc) = ifC acc := by rw [← hk]; exact List.take_of_length_le (by simp)
    clear hps
    cases t with
    | nil =>
      simp only [aLoop, Option.some.injEq] at hR
      subst hR
      have hat : (p.length : Int) = (S.length : Int) := by simp at hSl; omega
      have hnlt : ¬ (S.length : Int) < (S.length : Int) := by omega
      simp -implicitDefEqProofs [b_spec_ARead_1, t_spec_ARead_2, acallS, reach_succ, s224, s226, s227, s228, s229, hk, hG, hT, hRf, hTk, hat, hnlt, AFd.V]
    | cons c t1 =>
    have hlt : (p.length : Int) < (S.length : Int) := by simp only [List.length_cons] at hSl; omega
    simp only [aLoop] at hR
    by_cases c59 : c = 59
    rotate_left
    · rw [if_neg c59] at hR
      simp only [Option.some.injEq] at hR
      subst hR
      have q59 := hasN (c := 59) e (by
            intro x hx; simp at hx; subst hx
            exact ne_int (c := 59) c59) hl
      simp -implicitDefEqProofs [b_spec_ARead_1, t_spec_ARead_2, acallS, reach_succ, s224, s226, s227, s228, s229, hk, hG, hT, hRf, hTk, hlt, q59, AFd.V]
    rw [if_pos c59] at hR
    obtain ⟨p1, e1, q59⟩ := hasA (c := 59) e (by rw [c59]; rfl) hl
    split at hR
    · simp at hR
    rename_i r hr
    obtain ⟨p2, e2, k2⟩ := infoA e1 hr hlh
    have l2 := (aInfo_sf hr).length_le
    simp only [List.length_cons] at hal hnl
    clear hr
    obtain ⟨⟨m, v, r, ps⟩, no, ok, t2⟩ := r
    simp only [Inf.V] at hR k2 e2 l2
    split at hR
    · rename_i hbad
      simp only [Option.some.injEq] at hR
      subst hR
      cases ok with
      | false =>
        simp -implicitDefEqProofs [b_spec_ARead_1, acallS, reach_succ, s224, s226, s227, s228, s229, hk, hG, hT, hRf, hTk, hlt, q59, k2, AFd.V]
      | true =>
        simp at hbad
        obtain ⟨rfl, hbad⟩ := hbad
        have hn1 : ¬ n = 0 := hbad
        simp -implicitDefEqProofs [b_spec_ARead_1, acallS, reach_succ, s224, s226, s227, s228, s229, hk, hG, hT, hRf, hTk, hlt, q59, k2, AFd.V, hn0, hn1]
    · rename_i hbad
      simp at hbad
      obtain ⟨rfl, hbad⟩ := hbad
      cases no with
      | false =>
        simp -implicitDefEqProofs [b_spec_ARead_1, acallS, reach_succ, s224, s226, s227, s228, s229, hk, hG, hT, hRf, hTk, hlt, q59, k2, ew]
        refine ⟨by omega, ?_⟩
        exact hLQ (acc ++ [⟨m, v, r, ps⟩], p2, t2, n + 1, k) ⟨e2, by simpa using hR, by simp at hal ⊢; omega, by simp; omega, by simp at han ⊢; try omega⟩ (by simp) _ (by simp [hk, Inf.cells])
      | true =>
        have hn1 : n = 0 := hbad rfl
        omega
set_option maxRecDepth 100000 in
set_option maxHeartbeats 4000000 in
theorem ok_ARead : ∀ args r, con_ARead args = some r → runs Γ c_spec_ARead args (fun v => v = r) := by
  intro args r h
  simp only [con_ARead] at h
  split at h <;> (try simp at h; done)
  rename_i S
  split at h <;> (try simp at h; done)
  rename_i hlq
  have hlh : S.length < half := by simp only [qrt] at hlq; simp only [half]; omega
  have hl : S.length < mid := by simp only [half] at hlh; simp only [mid]; omega
  simp only [Option.map_eq_some_iff] at h
  obtain ⟨q, hq, rfl⟩ := h
  have e0 : S = [] ++ S := rfl
  unfold aField at hq
  split at hq
  · simp at hq
  rename_i t1 h1
  obtain ⟨_, rfl, hb1⟩ := bB_le h1
  obtain ⟨p1, e1, k1⟩ := blankA e0 hb1 hl
  obtain ⟨p2, e2, k2⟩ := valueA (m := [64]) e1 (by simp [big]) hl
  simp only [List.length_nil, Int.natCast_zero] at k1
  generalize rB S = t1 at *
  generalize rVal [64] t1 = V at *
  obtain ⟨id, ok, n⟩ := V
  simp only at hq e2 k2
  cases ok with
  | false =>
    simp only [if_pos, Option.some.injEq] at hq
    subst hq
    simp -implicitDefEqProofs [c_spec_ARead, f_spec_ARead_5, acallS, reach_succ, s224, s226, s227, s228, s229, k1, k2, AFd.V, ifV]
  | true =>
  simp only [Bool.true_eq_false, if_false] at hq
  split at hq
  · simp at hq
  rename_i t2 h2
  obtain ⟨_, rfl, hb2⟩ := bB_le h2
  obtain ⟨p3, e3, k3⟩ := blankA e2 hb2 hl
  generalize rB (t1.drop n) = t2 at *
  have hS3 := congrArg List.length e3
  simp only [List.length_append] at hS3
  unfold aRest at hq
  cases t2 with
  | nil =>
    simp only [true_or, if_true, Option.map_eq_some_iff] at hq
    obtain ⟨R, hR, rfl⟩ := hq
    have hat : ¬ ((p3.length : Int) < (S.length : Int)) := by simp at hS3; omega
    have hat' : ¬ (p3.length < S.length) := by omega
    simp -implicitDefEqProofs [c_spec_ARead, f_spec_ARead_5, f_spec_ARead_4, acallS, reach_succ, s224, s226, s227, s228, s229, k1, k2, k3, hat, hat']
    exact aread_loop (ex := []) s224 s226 s227 s228 s229 hlq e3 hR
  | cons c t3 =>
    have hlt : (p3.length : Int) < (S.length : Int) := by simp only [List.length_cons] at hS3; omega
    have hlt' : p3.length < S.length := by omega
    have g : S[p3.length]? = some c := by rw [e3]; exact get_mid rfl
    have g' : S[p3.length]'hlt' = c := by rw [List.getElem?_eq_getElem hlt'] at g; exact Option.some.inj g
    by_cases c59 : c = 59
    · rw [if_pos (.inr (by rw [c59]; rfl))] at hq
      simp only [Option.map_eq_some_iff] at hq
      obtain ⟨R, hR, rfl⟩ := hq
      have hc : (c.toNat : Int) = 59 := by rw [c59]; rfl
      simp -implicitDefEqProofs [c_spec_ARead, f_spec_ARead_5, f_spec_ARead_4, acallS, reach_succ, s224, s226, s227, s228, s229, k1, k2, k3, hlt, hlt', g, g', hc]
      exact aread_loop (ex := []) s224 s226 s227 s228 s229 hlq e3 hR
    have hc : ¬ (c.toNat : Int) = 59 := ne_int (c := 59) c59
    rw [if_neg (by simp [c59])] at hq
    obtain ⟨p4, e4, k4⟩ := wordA (m := []) e3 (by simp [big]) hl
    simp -implicitDefEqProofs [c_spec_ARead, f_spec_ARead_5, f_spec_ARead_4, acallS, reach_succ, s224, s226, s227, s228, s229, k1, k2, k3, hlt, hlt', g, g', hc, k4]
    generalize rWd [] (c :: t3) = W at *
    by_cases hW : W = []
    · rw [if_pos hW] at hq
      simp only [Option.some.injEq] at hq
      subst hq
      subst hW
      simp -implicitDefEqProofs [AFd.V, ifV]
    rw [if_neg hW] at hq
    split at hq
    · simp at hq
    rename_i t5 h5
    obtain ⟨_, rfl, hb5⟩ := bB_le h5
    obtain ⟨p5, e5, k5⟩ := blankA e4 hb5 hl
    simp only [Option.map_eq_some_iff] at hq
    obtain ⟨R, hR, rfl⟩ := hq
    simp -implicitDefEqProofs [acallS, reach_succ, s224, s226, s227, s228, s229, k5, hW]
    exact aread_loop (ex := []) s224 s226 s227 s228 s229 hlq e5 hR
end
theorem rok_ARead (Γ : Gam) (s224 : Γ.st 224 = con_has) (s226 : Γ.st 226 = con_word) (s227 : Γ.st 227 = con_blank) (s228 : Γ.st 228 = con_value) (s229 : Γ.st 229 = con_info) :
    ∀ args r, con_ARead args = some r → runs Γ c_spec_ARead args (fun v => v = r) :=
  ok_ARead s224 s226 s227 s228 s229
end Wax


namespace Wax
open Go (IntKind)

theorem k_text2 {i fm : L8} {v f : AV} {l : List AR} (hv : slAR v = some l) (hf : slBytes f = some fm) (h1 : aFits l = true) (h2 : (aTextOf i l fm).length < qtr) : con_AText [.str i, v, f] = some (.str (aTextOf i l fm)) := by
  simp only [con_AText, hv, hf]
  exact if_pos ⟨h1, h2⟩
end Wax


namespace Wax
open Go (IntKind)

set_option maxRecDepth 100000 in
theorem kw_tok (c : UInt8) (h : kwB c = true) : tokB c = true := by
  have all : ∀ n : Fin 256, kwB (UInt8.ofNat n.1) = true → tokB (UInt8.ofNat n.1) = true := by decide
  have := all ⟨c.toNat, c.toNat_lt⟩
  simp only [UInt8.ofNat_toNat] at this
  exact this h
theorem split_all {P : UInt8 → Prop} {b : UInt8} (hb : P b) : ∀ {v : L8}, (∀ p ∈ splitB b v, ∀ x ∈ p, P x) → ∀ x ∈ v, P x
  | [], _, x, hx => by simp at hx
  | c :: r, h, x, hx => by
    simp only [splitB] at h
    split at h
    · rename_i e
      rcases List.mem_cons.1 hx with rfl | hx
      · rw [e]; exact hb
      · exact split_all hb (v := r) (fun p hp => h p (by simp [hp])) x hx
    · cases hs : splitB b r with
      | nil => exact absurd hs (splitB_ne b r)
      | cons p t =>
        rw [hs] at h
        simp only at h
        rcases List.mem_cons.1 hx with rfl | hx
        · exact h (x :: p) (by simp) x (by simp)
        · refine split_all hb (v := r) ?_ x hx
          intro q hq y hy
          rw [hs] at hq
          rcases List.mem_cons.1 hq with rfl | hq
          · exact h (c :: q) (by simp) y (by simp [hy])
          · exact h q (by simp [hq]) y hy
theorem plain_tk {s : L8} (h : aPlain s = true) : (∀ x ∈ s, tkC [64] x = true) ∧ s ≠ [] := by
  refine ⟨?_, (aPlain_g h).2.1⟩
  have tk : ∀ x, tokB x = true → tkC [64] x = true := fun x hx => by simp [tkC, hx]
  have tok : ∀ {s : L8}, mTok s = true → ∀ x ∈ s, tkC [64] x = true := fun hs x hx => by
    simp only [mTok, Bool.and_eq_true] at hs
    exact tk x (List.all_eq_true.1 hs.1 x hx)
  unfold aPlain at h
  split at h
  · simp only [Bool.and_eq_true, decide_eq_true_eq] at h
    exact tok h.1
  · rename_i q hq
    simp only [Bool.and_eq_true, Bool.or_eq_true, decide_eq_true_eq] at h
    have e := cut_mem (c := 64) hq
    rw [e]
    intro x hx
    simp only [List.mem_append, List.mem_cons] at hx
    rcases hx with hx | rfl | hx
    · rcases h.1.1 with h1 | h1
      · rw [h1] at hx; simp at hx
      · exact tok h1 x hx
    · decide
    · have hd := h.1.2
      simp only [mDom, Bool.and_eq_true] at hd
      refine split_all (P := fun x => tkC [64] x = true) (b := 46) (by decide) (fun p hp x hx => ?_) x hx
      have := List.all_eq_true.1 hd.1 p hp
      simp only [Bool.and_eq_true, mKw] at this
      exact tk x (kw_tok x (List.all_eq_true.1 this.1.1.1.1 x hx))
set_option maxRecDepth 100000 in
theorem tkC_head {x : UInt8} (h : tkC [64] x = true) : ws4 x = false ∧ x ≠ 40 ∧ x ≠ 34 := by
  have all : ∀ n : Fin 256, tkC [64] (UInt8.ofNat n.1) = true → ws4 (UInt8.ofNat n.1) = false ∧ UInt8.ofNat n.1 ≠ 40 ∧ UInt8.ofNat n.1 ≠ 34 := by decide
  have := all ⟨x.toNat, x.toNat_lt⟩
  simp only [UInt8.ofNat_toNat] at this
  exact this h
/-- An identifier, and what stands behind it. -/
theorem id_read {i r : L8} (hi : aPlain i = true) (hr : r.head? = some 59) : bB (i ++ r) = some (i ++ r) ∧ rVal [64] (i ++ r) = (i, true, i.length) ∧ bB r = some r := by
  obtain ⟨h1, h2⟩ := plain_tk hi
  cases r with
  | nil => simp at hr
  | cons d r =>
  simp only [List.head?_cons, Option.some.injEq] at hr
  subst hr
  cases i with
  | nil => exact absurd rfl h2
  | cons c i =>
    obtain ⟨k1, k2, k3⟩ := tkC_head (h1 c (by simp))
    have hw : rWd [64] (c :: i ++ 59 :: r) = c :: i := by
      have e : tkC [64] 59 = false := by decide
      rw [rWd, List.takeWhile_append_of_pos (fun x hx => h1 x hx), List.takeWhile_cons, e]
      simp
    refine ⟨?_, ?_, ?_⟩
    · simp [bB, rB, List.dropWhile_cons, k1, k2]
    · simp only [rVal, List.cons_append, if_neg k3]
      rw [List.cons_append] at hw
      simp [hw]
    · have : ws4 59 = false := by decide
      simp [bB, rB, List.dropWhile_cons, this]
def sNoneT : L8 := [59, 32, 110, 111, 110, 101]
theorem none_loop : aLoop 7 0 [] sNoneT = some ([], true) := by rfl
theorem none_field {i : L8} (hi : aPlain i = true) : aField (i ++ sNoneT) = some (⟨i, [], []⟩, true) := by
  obtain ⟨h1, h2, h3⟩ := id_read hi (r := sNoneT) rfl
  unfold aField
  rw [h1]
  simp only [h2, Bool.true_eq_false, if_false, List.drop_left, h3]
  rw [if_pos (.inr rfl)]
  show (aLoop 7 0 [] sNoneT).map _ = _
  rw [none_loop]; rfl

def con_Format : List AV → Option AV
  | [.str i, .nilS] => if i.length < qrt then some (.str (i ++ sNoneT)) else none
  | _ => none
theorem ok_Format (Γ : Gam) : ∀ args r, con_Format args = some r → runs Γ c_authres_Format args (fun v => v = r) := by
  intro args r h
  simp only [con_Format] at h
  split at h <;> (try simp at h; done)
  rename_i i
  obtain ⟨h1, rfl⟩ := ite_some h
  simp only [qrt] at h1
  simp -implicitDefEqProofs [c_authres_Format, sNoneT]
  omega
def con_AFormat : List AV → Option AV
  | [.str i, .nilS] => if i.length < qrt then some (.str (i ++ sNoneT)) else none
  | _ => none
theorem ok_AFormat (Γ : Gam) (h236 : Γ.fn 236 = con_Format) : ∀ args r, con_AFormat args = some r → runs Γ c_impl_AFormat args (fun v => v = r) := by
  intro args r h
  simp only [con_AFormat] at h
  split at h <;> (try simp at h; done)
  rename_i i
  obtain ⟨h1, rfl⟩ := ite_some h
  have k : con_Format [.str i, .nilS] = some (.str (i ++ sNoneT)) := if_pos h1
  simp -implicitDefEqProofs [c_impl_AFormat]
  refine awp_loop2 (σ := Unit) (fun _ => ⟨[(0, .str i), (5, .nilS), (8, .nilS), (9, .int .i64 0), (10, .int .i64 0)], []⟩) (fun _ => True) (fun _ => 0) () (by simp) trivial ?_
  intro _ _ LQ hLQ
  simp -implicitDefEqProofs [acall, h236, k]

def con_FnAuthNone : List AV → Option AV
  | [.str i, .int .u8 z] => if i.length < 9223372036854775808 ∧ 0 ≤ z ∧ z < 256 then some (.bool true) else none
  | _ => none
set_option maxRecDepth 100000 in
set_option maxHeartbeats 4000000 in
theorem ok_FnAuthNone (Γ : Gam) (h204 : Γ.fn 204 = con_APlain) (h233 : Γ.fn 233 = con_AFormat) (h234 : Γ.fn 234 = con_ARead) (h216 : Γ.fn 216 = con_AText) (h144 : Γ.fn 144 = con_AParse) (h137 : Γ.fn 137 = con_awake) :
    ∀ args r, con_FnAuthNone args = some r → runs Γ c_laws_FnAuthNone args (fun v => v = r) := by
  intro args r h
  simp only [con_FnAuthNone] at h
  split at h <;> (try simp at h; done)
  rename_i i z
  obtain ⟨⟨h1, hz⟩, rfl⟩ := ite_some h
  clear h
  have k6 : con_awake [] = some (.bool true) := rfl
  by_cases b1 : (2147483647 : Int) < (i.length : Int)
  · simp -implicitDefEqProofs [c_laws_FnAuthNone, b1]
  have kp := plain_con (s := i) (by simp only [mid]; omega)
  cases b4 : aPlain i with
  | false =>
    rw [b4] at kp
    simp -implicitDefEqProofs [c_laws_FnAuthNone, b1, acall, h204, kp]
  | true =>
    rw [b4] at kp
    have g3 := (aPlain_g b4).2.2
    have kf : con_AFormat [.str i, .nilS] = some (.str (i ++ sNoneT)) := if_pos (by simp only [qrt]; omega)
    have kr : con_ARead [.str (i ++ sNoneT)] = some (.tup [.agg [.str i, .str [], .nilS], .bool true]) := by
      simp only [con_ARead, none_field b4]
      exact if_pos (by simp only [List.length_append, sNoneT, List.length_cons, List.length_nil, qrt]; omega)
    obtain ⟨n, hn, rfl⟩ : ∃ n : Nat, n < 256 ∧ z = (n : Int) := ⟨z.toNat, by omega, by omega⟩
    have hx : ((UInt8.ofNat n).toNat : Int) = (n : Int) := by simp; omega
    generalize hf : ([UInt8.ofNat n] : L8) = fm at *
    have hsb : slBytes (.sl 1 [.int .u8 (n : Int)]) = some fm := by
      rw [← hf, ← hx]
      exact bytesOf_bcA (o := [UInt8.ofNat n])
    have fits0 : aFits ([].map AR.only) = true := by decide
    have L0 : LawAR [] := ⟨by simp, by simp⟩
    have hlen : (aTextOf i ([].map AR.only) fm).length < qtr := by
      have := aSp_le3 (nx fm 1)
      simp only [aTextOf, List.map_nil, aParts, if_true, List.length_append, List.length_cons, sNone0, List.length_nil, qtr]
      simp [flatP]
      omega
    obtain ⟨R, ka, eR⟩ := law_text b4 L0 fits0 fm hlen
    have eR0 : R = [] := eR
    subst eR0
    have kt := k_text2 (i := i) (v := .nilS) (f := .sl 1 [.int .u8 (n : Int)]) (l := []) rfl hsb fits0 hlen
    simp only [List.map_nil] at ka kt
    generalize aTextOf i [] fm = T at *
    simp only [arV] at ka
    simp -implicitDefEqProofs [c_laws_FnAuthNone, b1, acall, h204, kp, h233, kf, h234, kr, h216, kt, h144, ka, h137, k6]
end Wax


namespace Wax
open Go Go.RowKit

theorem repSl_mk {T : Tab} {w : World} {F : Frz} {b : Nat} (hF : F b) : ∀ (l : List (List UInt8)) (o : Nat), (∀ (j : Nat) s, l[j]? = some s → w.cell? ⟨b, o + j, none⟩ = some (.string ⟨s.toArray⟩)) → RepSl T w F 1 b o (strsA l)
  | [], _, _ => trivial
  | x :: r, o, h => by
    simp only [strsA, List.map_cons, RepSl]
    refine ⟨trivial, ⟨hF, _, by simpa using h 0 x rfl, by simp [Rep]⟩, ?_⟩
    exact repSl_mk hF r (o + 1) fun j s hj => by
      rw [show o + 1 + j = o + (j + 1) by omega]
      exact h (j + 1) s (by simpa using hj)

theorem owned_strs {T : Tab} {w w' : World} {F : Frz} {e9 : TypeId} {v' : Value} {l : List (List UInt8)} (ho : w'.ownsRow w.heap.size e9 1 v' l.length (l.map fun s => Value.string ⟨s.toArray⟩)) (hn : v' ≠ .slice none 0 0) :
    Rep T w' (fun b => F b ∨ (w.heap.size ≤ b ∧ b < w'.heap.size)) noRho (.sl 1 (strsA l)) v' := by
  have ho' := ho
  obtain ⟨_, hx⟩ := ho
  rcases hx with ⟨he, _⟩ | ⟨g, cap, cur, rfl, hg, hh, hcap, _, _, _⟩
  · exact absurd he hn
  · simp only [Rep]
    refine .inl ⟨g, 0, cap, by simp, by simpa using hcap, ?_⟩
    have hgl : g < w'.heap.size := by
      rcases Nat.lt_or_ge g w'.heap.size with h | h
      · exact h
      · rw [Array.getElem?_eq_none h] at hh; simp at hh
    refine repSl_mk (.inr ⟨hg, hgl⟩) l 0 fun j s hj => ?_
    have := ho'.cells (g := g) rfl j (.string ⟨s.toArray⟩) (by rw [List.getElem?_map, hj]; rfl)
    have e : ((⟨g, 0, none⟩ : Addr).add j) = ⟨g, 0 + j, none⟩ := by
      cases j <;> simp [Addr.add]
    rw [e] at this
    exact this

end Wax


namespace Wax
open Go Go.RowKit Go.Proofs

/-- Nothing is read of the values. -/
def noVal : Value → Option (DataW Nat × List MemPlace) := fun _ => some (.nil, [])

/-- What the shelf says of slices.Sorted at what maps.Keys hands back, in one piece. -/
def SortedSays (P : Program) (T : Tab) (f g : FuncId) : Prop :=
  (∀ h, lkN T.fns h = some 55 → h = g) ∧ ∃ e9 k : TypeId, P.underlying k = some .string ∧
  ∀ (Bm b nn : Nat) (D0 : DataW Nat) (w : World), Bm < w.heap.size → w.cell? ⟨Bm, 0, none⟩ = some (.map (some b)) → w.ownsMap P k noVal b nn D0 → Maps.size D0 ≤ maxLen → Maps.size D0 * 16 ≤ 140737488355328 →
    Calls P f #[.func (.func g) #[] #[.pointer (some ⟨Bm, 0, none⟩)]] w fun e w' => ∃ (v : Value) (ss : List (List UInt8)), e = .returned v ∧ ss.Perm (Go.strKeys D0) ∧
      w'.ownsRow w.heap.size e9 1 v ss.length ((ss.mergeSort (fun x y => decide (x ≤ y))).map encStr) ∧ (v = .slice none 0 0 ↔ ss = []) ∧ Below w.heap.size w w'

theorem repM_keyList {T : Tab} {w : World} {F : Frz} : ∀ {es : List (List UInt8 × AV)} {l : List MapEntry}, RepM T w F es l → l.map (·.key) = es.map fun p => Value.string ⟨p.1.toArray⟩
  | [], [], _ => rfl
  | (k, c) :: r, e :: s, h => by
    simp only [RepM] at h
    simp only [List.map_cons, h.1, repM_keyList h.2.2]
  | [], _ :: _, h => by simp [RepM] at h
  | _ :: _, [], h => by simp [RepM] at h

theorem ok_Sorted {P : Program} {T : Tab} {f g : FuncId} (H : SortedSays P T f g) : ∀ args r, con_Sorted args = some r → OkCall P T f args r := by
  intro args r h w F vs hF _ hx
  obtain ⟨hinj, e9, k, hk, H⟩ := H
  simp only [con_Sorted] at h
  split at h <;> (try simp at h; done)
  rename_i es
  obtain ⟨⟨hlen, hkl⟩, rfl⟩ := ite_some h
  clear h
  simp only [half] at hlen
  match vs, hx with
  | [v], hx =>
    simp only [RepL, and_true] at hx
    simp only [Rep] at hx
    obtain ⟨f', vs', rfl, hf', hcap⟩ := hx
    obtain rfl := hinj f' hf'
    obtain ⟨l⟩ := vs'
    match l, hcap with
    | [p], hcap =>
      simp only [RepL, and_true, Rep] at hcap
      obtain ⟨Bm, rfl, hat⟩ := hcap
      simp only [RepAt, and_true] at hat
      obtain ⟨hFB, x, hcell, hmp⟩ := hat
      simp only [Rep] at hmp
      obtain ⟨b, ents, clk, rfl, hFb, hheap, ⟨el, hpe, hM⟩, hst⟩ := hmp
      have hBm : Bm < w.heap.size := hF Bm hFB
      have hkeys : (ents.toList.map (·.key)).Perm (es.map fun p => Value.string ⟨p.1.toArray⟩) := by
        rw [← repM_keyList hM]; exact (hpe.map _).symm
      have hsz : ents.size = es.length := by
        have := hkeys.length_eq
        simpa using this
      have hread : ∀ x ∈ ents.toList, ∃ s : List UInt8, x.key = .string ⟨s.toArray⟩ ∧ keyOf P k x.key = some (.string s) := by
        intro x hx
        have hm : x.key ∈ ents.toList.map (·.key) := List.mem_map_of_mem hx
        rw [hkeys.mem_iff, List.mem_map] at hm
        obtain ⟨q, hq, e⟩ := hm
        refine ⟨q.1, e.symm, ?_⟩
        have hs := hkl q hq
        simp only [half] at hs
        rw [← e]
        have hsz : (⟨q.1.toArray⟩ : ByteArray).size = q.1.length := by show q.1.toArray.size = _; simp
        have := Go.WideMaps.keyOf_string_mk hk (s := ⟨q.1.toArray⟩) (by rw [hsz]; simp only [maxLen]; omega)
        simpa using this
      have hown : w.ownsMap P k noVal b ents.size (.map ((ents.toList.map (WideElems.rg P k noVal)).foldr DataW.insert [])) := by
        refine ⟨ents, clk, hheap, ⟨by rw [hsz]; simp only [maxLen]; omega, hst, fun x hx => ?_⟩, Nat.le_refl _, rfl⟩
        obtain ⟨s, _, hs⟩ := hread x hx
        exact ⟨_, WideElems.rd_mk (val := x.val) (born := x.born) hs rfl⟩
      have hds : Maps.size (.map ((ents.toList.map (WideElems.rg P k noVal)).foldr DataW.insert [])) = es.length := by
        simp only [Maps.size]
        rw [(WideShapes.sorted_perm _).length_eq]
        simp [hsz]
      have hsk : (Go.strKeys (.map ((ents.toList.map (WideElems.rg P k noVal)).foldr DataW.insert []))).Perm (es.map (·.1)) := by
        simp only [Go.strKeys]
        refine ((WideShapes.sorted_perm _).map _).trans ?_
        have : ((ents.toList.map (WideElems.rg P k noVal)).map (fun p => Go.strOf p.1)).Perm (es.map (·.1)) := by
          rw [List.map_map]
          have e1 : ents.toList.map ((fun p => Go.strOf p.1) ∘ WideElems.rg P k noVal) = (ents.toList.map (·.key)).map (fun v => match v with | .string s => s.data.toList | _ => []) := by
            rw [List.map_map]
            refine List.map_congr_left fun x hx => ?_
            obtain ⟨s, h1, h2⟩ := hread x hx
            have h3 := WideElems.rg_of (WideElems.rd_mk (R := noVal) (val := x.val) (born := x.born) h2 rfl)
            simp only [Function.comp_apply]
            rw [show x = ⟨x.key, x.val, x.born⟩ from rfl, h3, h1]
            rfl
          have e2 : (es.map fun p => Value.string ⟨p.1.toArray⟩).map (fun v => match v with | .string s => s.data.toList | _ => []) = es.map (·.1) := by
            rw [List.map_map]
            refine List.map_congr_left fun x _ => ?_
            simp
          rw [e1, ← e2]
          exact hkeys.map _
        exact this
      refine (H Bm b ents.size _ w hBm hcell hown (by rw [hds]; simp only [maxLen]; omega) (by rw [hds]; omega)).mono ?_
      rintro e w' ⟨v, ss, rfl, hp, ho, hn, hbl⟩
      have hperm : ss.Perm (es.map (·.1)) := hp.trans hsk
      have hms : ss.mergeSort (fun x y => decide (x ≤ y)) = sortB (es.map (·.1)) := Go.mergeSort_of_perm hperm
      rw [hms] at ho
      have hl : ss.length = (sortB (es.map (·.1))).length := by rw [hperm.length_eq]; simp [sortB]
      rw [hl] at ho
      refine ⟨v, rfl, hbl, ?_⟩
      by_cases he : es = []
      · subst he
        have hss : ss = [] := by simpa using hperm
        rw [hn.2 hss]
        simp [sortB, strV, Rep]
      · have hss : ss ≠ [] := fun e => he (by rw [e] at hperm; simpa using hperm.symm)
        have hne : sortB (es.map (·.1)) ≠ [] := fun e => by rw [e] at hl; exact hss (List.length_eq_zero_iff.1 hl)
        have : strV (sortB (es.map (·.1))) = .sl 1 (strsA (sortB (es.map (·.1)))) := by
          cases hq : sortB (es.map (·.1)) with
          | nil => exact absurd hq hne
          | cons _ _ => rfl
        rw [this]
        exact owned_strs (e9 := e9) (l := sortB (es.map (·.1))) ho (fun e => hss (hn.1 e))

/-- Only one function bears this number. -/
def lkOnly (l : List (Nat × Nat)) (n g : Nat) : Bool := l.all fun p => p.2 != n || p.1 == g

theorem lkN_only {l : List (Nat × Nat)} {n g : Nat} (h : lkOnly l n g = true) : ∀ i, lkN l i = some n → i = g := by
  intro i hi
  induction l with
  | nil => simp [lkN] at hi
  | cons p r ih =>
    simp only [lkOnly, List.all_cons, Bool.and_eq_true, Bool.or_eq_true, bne_iff_ne, ne_eq, beq_iff_eq] at h
    obtain ⟨a, b⟩ := p
    simp only [lkN] at hi
    split at hi
    · rename_i e
      simp only [beq_iff_eq] at e
      simp only [Option.some.injEq] at hi
      rcases h.1 with h1 | h1
      · exact absurd hi h1
      · exact e ▸ h1
    · exact ih (by simpa [lkOnly] using h.2) hi
end Wax


namespace Wax
open Go Go.ChangeShapes Go.WideShapes Go.RowKit

section
variable {P : Program} {T : Tab} {w : World} {H : Type} {enc : TypeId × Value → H}

theorem u8_has {n : Int} (h : (Lit.int .u8 n).wf = true) : 0 ≤ n ∧ n < 256 := by
  simp only [Lit.wf] at h
  have : 0 ≤ n ∧ n ≤ 255 := by simpa [IntKind.min, IntKind.max, IntKind.bits, IntKind.signed] using h
  omega

end
end Wax


