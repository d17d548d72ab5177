/- The machine by which the functions are read, and what is proved of them (part 6): no premise. -/
import Derived.Laws.OwnMore
import Derived.Maps.Own
import Derived.Sort.KeysCollected
import Derived.WideShapes
import Derived.SliceStrings
import Derived.OpenShut
import Derived.Lib.LaidTab
import Derived.ChangeSlices
import Derived.ChangeArms
import Derived.Test.YtbalogmjickeaaaGreatDoorWe
set_option linter.all false
namespace Wax
open Go (IntKind)

section
variable {Γ : Gam} (h149 : Γ.fn 149 = con_dmParams) (h150 : Γ.fn 150 = con_dmPolicy) (h151 : Γ.fn 151 = con_dmAlign) (h152 : Γ.fn 152 = con_dmFo) (h153 : Γ.fn 153 = con_Atoi) (s154 : Γ.st 154 = con_zzSplit) (h155 : Γ.fn 155 = con_dmURIs) (h50 : Γ.fn 50 = con_errorsNew)
include h150 h153 s154 h155 h50

theorem pd_9 (acc : List KVp) (ha : valsOk acc) (r : DR) (ex : List (Nat × AV)) (h4 : lk ex 4 = .mp (pmA acc)) (h6 : lk ex 6 = .ref 46 0) : awp Γ f_dmarc_Parse_9 (mdQ (mdRf acc r)) ⟨ex, [(46, .cells r.cells)]⟩ := by
  have hk := lookA_two acc [114, 102]
  obtain ⟨a, b, hab⟩ : ∃ a b, valV (findP acc kRf) = .tup [a, b] := by cases findP acc kRf <;> exact ⟨_, _, rfl⟩
  have hab' := hab
  rw [kRf] at hab'
  rw [hab'] at hk
  obtain ⟨_, _, ha2, hb2⟩ := valV_tup hab
  simp -implicitDefEqProofs [f_dmarc_Parse_9, lk_rmFi, h4, h6, hk, ha2, hb2]
  exact pd_2 h150 h153 s154 h155 h50 acc ha r a b hab

theorem pd_9b (acc : List KVp) (ha : valsOk acc) (r : DR) (n : Int) (ex : List (Nat × AV)) (h4 : lk ex 4 = .mp (pmA acc)) (h6 : lk ex 6 = .ref 46 0) :
    awp Γ f_dmarc_Parse_9 (mdQ (mdRf acc { r with pct := some n })) ⟨ex, [(17, .cells [.int .i64 n]), (46, .cells [.str r.dk, .str r.sp, .int .i64 r.fo, .str r.p, .ref 17 0, slO r.rf, .int .i64 r.ri, slO r.rua, slO r.ruf, .str r.sub])]⟩ := by
  have hk := lookA_two acc [114, 102]
  obtain ⟨a, b, hab⟩ : ∃ a b, valV (findP acc kRf) = .tup [a, b] := by cases findP acc kRf <;> exact ⟨_, _, rfl⟩
  have hab' := hab
  rw [kRf] at hab'
  rw [hab'] at hk
  obtain ⟨ha1, hb1, ha2, hb2⟩ := valV_tup hab
  have e := pd_2 h150 h153 s154 h155 h50 acc ha { r with pct := some n } a b hab
  simp only [DR.cells] at e
  simp -implicitDefEqProofs [f_dmarc_Parse_9, lk_rmFi, h4, h6, hk, ha1, hb1, ha2, hb2]
  exact e

theorem pd_10 (acc : List KVp) (ha : valsOk acc) (r : DR) (ex : List (Nat × AV)) (h4 : lk ex 4 = .mp (pmA acc)) (h6 : lk ex 6 = .ref 46 0) : awp Γ f_dmarc_Parse_10 (mdQ (mdPct acc r)) ⟨ex, [(46, .cells r.cells)]⟩ := by
  have hk := lookA_two acc [112, 99, 116]
  simp only [mdPct, kPct]
  cases hf : findP acc [112, 99, 116] with
  | none =>
    rw [hf] at hk
    simp only
    have e := fun ex h h' => pd_9 (Γ := Γ) h150 h153 s154 h155 h50 acc ha r ex h h'
    simp -implicitDefEqProofs [f_dmarc_Parse_10, lk_rmFi, h4, h6, hk, valV]
    refine e _ ?_ ?_ <;> simp [lk_rmFi, h4, h6]
  | some v =>
    rw [hf] at hk
    have hv := ha _ (findP_in hf)
    have k : con_Atoi [.str v] = some (atoiV v) := if_pos hv.1
    simp only [atoiV] at k
    simp only
    cases hq : Go.Lib.atoiAll v with
    | ok n =>
      rw [hq] at k
      simp only at k ⊢
      by_cases h1 : n < 0
      · rw [if_pos (.inl h1)]
        simp -implicitDefEqProofs [f_dmarc_Parse_10, lk_rmFi, h4, h6, hk, valV, acall, h153, k, h1, h50, con_errorsNew, mdV, eN, mPct2, mPct, DR.cells]
      · by_cases h2 : 100 < n
        · rw [if_pos (.inr h2)]
          simp -implicitDefEqProofs [f_dmarc_Parse_10, lk_rmFi, h4, h6, hk, valV, acall, h153, k, h1, h2, h50, con_errorsNew, mdV, eN, mPct2, mPct, DR.cells]
        · rw [if_neg (by omega)]
          have e := fun ex h h' => pd_9b (Γ := Γ) h150 h153 s154 h155 h50 acc ha r n ex h h'
          simp -implicitDefEqProofs [f_dmarc_Parse_10, lk_rmFi, h4, h6, hk, valV, acall, h153, k, h1, h2, DR.cells]
          refine e _ ?_ ?_ <;> simp [lk_rmFi, h4, h6]
    | range =>
      rw [hq] at k
      simp only at k ⊢
      simp -implicitDefEqProofs [f_dmarc_Parse_10, lk_rmFi, h4, h6, hk, valV, acall, h153, k, h50, con_errorsNew, mdV, eN, mPct, DR.cells]
    | _ =>
      rw [hq] at k
      simp only at k ⊢
      simp -implicitDefEqProofs [f_dmarc_Parse_10, lk_rmFi, h4, h6, hk, valV, acall, h153, k, h50, con_errorsNew, mdV, eN, mPct, DR.cells]

include h152
theorem pd_11 (acc : List KVp) (ha : valsOk acc) (r : DR) (ex : List (Nat × AV)) (h4 : lk ex 4 = .mp (pmA acc)) (h6 : lk ex 6 = .ref 46 0) : awp Γ f_dmarc_Parse_11 (mdQ (mdFo acc r)) ⟨ex, [(46, .cells r.cells)]⟩ := by
  have hk := lookA_two acc [102, 111]
  simp only [mdFo, kFo]
  cases hf : findP acc [102, 111] with
  | none =>
    rw [hf] at hk
    simp only
    have e := fun ex h h' => pd_10 (Γ := Γ) h150 h153 s154 h155 h50 acc ha r ex h h'
    simp -implicitDefEqProofs [f_dmarc_Parse_11, lk_rmFi, h4, h6, hk, valV]
    refine e _ ?_ ?_ <;> simp [lk_rmFi, h4, h6]
  | some v =>
    rw [hf] at hk
    have hv := ha _ (findP_in hf)
    have k : con_dmFo [.str v] = some (foV v) := if_pos hv
    simp only [foV] at k
    simp only
    cases hq : fo2 0 (splitB 58 v) with
    | some n =>
      rw [hq] at k
      simp only at k ⊢
      have e := fun ex h h' => pd_10 (Γ := Γ) h150 h153 s154 h155 h50 acc ha { r with fo := n } ex h h'
      simp only [DR.cells] at e
      simp -implicitDefEqProofs [f_dmarc_Parse_11, lk_rmFi, h4, h6, hk, valV, acall, h152, k, DR.cells]
      refine e _ ?_ ?_ <;> simp [lk_rmFi, h4, h6]
    | none =>
      rw [hq] at k
      simp only at k ⊢
      simp -implicitDefEqProofs [f_dmarc_Parse_11, lk_rmFi, h4, h6, hk, valV, acall, h152, k, mdV, eN, DR.cells]

include h151
theorem pd_12 (acc : List KVp) (ha : valsOk acc) (r : DR) (ex : List (Nat × AV)) (h4 : lk ex 4 = .mp (pmA acc)) (h6 : lk ex 6 = .ref 46 0) : awp Γ f_dmarc_Parse_12 (mdQ (mdAspf acc r)) ⟨ex, [(46, .cells r.cells)]⟩ := by
  have hk := lookA_two acc [97, 115, 112, 102]
  simp only [mdAspf, kAspf]
  cases hf : findP acc [97, 115, 112, 102] with
  | none =>
    rw [hf] at hk
    simp only
    have e := fun ex h h' => pd_11 (Γ := Γ) h150 h152 h153 s154 h155 h50 acc ha { r with sp := sR } ex h h'
    simp only [DR.cells, sR] at e
    simp -implicitDefEqProofs [f_dmarc_Parse_12, lk_rmFi, h4, h6, hk, valV, DR.cells]
    refine e _ ?_ ?_ <;> simp [lk_rmFi, h4, h6]
  | some v =>
    rw [hf] at hk
    have k := align_con (v := v) (p := [97, 115, 112, 102]) (by decide)
    simp only
    cases hp : alignB v with
    | false =>
      rw [hp] at k
      simp -implicitDefEqProofs [f_dmarc_Parse_12, lk_rmFi, h4, h6, hk, valV, acall, h151, k, eN, DR.cells, mdV]
    | true =>
      rw [hp] at k
      simp only [if_true]
      have e := fun ex h h' => pd_11 (Γ := Γ) h150 h152 h153 s154 h155 h50 acc ha { r with sp := v } ex h h'
      simp only [DR.cells] at e
      simp -implicitDefEqProofs [f_dmarc_Parse_12, lk_rmFi, h4, h6, hk, valV, acall, h151, k, DR.cells]
      refine e _ ?_ ?_ <;> simp [lk_rmFi, h4, h6]

theorem pd_13 (acc : List KVp) (ha : valsOk acc) (r : DR) (ex : List (Nat × AV)) (h4 : lk ex 4 = .mp (pmA acc)) (h6 : lk ex 6 = .ref 46 0) : awp Γ f_dmarc_Parse_13 (mdQ (mdAdkim acc r)) ⟨ex, [(46, .cells r.cells)]⟩ := by
  have hk := lookA_two acc [97, 100, 107, 105, 109]
  simp only [mdAdkim, kAdkim]
  cases hf : findP acc [97, 100, 107, 105, 109] with
  | none =>
    rw [hf] at hk
    simp only
    have e := fun ex h h' => pd_12 (Γ := Γ) h150 h151 h152 h153 s154 h155 h50 acc ha { r with dk := sR } ex h h'
    simp only [DR.cells, sR] at e
    simp -implicitDefEqProofs [f_dmarc_Parse_13, lk_rmFi, h4, h6, hk, valV, DR.cells]
    refine e _ ?_ ?_ <;> simp [lk_rmFi, h4, h6]
  | some v =>
    rw [hf] at hk
    have k := align_con (v := v) (p := [97, 100, 107, 105, 109]) (by decide)
    simp only
    cases hp : alignB v with
    | false =>
      rw [hp] at k
      simp -implicitDefEqProofs [f_dmarc_Parse_13, lk_rmFi, h4, h6, hk, valV, acall, h151, k, eN, DR.cells, mdV]
    | true =>
      rw [hp] at k
      simp only [if_true]
      have e := fun ex h h' => pd_12 (Γ := Γ) h150 h151 h152 h153 s154 h155 h50 acc ha { r with dk := v } ex h h'
      simp only [DR.cells] at e
      simp -implicitDefEqProofs [f_dmarc_Parse_13, lk_rmFi, h4, h6, hk, valV, acall, h151, k, DR.cells]
      refine e _ ?_ ?_ <;> simp [lk_rmFi, h4, h6]
end

/-- What is read of a text. -/
def mdText (s : L8) : AV ⊕ DR := if (prd2 (splitB 59 s) []).2 = true then mdAll (prd2 (splitB 59 s) []).1 else .inl (eN mBad)

theorem psetL_vals {l : List KVp} {k v : L8} (h : valsOk l) (hv : v.length < mid ∧ plain v = true) : valsOk (psetL l k v) := by
  induction l with
  | nil => intro q hq; simp [psetL] at hq; subst hq; exact hv
  | cons p r ih =>
    obtain ⟨i, u⟩ := p
    have hr : valsOk r := fun q hq => h q (by simp [hq])
    intro q hq
    simp only [psetL] at hq
    split at hq
    · rcases List.mem_cons.1 hq with rfl | hq
      · exact hv
      · exact h q (by simp [hq])
    · rcases List.mem_cons.1 hq with rfl | hq
      · exact h _ (by simp)
      · exact ih hr q hq

theorem trimS_plain {s : L8} (h : plain s = true) : plain (trimS s) = true := plain_sub (fun x hx => trimS_sub x hx) h

theorem prd2_vals (n : Nat) (hn : n < mid) : ∀ (L : List L8) (acc : List KVp), (∀ p ∈ L, p.length ≤ n ∧ plain p = true) → valsOk acc → valsOk (prd2 L acc).1
  | [], acc, _, h => h
  | p :: r, acc, hL, h => by
    have hr : ∀ p ∈ r, p.length ≤ n ∧ plain p = true := fun q hq => hL q (by simp [hq])
    obtain ⟨hpl, hpp⟩ := hL p (by simp)
    simp only [prd2]
    cases hc : cutAt 61 p with
    | none =>
      simp only
      by_cases ht : trimS p = []
      · rw [if_pos ht]; exact prd2_vals n hn r acc hr h
      · rw [if_neg ht]; exact h
    | some q =>
      obtain ⟨hql, y, hy⟩ := cutAt_le hc
      rw [hy, plain_app] at hpp
      simp only [Bool.and_eq_true] at hpp
      have hp2 : plain q.2 = true := by
        have := hpp.2
        simp only [plain, List.all_cons, Bool.and_eq_true] at this
        exact this.2
      have := trimS_length q.2
      exact prd2_vals n hn r _ hr (psetL_vals h ⟨by omega, trimS_plain hp2⟩)

def con_dmParse : List AV → Option AV
  | [.str s] => if s.length < mid ∧ plain s = true then some (mdV (mdText s)) else none
  | _ => none

set_option maxHeartbeats 1000000 in
theorem ok_dmParse (Γ : Gam) (h149 : Γ.fn 149 = con_dmParams) (h150 : Γ.fn 150 = con_dmPolicy) (h151 : Γ.fn 151 = con_dmAlign) (h152 : Γ.fn 152 = con_dmFo) (h153 : Γ.fn 153 = con_Atoi) (s154 : Γ.st 154 = con_zzSplit) (h155 : Γ.fn 155 = con_dmURIs) (h50 : Γ.fn 50 = con_errorsNew) :
    ∀ args r, con_dmParse args = some r → runs Γ c_dmarc_Parse args (fun v => v = r) := by
  intro args r h
  simp only [con_dmParse] at h
  split at h <;> (try simp at h; done)
  rename_i s
  obtain ⟨hs, rfl⟩ := ite_some h
  clear h
  have k149 : con_dmParams [.str s] = some (prdV (prd2 (splitB 59 s) [])) := if_pos hs
  have ha := prd2_vals s.length hs.1 (splitB 59 s) [] (fun p hp => ⟨splitB_mem_length 59 s p hp, splitB_plain 59 s p hs.2 hp⟩) (fun q hq => by simp at hq)
  simp only [mdText]
  generalize prd2 (splitB 59 s) [] = x at *
  obtain ⟨acc, ok⟩ := x
  cases ok with
  | false => simp -implicitDefEqProofs [c_dmarc_Parse, acall, h149, k149, prdV, eN, mdV]
  | true =>
    simp only [prdV] at k149
    simp only at ha
    have hk1 := lookA_one acc [118]
    have hk2 := lookA_two acc [112]
    by_cases hv : (findP acc kV).getD [] = sDM
    · have hv' : (findP acc [118]).getD [] = [68, 77, 65, 82, 67, 49] := hv
      rw [hv'] at hk1
      have hm : mdAll acc = (match findP acc [112] with
        | none => .inl (eN mNoP)
        | some v => if polB v = true then mdAdkim acc { dr0 with p := v } else .inl (eN (mPol ++ kP))) := if_pos hv
      rw [if_pos rfl, hm]
      cases hf : findP acc [112] with
      | none =>
        rw [hf] at hk2
        simp -implicitDefEqProofs [c_dmarc_Parse, acall, h149, k149, hk1, hk2, valV, h50, con_errorsNew, eN, mNoP, mdV]
      | some v =>
        rw [hf] at hk2
        have k := pol_con (v := v) (p := [112]) (by decide)
        simp only
        cases hp : polB v with
        | false =>
          rw [hp] at k
          simp -implicitDefEqProofs [c_dmarc_Parse, acall, h149, k149, hk1, hk2, valV, h150, k, eN, mdV, mPol, kP]
        | true =>
          rw [hp] at k
          have e := fun ex h h' => pd_13 (Γ := Γ) h150 h151 h152 h153 s154 h155 h50 acc ha { dr0 with p := v } ex h h'
          simp only [DR.cells, dr0] at e
          simp -implicitDefEqProofs [c_dmarc_Parse, acall, h149, k149, hk1, hk2, valV, h150, k]
          refine e _ ?_ ?_ <;> simp
    · have hv' : ¬ (findP acc [118]).getD [] = [68, 77, 65, 82, 67, 49] := hv
      have hm : mdAll acc = .inl (.ifc 3 .junk) := if_neg hv
      rw [if_pos rfl, hm]
      simp -implicitDefEqProofs [c_dmarc_Parse, acall, h149, k149, hk1, hv', eN, mdV]
end Wax


namespace Wax
open Go (IntKind)

def prsA (l : List PR) : List AV := l.map PR.av
@[simp] theorem prsA_nil : prsA [] = [] := rfl
@[simp] theorem prsA_cons {x : PR} {l} : prsA (x :: l) = x.av :: prsA l := rfl
@[simp] theorem prsA_app {l m} : prsA (l ++ m) = prsA l ++ prsA m := by simp [prsA]
@[simp] theorem prsA_length {l} : (prsA l).length = l.length := by simp [prsA]
@[simp] theorem pav_atom {x : PR} : atom x.av = true := by cases x <;> rfl
@[simp] theorem pav_kill {d : Nat} {x : PR} : kill d x.av = x.av := by cases x <;> rfl
@[simp] theorem pav_ref {x : PR} : hasRef x.av = false := by cases x <;> rfl
@[simp] theorem pav_refs {x : PR} : refs x.av = [] := by cases x <;> rfl
@[simp] theorem pav_snap {n : Nat} {hp : List (Nat × AObj)} {x : PR} : snap (n + 1) hp x.av = x.av := by cases x <;> rfl
@[simp] theorem pav_snapW {g : AV → AV} {x : PR} : snapW g x.av = x.av := by cases x <;> rfl
@[simp] theorem pav_map {g : Nat → Nat} {x : PR} : mapId g x.av = x.av := by cases x <;> rfl
@[simp] theorem pav_nil {x : PR} : isNilA 0 x.av = some false := by cases x <;> rfl
theorem pav_cells {x : PR} : cells x.av = [x.av] := by cases x <;> rfl
@[simp] theorem atoms_prsA {l : List PR} : atoms (prsA l) = true := by induction l <;> simp_all
@[simp] theorem killL_prsA {d : Nat} {l : List PR} : killL d (prsA l) = prsA l := by induction l <;> simp_all
@[simp] theorem map_snap_prsA {n : Nat} {hp : List (Nat × AObj)} {l : List PR} : (prsA l).map (snap (n + 1) hp) = prsA l := by induction l <;> simp_all
@[simp] theorem hasRefL_prsA {l : List PR} : hasRefL (prsA l) = false := by induction l <;> simp_all
@[simp] theorem refsL_prsA {l : List PR} : refsL (prsA l) = [] := by induction l <;> simp_all
@[simp] theorem snapWL_prsA {g : AV → AV} {l : List PR} : snapWL g (prsA l) = prsA l := by induction l <;> simp_all
@[simp] theorem prsA_get {l : List PR} {i : Nat} : (prsA l)[i]? = l[i]?.map PR.av := by simp [prsA]
theorem prsA_take {l : List PR} {i : Nat} : (prsA l).take i = prsA (l.take i) := by simp [prsA, List.map_take]

def arVer : L8 := [109, 115, 103, 97, 117, 116, 104, 58, 32, 117, 110, 115, 117, 112, 112, 111, 114, 116, 101, 100, 32, 118, 101, 114, 115, 105, 111, 110]
/-- The identifier, off the first part: without a version, or with the version 1. -/
def adId (p : L8) : Option L8 := match wsAt (trimS p) 0 with
  | none => some (trimS p)
  | some n => if n = 0 then some (trimS p) else if trimS ((trimS p).drop n) = [49] then some ((trimS p).take n) else none
/-- The results of the parts. -/
def adGo : List L8 → List PR → List PR × Option L8
  | [], acc => (acc, none)
  | p :: r, acc => if trimS p = [] then adGo r acc else match resAOf (trimS p) with
    | .inl e => (acc, some e)
    | .inr none => adGo r acc
    | .inr (some x) => adGo r (acc ++ [x])
def prsV (l : List PR) : AV := match l with | [] => .nilS | _ => .sl 1 (prsA l)
def errA : Option L8 → AV
  | none => .nilI
  | some e => .ifc 3 (.ptr [.str e])
def adP (s : L8) : AV := match splitB 59 s with
  | [] => .junk
  | p :: r => match adId p with
    | none => .tup [.str [], .nilS, .ifc 3 (.ptr [.str arVer])]
    | some i => .tup [.str i, prsV (adGo r []).1, errA (adGo r []).2]
def con_adParse : List AV → Option AV
  | [.str s] => if s.length < half ∧ plain s = true then some (adP s) else none
  | _ => none

theorem wsAt_lt : ∀ {s : L8} {k n : Nat}, wsAt s k = some n → k ≤ n ∧ n < k + s.length
  | [], k, n, h => by simp [wsAt] at h
  | x :: r, k, n, h => by
    simp only [wsAt] at h
    split at h
    · simp at h; subst h; simp
    · have := wsAt_lt h; simp; omega

set_option maxHeartbeats 1000000 in
theorem ok_adParse (Γ : Gam) (s162 : Γ.st 162 = con_zzSplit) (h163 : Γ.fn 163 = con_zzTrimSpace) (h164 : Γ.fn 164 = con_IndexFunc) (h50 : Γ.fn 50 = con_errorsNew) (h166 : Γ.fn 166 = con_parseResult) :
    ∀ args r, con_adParse args = some r → runs Γ c_authres_Parse args (fun v => v = r) := by
  intro args r h
  simp only [con_adParse] at h
  split at h <;> (try simp at h; done)
  rename_i s
  obtain ⟨⟨hs, hp⟩, rfl⟩ := ite_some h
  clear h
  simp only [half] at hs
  have hsp : con_zzSplit [.str s, .str [59]] [] = some (.msl 0 1 0 (splitB 59 s).length, [(0, .cells (strsA (splitB 59 s)))]) := if_pos (by simp only [mid]; omega)
  have hl := splitB_length 59 s
  have hml := splitB_mem_length 59 s
  have hmp := fun p => splitB_plain 59 s p hp
  have hne := splitB_ne 59 s
  simp only [adP]
  generalize splitB 59 s = L at *
  cases L with
  | nil => exact absurd rfl hne
  | cons p0 L =>
    clear hne
    have kt : ∀ p : L8, p.length < 549755813888 → plain p = true → con_zzTrimSpace [.str p] = some (.str (trimS p)) := fun p h1 h2 => if_pos ⟨by simp only [mid]; omega, h2⟩
    have hp0 := hml p0 (by simp)
    have pp0 := hmp p0 (by simp)
    have k0 := kt p0 (by omega) pp0
    have ti := trimS_length p0
    have pi := trimS_plain pp0
    have ki : con_IndexFunc [.str (trimS p0), .fn 165 []] = some (.int .i64 (wsV (trimS p0))) := if_pos ⟨by simp only [mid]; omega, pi⟩
    simp only [List.length_cons] at hl
    have main : ∀ (i : L8), awp Γ (.loop [2, 3, 4, 5, 8] b_authres_Parse_1) (blockQ 0 (thenQ (awp Γ .ret (finQ [.t 2, .t 3, .t 4] fun v => v = .tup [.str i, prsV (adGo L []).1, errA (adGo L []).2])) (finQ [.t 2, .t 3, .t 4] fun v => v = .tup [.str i, prsV (adGo L []).1, errA (adGo L []).2])))
        ⟨[(2, .str i), (3, .nilS), (4, .nilI), (5, .msl 13 1 0 (L.length + 1)), (8, .int .i64 1)], [(13, .cells (.str p0 :: strsA L))]⟩ := by
      intro i
      refine awp_loop2 (σ := List L8 × List L8 × List PR) (fun q => ⟨[(2, .str i), (3, grV 60 1 q.2.2.length), (4, .nilI), (5, .msl 13 1 0 (L.length + 1)), (8, .int .i64 ((q.1.length : Int) + 1))], grH 60 q.2.2.length (prsA q.2.2) ++ [(13, .cells (.str p0 :: strsA L))]⟩)
        (fun q => L = q.1 ++ q.2.1 ∧ adGo L [] = adGo q.2.1 q.2.2 ∧ q.2.2.length ≤ q.1.length) (fun q => q.2.1.length) ([], L, []) (by simp) (by simp) ?_
      rintro ⟨pre, post, acc⟩ ⟨e1, e2, e3⟩ LQ hLQ
      simp only at e1 e2 e3
      cases post with
      | nil =>
        simp only [List.append_nil] at e1
        rw [e2]
        simp only [adGo]
        rw [← e1] at e3
        cases acc with
        | nil => simp -implicitDefEqProofs [b_authres_Parse_1, ← e1, prsV, errA]
        | cons x acc => simp -implicitDefEqProofs [b_authres_Parse_1, ← e1, prsV, errA, prsA_take]
      | cons u post =>
        have hlen : L.length = pre.length + (post.length + 1) := by rw [e1]; simp
        have hlt : (pre.length : Int) + 1 < (L.length : Int) + 1 := by omega
        have hlt2 : pre.length < L.length := by omega
        have hle : (0 : Int) ≤ (pre.length : Int) + 1 := by omega
        have et : ((pre.length : Int) + 1).toNat = pre.length + 1 := by omega
        have g : L[pre.length]? = some u := by rw [e1]; exact get_mid rfl
        have ew : IntKind.i64.wrap ((pre.length : Int) + 1 + 1) = (pre.length : Int) + 1 + 1 := wrap64 (by omega) (by omega)
        have hul := hml u (by rw [e1]; simp)
        have hup := hmp u (by rw [e1]; simp)
        have ku := kt u (by omega) hup
        have tu := trimS_length u
        have pu := trimS_plain hup
        have hdr : L.drop pre.length = u :: post := by rw [e1]; simp
        by_cases hz : trimS u = []
        · rw [hz] at ku
          have f := fun st h => hLQ (pre ++ [u], post, acc) ⟨by rw [e1]; simp, by rw [e2]; simp only [adGo, if_pos hz], by simp; omega⟩ (by simp) st h
          cases acc with
          | nil =>
            simp -implicitDefEqProofs [b_authres_Parse_1, hlt, hlt2, et, g, hdr, hle, acall, h163, ku, ew]
            exact f _ (by simp)
          | cons x acc =>
            simp -implicitDefEqProofs [b_authres_Parse_1, hlt, hlt2, et, g, hdr, hle, acall, h163, ku, ew]
            exact f _ (by simp)
        · have kr : con_parseResult [.str (trimS u)] = some (resAV (trimS u)) := if_pos ⟨by simp only [half]; omega, pu⟩
          simp only [resAV] at kr
          have e2' : adGo L [] = match resAOf (trimS u) with | .inl e => (acc, some e) | .inr none => adGo post acc | .inr (some x) => adGo post (acc ++ [x]) := by
            rw [e2]; simp only [adGo, if_neg hz]
          cases hr : resAOf (trimS u) with
          | inl e =>
            rw [hr] at kr e2'
            simp only at kr e2'
            rw [e2']
            have hre : hasRef (resAE (trimS u)) = false := by
              simp only [resAE]
              split
              · rfl
              · split
                · rfl
                · split <;> rfl
            cases acc with
            | nil => simp -implicitDefEqProofs [b_authres_Parse_1, hlt, hlt2, et, g, hdr, hle, acall, h163, ku, ew, hz, h166, kr, hre, prsV, errA]
            | cons x acc =>
              simp -implicitDefEqProofs [b_authres_Parse_1, hlt, hlt2, et, g, hdr, hle, acall, h163, ku, ew, hz, h166, kr, hre, prsV, errA, prsA_take]
          | inr o =>
            rw [hr] at kr e2'
            cases o with
            | none =>
              simp only at kr e2'
              have f := fun st h => hLQ (pre ++ [u], post, acc) ⟨by rw [e1]; simp, e2', by simp; omega⟩ (by simp) st h
              cases acc with
              | nil =>
                simp -implicitDefEqProofs [b_authres_Parse_1, hlt, hlt2, et, g, hdr, hle, acall, h163, ku, ew, hz, h166, kr]
                exact f _ (by simp)
              | cons x acc =>
                simp -implicitDefEqProofs [b_authres_Parse_1, hlt, hlt2, et, g, hdr, hle, acall, h163, ku, ew, hz, h166, kr]
                exact f _ (by simp)
            | some z =>
              simp only at kr e2'
              have f := fun st h => hLQ (pre ++ [u], post, acc ++ [z]) ⟨by rw [e1]; simp, e2', by simp; omega⟩ (by simp) st h
              have cz := pav_cells (x := z)
              simp only [cells] at cz
              have cn := pav_nil (x := z)
              simp only [isNilA] at cn
              cases acc with
              | nil =>
                simp -implicitDefEqProofs [b_authres_Parse_1, hlt, hlt2, et, g, hdr, hle, acall, h163, ku, ew, hz, h166, kr, cz, cn]
                exact f _ (by simp)
              | cons x acc =>
                simp at e3
                simp -implicitDefEqProofs [b_authres_Parse_1, hlt, hlt2, et, g, hdr, hle, acall, h163, ku, ew, hz, h166, kr, cz, cn]
                exact ⟨by omega, f _ (by simp [prsA_take])⟩
    have hnn : ∀ n, wsAt (trimS p0) 0 = some n → n < 0 + (trimS p0).length := fun n h => (wsAt_lt h).2
    cases hw : wsAt (trimS p0) 0 with
    | none =>
      have hwv : wsV (trimS p0) = -1 := by simp only [wsV, hw]
      rw [hwv] at ki
      have hi : adId p0 = some (trimS p0) := by simp only [adId, hw]
      simp only [hi]
      simp -implicitDefEqProofs [c_authres_Parse, acallS, s162, hsp, acall, h163, k0, h164, ki]
      exact main _
    | some n =>
      have hwv : wsV (trimS p0) = (n : Int) := by simp only [wsV, hw]
      rw [hwv] at ki
      by_cases hn0 : n = 0
      · subst hn0
        have hi : adId p0 = some (trimS p0) := by simp only [adId, hw, if_true]
        simp only [hi]
        simp -implicitDefEqProofs [c_authres_Parse, acallS, s162, hsp, acall, h163, k0, h164, ki]
        exact main _
      · have hnp : 0 < n := by omega
        have hnl : n ≤ (trimS p0).length := by have := hnn n hw; omega
        have hdl : ((trimS p0).drop n).length < 549755813888 := by simp; omega
        have kd := kt ((trimS p0).drop n) hdl (plain_sub (fun y hy => List.mem_of_mem_drop hy) pi)
        by_cases h1 : trimS ((trimS p0).drop n) = [49]
        · have hi : adId p0 = some ((trimS p0).take n) := by simp only [adId, hw, if_neg hn0, if_pos h1]
          rw [h1] at kd
          simp only [hi]
          simp -implicitDefEqProofs [c_authres_Parse, acallS, s162, hsp, acall, h163, k0, h164, ki, hnp, hnl, kd]
          exact main _
        · have hi : adId p0 = none := by simp only [adId, hw, if_neg hn0, if_neg h1]
          simp only [hi]
          simp -implicitDefEqProofs [c_authres_Parse, acallS, s162, hsp, acall, h163, k0, h164, ki, hnp, hnl, kd, h1, h50, con_errorsNew, arVer]
end Wax


namespace Wax
open Go (IntKind)

def qtr : Nat := 68719476736
/-- A field, read: the identifier and the results. -/
def adText (s : L8) : Option (L8 × List PR) := match splitB 59 s with
  | [] => none
  | p :: r => match adId p with
    | none => none
    | some i => match adGo r [] with
      | (l, none) => some (i, l)
      | (_, some _) => none
def arV (l : List AR) : AV := match l with | [] => .nilS | _ => .sl 16 (arA l)
def adV : Option (L8 × List PR) → AV
  | some p => .tup [.str p.1, arV (p.2.map PR.ar), .bool true]
  | none => .tup [.str [], .nilS, .bool false]
def con_AParse : List AV → Option AV
  | [.str s] => if s.length < qtr ∧ plain s = true then some (adV (adText s)) else none
  | _ => none

def PR.kOk : PR → Prop
  | .gen _ _ l => l.length < half ∧ ∀ q ∈ l, q.1.length < half
  | _ => True
theorem resAOf_ok {t : L8} {x : PR} (ht : t.length < half) (h : resAOf t = .inr (some x)) : x.kOk := by
  simp only [resAOf] at h
  obtain ⟨b1, b2⟩ := wordsOf_bnd t
  cases hw : wordsOf t with
  | nil => rw [hw] at h; simp at h
  | cons w r =>
    rw [hw] at h b1 b2
    simp only at h
    split at h
    · simp at h
    · cases hk : kvOf w with
      | none => rw [hk] at h; simp at h
      | some p =>
        rw [hk] at h
        simp only at h
        obtain ⟨c1, c2⟩ := prmsOf_bnd t.length r [] (fun u hu => (b2 u (by simp [hu])).2.1) (by simp)
        have hb : (prmsOf r []).length < half ∧ ∀ q ∈ prmsOf r [], q.1.length < half := ⟨by simp at c1 b1; omega, fun q hq => by have := (c2 q hq).1; omega⟩
        generalize prmsOf r [] = F at *
        cases hp : prOf p.1 (lowS p.2) F with
        | inl e => rw [hp] at h; simp at h
        | inr y =>
          rw [hp] at h
          simp only [Sum.inr.injEq, Option.some.injEq] at h
          subst h
          simp only [prOf] at hp
          repeat' split at hp
          all_goals first | (simp at hp; done) | (simp only [Sum.inr.injEq] at hp; subst hp; first | trivial | exact hb)
theorem adGo_ok : ∀ (L : List L8) (acc : List PR), (∀ p ∈ L, p.length < half) → (∀ x ∈ acc, x.kOk) → (adGo L acc).1.length ≤ acc.length + L.length ∧ ∀ x ∈ (adGo L acc).1, x.kOk
  | [], acc, _, h => ⟨by simp [adGo], h⟩
  | p :: r, acc, hL, h => by
    have hr : ∀ p ∈ r, p.length < half := fun q hq => hL q (by simp [hq])
    have hp := hL p (by simp)
    have tp := trimS_length p
    simp only [adGo]
    split
    · obtain ⟨a, b⟩ := adGo_ok r acc hr h
      exact ⟨by simp; omega, b⟩
    · cases hq : resAOf (trimS p) with
      | inl e => exact ⟨by simp, h⟩
      | inr o =>
        cases o with
        | none =>
          obtain ⟨a, b⟩ := adGo_ok r acc hr h
          exact ⟨by simp; omega, b⟩
        | some x =>
          obtain ⟨a, b⟩ := adGo_ok r (acc ++ [x]) hr (fun y hy => by
            rcases List.mem_append.1 hy with hy | hy
            · exact h y hy
            · rw [List.mem_singleton.1 hy]; exact resAOf_ok (by omega) hq)
          exact ⟨by simp at a ⊢; omega, b⟩

theorem con_resultOf_ok {x : PR} (h : x.kOk) : con_resultOf [x.av] = some (.agg x.ar.cells) := by
  simp only [con_resultOf, asPR_av]
  cases x <;> first | rfl | exact if_pos h

theorem splice_ar (r : AR) : spliceL [.int .i64 0, .str [], .str [], .str [], .str [], .str [], .str [], .str [], .str [], .str [], .str [], .str [], .str [], .str [], .int .i64 0, .nilS] 0 r.cells = r.cells := rfl
theorem take_ar (r : AR) : List.take 16 r.cells = r.cells := rfl
set_option maxHeartbeats 1000000 in
theorem ok_AParse (Γ : Gam) (h156 : Γ.fn 156 = con_adParse) (h157 : Γ.fn 157 = con_resultOf) : ∀ args r, con_AParse args = some r → runs Γ c_impl_AParse args (fun v => v = r) := by
  intro args r h
  simp only [con_AParse] at h
  split at h <;> (try simp at h; done)
  rename_i s
  obtain ⟨⟨hs, hp⟩, rfl⟩ := ite_some h
  clear h
  simp only [qtr] at hs
  have k156 : con_adParse [.str s] = some (adP s) := if_pos ⟨by simp only [half]; omega, hp⟩
  have hl := splitB_length 59 s
  have hml := splitB_mem_length 59 s
  have hne := splitB_ne 59 s
  simp only [adP] at k156
  simp only [adText]
  generalize splitB 59 s = L at *
  cases L with
  | nil => exact absurd rfl hne
  | cons p0 L =>
    simp only at k156 ⊢
    cases hi : adId p0 with
    | none =>
      rw [hi] at k156
      simp only at k156
      simp -implicitDefEqProofs [c_impl_AParse, acall, h156, k156, adV]
    | some i =>
      rw [hi] at k156
      simp only at k156 ⊢
      obtain ⟨b1, b2⟩ := adGo_ok L [] (fun p hp => by have := hml p (by simp [hp]); simp only [half]; omega) (by simp)
      simp at hl b1
      generalize adGo L [] = q at *
      obtain ⟨l, e⟩ := q
      have hr : hasRef (prsV l) = false := by cases l <;> simp [prsV]
      cases e with
      | some m => simp -implicitDefEqProofs [c_impl_AParse, acall, h156, k156, adV, errA, hr]
      | none =>
        simp only at b1 b2
        simp only [errA] at k156
        cases l with
        | nil =>
          simp only [prsV] at k156
          simp -implicitDefEqProofs [c_impl_AParse, acall, h156, k156, adV]
          refine awp_loop2 (σ := Unit) (fun _ => ⟨[(5, .str i), (8, .nilS), (19, .nilS), (20, .int .i64 0), (21, .int .i64 0)], []⟩) (fun _ => True) (fun _ => 0) () (by simp) trivial ?_
          intro _ _ LQ hLQ
          simp -implicitDefEqProofs [b_impl_AParse_1, t_impl_AParse_2, arV]
        | cons x0 l0 =>
          simp only [prsV] at k156
          generalize hl0 : x0 :: l0 = l at *
          have hln : l ≠ [] := by rw [← hl0]; simp
          clear hl0 x0 l0
          simp -implicitDefEqProofs [c_impl_AParse, acall, h156, k156, adV]
          refine awp_loop2 (σ := List PR × List PR) (fun q => ⟨[(5, .str i), (8, grV 29 16 q.1.length), (19, .sl 1 (prsA l)), (20, .int .i64 l.length), (21, .int .i64 q.1.length)], grH 29 q.1.length (arC (q.1.map PR.ar))⟩)
            (fun q => l = q.1 ++ q.2) (fun q => q.2.length) ([], l) (by simp) (by simp) ?_
          rintro ⟨pre, post⟩ e1 LQ hLQ
          simp only at e1
          cases post with
          | nil =>
            simp only [List.append_nil] at e1
            subst e1
            cases l with
            | nil => exact absurd rfl hln
            | cons x l =>
              have hg := group_arC (l := (x :: l).map PR.ar)
              simp only [List.length_map, List.length_cons, List.map_cons, arC_cons] at hg
              simp -implicitDefEqProofs [b_impl_AParse_1, t_impl_AParse_2, arV, hg]
              omega
          | cons x post =>
            have hlen : l.length = pre.length + (post.length + 1) := by rw [e1]; simp
            have hlt : (pre.length : Int) < (l.length : Int) := by omega
            have g : l[pre.length]? = some x := by rw [e1]; exact get_mid rfl
            have ew : IntKind.i64.wrap ((pre.length : Int) + 1) = (pre.length : Int) + 1 := wrap64 (by omega) (by omega)
            have kx := con_resultOf_ok (b2 x (by rw [e1]; simp))
            have cx := pav_cells (x := x)
            simp only [cells] at cx
            have f : ∀ st, norm [5, 8, 19, 20, 21] st = ⟨[(5, .str i), (8, .msl 29 16 0 (pre.length + 1)), (19, .sl 1 (prsA l)), (20, .int .i64 l.length), (21, .int .i64 ((pre.length : Int) + 1))], [(29, .cells (arC (pre.map PR.ar) ++ x.ar.cells))]⟩ → LQ st := by
              intro st hst
              exact hLQ (pre ++ [x], post) (by rw [e1]; simp) (by simp) st (by rw [hst]; simp)
            cases pre with
            | nil =>
              simp only [List.nil_append] at e1
              subst e1
              have ew0 : IntKind.i64.wrap 1 = 1 := rfl
              have hl0 : (0 : Int) < (post.length : Int) + 1 := by omega
              simp -implicitDefEqProofs [b_impl_AParse_1, ew0, hl0, acall, h157, kx, cx, splice_ar, take_ar]
              exact f _ (by simp)
            | cons y pre =>
              have hln2 : l.length = pre.length + 1 + (post.length + 1) := hlen
              have hlt1 : (pre.length : Int) + 1 < (l.length : Int) := by omega
              have g1 : l[pre.length + 1]? = some x := g
              have ew1 : IntKind.i64.wrap ((pre.length : Int) + 1 + 1) = (pre.length : Int) + 1 + 1 := wrap64 (by omega) (by omega)
              have et : ((pre.length : Int) + 1).toNat = pre.length + 1 := by omega
              have hle : (0 : Int) ≤ (pre.length : Int) + 1 := by omega
              have tk : List.take ((pre.length + 1) * 16) (y.ar.cells ++ arC (pre.map PR.ar)) = y.ar.cells ++ arC (pre.map PR.ar) := List.take_of_length_le (by simp; omega)
              simp -implicitDefEqProofs [b_impl_AParse_1, hlt1, g1, ew1, et, hle, acall, h157, kx, cx, tk, splice_ar, take_ar]
              exact ⟨⟨by omega, by omega⟩, f _ (by simp)⟩
end Wax


namespace Wax
open Go (IntKind)

@[simp] theorem mrc_refs (r : MR) : refsL r.cells = [] := by simp [MR.cells]
@[simp] theorem mrc_map (r : MR) (g : Nat → Nat) : mapIdL g r.cells = r.cells := by simp [MR.cells]
@[simp] theorem mrc_kill (r : MR) (d : Nat) : killL d r.cells = r.cells := by simp [MR.cells]
@[simp] theorem mrc_snapW (r : MR) (g : AV → AV) : snapWL g r.cells = r.cells := by simp [MR.cells]
@[simp] theorem mrc_len (r : MR) : r.cells.length = 11 := rfl

end Wax


namespace Wax
open Go (IntKind)

/-- The k-th row of blanks. -/
def spAt (fm : L8) (k : Nat) : L8 := if fm = [] then [] else mSpace (fm.getD (k % fm.length) 0).toNat
theorem mSpace_len (n : Nat) : (mSpace n).length ≤ 2 := by
  have h : n % 6 < 6 := Nat.mod_lt _ (by omega)
  simp only [mSpace]
  generalize n % 6 = q at *
  match q, h with
  | 0, _ => simp
  | 1, _ => simp
  | 2, _ => simp
  | 3, _ => simp
  | 4, _ => simp
  | 5, _ => simp
theorem spAt_len (fm : L8) (k : Nat) : (spAt fm k).length ≤ 2 := by
  unfold spAt
  split
  · simp
  · exact mSpace_len _

def oneT (fm : L8) (k : Nat) (t : KVp) : L8 := spAt fm (k + 1) ++ 59 :: (spAt fm (k + 2) ++ t.1 ++ spAt fm (k + 3) ++ 61 :: (spAt fm (k + 4) ++ t.2))
def tagsT (fm : L8) : Nat → List KVp → L8
  | _, [] => []
  | k, t :: r => oneT fm k t ++ tagsT fm (k + 4) r
def headT (fm : L8) : L8 := 118 :: (spAt fm 1 ++ 61 :: (spAt fm 2 ++ sDM))
def mText (fm : L8) (l : List KVp) (e : Bool) : L8 := headT fm ++ tagsT fm 2 l ++ (if e then spAt fm (2 + 4 * l.length + 1) ++ [59] else [])

theorem oneT_len {fm : L8} {k : Nat} {t : KVp} (h1 : t.1.length ≤ 20) (h2 : t.2.length ≤ 200) : (oneT fm k t).length ≤ 230 := by
  have a := spAt_len fm (k + 1)
  have b := spAt_len fm (k + 2)
  have c := spAt_len fm (k + 3)
  have d := spAt_len fm (k + 4)
  simp [oneT]; omega
theorem tagsT_len {fm : L8} : ∀ {l : List KVp} {k : Nat}, (∀ t ∈ l, t.1.length ≤ 20 ∧ t.2.length ≤ 200) → (tagsT fm k l).length ≤ 230 * l.length
  | [], _, _ => by simp [tagsT]
  | t :: l, k, h => by
    have h1 := h t (by simp)
    have := tagsT_len (fm := fm) (l := l) (k := k + 4) (fun t ht => h t (by simp [ht]))
    have o := oneT_len (fm := fm) (k := k) h1.1 h1.2
    simp only [tagsT, List.length_append, List.length_cons]; omega
theorem headT_len (fm : L8) : (headT fm).length ≤ 12 := by
  have a := spAt_len fm 1
  have b := spAt_len fm 2
  simp [headT, sDM]; omega

end Wax


namespace Wax
open Go (IntKind)

def asDR : List AV → Option DR
  | [.str dk, .str sp, .int .i64 fo, .str p, pct, rf, .int .i64 ri, rua, ruf, .str sub] => match (match pct with | .nilP => some none | .ptr [.int .i64 n] => some (some n) | _ => none : Option (Option Int)), asO rf, asO rua, asO ruf with
    | some pct, some rf, some rua, some ruf => some ⟨dk, sp, fo, p, pct, rf, ri, rua, ruf, sub⟩
    | _, _, _, _ => none
  | _ => none
theorem asDR_cells (r : DR) : asDR r.cells = some r := by
  obtain ⟨dk, sp, fo, p, pct, rf, ri, rua, ruf, sub⟩ := r
  cases pct <;> simp [DR.cells, asDR, asO_slO]
theorem asDR_spec {cs : List AV} {r : DR} (h : asDR cs = some r) : cs = r.cells := by
  unfold asDR at h
  split at h
  · split at h
    · rename_i h0 h1 h2 h3
      simp at h; subst h
      rw [asO_spec h1, asO_spec h2, asO_spec h3]
      split at h0
      · simp at h0; subst h0; rfl
      · simp at h0; subst h0; rfl
      · simp at h0
    · simp at h
  · simp at h

def con_recordOf : List AV → Option AV
  | [.ptr c] => match asDR c with
    | some r => if (r.rf.getD []).length ≤ mid then some (.agg (recM r).cells) else none
    | none => none
  | _ => none
theorem rec_con {r : DR} (h : (r.rf.getD []).length ≤ mid) : con_recordOf [.ptr r.cells] = some (.agg (recM r).cells) := by
  simp only [con_recordOf, asDR_cells]
  exact if_pos h

theorem slO_alen (hp : List (Nat × AObj)) (x : Option (List L8)) : alen hp 1 (slO x) = some (x.getD []).length := by cases x <;> simp [slO]
def slN (l : List L8) : AV := if l = [] then .nilS else .sl 1 (strsA l)
@[simp] theorem slN_atom (x : List L8) : atom (slN x) = true := by unfold slN; split <;> rfl
@[simp] theorem slN_ref (x : List L8) : hasRef (slN x) = false := by unfold slN; split <;> rfl
@[simp] theorem slN_refs (x : List L8) : refs (slN x) = [] := by unfold slN; split <;> rfl
@[simp] theorem slN_kill (x : List L8) (d : Nat) : kill d (slN x) = slN x := by unfold slN; split <;> rfl
@[simp] theorem slN_snapW (x : List L8) (g : AV → AV) : snapW g (slN x) = slN x := by unfold slN; split <;> rfl
@[simp] theorem slN_cells (x : List L8) : cells (slN x) = [slN x] := by unfold slN; split <;> rfl

def slM (l : List L8) : AV := if l = [] then .nilS else .msl 66 1 0 l.length
def hpM (l : List L8) (h : List (Nat × AObj)) : List (Nat × AObj) := if l = [] then h else (66, .cells (strsA l)) :: h
theorem ro_loop {Γ : Gam} (dk sp : L8) (fo : Int) (p : L8) (P : Int) (hs : Bool) (rf : Option (List L8)) (ri : Int) (rua ruf : Option (List L8)) (sub : L8) (L : List L8) (hL : rf.getD [] = L) (hl : L.length ≤ 1099511627776) :
    awp Γ (SCode.loop [2, 3, 56, 57, 58] b_impl_recordOf_1) (blockQ 0 (thenQ (awp Γ t_impl_recordOf_2 (finQ [RV.c (some 11) 2] fun v => v = .agg (MR.cells ⟨dk, sp, fo, p, P, hs, if L = [] then none else rf, ri, rua, ruf, sub⟩)))
      (finQ [RV.c (some 11) 2] fun v => v = .agg (MR.cells ⟨dk, sp, fo, p, P, hs, if L = [] then none else rf, ri, rua, ruf, sub⟩))))
    ⟨[(2, AV.ref 2 0), (3, AV.ref 3 0), (56, slO rf), (57, AV.int IntKind.i64 L.length), (58, AV.int IntKind.i64 0)],
      [(3, AObj.cells [AV.str dk, AV.str sp, AV.int IntKind.i64 fo, AV.str p, AV.int IntKind.i64 P, AV.bool hs, AV.nilS, AV.int IntKind.i64 ri, slO rua, slO ruf, AV.str sub]),
       (2, AObj.cells [AV.str [], AV.str [], AV.int IntKind.i64 0, AV.str [], AV.int IntKind.i64 0, AV.bool false, AV.nilS, AV.int IntKind.i64 0, AV.nilS, AV.nilS, AV.str []])]⟩ := by
  have cu := slO_cells rua
  have cf := slO_cells ruf
  have cn := slO_cells (if L = [] then none else rf)
  simp only [cells] at cu cf cn
  refine awp_loop2 (σ := List L8 × List L8) (fun q => ⟨[(2, AV.ref 2 0), (3, AV.ref 3 0), (56, slO rf), (57, AV.int IntKind.i64 L.length), (58, AV.int IntKind.i64 q.1.length)],
      hpM q.1 [(3, AObj.cells [AV.str dk, AV.str sp, AV.int IntKind.i64 fo, AV.str p, AV.int IntKind.i64 P, AV.bool hs, slM q.1, AV.int IntKind.i64 ri, slO rua, slO ruf, AV.str sub]),
       (2, AObj.cells [AV.str [], AV.str [], AV.int IntKind.i64 0, AV.str [], AV.int IntKind.i64 0, AV.bool false, AV.nilS, AV.int IntKind.i64 0, AV.nilS, AV.nilS, AV.str []])]⟩)
    (fun q => L = q.1 ++ q.2) (fun q => q.2.length) ([], L) ?_ (by simp) ?_
  · simp [slM, hpM]
  rintro ⟨pre, post⟩ e1 LQ hLQ
  simp only at e1
  have hlen : L.length = pre.length + post.length := by rw [e1]; simp
  cases post with
  | nil =>
    simp only [List.append_nil] at e1
    subst e1
    by_cases hp : L = []
    · subst hp
      have hs' : slM [] = .nilS := rfl
      have hh : ∀ h, hpM [] h = h := fun h => rfl
      simp -implicitDefEqProofs [b_impl_recordOf_1, t_impl_recordOf_2, hs', hh, cu, cf, MR.cells]
    · have hs' : slM L = .msl 66 1 0 L.length := by simp [slM, hp]
      have hh : ∀ h, hpM L h = (66, .cells (strsA L)) :: h := fun h => by simp [hpM, hp]
      obtain rfl : rf = some L := by
        cases rf with
        | none => simp at hL; exact absurd hL hp
        | some l => simp at hL; rw [hL]
      simp -implicitDefEqProofs [b_impl_recordOf_1, t_impl_recordOf_2, hs', hh, cu, cf, hp, MR.cells]
  | cons x post =>
    obtain rfl : rf = some L := by
      cases rf with
      | none => simp at hL; rw [hL] at e1; simp at e1
      | some l => simp at hL; rw [hL]
    have hlen' : L.length = pre.length + (post.length + 1) := by rw [e1]; simp
    have hlt : (pre.length : Int) < (L.length : Int) := by omega
    have g : L[pre.length]? = some x := by rw [e1]; exact get_mid rfl
    have ew : IntKind.i64.wrap ((pre.length : Int) + 1) = (pre.length : Int) + 1 := wrap64 (by omega) (by omega)
    have fin := fun st => hLQ (pre ++ [x], post) (by rw [e1]; simp) (by simp) st
    have hs2 : slM (pre ++ [x]) = .msl 66 1 0 (pre.length + 1) := by simp [slM]
    have hh2 : ∀ h, hpM (pre ++ [x]) h = (66, .cells (strsA pre ++ [.str x])) :: h := fun h => by simp [hpM]
    simp only [hs2, hh2] at fin
    by_cases hp : pre = []
    · subst hp
      simp at g
      have h0 : 0 < L.length := by simp at hlen; omega
      have ew1 : IntKind.i64.wrap 1 = 1 := rfl
      have g0 : L[0] = x := by rw [List.getElem?_eq_getElem h0] at g; injection g
      have hs' : slM [] = .nilS := rfl
      have hh : ∀ h, hpM [] h = h := fun h => rfl
      simp -implicitDefEqProofs [b_impl_recordOf_1, h0, g0, hs', hh, ew1]
      refine fin _ ?_
      simp
    · have hs' : slM pre = .msl 66 1 0 pre.length := by simp [slM, hp]
      have hh : ∀ h, hpM pre h = (66, .cells (strsA pre)) :: h := fun h => by simp [hpM, hp]
      simp -implicitDefEqProofs [b_impl_recordOf_1, hlt, g, hs', hh, ew]
      refine ⟨by omega, ?_⟩
      refine fin _ ?_
      simp

set_option maxHeartbeats 1000000 in
theorem ok_recordOf (Γ : Gam) : ∀ args r, con_recordOf args = some r → runs Γ c_impl_recordOf args (fun v => v = r) := by
  intro args q h
  simp only [con_recordOf] at h
  split at h <;> (try simp at h; done)
  rename_i c
  split at h <;> (try simp at h; done)
  rename_i r hr
  obtain ⟨hl, rfl⟩ := ite_some h
  clear h
  rw [asDR_spec hr]
  clear hr
  obtain ⟨dk, sp, fo, p, pct, rf, ri, rua, ruf, sub⟩ := r
  simp only at hl
  have hl' := hl
  simp only [mid] at hl'
  generalize hL : rf.getD [] = L at *
  have hal : ∀ hp, alen hp 1 (slO rf) = some L.length := fun hp => by rw [slO_alen, hL]
  have hrec : recM ⟨dk, sp, fo, p, pct, rf, ri, rua, ruf, sub⟩ = ⟨dk, sp, fo, p, pct.getD 0, pct.isSome, if L = [] then none else rf, IntKind.i64.wrap (ri * 1000000000), rua, ruf, sub⟩ := by simp [recM, hL]
  have cu := slO_cells rua
  have cf := slO_cells ruf
  have cn := fun l => slN_cells l
  simp only [cells] at cu cf cn
  cases pct with
  | none =>
    simp -implicitDefEqProofs [-alen, c_impl_recordOf, DR.cells, hal, cu, cf]
    rw [hrec]
    exact ro_loop dk sp fo p 0 false rf _ rua ruf sub L hL hl'
  | some n =>
    simp -implicitDefEqProofs [-alen, c_impl_recordOf, DR.cells, hal, cu, cf]
    rw [hrec]
    exact ro_loop dk sp fo p n true rf _ rua ruf sub L hL hl'
/-- What Parse gives is one of its errors, or a record whose rf is short. -/
def mdOk : AV ⊕ DR → Prop
  | .inl e => e = .ifc 3 .junk ∨ ∃ m, e = eN m
  | .inr r => (r.rf.getD []).length ≤ mid

section
variable (acc : List KVp) (ha : valsOk acc)
theorem sp_ok {r : DR} (h : (r.rf.getD []).length ≤ mid) : mdOk (mdSp acc r) := by
  unfold mdSp
  split
  · exact h
  · split
    · exact h
    · exact .inr ⟨_, rfl⟩
theorem ruf_ok {r : DR} (h : (r.rf.getD []).length ≤ mid) : mdOk (mdRuf acc r) := by
  unfold mdRuf
  apply sp_ok
  split <;> exact h
theorem rua_ok {r : DR} (h : (r.rf.getD []).length ≤ mid) : mdOk (mdRua acc r) := by
  unfold mdRua
  apply ruf_ok
  split <;> exact h
theorem ri_ok {r : DR} (h : (r.rf.getD []).length ≤ mid) : mdOk (mdRi acc r) := by
  unfold mdRi
  split
  · exact rua_ok acc h
  · split
    · split
      · exact .inr ⟨_, rfl⟩
      · exact rua_ok acc h
    · exact .inr ⟨_, rfl⟩
include ha
theorem rf_ok {r : DR} (h : (r.rf.getD []).length ≤ mid) : mdOk (mdRf acc r) := by
  unfold mdRf
  split
  · exact ri_ok acc h
  · rename_i v hf
    have hv := ha _ (findP_in hf)
    have hl := splitB_length 58 v
    have hv1 := hv.1
    simp only at hv1
    split
    · rename_i hall
      refine ri_ok acc ?_
      simp only [Option.getD_some]
      omega
    · exact .inr ⟨_, rfl⟩
theorem pct_ok {r : DR} (h : (r.rf.getD []).length ≤ mid) : mdOk (mdPct acc r) := by
  unfold mdPct
  split
  · exact rf_ok acc ha h
  · split
    · split
      · exact .inr ⟨_, rfl⟩
      · exact rf_ok acc ha h
    · exact .inr ⟨_, rfl⟩
theorem fo_ok {r : DR} (h : (r.rf.getD []).length ≤ mid) : mdOk (mdFo acc r) := by
  unfold mdFo
  split
  · exact pct_ok acc ha h
  · split
    · exact pct_ok acc ha h
    · exact .inr ⟨_, rfl⟩
theorem aspf_ok {r : DR} (h : (r.rf.getD []).length ≤ mid) : mdOk (mdAspf acc r) := by
  unfold mdAspf
  split
  · exact fo_ok acc ha h
  · split
    · exact fo_ok acc ha h
    · exact .inr ⟨_, rfl⟩
theorem adkim_ok {r : DR} (h : (r.rf.getD []).length ≤ mid) : mdOk (mdAdkim acc r) := by
  unfold mdAdkim
  split
  · exact aspf_ok acc ha h
  · split
    · exact aspf_ok acc ha h
    · exact .inr ⟨_, rfl⟩
theorem all_ok : mdOk (mdAll acc) := by
  unfold mdAll
  split
  · split
    · exact .inr ⟨_, rfl⟩
    · split
      · exact adkim_ok acc ha (by simp [dr0])
      · exact .inr ⟨_, rfl⟩
  · exact .inl rfl
end
theorem text_ok {s : L8} (hs : s.length < mid) (hp : plain s = true) : mdOk (mdText s) := by
  have ha := prd2_vals s.length hs (splitB 59 s) [] (fun p hp' => ⟨splitB_mem_length 59 s p hp', splitB_plain 59 s p hp hp'⟩) (fun q hq => by simp at hq)
  unfold mdText
  split
  · exact all_ok _ ha
  · exact .inr ⟨_, rfl⟩

def mpV : AV ⊕ DR → AV
  | .inl _ => .tup [.agg mr0.cells, .bool false]
  | .inr r => .tup [.agg (recM r).cells, .bool true]
def con_MParse : List AV → Option AV
  | [.str s] => if s.length < mid ∧ plain s = true then some (mpV (mdText s)) else none
  | _ => none

theorem ok_MParse (Γ : Gam) (h142 : Γ.fn 142 = con_dmParse) (h143 : Γ.fn 143 = con_recordOf) : ∀ args r, con_MParse args = some r → runs Γ c_impl_MParse args (fun v => v = r) := by
  intro args q h
  simp only [con_MParse] at h
  split at h <;> (try simp at h; done)
  rename_i s
  obtain ⟨hs, rfl⟩ := ite_some h
  clear h
  have k : con_dmParse [.str s] = some (mdV (mdText s)) := if_pos hs
  have ho := text_ok hs.1 hs.2
  generalize mdText s = x at *
  cases x with
  | inl e =>
    rcases ho with rfl | ⟨m, rfl⟩ <;> simp -implicitDefEqProofs [c_impl_MParse, acall, h142, k, mdV, mpV, eN, MR.cells, mr0]
  | inr r =>
    have k2 := rec_con ho
    simp only [mpV]
    generalize recM r = R at *
    simp only [MR.cells] at k2
    have cu := slO_cells R.rua
    have cf := slO_cells R.ruf
    have cn := slO_cells R.rf
    simp only [cells] at cu cf cn
    simp -implicitDefEqProofs [c_impl_MParse, acall, h142, h143, k, k2, mdV, cu, cf, cn, MR.cells]
end Wax


namespace Wax
open Go (IntKind)

def gB (c : UInt8) : Prop := 32 < c.toNat ∧ c.toNat < 127 ∧ c ≠ 59
def allBl (s : L8) : Prop := ∀ x ∈ s, blB x = true
theorem blB_ws {x : UInt8} (h : blB x = true) : isWs x.toNat = true := by
  simp only [blB, decide_eq_true_eq] at h
  simp only [isWs, decide_eq_true_eq]
  omega
theorem gB_ws {x : UInt8} (h : gB x) : isWs x.toNat = false := by
  obtain ⟨h1, h2, _⟩ := h
  simp only [isWs, decide_eq_false_iff_not]
  omega
theorem allBl_ws {s : L8} (h : allBl s) : allWs s := fun x hx => blB_ws (h x hx)
theorem allBl_no {s : L8} (h : allBl s) {n : Int} (hn : 32 < n) : noB n s := by
  intro x hx
  have := h x hx
  simp only [blB, decide_eq_true_eq] at this
  omega
theorem allBl_nil : allBl [] := by intro x hx; simp at hx
theorem mSpace_bl (n : Nat) : allBl (mSpace n) := by
  have h : n % 6 < 6 := Nat.mod_lt _ (by omega)
  simp only [mSpace]
  generalize n % 6 = q at *
  match q, h with
  | 0, _ => simp [allBl, blB]
  | 1, _ => simp [allBl, blB]
  | 2, _ => simp [allBl, blB]
  | 3, _ => simp [allBl, blB]
  | 4, _ => simp [allBl, blB]
  | 5, _ => simp [allBl, blB]
theorem spAt_bl (fm : L8) (k : Nat) : allBl (spAt fm k) := by
  unfold spAt
  split
  · exact allBl_nil
  · exact mSpace_bl _
theorem trimS_mid {a n b : L8} (ha : allBl a) (hn : ∀ x ∈ n, gB x) (hne : n ≠ []) (hb : allBl b) : trimS (a ++ n ++ b) = n := by
  have e : trimS (a ++ n ++ b) = trimS (n ++ b) := by
    rw [List.append_assoc]
    simp only [trimS]
    rw [trimL_app (allBl_ws ha)]
  rw [e]
  exact trimS_word (fun x hx => gB_ws (hn x hx)) hne (allBl_ws hb)
theorem trimS_bl {a : L8} (ha : allBl a) : trimS a = [] := by
  have e := trimL_app (a := a) (b := []) (allBl_ws ha)
  simp only [List.append_nil] at e
  simp only [trimS, e]
  rfl

/-- A tag whose name and value are words. -/
structure Gt (t : KVp) : Prop where
  n1 : t.1 ≠ []
  n2 : ∀ x ∈ t.1, gB x ∧ x ≠ 61
  v1 : t.2 ≠ []
  v2 : ∀ x ∈ t.2, gB x

/-- A piece of a text that says a tag. -/
def Pc (p : L8) (t : KVp) : Prop := ∃ a b c d, allBl a ∧ allBl b ∧ allBl c ∧ allBl d ∧ p = a ++ t.1 ++ b ++ 61 :: (c ++ t.2 ++ d)

theorem prd2_pc {p : L8} {t : KVp} (h : Pc p t) (g : Gt t) {acc : List KVp} (hk : hasK t.1 acc = false) (r : List L8) : prd2 (p :: r) acc = prd2 r (acc ++ [t]) := by
  obtain ⟨a, b, c, d, ha, hb, hc, hd, rfl⟩ := h
  have hno : noB (61 : UInt8).toNat (a ++ t.1 ++ b) := by
    intro x hx
    simp only [List.mem_append] at hx
    rcases hx with (hx | hx) | hx
    · exact allBl_no ha (by decide) x hx
    · have := (g.n2 x hx).2
      intro e
      exact this (UInt8.toNat_inj.1 (by exact_mod_cast e))
    · exact allBl_no hb (by decide) x hx
  have e : cutAt 61 (a ++ t.1 ++ b ++ 61 :: (c ++ t.2 ++ d)) = some (a ++ t.1 ++ b, c ++ t.2 ++ d) := cutAt_noB hno
  simp only [prd2, e]
  rw [trimS_mid ha (fun x hx => (g.n2 x hx).1) g.n1 hb, trimS_mid hc g.v2 g.v1 hd, psetL_new hk]
theorem prd2_bl {p : L8} (h : allBl p) (r : List L8) (acc : List KVp) : prd2 (p :: r) acc = prd2 r acc := by
  have e : cutAt 61 p = none := by
    have := cutAt_app 61 p [] (allBl_no h (by decide))
    simpa [cutAt] using this
  simp only [prd2, e, trimS_bl h, if_true]

def tailT (fm : L8) (k : Nat) (e : Bool) : L8 := if e then spAt fm (k + 1) ++ [59] else []
def pcsL (fm : L8) : Nat → L8 → List KVp → Bool → List L8
  | k, cur, [], e => if e then [cur ++ spAt fm (k + 1), []] else [cur]
  | k, cur, t :: r, e => (cur ++ spAt fm (k + 1)) :: pcsL fm (k + 4) (spAt fm (k + 2) ++ t.1 ++ spAt fm (k + 3) ++ 61 :: (spAt fm (k + 4) ++ t.2)) r e
theorem noB_app {c : Int} {a b : L8} (ha : noB c a) (hb : noB c b) : noB c (a ++ b) := by
  intro x hx
  rcases List.mem_append.1 hx with hx | hx
  · exact ha x hx
  · exact hb x hx
theorem gB_no {s : L8} (h : ∀ x ∈ s, gB x) : noB 59 s := fun x hx e => (h x hx).2.2 (UInt8.toNat_inj.1 (by exact_mod_cast e))
theorem cur_no {fm : L8} {k : Nat} {t : KVp} (g : Gt t) : noB 59 (spAt fm (k + 2) ++ t.1 ++ spAt fm (k + 3) ++ 61 :: (spAt fm (k + 4) ++ t.2)) := by
  have h1 : noB 59 (61 :: (spAt fm (k + 4) ++ t.2)) := by
    intro x hx
    rcases List.mem_cons.1 hx with rfl | hx
    · decide
    · exact noB_app (allBl_no (spAt_bl fm _) (by decide)) (gB_no g.v2) x hx
  exact noB_app (noB_app (noB_app (allBl_no (spAt_bl fm _) (by decide)) (gB_no fun x hx => (g.n2 x hx).1)) (allBl_no (spAt_bl fm _) (by decide))) h1
theorem split_tags (fm : L8) (e : Bool) : ∀ (l : List KVp) (k : Nat) (cur : L8), noB 59 cur → (∀ t ∈ l, Gt t) → splitB 59 (cur ++ (tagsT fm k l ++ tailT fm (k + 4 * l.length) e)) = pcsL fm k cur l e
  | [], k, cur, hc, _ => by
    cases e with
    | false =>
      simp only [tagsT, tailT, pcsL]
      simpa using splitB_only (b := 59) hc
    | true =>
      have h := splitB_app (b := 59) (post := []) (noB_app hc (allBl_no (spAt_bl fm (k + 1)) (by decide)))
      simp only [tagsT, tailT, pcsL, List.nil_append, List.length_nil, Nat.mul_zero, Nat.add_zero, if_true]
      rw [← List.append_assoc]
      simpa [splitB] using h
  | t :: r, k, cur, hc, hg => by
    have ih := split_tags fm e r (k + 4) _ (cur_no (fm := fm) (k := k) (hg t (by simp))) (fun t' ht => hg t' (by simp [ht]))
    have h := splitB_app (b := 59) (post := (spAt fm (k + 2) ++ t.1 ++ spAt fm (k + 3) ++ 61 :: (spAt fm (k + 4) ++ t.2)) ++ (tagsT fm (k + 4) r ++ tailT fm (k + 4 + 4 * r.length) e)) (noB_app hc (allBl_no (spAt_bl fm (k + 1)) (by decide)))
    simp only [pcsL]
    rw [← ih, ← h]
    have e4 : k + 4 * (t :: r).length = k + 4 + 4 * r.length := by simp; omega
    rw [e4]
    congr 1
    simp [tagsT, oneT]
theorem prd2_pcsL (fm : L8) (e : Bool) : ∀ (l : List KVp) (k : Nat) (cur : L8) (t : KVp) (acc : List KVp), (∃ a b c, allBl a ∧ allBl b ∧ allBl c ∧ cur = a ++ t.1 ++ b ++ 61 :: (c ++ t.2)) → Gt t → (∀ t ∈ l, Gt t) → ((acc ++ t :: l).map (·.1)).Nodup → prd2 (pcsL fm k cur l e) acc = (acc ++ t :: l, true)
  | [], k, cur, t, acc, ⟨a, b, c, ha, hb, hc, hcur⟩, g, _, nd => by
    have hk : hasK t.1 acc = false := by
      simp only [hasK, List.any_eq_false, decide_eq_true_eq]
      intro u hu e
      rw [List.map_append, List.nodup_append] at nd
      exact nd.2.2 u.1 (List.mem_map.2 ⟨u, hu, rfl⟩) t.1 (by simp) e.symm
    cases e with
    | false =>
      simp only [pcsL]
      rw [if_neg (by simp), prd2_pc ⟨a, b, c, [], ha, hb, hc, allBl_nil, by simpa using hcur⟩ g hk]
      rfl
    | true =>
      simp only [pcsL, if_true]
      rw [prd2_pc ⟨a, b, c, spAt fm (k + 1), ha, hb, hc, spAt_bl _ _, by rw [hcur]; simp⟩ g hk, prd2_bl allBl_nil]
      rfl
  | t2 :: r, k, cur, t, acc, ⟨a, b, c, ha, hb, hc, hcur⟩, g, hg, nd => by
    have hk : hasK t.1 acc = false := by
      simp only [hasK, List.any_eq_false, decide_eq_true_eq]
      intro u hu e
      rw [List.map_append, List.nodup_append] at nd
      exact nd.2.2 u.1 (List.mem_map.2 ⟨u, hu, rfl⟩) t.1 (by simp) e.symm
    simp only [pcsL]
    rw [prd2_pc ⟨a, b, c, spAt fm (k + 1), ha, hb, hc, spAt_bl _ _, by rw [hcur]; simp⟩ g hk]
    rw [prd2_pcsL fm e r (k + 4) _ t2 (acc ++ [t]) ⟨spAt fm (k + 2), spAt fm (k + 3), spAt fm (k + 4), spAt_bl _ _, spAt_bl _ _, spAt_bl _ _, rfl⟩ (hg t2 (by simp)) (fun t' ht => hg t' (by simp [ht])) (by simpa using nd)]
    simp
theorem gt_v : Gt (kV, sDM) := ⟨by simp [kV], by simp only [kV, gB]; decide, by simp [sDM], by simp only [sDM, gB]; decide⟩
theorem mText_eq (fm : L8) (l : List KVp) (e : Bool) : mText fm l e = (spAt [] 0 ++ kV ++ spAt fm 1 ++ 61 :: (spAt fm 2 ++ sDM)) ++ (tagsT fm 2 l ++ tailT fm (2 + 4 * l.length) e) := by
  simp [mText, headT, tailT, kV, spAt]
/-- The text of tags, read. -/
theorem prd2_text (fm : L8) (l : List KVp) (e : Bool) (hg : ∀ t ∈ l, Gt t) (nd : (((kV, sDM) :: l).map (·.1)).Nodup) : prd2 (splitB 59 (mText fm l e)) [] = ((kV, sDM) :: l, true) := by
  have hno : noB 59 (spAt [] 0 ++ kV ++ spAt fm 1 ++ 61 :: (spAt fm 2 ++ sDM)) := by
    have h1 : noB 59 (61 :: (spAt fm 2 ++ sDM)) := by
      intro x hx
      rcases List.mem_cons.1 hx with rfl | hx
      · decide
      · exact noB_app (allBl_no (spAt_bl fm _) (by decide)) (gB_no gt_v.v2) x hx
    exact noB_app (noB_app (noB_app (allBl_no (spAt_bl [] _) (by decide)) (gB_no fun x hx => (gt_v.n2 x hx).1)) (allBl_no (spAt_bl fm _) (by decide))) h1
  rw [mText_eq, split_tags fm e l 2 _ hno hg]
  exact prd2_pcsL fm e l 2 _ (kV, sDM) [] ⟨spAt [] 0, spAt fm 1, spAt fm 2, spAt_bl _ _, spAt_bl _ _, spAt_bl _ _, rfl⟩ gt_v hg (by simpa using nd)
end Wax


namespace Wax
open Go (IntKind)

theorem pu_num : ∀ (l : L8) (acc : Nat), l.all digB = true → (acc + 1) * 10 ^ l.length ≤ 100000000000 → ∃ m : Nat, Go.Lib.parseUint10 acc l = .ok m ∧ numW (acc : Int) l = (m : Int) ∧ m + 1 ≤ 100000000000
  | [], acc, _, h => ⟨acc, rfl, rfl, by simpa using h⟩
  | c :: r, acc, hd, h => by
    simp only [List.all_cons, Bool.and_eq_true] at hd
    have hc := hd.1
    simp only [digB, decide_eq_true_eq] at hc
    have hp : 1 ≤ 10 ^ r.length := Nat.pos_of_ne_zero (by simp)
    have h2 : (acc + 1) * 10 * 10 ^ r.length ≤ 100000000000 := by
      have : (acc + 1) * 10 ^ (c :: r).length = (acc + 1) * 10 * 10 ^ r.length := by rw [List.length_cons, Nat.pow_succ]; simp [Nat.mul_assoc, Nat.mul_comm]
      omega
    have h3 : (acc + 1) * 10 ≤ 100000000000 := Nat.le_trans (Nat.le_mul_of_pos_right _ hp) h2
    have h4 : (acc * 10 + (c.toNat - 48) + 1) * 10 ^ r.length ≤ 100000000000 := Nat.le_trans (Nat.mul_le_mul_right _ (by omega)) h2
    obtain ⟨m, e1, e2, e3⟩ := pu_num r (acc * 10 + (c.toNat - 48)) hd.2 h4
    refine ⟨m, ?_, ?_, e3⟩
    · simp only [Go.Lib.parseUint10]
      rw [if_pos hc, if_neg (by omega), if_neg (by omega), e1]
    · rw [← e2]
      have w1 : IntKind.i64.wrap (10 * (acc : Int)) = 10 * (acc : Int) := wrap64 (by omega) (by omega)
      have w2 : IntKind.i64.wrap (10 * (acc : Int) + ((c.toNat : Int) - 48)) = ((acc * 10 + (c.toNat - 48) : Nat) : Int) := by
        rw [wrap64 (by omega) (by omega)]; omega
      simp only [numW, List.foldl_cons, w1, w2]
theorem num_atoi {v : L8} {n : Int} (h : (mNum v n).2 = true) (hn : n ≤ 10) : ∃ m : Nat, Go.Lib.atoiAll v = .ok (m : Int) ∧ (mNum v n).1 = (m : Int) ∧ m + 1 ≤ 100000000000 := by
  unfold mNum at h ⊢
  split at h
  · rename_i hd
    rw [if_pos hd]
    simp only [Bool.and_eq_true, decide_eq_true_eq] at h
    obtain ⟨h1, h2⟩ := h
    have hp : 10 ^ v.length ≤ 10 ^ 10 := Nat.pow_le_pow_right (by omega) (by omega)
    obtain ⟨m, e1, e2, e3⟩ := pu_num v 0 hd (by omega)
    refine ⟨m, ?_, by simpa using e2, e3⟩
    cases v with
    | nil => exact absurd rfl h1
    | cons c r =>
      simp only [List.all_cons, Bool.and_eq_true] at hd
      have hc := hd.1
      simp only [digB, decide_eq_true_eq] at hc
      have e0 : Go.Lib.parseMag (c :: r) = .ok m := by simp only [Go.Lib.parseMag]; rw [if_neg (by simp), e1]
      simp only [Go.Lib.atoiAll]
      rw [if_neg (by omega), e0]
      simp only
      rw [if_neg (by omega), if_neg (by omega), if_neg (by omega)]
  · simp at h

theorem tokB_g {c : UInt8} (h : tokB c = true) : gB c := by
  simp only [tokB, Bool.and_eq_true, decide_eq_true_eq, Bool.not_eq_true'] at h
  refine ⟨h.1.1, h.1.2, ?_⟩
  rintro rfl
  simp [tokStop] at h
theorem kwB_g {c : UInt8} (h : kwB c = true) : gB c ∧ c ≠ 61 := by
  simp only [kwB, decide_eq_true_eq] at h
  refine ⟨⟨by omega, by omega, ?_⟩, ?_⟩ <;> rintro rfl <;> simp at h
theorem digB_g {c : UInt8} (h : digB c = true) : gB c := by
  simp only [digB, decide_eq_true_eq] at h
  refine ⟨by omega, by omega, ?_⟩; rintro rfl; simp at h
theorem split_g {b : UInt8} (hb : gB b) : ∀ {v : L8}, (∀ p ∈ splitB b v, ∀ x ∈ p, gB x) → ∀ x ∈ v, gB x
  | [], _, x, hx => by simp at hx
  | c :: r, h, x, hx => by
    simp only [splitB] at h
    split at h
    · rename_i e
      rcases List.mem_cons.1 hx with rfl | hx
      · rw [e]; exact hb
      · exact split_g hb (v := r) (fun p hp => h p (by simp [hp])) x hx
    · cases hs : splitB b r with
      | nil => exact absurd hs (splitB_ne b r)
      | cons p t =>
        rw [hs] at h
        simp only at h
        rcases List.mem_cons.1 hx with rfl | hx
        · exact h (x :: p) (by simp) x (by simp)
        · refine split_g hb (v := r) ?_ x hx
          intro q hq y hy
          rw [hs] at hq
          rcases List.mem_cons.1 hq with rfl | hq
          · exact h (c :: q) (by simp) y (by simp [hy])
          · exact h q (by simp [hq]) y hy
theorem mlist_g {b : UInt8} (hb : gB b) {right : L8 → Bool} (hr : ∀ p, right p = true → ∀ x ∈ p, gB x) {v : L8} (h : (mlist b right v).isSome = true) : (∀ x ∈ v, gB x) ∧ mlist b right v = some (splitB b v) ∧ (splitB b v).all right = true := by
  unfold mlist at h ⊢
  split at h
  · rename_i ha
    rw [if_pos ha]
    refine ⟨split_g hb (fun p hp => hr p (List.all_eq_true.1 ha p hp)), rfl, ha⟩
  · simp at h
theorem dom_g {s : L8} (h : mDom s = true) : ∀ x ∈ s, gB x := by
  simp only [mDom, Bool.and_eq_true] at h
  refine split_g (b := 46) (by simp only [gB]; decide) (fun p hp x hx => ?_)
  have := List.all_eq_true.1 h.1 p hp
  simp only [Bool.and_eq_true, mKw] at this
  exact (kwB_g (List.all_eq_true.1 this.1.1.1.1 x hx)).1
theorem cut_mem {c : UInt8} {s : L8} {p : L8 × L8} (h : cutAt c.toNat s = some p) : s = p.1 ++ c :: p.2 := by
  obtain ⟨x, hx, e, _⟩ := cutAt_eq (a := p.1) (b := p.2) h
  have : x = c := UInt8.toNat_inj.1 (by exact_mod_cast hx)
  rw [e, this]
theorem addr_g {s : L8} (h : addrB s = true) : ∀ x ∈ s, gB x := by
  unfold addrB at h
  split at h
  · rename_i p hp
    simp only [Bool.and_eq_true, mTok] at h
    rw [cut_mem (c := 64) hp]
    intro x hx
    simp only [List.mem_append, List.mem_cons] at hx
    rcases hx with hx | rfl | hx
    · exact tokB_g (List.all_eq_true.1 h.1.1 x hx)
    · simp only [gB]; decide
    · exact dom_g h.2 x hx
  · simp at h
theorem mNum_g {v : L8} {n : Int} (h : (mNum v n).2 = true) : ∀ x ∈ v, gB x := by
  unfold mNum at h
  split at h
  · rename_i hd
    exact fun x hx => digB_g (List.all_eq_true.1 hd x hx)
  · simp at h
theorem size_g {s : L8} (h : ∀ x ∈ sizeOff s, gB x) : ∀ x ∈ s, gB x := by
  unfold sizeOff at h
  split at h
  · rename_i c hc
    split at h
    · rename_i hk
      have e : s = s.dropLast ++ [c] := by
        rw [List.getLast?_eq_some_iff] at hc
        obtain ⟨ys, rfl⟩ := hc
        simp
      rw [e]
      intro x hx
      simp only [List.mem_append, List.mem_singleton] at hx
      rcases hx with hx | rfl
      · exact h x hx
      · simp only [sKmgt, List.contains_eq_mem, decide_eq_true_eq, List.mem_cons, List.not_mem_nil, or_false] at hk
        rcases hk with rfl | rfl | rfl | rfl <;> (simp only [gB]; decide)
    · exact h
  · exact h
theorem muri_g {s : L8} (h : muri s = true) : ∀ x ∈ s, gB x := by
  simp only [muri, Bool.and_eq_true, decide_eq_true_eq] at h
  obtain ⟨⟨h1, h2⟩, h3⟩ := h
  have hd : ∀ x ∈ s.drop 7, gB x := by
    split at h3
    · rename_i p hp
      simp only [Bool.and_eq_true] at h3
      rw [cut_mem (c := 33) hp]
      intro x hx
      simp only [List.mem_append, List.mem_cons] at hx
      rcases hx with hx | rfl | hx
      · exact addr_g h3.2 x hx
      · simp only [gB]; decide
      · exact size_g (mNum_g h3.1) x hx
    · exact addr_g h3
  rw [← List.take_append_drop 7 s, h2]
  intro x hx
  rcases List.mem_append.1 hx with hx | hx
  · clear h3 hd h1 h2
    have hm : ∀ y ∈ sMailto, gB y := by simp only [sMailto, gB]; decide
    exact hm x hx
  · exact hd x hx
theorem foOk_c {s : L8} (h : foOk s = true) : ∃ c, s = [c] ∧ (c = 48 ∨ c = 49 ∨ c = 100 ∨ c = 115) := by
  unfold foOk at h
  split at h
  · rename_i c
    simp only [s01ds, List.contains_eq_mem, decide_eq_true_eq, List.mem_cons, List.not_mem_nil, or_false] at h
    exact ⟨c, rfl, h⟩
  · simp at h
theorem foOk_g {s : L8} (h : foOk s = true) : ∀ x ∈ s, gB x := by
  obtain ⟨c, rfl, rfl | rfl | rfl | rfl⟩ := foOk_c h <;> (simp only [gB]; decide)
/-- What is asked of tags, in whatever order. -/
structure Rd (l : List KVp) : Prop where
  ok : ∀ t ∈ l, mOk t = true ∧ Gt t
  nd : (((kV, sDM) :: l).map (·.1)).Nodup
  p : ∃ v, findP l kP = some v

def recOf (f : L8 → Option L8) : DR :=
  { dk := (f kAdkim).getD sR, sp := (f kAspf).getD sR, fo := (match f kFo with | none => 0 | some v => foOf (splitB 58 v)), p := (f kP).getD [], pct := (f kPct).map fun v => (mNum v 3).1,
    rf := (f kRf).map (splitB 58), ri := (match f kRi with | none => 0 | some v => (mNum v 10).1), rua := (f kRua).map (splitB 44), ruf := (f kRuf).map (splitB 44), sub := (f kSp).getD [] }

theorem fo2_of : ∀ (L : List L8) (n : Int), L.all foOk = true → fo2 n L = some (L.foldl (fun n x => orI n (foBit x)) n)
  | [], n, _ => rfl
  | x :: r, n, h => by
    simp only [List.all_cons, Bool.and_eq_true] at h
    have ih := fun m => fo2_of r m h.2
    obtain ⟨c, rfl, hc⟩ := foOk_c h.1
    have ht : trimS [c] = [c] := by rcases hc with rfl | rfl | rfl | rfl <;> decide
    have hb : fobit2 [c] = some (foBit [c]) := by
      simp only [fobit2, ht]
      rcases hc with rfl | rfl | rfl | rfl <;> decide
    simp only [fo2, hb, ih, List.foldl_cons]
theorem uris_of {v : L8} (h : (splitB 44 v).all muri = true) : uris v = splitB 44 v := by
  simp only [uris]
  have : ∀ (L : List L8), L.all muri = true → L.map trimS = L := by
    intro L
    induction L with
    | nil => intro _; rfl
    | cons x r ih =>
      intro h
      simp only [List.all_cons, Bool.and_eq_true] at h
      have hne : x ≠ [] := by rintro rfl; simp [muri] at h
      have := trimS_word (n := x) (b := []) (fun y hy => gB_ws (muri_g h.1 y hy)) hne (fun y hy => by simp at hy)
      simp only [List.append_nil] at this
      simp [this, ih h.2]
  exact this _ h

section
variable {acc : List KVp} (ha : ∀ k v, findP acc k = some v → k ≠ kV → mOk (k, v) = true)
include ha
theorem mdSp_of (r : DR) (hr : r.sub = []) : mdSp acc r = .inr { r with sub := (findP acc kSp).getD [] } := by
  unfold mdSp
  split
  · rename_i h; rw [h]; simp [← hr]
  · rename_i v h
    have := ha _ _ h (by decide)
    rw [h]
    have hp : polB v = true := by simpa [mOk, kSp, kAdkim, kAspf, kP] using this
    rw [if_pos hp]; rfl
theorem mdRuf_of (r : DR) (hr : r.sub = [] ∧ r.ruf = none) : mdRuf acc r = .inr { r with sub := (findP acc kSp).getD [], ruf := (findP acc kRuf).map (splitB 44) } := by
  unfold mdRuf
  cases h : findP acc kRuf with
  | none => simp only; rw [mdSp_of ha _ hr.1]; simp [← hr.2]
  | some v =>
    have := ha _ _ h (by decide)
    have hp : (mlist 44 muri v).isSome = true := by simpa [mOk, kSp, kAdkim, kAspf, kP, kFo, kPct, kRf, kRi, kRua, kRuf] using this
    have hu := (mlist_g (by simp only [gB]; decide) (fun p => muri_g) hp).2.2
    simp only
    rw [uris_of hu, mdSp_of ha]; rfl
    exact hr.1
theorem mdRua_of (r : DR) (hr : r.sub = [] ∧ r.ruf = none ∧ r.rua = none) : mdRua acc r = .inr { r with sub := (findP acc kSp).getD [], ruf := (findP acc kRuf).map (splitB 44), rua := (findP acc kRua).map (splitB 44) } := by
  unfold mdRua
  cases h : findP acc kRua with
  | none => simp only; rw [mdRuf_of ha _ ⟨hr.1, hr.2.1⟩]; simp [← hr.2.2]
  | some v =>
    have := ha _ _ h (by decide)
    have hp : (mlist 44 muri v).isSome = true := by simpa [mOk, kSp, kAdkim, kAspf, kP, kFo, kPct, kRf, kRi, kRua, kRuf] using this
    have hu := (mlist_g (by simp only [gB]; decide) (fun p => muri_g) hp).2.2
    simp only
    rw [uris_of hu, mdRuf_of ha]; rfl
    exact ⟨hr.1, hr.2.1⟩
theorem mdRi_of (r : DR) (hr : r.sub = [] ∧ r.ruf = none ∧ r.rua = none ∧ r.ri = 0) : mdRi acc r = .inr { r with sub := (findP acc kSp).getD [], ruf := (findP acc kRuf).map (splitB 44), rua := (findP acc kRua).map (splitB 44), ri := (match findP acc kRi with | none => 0 | some v => (mNum v 10).1) } := by
  unfold mdRi
  cases h : findP acc kRi with
  | none => simp only; rw [mdRua_of ha _ ⟨hr.1, hr.2.1, hr.2.2.1⟩]; simp [← hr.2.2.2]
  | some v =>
    have := ha _ _ h (by decide)
    have hp : ((mNum v 10).2 = true ∧ 0 < (mNum v 10).1) ∧ (mNum v 10).1 < 4294967296 := by simpa [mOk, kSp, kAdkim, kAspf, kP, kFo, kPct, kRf, kRi, kRua, kRuf] using this
    obtain ⟨m, e1, e2, e3⟩ := num_atoi hp.1.1 (by omega)
    simp only [e1, e2]
    rw [if_neg (by omega), mdRua_of ha]
    exact ⟨hr.1, hr.2.1, hr.2.2.1⟩
theorem mdRf_of (r : DR) (hr : r.sub = [] ∧ r.ruf = none ∧ r.rua = none ∧ r.ri = 0 ∧ r.rf = none) : mdRf acc r = .inr { r with sub := (findP acc kSp).getD [], ruf := (findP acc kRuf).map (splitB 44), rua := (findP acc kRua).map (splitB 44), ri := (match findP acc kRi with | none => 0 | some v => (mNum v 10).1), rf := (findP acc kRf).map (splitB 58) } := by
  unfold mdRf
  cases h : findP acc kRf with
  | none => simp only; rw [mdRi_of ha _ ⟨hr.1, hr.2.1, hr.2.2.1, hr.2.2.2.1⟩]; simp [← hr.2.2.2.2]
  | some v =>
    have := ha _ _ h (by decide)
    have hp : (mlist 58 (fun s => decide (s = sAfrf)) v).isSome = true := by simpa [mOk, kSp, kAdkim, kAspf, kP, kFo, kPct, kRf, kRi, kRua, kRuf] using this
    have hu : (splitB 58 v).all (fun s => decide (s = sAfrf)) = true := by
      unfold mlist at hp; split at hp
      · assumption
      · simp at hp
    simp only
    rw [if_pos hu, mdRi_of ha]; rfl
    exact ⟨hr.1, hr.2.1, hr.2.2.1, hr.2.2.2.1⟩
theorem mdPct_of (r : DR) (hr : r.sub = [] ∧ r.ruf = none ∧ r.rua = none ∧ r.ri = 0 ∧ r.rf = none ∧ r.pct = none) : mdPct acc r = .inr { r with sub := (findP acc kSp).getD [], ruf := (findP acc kRuf).map (splitB 44), rua := (findP acc kRua).map (splitB 44), ri := (match findP acc kRi with | none => 0 | some v => (mNum v 10).1), rf := (findP acc kRf).map (splitB 58), pct := (findP acc kPct).map fun v => (mNum v 3).1 } := by
  unfold mdPct
  cases h : findP acc kPct with
  | none => simp only; rw [mdRf_of ha _ ⟨hr.1, hr.2.1, hr.2.2.1, hr.2.2.2.1, hr.2.2.2.2.1⟩]; simp [← hr.2.2.2.2.2]
  | some v =>
    have := ha _ _ h (by decide)
    have hp : (mNum v 3).2 = true ∧ (mNum v 3).1 ≤ 100 := by simpa [mOk, kSp, kAdkim, kAspf, kP, kFo, kPct, kRf, kRi, kRua, kRuf] using this
    obtain ⟨m, e1, e2, e3⟩ := num_atoi hp.1 (by omega)
    simp only [e1, Option.map_some, e2]
    rw [if_neg (by omega), mdRf_of ha]
    exact ⟨hr.1, hr.2.1, hr.2.2.1, hr.2.2.2.1, hr.2.2.2.2.1⟩
theorem mdFo_of (r : DR) (hr : r.sub = [] ∧ r.ruf = none ∧ r.rua = none ∧ r.ri = 0 ∧ r.rf = none ∧ r.pct = none ∧ r.fo = 0) : mdFo acc r = .inr { r with sub := (findP acc kSp).getD [], ruf := (findP acc kRuf).map (splitB 44), rua := (findP acc kRua).map (splitB 44), ri := (match findP acc kRi with | none => 0 | some v => (mNum v 10).1), rf := (findP acc kRf).map (splitB 58), pct := (findP acc kPct).map (fun v => (mNum v 3).1), fo := (match findP acc kFo with | none => 0 | some v => foOf (splitB 58 v)) } := by
  have hr6 : r.sub = [] ∧ r.ruf = none ∧ r.rua = none ∧ r.ri = 0 ∧ r.rf = none ∧ r.pct = none := ⟨hr.1, hr.2.1, hr.2.2.1, hr.2.2.2.1, hr.2.2.2.2.1, hr.2.2.2.2.2.1⟩
  unfold mdFo
  cases h : findP acc kFo with
  | none => simp only; rw [mdPct_of ha _ hr6]; simp [← hr.2.2.2.2.2.2]
  | some v =>
    have := ha _ _ h (by decide)
    have hp : (mlist 58 foOk v).isSome = true := by simpa [mOk, kSp, kAdkim, kAspf, kP, kFo, kPct, kRf, kRi, kRua, kRuf] using this
    have hu := (mlist_g (by simp only [gB]; decide) (fun p => foOk_g) hp).2.2
    simp only [fo2_of _ 0 hu]
    rw [mdPct_of ha]; rfl
    exact hr6
theorem mdAspf_of (r : DR) (hr : r.sub = [] ∧ r.ruf = none ∧ r.rua = none ∧ r.ri = 0 ∧ r.rf = none ∧ r.pct = none ∧ r.fo = 0) : mdAspf acc r = .inr { r with sub := (findP acc kSp).getD [], ruf := (findP acc kRuf).map (splitB 44), rua := (findP acc kRua).map (splitB 44), ri := (match findP acc kRi with | none => 0 | some v => (mNum v 10).1), rf := (findP acc kRf).map (splitB 58), pct := (findP acc kPct).map (fun v => (mNum v 3).1), fo := (match findP acc kFo with | none => 0 | some v => foOf (splitB 58 v)), sp := (findP acc kAspf).getD sR } := by
  unfold mdAspf
  cases h : findP acc kAspf with
  | none => simp only; rw [mdFo_of ha]; rfl; exact hr
  | some v =>
    have := ha _ _ h (by decide)
    have hp : alignB v = true := by simpa [mOk, kSp, kAdkim, kAspf] using this
    simp only
    rw [if_pos hp, mdFo_of ha]; rfl; exact hr
theorem mdAdkim_of (r : DR) (hr : r.sub = [] ∧ r.ruf = none ∧ r.rua = none ∧ r.ri = 0 ∧ r.rf = none ∧ r.pct = none ∧ r.fo = 0) : mdAdkim acc r = .inr { r with sub := (findP acc kSp).getD [], ruf := (findP acc kRuf).map (splitB 44), rua := (findP acc kRua).map (splitB 44), ri := (match findP acc kRi with | none => 0 | some v => (mNum v 10).1), rf := (findP acc kRf).map (splitB 58), pct := (findP acc kPct).map (fun v => (mNum v 3).1), fo := (match findP acc kFo with | none => 0 | some v => foOf (splitB 58 v)), sp := (findP acc kAspf).getD sR, dk := (findP acc kAdkim).getD sR } := by
  unfold mdAdkim
  cases h : findP acc kAdkim with
  | none => simp only; rw [mdAspf_of ha]; rfl; exact hr
  | some v =>
    have := ha _ _ h (by decide)
    have hp : alignB v = true := by simpa [mOk, kSp, kAdkim] using this
    simp only
    rw [if_pos hp, mdAspf_of ha]; rfl; exact hr
end
theorem mdAll_of {acc : List KVp} (ha : ∀ k v, findP acc k = some v → k ≠ kV → mOk (k, v) = true) (hv : findP acc kV = some sDM) {v : L8} (hp : findP acc kP = some v) : mdAll acc = .inr (recOf (findP acc)) := by
  unfold mdAll
  have e : (some sDM : Option L8).getD [] = sDM := rfl
  rw [hv, if_pos e, hp]
  have := ha _ _ hp (by decide)
  have hpv : polB v = true := by simpa [mOk, kAdkim, kAspf, kP] using this
  simp only
  rw [if_pos hpv, mdAdkim_of ha]
  · simp only [recOf, hp, dr0, Option.getD_some]
    congr 1
  · simp [dr0]
end Wax


namespace Wax
open Go (IntKind)

/-- The lists within a record are not too long. -/
def MR.short (r : MR) : Prop := (r.rf.getD []).length < mid ∧ (r.rua.getD []).length < mid ∧ (r.ruf.getD []).length < mid
instance (r : MR) : Decidable r.short := by unfold MR.short; infer_instance

end Wax


namespace Wax
open Go (IntKind)

theorem findP_cons_ne {k i v : L8} {l : List KVp} (h : k ≠ i) : findP ((i, v) :: l) k = findP l k := by
  simp only [findP]; rw [if_neg (fun e => h e.symm)]
theorem findP_of_mem : ∀ {l : List KVp} {k v : L8}, (l.map (·.1)).Nodup → (k, v) ∈ l → findP l k = some v
  | [], _, _, _, h => by simp at h
  | (i, u) :: r, k, v, nd, h => by
    simp only [List.map_cons, List.nodup_cons] at nd
    rcases List.mem_cons.1 h with h2 | h2
    · injection h2 with h3 h4; subst h3; subst h4; simp [findP]
    · have hne : k ≠ i := fun e => nd.1 (List.mem_map.2 ⟨(k, v), h2, e⟩)
      rw [findP_cons_ne hne]
      exact findP_of_mem nd.2 h2
theorem recOf_congr {f g : L8 → Option L8} (h : ∀ k ∈ mKnown, f k = g k) : recOf f = recOf g := by
  have := fun k hk => h k hk
  simp only [recOf, h kAdkim (by decide), h kAspf (by decide), h kFo (by decide), h kP (by decide), h kPct (by decide), h kRf (by decide), h kRi (by decide), h kRua (by decide), h kRuf (by decide), h kSp (by decide)]
theorem known_ne {k : L8} (h : k ∈ mKnown) : k ≠ kV := by
  simp only [mKnown, List.mem_cons, List.not_mem_nil, or_false] at h
  rcases h with rfl | rfl | rfl | rfl | rfl | rfl | rfl | rfl | rfl | rfl <;> decide
theorem Rd.text {l : List KVp} (h : Rd l) (fm : L8) (e : Bool) : mdText (mText fm l e) = .inr (recOf (findP l)) := by
  have hp := prd2_text fm l e (fun t ht => (h.ok t ht).2) h.nd
  simp only [mdText, hp, if_true]
  obtain ⟨v, hv⟩ := h.p
  rw [mdAll_of (acc := (kV, sDM) :: l) (v := v) _ (by simp [findP]) (by rw [findP_cons_ne (by decide)]; exact hv)]
  · rw [recOf_congr (g := findP l)]
    intro k hk
    exact findP_cons_ne (known_ne hk)
  · intro k v hf hk
    rw [findP_cons_ne hk] at hf
    exact (h.ok _ (findP_in hf)).1

theorem gB_plain {x : UInt8} (h : gB x) : plainB x = true := plainB_true (by have := h.1; have := h.2.1; omega)
theorem allBl_plain {s : L8} (h : allBl s) : plain s = true := by
  simp only [plain, List.all_eq_true]
  intro x hx
  have := h x hx
  simp only [blB, decide_eq_true_eq] at this
  exact plainB_true (by omega)
theorem gt_plain {t : KVp} (g : Gt t) : plain t.1 = true ∧ plain t.2 = true := by
  simp only [plain, List.all_eq_true]
  exact ⟨fun x hx => gB_plain (g.n2 x hx).1, fun x hx => gB_plain (g.v2 x hx)⟩
theorem plain_cons {x : UInt8} {s : L8} : plain (x :: s) = (plainB x && plain s) := rfl
theorem tagsT_plain (fm : L8) : ∀ (l : List KVp) (k : Nat), (∀ t ∈ l, Gt t) → plain (tagsT fm k l) = true
  | [], _, _ => rfl
  | t :: r, k, h => by
    have g := gt_plain (h t (by simp))
    have s := fun j => allBl_plain (spAt_bl fm j)
    have b1 : plainB 59 = true := by decide
    have b2 : plainB 61 = true := by decide
    simp only [tagsT, oneT, plain_app, plain_cons, g.1, g.2, s, b1, b2, tagsT_plain fm r (k + 4) (fun t ht => h t (by simp [ht])), Bool.and_self]
theorem mText_plain {fm : L8} {l : List KVp} {e : Bool} (h : ∀ t ∈ l, Gt t) : plain (mText fm l e) = true := by
  have s := fun j => allBl_plain (spAt_bl fm j)
  have b1 : plainB 59 = true := by decide
  have b2 : plainB 61 = true := by decide
  have b3 : plainB 118 = true := by decide
  have b4 : plain sDM = true := by decide
  have b5 : plain [] = true := rfl
  cases e <;> simp only [mText, headT, plain_app, plain_cons, b1, b2, b3, b4, b5, s, tagsT_plain fm l 2 h, Bool.and_self, if_true, if_false, Bool.false_eq_true]
theorem mText_len {fm : L8} {l : List KVp} {e : Bool} (h : l.length ≤ 20) (h2 : ∀ t ∈ l, t.1.length ≤ 20 ∧ t.2.length ≤ 200) : (mText fm l e).length < mid := by
  have a := headT_len fm
  have b := tagsT_len (fm := fm) (k := 2) h2
  have c := spAt_len fm (2 + 4 * l.length + 1)
  simp only [mText, List.length_append, mid]
  cases e <;> simp <;> omega

/-- What else is asked of tags for their text. -/
structure Sz (l : List KVp) : Prop where
  n : l.length ≤ 20
  t : ∀ t ∈ l, t.1.length ≤ 20 ∧ t.2.length ≤ 200
theorem Rd.parse {l : List KVp} (h : Rd l) (z : Sz l) (fm : L8) (e : Bool) : con_MParse [.str (mText fm l e)] = some (.tup [.agg (recM (recOf (findP l))).cells, .bool true]) := by
  have b : (mText fm l e).length < mid ∧ plain (mText fm l e) = true := ⟨mText_len z.n z.t, mText_plain fun t ht => (h.ok t ht).2⟩
  simp only [con_MParse]
  rw [if_pos b, h.text]; rfl

theorem has_one {f : L8 → Option L8} {k v : L8} (hf : f k = some v) (ho : mOk (k, v) = true) : mSameAt k (recM (recOf f)) (mPut mr0 (k, v)) = true := by
  unfold mOk at ho
  simp only at ho
  unfold mSameAt mPut
  simp only
  by_cases h1 : k = kAdkim
  · rw [if_pos h1, if_pos h1]; subst h1; simp [recM, recOf, hf]
  rw [if_neg h1, if_neg h1]; rw [if_neg h1] at ho
  by_cases h2 : k = kAspf
  · rw [if_pos h2, if_pos h2]; subst h2; simp [recM, recOf, hf]
  rw [if_neg h2, if_neg h2]; rw [if_neg h2] at ho
  by_cases h3 : k = kP
  · rw [if_pos h3, if_pos h3]; subst h3; simp [recM, recOf, hf]
  rw [if_neg h3, if_neg h3]; rw [if_neg h3] at ho
  by_cases h4 : k = kSp
  · rw [if_pos h4, if_pos h4]; subst h4; simp [recM, recOf, hf]
  rw [if_neg h4, if_neg h4]; rw [if_neg h4] at ho
  by_cases h5 : k = kFo
  · rw [if_pos h5, if_pos h5]; rw [if_pos h5] at ho; subst h5
    have := (mlist_g (by simp only [gB]; decide) (fun p => foOk_g) ho).2.1
    have e : (mlist 58 foOk v) = some (splitB 58 v) := this
    simp [recM, recOf, hf, e]
  rw [if_neg h5, if_neg h5]; rw [if_neg h5] at ho
  by_cases h6 : k = kPct
  · rw [if_pos h6, if_pos h6]; subst h6; simp [recM, recOf, hf]
  rw [if_neg h6, if_neg h6]; rw [if_neg h6] at ho
  by_cases h7 : k = kRf
  · rw [if_pos h7, if_pos h7]; rw [if_pos h7] at ho; subst h7
    have e : mlist 58 (fun s => decide (s = sAfrf)) v = some (splitB 58 v) := by
      unfold mlist at ho ⊢; split at ho
      · rename_i hh; rw [if_pos hh]
      · simp at ho
    simp [recM, recOf, hf, e, splitB_ne]
  rw [if_neg h7, if_neg h7]; rw [if_neg h7] at ho
  by_cases h8 : k = kRi
  · rw [if_pos h8, if_pos h8]; subst h8; simp [recM, recOf, hf]
  rw [if_neg h8, if_neg h8]; rw [if_neg h8] at ho
  by_cases h9 : k = kRua
  · rw [if_pos h9, if_pos h9]; rw [if_pos h9] at ho; subst h9
    have e : mlist 44 muri v = some (splitB 44 v) := (mlist_g (by simp only [gB]; decide) (fun p => muri_g) ho).2.1
    simp [recM, recOf, hf, e]
  rw [if_neg h9, if_neg h9]; rw [if_neg h9] at ho
  by_cases h10 : k = kRuf
  · rw [if_pos h10, if_pos h10]; rw [if_pos h10] at ho; subst h10
    have e : mlist 44 muri v = some (splitB 44 v) := (mlist_g (by simp only [gB]; decide) (fun p => muri_g) ho).2.1
    simp [recM, recOf, hf, e]
  rw [if_neg h10]
theorem Rd.nd' {l : List KVp} (h : Rd l) : (l.map (·.1)).Nodup := by
  have := h.nd
  simp only [List.map_cons, List.nodup_cons] at this
  exact this.2
theorem Rd.has {l : List KVp} (h : Rd l) : mHas (recM (recOf (findP l))) l = true := by
  simp only [mHas, List.all_eq_true]
  rintro ⟨k, v⟩ ht
  exact has_one (findP_of_mem h.nd' ht) (h.ok _ ht).1

end Wax


namespace Wax
open Go (IntKind)

theorem takeW {p : UInt8 → Bool} : ∀ {l : L8} {x : UInt8}, x ∈ l.takeWhile p → p x = true
  | y :: r, x, h => by
    by_cases hy : p y = true
    · rw [List.takeWhile_cons_of_pos hy] at h
      rcases List.mem_cons.1 h with rfl | h
      · exact hy
      · exact takeW h
    · rw [List.takeWhile_cons_of_neg hy] at h; simp at h
theorem wordsGo_tail {R : L8} (hR : allWs R) : ∀ (m cur : L8), wordsGo cur (m ++ R) = wordsGo cur m
  | [], cur => by
    by_cases hc : cur = []
    · subst hc
      have := wordsGo_ws (b := R) [] hR
      simpa [wordsGo] using this
    · by_cases hb : R = []
      · subst hb; rfl
      · have h1 := wordsGo_end (s := []) hc hb hR
        have h2 := wordsGo_ws (b := R) [] hR
        simp only [List.append_nil] at h1 h2
        simp only [List.nil_append]
        rw [h1, h2]
        simp [wordsGo, hc]
  | x :: r, cur => by
    simp only [List.cons_append, wordsGo]
    split
    · split
      · exact wordsGo_tail hR r []
      · rw [wordsGo_tail hR r []]
    · exact wordsGo_tail hR r _
theorem trimL_split (t : L8) : ∃ a, allWs a ∧ t = a ++ trimL t := by
  refine ⟨t.takeWhile fun b => isWs b.toNat, fun x hx => ?_, (List.takeWhile_append_dropWhile).symm⟩
  exact takeW hx
theorem trimR_split (t : L8) : ∃ b, allWs b ∧ t = trimR t ++ b := by
  obtain ⟨a, ha, e⟩ := trimL_split t.reverse
  refine ⟨a.reverse, fun x hx => ha x (List.mem_reverse.1 hx), ?_⟩
  have := congrArg List.reverse e
  simp only [List.reverse_reverse, List.reverse_append, trimL] at this
  exact this
theorem wordsOf_trim (t : L8) : wordsOf (trimS t) = wordsOf t := by
  obtain ⟨a, ha, e1⟩ := trimL_split t
  obtain ⟨b, hb, e2⟩ := trimR_split (trimL t)
  have e3 : wordsOf t = wordsOf (trimL t) := by
    conv => lhs; rw [e1]
    exact wordsGo_ws _ ha
  have e4 : wordsOf (trimL t) = wordsOf (trimR (trimL t)) := by
    conv => lhs; rw [e2]
    exact wordsGo_tail hb _ _
  rw [e3, e4]; rfl

/-- Words, each behind a row of blanks. -/
def flatW (l : List (L8 × L8)) : L8 := l.flatMap fun p => p.1 ++ p.2
def SepOk (l : List (L8 × L8)) : Prop := ∀ p ∈ l, (p.1 ≠ [] ∧ allWs p.1) ∧ p.2 ≠ [] ∧ nonWs p.2
theorem wordsGo_flat {b : L8} (hb : allWs b) : ∀ (l : List (L8 × L8)) (cur : L8), cur ≠ [] → SepOk l → wordsGo cur (flatW l ++ b) = cur :: l.map (·.2)
  | [], cur, hc, _ => by
    have := wordsGo_tail hb [] cur
    simp only [flatW, List.flatMap_nil, List.nil_append] at this ⊢
    rw [this]; simp [wordsGo, hc]
  | (sp, w) :: r, cur, hc, h => by
    obtain ⟨⟨h1, h2⟩, h3, h4⟩ := h (sp, w) (by simp)
    have ih := wordsGo_flat hb r w h3 (fun p hp => h p (by simp [hp]))
    have e : flatW ((sp, w) :: r) ++ b = sp ++ (w ++ (flatW r ++ b)) := by simp [flatW]
    rw [e, wordsGo_end hc h1 h2, wordsGo_ws _ h2, wordsGo_word _ _ h4]
    simp only [List.nil_append, List.map_cons]
    rw [ih]
theorem wordsOf_flat {a b w : L8} {l : List (L8 × L8)} (ha : allWs a) (hb : allWs b) (hw : w ≠ []) (hn : nonWs w) (hl : SepOk l) : wordsOf (a ++ (w ++ (flatW l ++ b))) = w :: l.map (·.2) := by
  rw [wordsOf, wordsGo_ws _ ha, wordsGo_word _ _ hn, List.nil_append]
  exact wordsGo_flat hb l w hw hl

/-- Bytes of which words are made. -/
def gW (s : L8) : Prop := ∀ x ∈ s, 32 < x.toNat ∧ x.toNat < 127 ∧ x ≠ 59
theorem gW_non {s : L8} (h : gW s) : nonWs s := by
  intro x hx
  obtain ⟨h1, h2, _⟩ := h x hx
  simp only [isWs, decide_eq_false_iff_not]
  omega
theorem gW_no {s : L8} (h : gW s) : noB 59 s := fun x hx e => (h x hx).2.2 (UInt8.toNat_inj.1 (by exact_mod_cast e))
theorem gW_plain {s : L8} (h : gW s) : plain s = true := by
  simp only [plain, List.all_eq_true]
  intro x hx
  have := h x hx
  exact plainB_true (by omega)
theorem gW_trim {s : L8} (h : gW s) : trimS s = s := by
  by_cases hs : s = []
  · subst hs; rfl
  · have := trimS_word (gW_non h) hs (b := []) (by intro x hx; simp at hx)
    simpa using this
theorem allWs_no {s : L8} (h : allWs s) : noB 59 s := by
  intro x hx e
  have := h x hx
  simp only [isWs, decide_eq_true_eq] at this
  omega
theorem allWs_plain {s : L8} (h : allWs s) : plain s = true := by
  simp only [plain, List.all_eq_true]
  intro x hx
  have := h x hx
  simp only [isWs, decide_eq_true_eq] at this
  exact plainB_true (by omega)

/-- A pair of a key and a value that are words; the key has no equals sign. -/
structure KvOk (p : KVp) : Prop where
  k : gW p.1
  e : ∀ x ∈ p.1, x ≠ 61
  v : gW p.2
def kvW (p : KVp) : L8 := p.1 ++ 61 :: p.2
theorem kvW_g {p : KVp} (h : KvOk p) : gW (kvW p) := by
  intro x hx
  simp only [kvW, List.mem_append, List.mem_cons] at hx
  rcases hx with hx | rfl | hx
  · exact h.k x hx
  · decide
  · exact h.v x hx
theorem kvW_ne {p : KVp} : kvW p ≠ [] := by simp [kvW]
theorem kvW_of {p : KVp} (h : KvOk p) : kvOf (kvW p) = some (lowS p.1, p.2) := by
  have hno : noB (61 : UInt8).toNat p.1 := fun x hx e => h.e x hx (UInt8.toNat_inj.1 (by exact_mod_cast e))
  have := cutAt_noB (c := 61) (r := p.2) hno
  simp only [kvOf, kvW]
  have e61 : ((61 : UInt8).toNat : Int) = 61 := rfl
  rw [e61] at this
  rw [this]
  simp only [Option.map_some, gW_trim h.k, gW_trim h.v]

theorem hasK_none {k : L8} {l : List KVp} (h : k ∉ l.map (·.1)) : hasK k l = false := by
  simp only [hasK, List.any_eq_false, decide_eq_true_eq]
  rintro p hp rfl
  exact h (List.mem_map.2 ⟨p, hp, rfl⟩)
theorem prmsOf_kv : ∀ (l : List KVp) (acc : List KVp), (∀ p ∈ l, KvOk p) → ((acc ++ l.map fun p => (lowS p.1, p.2)).map (·.1)).Nodup → prmsOf (l.map kvW) acc = acc ++ l.map fun p => (lowS p.1, p.2)
  | [], acc, _, _ => by simp [prmsOf]
  | p :: r, acc, h, nd => by
    have hp := h p (by simp)
    have hk : hasK (lowS p.1) acc = false := by
      refine hasK_none fun hm => ?_
      rw [List.map_append, List.nodup_append] at nd
      exact nd.2.2 _ hm _ (by simp) rfl
    simp only [List.map_cons, prmsOf, kvW_of hp]
    rw [psetL_new hk, prmsOf_kv r _ (fun q hq => h q (by simp [hq])) (by simpa using nd)]
    simp

/-- A result's text: its method and value, and its parameters, each behind a row of blanks. -/
structure ResT where
  pre : L8
  head : KVp
  ps : List (L8 × KVp)
def ResT.txt (t : ResT) : L8 := t.pre ++ (kvW t.head ++ flatW (t.ps.map fun p => (p.1, kvW p.2)))
structure ResT.Ok (t : ResT) : Prop where
  pre : allWs t.pre
  head : KvOk t.head
  ps : ∀ p ∈ t.ps, (p.1 ≠ [] ∧ allWs p.1) ∧ KvOk p.2
  nd : (t.ps.map fun p => lowS p.2.1).Nodup
def ResT.prm (t : ResT) : List KVp := t.ps.map fun p => (lowS p.2.1, p.2.2)
theorem kvW_not_none {p : KVp} : kvW p ≠ sNone0 := by
  intro h
  have : (61 : UInt8) ∈ sNone0 := by rw [← h]; simp [kvW]
  simp [sNone0] at this
theorem ResT.Ok.words {t : ResT} (h : t.Ok) {b : L8} (hb : allWs b) : wordsOf (t.txt ++ b) = kvW t.head :: (t.ps.map (·.2)).map kvW := by
  have e : t.txt ++ b = t.pre ++ (kvW t.head ++ (flatW (t.ps.map fun p => (p.1, kvW p.2)) ++ b)) := by simp [ResT.txt]
  rw [e, wordsOf_flat h.pre hb kvW_ne (gW_non (kvW_g h.head))]
  · simp
  · intro p hp
    obtain ⟨q, hq, rfl⟩ := List.mem_map.1 hp
    have := h.ps q hq
    exact ⟨this.1, kvW_ne, gW_non (kvW_g this.2)⟩
theorem ResT.Ok.res {t : ResT} (h : t.Ok) {b : L8} (hb : allWs b) {x : PR} (hx : prOf (lowS t.head.1) (lowS t.head.2) t.prm = .inr x) : trimS (t.txt ++ b) ≠ [] ∧ resAOf (trimS (t.txt ++ b)) = .inr (some x) := by
  have hw := h.words hb
  have hw2 := wordsOf_trim (t.txt ++ b)
  rw [hw] at hw2
  refine ⟨fun e => ?_, ?_⟩
  · rw [e] at hw2; simp [wordsOf, wordsGo] at hw2
  · have hp : prmsOf ((t.ps.map (·.2)).map kvW) [] = t.prm := by
      rw [prmsOf_kv _ [] (fun p hp => by obtain ⟨q, hq, rfl⟩ := List.mem_map.1 hp; exact (h.ps q hq).2)]
      · simp [ResT.prm]
      · simpa [Function.comp_def] using h.nd
    simp only [resAOf, hw2]
    rw [if_neg kvW_not_none, kvW_of h.head]
    simp only [hp, hx]
theorem ResT.Ok.no {t : ResT} (h : t.Ok) : noB 59 t.txt := by
  refine noB_app (allWs_no h.pre) (noB_app (gW_no (kvW_g h.head)) ?_)
  intro x hx
  simp only [flatW, List.mem_flatMap, List.mem_map] at hx
  obtain ⟨_, ⟨q, hq, rfl⟩, hx⟩ := hx
  have := h.ps q hq
  rcases List.mem_append.1 hx with hx | hx
  · exact allWs_no this.1.2 x hx
  · exact gW_no (kvW_g this.2) x hx
theorem plain_appB {a b : L8} (ha : plain a = true) (hb : plain b = true) : plain (a ++ b) = true := by rw [plain_app, ha, hb]; rfl
theorem ResT.Ok.pl {t : ResT} (h : t.Ok) : plain t.txt = true := by
  refine plain_appB (allWs_plain h.pre) (plain_appB (gW_plain (kvW_g h.head)) ?_)
  simp only [plain, List.all_eq_true]
  intro x hx
  simp only [flatW, List.mem_flatMap, List.mem_map] at hx
  obtain ⟨_, ⟨q, hq, rfl⟩, hx⟩ := hx
  have := h.ps q hq
  have hp : plain (q.1 ++ kvW q.2) = true := plain_appB (allWs_plain this.1.2) (gW_plain (kvW_g this.2))
  exact List.all_eq_true.1 hp x hx

/-- Parts behind semicolons, each with blanks ahead of its semicolon. -/
def flatP (l : List (L8 × ResT)) : L8 := l.flatMap fun p => p.1 ++ 59 :: p.2.txt
def pcsP : L8 → List (L8 × ResT) → List L8
  | cur, [] => [cur]
  | cur, p :: r => (cur ++ p.1) :: pcsP p.2.txt r
theorem split_flatP : ∀ (l : List (L8 × ResT)) (cur : L8), noB 59 cur → (∀ p ∈ l, allWs p.1 ∧ p.2.Ok) → splitB 59 (cur ++ flatP l) = pcsP cur l
  | [], cur, hc, _ => by
    simp only [flatP, List.flatMap_nil, List.append_nil, pcsP]
    exact splitB_only (b := 59) hc
  | p :: r, cur, hc, h => by
    obtain ⟨h1, h2⟩ := h p (by simp)
    have ih := split_flatP r p.2.txt h2.no (fun q hq => h q (by simp [hq]))
    have e : cur ++ flatP (p :: r) = (cur ++ p.1) ++ 59 :: (p.2.txt ++ flatP r) := by simp [flatP]
    rw [e, splitB_app (b := 59) (noB_app hc (allWs_no h1)), ih]; rfl
theorem adGo_pcs : ∀ (l : List (L8 × ResT)) (t : ResT) (xs : List PR) (x : PR) (acc : List PR), t.Ok → prOf (lowS t.head.1) (lowS t.head.2) t.prm = .inr x → (∀ p ∈ l, allWs p.1 ∧ p.2.Ok) →
    l.map (fun p => prOf (lowS p.2.head.1) (lowS p.2.head.2) p.2.prm) = xs.map .inr → adGo (pcsP t.txt l) acc = (acc ++ x :: xs, none)
  | [], t, xs, x, acc, ht, hx, _, e => by
    have hxs : xs = [] := by
      cases xs with
      | nil => rfl
      | cons _ _ => simp at e
    subst hxs
    obtain ⟨h1, h2⟩ := ht.res (b := []) (by intro y hy; simp at hy) hx
    simp only [List.append_nil] at h1 h2
    simp only [pcsP, adGo, if_neg h1, h2]
  | p :: r, t, xs, x, acc, ht, hx, h, e => by
    obtain ⟨h1, h2⟩ := h p (by simp)
    cases xs with
    | nil => simp at e
    | cons y ys =>
      simp only [List.map_cons, List.cons.injEq] at e
      obtain ⟨n1, n2⟩ := ht.res h1 hx
      simp only [pcsP, adGo, if_neg n1, n2]
      rw [adGo_pcs r p.2 ys y (acc ++ [x]) h2 e.1 (fun q hq => h q (by simp [hq])) e.2]
      simp

/-- An identifier: a word. -/
theorem adId_word {i b : L8} (hi : gW i) (hne : i ≠ []) (hb : allWs b) : adId (i ++ b) = some i := by
  have ht : trimS (i ++ b) = i := trimS_word (gW_non hi) hne hb
  have hw : ∀ (s : L8) (n : Nat), nonWs s → wsAt s n = none := by
    intro s
    induction s with
    | nil => intro n _; rfl
    | cons x r ih =>
      intro n h
      have h1 := h x (by simp)
      simp only [wsAt, h1]
      exact ih _ fun y hy => h y (by simp [hy])
  simp only [adId, ht, hw i 0 (gW_non hi)]
theorem ad_text {i c : L8} (hc : noB 59 c) (hid : ∀ b, allWs b → adId (c ++ b) = some i) {l : List (L8 × ResT)} {xs : List PR} (h : ∀ p ∈ l, allWs p.1 ∧ p.2.Ok) (e : l.map (fun p => prOf (lowS p.2.head.1) (lowS p.2.head.2) p.2.prm) = xs.map .inr) : adText (c ++ flatP l) = some (i, xs) := by
  simp only [adText]
  rw [split_flatP l c hc h]
  cases l with
  | nil =>
    have hxs : xs = [] := by
      cases xs with
      | nil => rfl
      | cons _ _ => simp at e
    subst hxs
    have := hid [] (by intro y hy; simp at hy)
    simp only [List.append_nil] at this
    simp only [pcsP, this, adGo]
  | cons p r =>
    obtain ⟨h1, h2⟩ := h p (by simp)
    cases xs with
    | nil => simp at e
    | cons y ys =>
      simp only [List.map_cons, List.cons.injEq] at e
      have hg := adGo_pcs r p.2 ys y [] h2 e.1 (fun q hq => h q (by simp [hq])) e.2
      simp only [pcsP, hid _ h1, hg, List.nil_append]
end Wax


namespace Wax
open Go (IntKind)

def tSmtp : L8 := [115, 109, 116, 112]
def tHeader : L8 := [104, 101, 97, 100, 101, 114]
def tPolicy : L8 := [112, 111, 108, 105, 99, 121]
def nAuth : L8 := [97, 117, 116, 104]
def nD : L8 := [100]
def nI : L8 := [105]
def nFrom : L8 := [102, 114, 111, 109]
def nSender : L8 := [115, 101, 110, 100, 101, 114]
def nIprev : L8 := [105, 112, 114, 101, 118]
def nMail : L8 := [109, 97, 105, 108, 102, 114, 111, 109]
def nHelo : L8 := [104, 101, 108, 111]
def aVals : List L8 := [[110, 111, 110, 101], [112, 97, 115, 115], [102, 97, 105, 108], [112, 111, 108, 105, 99, 121], [110, 101, 117, 116, 114, 97, 108], [116, 101, 109, 112, 101, 114, 114, 111, 114], [112, 101, 114, 109, 101, 114, 114, 111, 114], [115, 111, 102, 116, 102, 97, 105, 108], [104, 97, 114, 100, 102, 97, 105, 108]]
/-- A text that may be a value as it is. -/
def aPlain (s : L8) : Bool := match cutAt 64 s with
  | none => mTok s && decide (s.length ≤ 200)
  | some p => (decide (p.1 = []) || mTok p.1) && mDom p.2 && decide (s.length ≤ 200)
theorem tok_ne {s : L8} (h : mTok s = true) : s ≠ [] := by simp only [mTok, Bool.and_eq_true, decide_eq_true_eq] at h; exact h.2
theorem tok_g {s : L8} (h : mTok s = true) : gW s := by
  simp only [mTok, Bool.and_eq_true] at h
  exact fun x hx => tokB_g (List.all_eq_true.1 h.1 x hx)
theorem aPlain_g {s : L8} (h : aPlain s = true) : gW s ∧ s ≠ [] ∧ s.length ≤ 200 := by
  unfold aPlain at h
  split at h
  · simp only [Bool.and_eq_true, decide_eq_true_eq] at h
    exact ⟨tok_g h.1, tok_ne h.1, h.2⟩
  · rename_i q hq
    simp only [Bool.and_eq_true, Bool.or_eq_true, decide_eq_true_eq] at h
    have e := cut_mem (c := 64) hq
    refine ⟨?_, by rw [e]; simp, h.2⟩
    rw [e]
    intro x hx
    simp only [List.mem_append, List.mem_cons] at hx
    rcases hx with hx | rfl | hx
    · rcases h.1.1 with h1 | h1
      · rw [h1] at hx; simp at hx
      · exact tok_g h1 x hx
    · decide
    · exact dom_g h.1.2 x hx

/-- The properties of a result: their types, names and values. -/
def AR.props (r : AR) : List (L8 × L8 × L8) :=
  if r.kind = 1 then [(tSmtp, nAuth, r.auth)]
  else if r.kind = 2 then [(tHeader, nD, r.domain), (tHeader, nI, r.ident)]
  else if r.kind = 3 then [(tHeader, nD, r.domain), (tHeader, nFrom, r.fr), (tHeader, nSender, r.sender)]
  else if r.kind = 4 then [(tPolicy, nIprev, r.ip)]
  else if r.kind = 5 then [(tHeader, r.hkey, r.hval)]
  else if r.kind = 6 then [(tSmtp, nMail, r.fr), (tSmtp, nHelo, r.helo)]
  else if r.kind = 7 then [(tHeader, nFrom, r.fr)]
  else []
def AR.norm (r : AR) : AR := { r with ps := nilO (r.ps.getD []) }

/-- .. and its parameters, as pairs. -/
def rPs (s : L8) : List KVp := if s = [] then [] else [(qReason, s)]
def AR.prm (r : AR) : List KVp := rPs r.reason ++ (if r.kind = 0 then r.ps.getD [] else r.props.map fun p => (p.1 ++ 46 :: p.2.1, p.2.2))

theorem val_low {v : L8} (h : aVals.contains v = true) : lowS v = v ∧ gW v ∧ v ≠ [] := by
  simp only [aVals, List.contains_cons, List.contains_nil, Bool.or_false, Bool.or_eq_true, beq_iff_eq] at h
  rcases h with h | h | h | h | h | h | h | h | h <;> subst h <;> refine ⟨by decide, ?_, by decide⟩ <;> simp only [gW] <;> decide
end Wax


namespace Wax
open Go (IntKind)

def aSp (n : Nat) : L8 := ([[32], [32], [32, 32], [9], [13, 10, 32], [32, 9]] : List L8).getD (n % 6) []
theorem aSp_ok (n : Nat) : aSp n ≠ [] ∧ allWs (aSp n) := by
  have h : n % 6 < 6 := Nat.mod_lt _ (by omega)
  simp only [aSp]
  generalize n % 6 = q at *
  match q, h with
  | 0, _ => exact ⟨by simp, by simp only [allWs]; decide⟩
  | 1, _ => exact ⟨by simp, by simp only [allWs]; decide⟩
  | 2, _ => exact ⟨by simp, by simp only [allWs]; decide⟩
  | 3, _ => exact ⟨by simp, by simp only [allWs]; decide⟩
  | 4, _ => exact ⟨by simp, by simp only [allWs]; decide⟩
  | 5, _ => exact ⟨by simp, by simp only [allWs]; decide⟩
/-- The number that is taken next, of a row of numbers. -/
def nx (fm : L8) (k : Nat) : Nat := if fm = [] then 0 else (fm.getD (k % fm.length) 0).toNat

theorem flatP_plain : ∀ (l : List (L8 × ResT)), (∀ p ∈ l, allWs p.1 ∧ p.2.Ok) → plain (flatP l) = true
  | [], _ => rfl
  | p :: r, h => by
    obtain ⟨h1, h2⟩ := h p (by simp)
    have e : flatP (p :: r) = p.1 ++ ([59] ++ (p.2.txt ++ flatP r)) := by simp [flatP]
    rw [e]
    exact plain_appB (allWs_plain h1) (plain_appB (by decide) (plain_appB h2.pl (flatP_plain r fun q hq => h q (by simp [hq]))))
end Wax


namespace Wax
open Go (IntKind)

@[simp] theorem slP_none : slP none = .nilS := rfl
def con_AValues : List AV → Option AV
  | [] => some (.sl 1 (strsA aVals))
  | _ => none
theorem ok_AValues (Γ : Gam) : ∀ args r, con_AValues args = some r → runs Γ c_spec_AValues args (fun v => v = r) := by
  intro args r h
  cases args <;> simp [con_AValues] at h
  subst h
  simp -implicitDefEqProofs [c_spec_AValues, aVals, snap, resolveA]
def con_ASpace : List AV → Option AV
  | [.int .u8 n] => if 0 ≤ n ∧ n < 256 then some (.str (aSp n.toNat)) else none
  | _ => none
theorem ok_ASpace (Γ : Gam) : ∀ args r, con_ASpace args = some r → runs Γ c_spec_ASpace args (fun v => v = r) := by
  intro args r h
  simp only [con_ASpace] at h
  split at h <;> (try simp at h; done)
  rename_i n
  obtain ⟨⟨h0, hn⟩, rfl⟩ := ite_some h
  clear h
  obtain ⟨m, rfl⟩ : ∃ m : Nat, n = (m : Int) := ⟨n.toNat, by omega⟩
  obtain ⟨q, e, hlt, hq⟩ : ∃ q : Nat, (m : Int).tmod 6 = (q : Int) ∧ q < 6 ∧ m % 6 = q := ⟨m % 6, by rw [Int.tmod_eq_emod_of_nonneg (by omega)]; rfl, Nat.mod_lt _ (by omega), rfl⟩
  simp only [aSp, Int.toNat_natCast, hq]
  simp -implicitDefEqProofs [c_spec_ASpace, e]
  clear e hq
  match q, hlt with
  | 0, _ => simp
  | 1, _ => simp
  | 2, _ => simp
  | 3, _ => simp
  | 4, _ => simp
  | 5, _ => simp

def con_APlain : List AV → Option AV
  | [.str s] => if s.length < mid then some (.bool (aPlain s)) else none
  | _ => none
theorem ok_APlain (Γ : Gam) (h102 : Γ.fn 102 = con_MailHalves) (h104 : Γ.fn 104 = con_MailToken) (h105 : Γ.fn 105 = con_MailDomain) : ∀ args r, con_APlain args = some r → runs Γ c_spec_APlain args (fun v => v = r) := by
  intro args r h
  simp only [con_APlain] at h
  split at h <;> (try simp at h; done)
  rename_i s
  obtain ⟨hs, rfl⟩ := ite_some h
  clear h
  have hs' : s.length < big := by simp only [mid] at hs; simp only [big]; omega
  have k102 : con_MailHalves [.str s, .int .u8 64] = some (cutV 64 s) := if_pos hs'
  have hI : decide ((s.length : Int) ≤ 200) = decide (s.length ≤ 200) := by rw [decide_eq_decide]; omega
  cases hc : cutAt 64 s with
  | none =>
    have k104 : con_MailToken [.str s] = some (.bool (mTok s)) := if_pos hs'
    simp only [aPlain, hc]
    cases ht : mTok s with
    | false =>
      rw [ht] at k104
      simp -implicitDefEqProofs [c_spec_APlain, acall, h102, k102, cutV, hc, h104, k104]
    | true =>
      rw [ht] at k104
      simp -implicitDefEqProofs [c_spec_APlain, acall, h102, k102, cutV, hc, h104, k104, hI]
  | some p =>
    obtain ⟨l1, l2⟩ := cutAt_lens hc
    have k104 : con_MailToken [.str p.1] = some (.bool (mTok p.1)) := if_pos (by omega)
    have k105 : con_MailDomain [.str p.2] = some (.bool (mDom p.2)) := if_pos (by omega)
    simp only [aPlain, hc]
    by_cases hp : p.1 = []
    · cases hd : mDom p.2 with
      | false =>
        rw [hd] at k105
        simp -implicitDefEqProofs [c_spec_APlain, acall, h102, k102, cutV, hc, h104, k104, h105, k105, hp]
      | true =>
        rw [hd] at k105
        simp -implicitDefEqProofs [c_spec_APlain, acall, h102, k102, cutV, hc, h104, k104, h105, k105, hp, hI]
    · cases ht : mTok p.1 with
      | false =>
        rw [ht] at k104
        simp -implicitDefEqProofs [c_spec_APlain, acall, h102, k102, cutV, hc, h104, k104, h105, k105, hp]
      | true =>
        rw [ht] at k104
        cases hd : mDom p.2 with
        | false =>
          rw [hd] at k105
          simp -implicitDefEqProofs [c_spec_APlain, acall, h102, k102, cutV, hc, h104, k104, h105, k105, hp]
        | true =>
          rw [hd] at k105
          simp -implicitDefEqProofs [c_spec_APlain, acall, h102, k102, cutV, hc, h104, k104, h105, k105, hp, hI]

end Wax


namespace Wax
open Go (IntKind)

def arSame (a b : AR) : Bool := decide (a.norm = b.norm)
theorem arSame_iff {a b : AR} : arSame a b = true ↔ a.norm = b.norm := by simp [arSame]
theorem norm_eq_iff {a b : AR} : a.norm = b.norm ↔ ((a.ps.getD [] = b.ps.getD []) ∧ a.kind = b.kind ∧ a.method = b.method ∧ a.value = b.value ∧ a.reason = b.reason ∧ a.domain = b.domain ∧ a.ident = b.ident ∧ a.fr = b.fr ∧ a.sender = b.sender ∧ a.ip = b.ip ∧ a.helo = b.helo ∧ a.auth = b.auth ∧ a.hkey = b.hkey ∧ a.hval = b.hval ∧ a.remote = b.remote ∧ a.oldest = b.oldest) := by
  have hn : nilO (a.ps.getD []) = nilO (b.ps.getD []) ↔ a.ps.getD [] = b.ps.getD [] := by
    constructor
    · intro h
      have := congrArg (fun x => x.getD []) h
      simpa [nilO_getD] using this
    · intro h; rw [h]
  simp only [AR.norm, AR.mk.injEq, hn]
  constructor
  · rintro ⟨h0, h1, h2, h3, h4, h5, h6, h7, h8, h9, h10, h11, h12, h13, h14, z⟩
    exact ⟨z, h0, h1, h2, h3, h4, h5, h6, h7, h8, h9, h10, h11, h12, h13, h14⟩
  · rintro ⟨z, h0, h1, h2, h3, h4, h5, h6, h7, h8, h9, h10, h11, h12, h13, h14⟩
    exact ⟨h0, h1, h2, h3, h4, h5, h6, h7, h8, h9, h10, h11, h12, h13, h14, z⟩
def con_ASame : List AV → Option AV
  | [.agg x, .agg y] => match asAR x, asAR y with
    | some a, some b => if (a.ps.getD []).length < half ∧ (b.ps.getD []).length < half then some (.bool (arSame a b)) else none
    | _, _ => none
  | _ => none

set_option maxRecDepth 100000 in
set_option maxHeartbeats 4000000 in
theorem as_tail (Γ : Gam) (u v : AV) (a1 b1 a2 b2 a3 b3 a4 b4 a5 b5 a6 b6 a7 b7 a8 b8 a9 b9 a10 b10 a11 b11 a12 b12 a13 b13 : L8) (a0 b0 a14 b14 : Int) (ex : List (Nat × AV)) (R : Bool) (hR : R = decide (a0 = b0 ∧ a1 = b1 ∧ a2 = b2 ∧ a3 = b3 ∧ a4 = b4 ∧ a5 = b5 ∧ a6 = b6 ∧ a7 = b7 ∧ a8 = b8 ∧ a9 = b9 ∧ a10 = b10 ∧ a11 = b11 ∧ a12 = b12 ∧ a13 = b13 ∧ a14 = b14)) :
    awp Γ t_spec_ASame_2 (finQ [.t 4] fun w => w = .bool R) ⟨(2, .ptr [.int .i64 a0, .str a1, .str a2, .str a3, .str a4, .str a5, .str a6, .str a7, .str a8, .str a9, .str a10, .str a11, .str a12, .str a13, .int .i64 a14, u]) :: (3, .ptr [.int .i64 b0, .str b1, .str b2, .str b3, .str b4, .str b5, .str b6, .str b7, .str b8, .str b9, .str b10, .str b11, .str b12, .str b13, .int .i64 b14, v]) :: ex, []⟩ := by
  subst hR
  by_cases c0 : a0 = b0
  case neg => simp -implicitDefEqProofs [t_spec_ASame_2, c0]
  by_cases c1 : a1 = b1
  case neg => simp -implicitDefEqProofs [t_spec_ASame_2, c0, c1]
  by_cases c2 : a2 = b2
  case neg => simp -implicitDefEqProofs [t_spec_ASame_2, c0, c1, c2]
  by_cases c3 : a3 = b3
  case neg => simp -implicitDefEqProofs [t_spec_ASame_2, c0, c1, c2, c3]
  by_cases c4 : a4 = b4
  case neg => simp -implicitDefEqProofs [t_spec_ASame_2, c0, c1, c2, c3, c4]
  by_cases c5 : a5 = b5
  case neg => simp -implicitDefEqProofs [t_spec_ASame_2, c0, c1, c2, c3, c4, c5]
  by_cases c6 : a6 = b6
  case neg => simp -implicitDefEqProofs [t_spec_ASame_2, c0, c1, c2, c3, c4, c5, c6]
  by_cases c7 : a7 = b7
  case neg => simp -implicitDefEqProofs [t_spec_ASame_2, c0, c1, c2, c3, c4, c5, c6, c7]
  by_cases c8 : a8 = b8
  case neg => simp -implicitDefEqProofs [t_spec_ASame_2, c0, c1, c2, c3, c4, c5, c6, c7, c8]
  by_cases c9 : a9 = b9
  case neg => simp -implicitDefEqProofs [t_spec_ASame_2, c0, c1, c2, c3, c4, c5, c6, c7, c8, c9]
  by_cases c10 : a10 = b10
  case neg => simp -implicitDefEqProofs [t_spec_ASame_2, c0, c1, c2, c3, c4, c5, c6, c7, c8, c9, c10]
  by_cases c11 : a11 = b11
  case neg => simp -implicitDefEqProofs [t_spec_ASame_2, c0, c1, c2, c3, c4, c5, c6, c7, c8, c9, c10, c11]
  by_cases c12 : a12 = b12
  case neg => simp -implicitDefEqProofs [t_spec_ASame_2, c0, c1, c2, c3, c4, c5, c6, c7, c8, c9, c10, c11, c12]
  by_cases c13 : a13 = b13
  case neg => simp -implicitDefEqProofs [t_spec_ASame_2, c0, c1, c2, c3, c4, c5, c6, c7, c8, c9, c10, c11, c12, c13]
  by_cases c14 : a14 = b14
  · simp -implicitDefEqProofs [t_spec_ASame_2, c0, c1, c2, c3, c4, c5, c6, c7, c8, c9, c10, c11, c12, c13, c14]
  · simp -implicitDefEqProofs [t_spec_ASame_2, c0, c1, c2, c3, c4, c5, c6, c7, c8, c9, c10, c11, c12, c13, c14]

set_option maxHeartbeats 2000000 in
theorem ok_ASame (Γ : Gam) : ∀ args r, con_ASame args = some r → runs Γ c_spec_ASame args (fun v => v = r) := by
  intro args r h
  simp only [con_ASame] at h
  split at h <;> (try simp at h; done)
  rename_i x y
  split at h <;> (try simp at h; done)
  rename_i a b ha hb
  obtain ⟨⟨la, lb⟩, rfl⟩ := ite_some h
  clear h
  rw [asAR_spec ha, asAR_spec hb]
  clear ha hb x y
  have cua := slP_cells a.ps
  have cub := slP_cells b.ps
  simp only [cells] at cua cub
  have lea := slP_alen a.ps
  have leb := slP_alen b.ps
  have T := fun ex R hR => as_tail Γ (slP a.ps) (slP b.ps) a.method b.method a.value b.value a.reason b.reason a.domain b.domain a.ident b.ident a.fr b.fr a.sender b.sender a.ip b.ip a.helo b.helo a.auth b.auth a.hkey b.hkey a.hval b.hval a.remote b.remote a.kind b.kind a.oldest b.oldest ex R hR
  have ni := norm_eq_iff (a := a) (b := b)
  have hca : a.ps.getD [] = [] ∨ a.ps = some (a.ps.getD []) := by cases a.ps <;> simp
  have hcb : b.ps.getD [] = [] ∨ b.ps = some (b.ps.getD []) := by cases b.ps <;> simp
  have hS1 : a.ps.getD [] ≠ b.ps.getD [] → arSame a b = false := by
    intro h; rw [Bool.eq_false_iff, ne_eq, arSame_iff, ni]; exact fun q => h q.1
  have hS2 : a.ps.getD [] = b.ps.getD [] → arSame a b = decide (a.kind = b.kind ∧ a.method = b.method ∧ a.value = b.value ∧ a.reason = b.reason ∧ a.domain = b.domain ∧ a.ident = b.ident ∧ a.fr = b.fr ∧ a.sender = b.sender ∧ a.ip = b.ip ∧ a.helo = b.helo ∧ a.auth = b.auth ∧ a.hkey = b.hkey ∧ a.hval = b.hval ∧ a.remote = b.remote ∧ a.oldest = b.oldest) := by
    intro h
    simp only [arSame]
    rw [decide_eq_decide, ni]
    exact ⟨fun q => q.2, fun q => ⟨h, q⟩⟩
  generalize arSame a b = R at *
  clear ni
  generalize hLa : a.ps.getD [] = La at *
  generalize hLb : b.ps.getD [] = Lb at *
  simp only [half] at la lb
  by_cases hlen : (La.length : Int) = (Lb.length : Int)
  · simp -implicitDefEqProofs [-alen, c_spec_ASame, AR.cells, cua, cub, lea, leb, hlen, hLa, hLb]
    refine awp_loop2 (σ := List KVp × List KVp × List KVp × List KVp) (fun q => ⟨[(2, .ptr [.int .i64 a.kind, .str a.method, .str a.value, .str a.reason, .str a.domain, .str a.ident, .str a.fr, .str a.sender, .str a.ip, .str a.helo, .str a.auth, .str a.hkey, .str a.hval, .str a.remote, .int .i64 a.oldest, slP a.ps]), (3, .ptr [.int .i64 b.kind, .str b.method, .str b.value, .str b.reason, .str b.domain, .str b.ident, .str b.fr, .str b.sender, .str b.ip, .str b.helo, .str b.auth, .str b.hkey, .str b.hval, .str b.remote, .int .i64 b.oldest, slP b.ps]), (15, .int .i64 Lb.length), (16, .int .i64 q.1.length)], []⟩)
      (fun q => La = q.1 ++ q.2.1 ∧ Lb = q.2.2.1 ++ q.2.2.2 ∧ q.1 = q.2.2.1) (fun q => q.2.1.length) ([], La, [], Lb) ?_ (by simp) ?_
    · simp
    rintro ⟨p1, q1, p2, q2⟩ ⟨e1, e2, e3⟩ LQ hLQ
    simp only at e1 e2 e3
    subst e3
    have hn : q1.length = q2.length := by
      have h1 := congrArg List.length e1
      have h2 := congrArg List.length e2
      simp at h1 h2; omega
    cases q1 with
    | nil =>
      have hq2 : q2 = [] := by cases q2 <;> simp at hn; rfl
      subst hq2
      simp only [List.append_nil] at e1 e2
      have hnl : ¬ ((p1.length : Int) < (Lb.length : Int)) := by rw [e2]; omega
      simp -implicitDefEqProofs [b_spec_ASame_1, hnl]
      exact T _ R (hS2 (by rw [e1, e2]))
    | cons x q1 =>
      cases q2 with
      | nil => simp at hn
      | cons y q2 =>
        have sa := hca.resolve_left (by rw [e1]; simp)
        have sb := hcb.resolve_left (by rw [e2]; simp)
        rw [sa, sb] at hLQ ⊢
        simp only [slP] at hLQ ⊢
        have hlb : Lb.length = p1.length + (q2.length + 1) := by rw [e2]; simp
        have hlt : (p1.length : Int) < (Lb.length : Int) := by omega
        have g1 : La[p1.length]? = some x := by rw [e1]; exact get_mid rfl
        have g2 : Lb[p1.length]? = some y := by rw [e2]; exact get_mid rfl
        have ew : IntKind.i64.wrap ((p1.length : Int) + 1) = (p1.length : Int) + 1 := wrap64 (by omega) (by omega)
        by_cases hxy : x = y
        · subst hxy
          simp -implicitDefEqProofs [b_spec_ASame_1, hlt, g1, g2, ew, leafEqL, leafEq]
          refine hLQ (p1 ++ [x], q1, p1 ++ [x], q2) ⟨by rw [e1]; simp, by rw [e2]; simp, rfl⟩ (by simp) _ ?_
          simp
        · have hne : La ≠ Lb := by
            rw [e1, e2]
            intro h
            have := List.append_cancel_left h
            simp only [List.cons.injEq] at this
            exact hxy this.1
          have hd : (decide (x.1 = y.1) && decide (x.2 = y.2)) = false := by
            by_cases h1 : x.1 = y.1
            · have : ¬ x.2 = y.2 := fun h2 => hxy (Prod.ext h1 h2)
              simp [this]
            · simp [h1]
          rw [hS1 hne]
          simp -implicitDefEqProofs [b_spec_ASame_1, hlt, g1, g2, ew, leafEqL, leafEq, hd]
  · have hne : La ≠ Lb := fun h => hlen (by rw [h])
    have hlen' : ¬ La.length = Lb.length := fun h => hlen (by rw [h])
    rw [hS1 hne]
    simp -implicitDefEqProofs [-alen, c_spec_ASame, AR.cells, cua, cub, lea, leb, hlen, hlen', hLa, hLb]
end Wax


namespace Wax
open Go (IntKind)

theorem aSp_len (n : Nat) : (aSp n).length ≤ 3 := by
  have h : n % 6 < 6 := Nat.mod_lt _ (by omega)
  simp only [aSp]
  generalize n % 6 = q at *
  match q, h with
  | 0, _ => simp
  | 1, _ => simp
  | 2, _ => simp
  | 3, _ => simp
  | 4, _ => simp
  | 5, _ => simp

end Wax


namespace Wax
open Go

def lkF : List (Nat × SFn) → Nat → Option SFn
  | [], _ => none
  | (i, v) :: r, j => if i == j then some v else lkF r j

/-- The table's functions are the program's. -/
inductive TbOk (P : Program) (T : Tab) : List (Nat × SFn) → Prop where
  | nil : TbOk P T []
  | cons {f g : Nat} {fn : Func} {sfn : SFn} {L : Lay} {r : List (Nat × SFn)} (hf : lkN T.fns f = some g) (hb : hasBody P f = true) (hfn : P.funcs[f]? = some fn) (hc : compFn P T L fn = some sfn) (hr : TbOk P T r) : TbOk P T ((g, sfn) :: r)

theorem TbOk.get {P : Program} {T : Tab} : ∀ {tb : List (Nat × SFn)}, TbOk P T tb → ∀ {g : Nat} {sfn : SFn}, lkF tb g = some sfn → ∃ f fn L, lkN T.fns f = some g ∧ hasBody P f = true ∧ P.funcs[f]? = some fn ∧ compFn P T L fn = some sfn
  | _, .nil, g, sfn, h => by simp [lkF] at h
  | _, .cons (f := f) (fn := fn) (L := L) hf hb hfn hc hr, g, sfn, h => by
    simp only [lkF] at h
    split at h
    · rename_i e
      simp only [beq_iff_eq] at e
      simp only [Option.some.injEq] at h
      subst e; subst h
      exact ⟨f, fn, L, hf, hb, hfn, hc⟩
    · exact hr.get h

end Wax


namespace Wax
open Go
def aIn : List UInt8 := [97, 59, 32, 100, 107, 105, 109, 61, 112, 97, 115, 115, 32, 104, 101, 97, 100, 101, 114, 46, 100, 61, 98]
def aOut : AV := .tup [.str [97], .sl 16 [.agg [.int .i64 2, .str [], .str [112, 97, 115, 115], .str [], .str [98], .str [], .str [], .str [], .str [], .str [], .str [], .str [], .str [], .str [], .int .i64 0, .nilS]], .bool true]
end Wax


namespace Wax
open Go (IntKind)
def tIn : L8 := [118, 61, 68, 77, 65, 82, 67, 49, 59, 32, 112, 61, 110, 111, 110, 101]
def con_awake : List AV → Option AV
  | [] => some (.bool true)
  | _ => none
theorem tIn_ok : mpV (mdText tIn) = .tup [.agg (MR.cells { mr0 with adkim := sR, aspf := sR, p := sNone }), .bool true] := by rfl
end Wax


namespace Wax
open Go (IntKind)

theorem adIn : adText aIn = some ([97], [.dkim [112, 97, 115, 115] [] [98] []]) := by kernel_rfl
theorem au_ok_awake (Γ : Gam) (h144 : Γ.fn 144 = con_AParse) (h133 : Γ.fn 133 = con_MParse) : ∀ args r, con_awake args = some r → runs Γ c_laws_awake args (fun v => v = r) := by
  intro args r h
  simp only [con_awake] at h
  split at h <;> (try simp at h; done)
  injection h with h
  subst h
  have k : con_AParse [.str [97, 59, 32, 100, 107, 105, 109, 61, 112, 97, 115, 115, 32, 104, 101, 97, 100, 101, 114, 46, 100, 61, 98]] = some aOut := by
    have e : aIn.length < qtr ∧ plain aIn = true := ⟨by simp [aIn, qtr], by kernel_rfl⟩
    show con_AParse [.str aIn] = _
    simp only [con_AParse]
    rw [if_pos e, adIn]
    rfl
  have k2 : con_MParse [.str tIn] = some (.tup [.agg (MR.cells { mr0 with adkim := sR, aspf := sR, p := sNone }), .bool true]) := by
    have e : tIn.length < mid ∧ plain tIn = true := ⟨by simp [tIn, mid], by kernel_rfl⟩
    simp only [con_MParse]
    rw [if_pos e, tIn_ok]
  simp only [aOut] at k
  simp only [MR.cells, mr0, slO_none, tIn, sR, sNone] at k2
  simp -implicitDefEqProofs [c_laws_awake, acall, h144, h133, k, k2, sNone]

def digS (n : Nat) : L8 := if n < 10 then [UInt8.ofNat (48 + n)] else [UInt8.ofNat (48 + n / 10), UInt8.ofNat (48 + n % 10)]
def con_digits : List AV → Option AV
  | [.int .i64 n] => if 0 ≤ n ∧ n < 100 then some (.str (digS n.toNat)) else none
  | _ => none
theorem ok_digits (Γ : Gam) : ∀ args r, con_digits args = some r → runs Γ c_laws_digits args (fun v => v = r) := by
  intro args r h
  simp only [con_digits] at h
  split at h <;> (try simp at h; done)
  rename_i n
  obtain ⟨⟨h0, hn⟩, rfl⟩ := ite_some h
  clear h
  obtain ⟨m, rfl⟩ : ∃ m : Nat, n = (m : Int) := ⟨n.toNat, by omega⟩
  have w : ∀ k : Int, 0 ≤ k → k < 256 → IntKind.u8.wrap k = k := fun k h1 h2 => Go.IntWalk.u8_in _ ⟨h1, by omega⟩
  by_cases hm : (m : Int) < 10
  · have hm' : m < 10 := by omega
    have w1 := w m (by omega) (by omega)
    have w2 := w (48 + m) (by omega) (by omega)
    have e : ((48 : Int) + m).toNat = 48 + m := by omega
    simp -implicitDefEqProofs [c_laws_digits, hm, hm', w1, w2, digS, toBytes, e]
  · have hm' : ¬ m < 10 := by omega
    have q1 : (m : Int).tdiv 10 = ((m / 10 : Nat) : Int) := by rw [Int.tdiv_eq_ediv_of_nonneg (by omega)]; omega
    have q2 : (m : Int).tmod 10 = ((m % 10 : Nat) : Int) := by rw [Int.tmod_eq_emod_of_nonneg (by omega)]; omega
    have ew : IntKind.i64.wrap ((m / 10 : Nat) : Int) = ((m / 10 : Nat) : Int) := wrap64 (by omega) (by omega)
    have w1 := w ((m / 10 : Nat) : Int) (by omega) (by omega)
    have w2 := w (48 + ((m / 10 : Nat) : Int)) (by omega) (by omega)
    have w3 := w ((m % 10 : Nat) : Int) (by omega) (by omega)
    have w4 := w (48 + ((m % 10 : Nat) : Int)) (by omega) (by omega)
    have e1 : ((48 : Int) + ((m / 10 : Nat) : Int)).toNat = 48 + m / 10 := by omega
    have e2 : ((48 : Int) + ((m % 10 : Nat) : Int)).toNat = 48 + m % 10 := by omega
    simp only [digS, Int.toNat_natCast, if_neg hm']
    generalize m / 10 = q at *
    generalize m % 10 = z at *
    simp -implicitDefEqProofs [c_laws_digits, hm, q1, q2, ew, w1, w2, w3, w4, toBytes, e1, e2]

theorem dig_all : ∀ n : Nat, n < 51 → (1 ≤ n → Go.Lib.atoiAll (digS n) = .ok (n : Int)) ∧ gW (digS n) ∧ (digS n).length ≤ 2 := by
  intro n hn
  have h : (List.range 51).all (fun n => (decide (n = 0) || decide (Go.Lib.atoiAll (digS n) = .ok (n : Int))) && (digS n).all (fun x => decide (32 < x.toNat ∧ x.toNat < 127 ∧ x ≠ 59)) && decide ((digS n).length ≤ 2)) = true := by kernel_rfl
  have := List.all_eq_true.1 h n (List.mem_range.2 hn)
  simp only [Bool.and_eq_true, Bool.or_eq_true, decide_eq_true_eq, List.all_eq_true] at this
  exact ⟨fun h1 => this.1.1.resolve_left (by omega), fun x hx => this.1.2 x hx, this.2⟩
def arcT (v re : L8) (o a b : Nat) : ResT := ⟨[32], (sArc, v), [(aSp a, (qRem, re)), (aSp b, (qOld, digS o))]⟩
theorem arc_ok {v re : L8} {o a b : Nat} (hv : aVals.contains v = true) (hr : aPlain re = true) (ho : o < 51) : (arcT v re o a b).Ok := by
  obtain ⟨v1, v2, v3⟩ := val_low hv
  have hs := aSp_ok
  refine ⟨by simp only [arcT, allWs]; decide, ⟨(show gW sArc by simp only [gW]; decide), (show ∀ x ∈ sArc, x ≠ 61 by decide), v2⟩, ?_, (show (List.map (fun p : L8 × KVp => lowS p.2.1) [(aSp a, (qRem, re)), (aSp b, (qOld, digS o))]).Nodup by simp only [List.map_cons, List.map_nil]; decide)⟩
  intro p hp
  simp only [arcT, List.mem_cons, List.not_mem_nil, or_false] at hp
  rcases hp with rfl | rfl
  · exact ⟨hs a, (show gW qRem by simp only [gW]; decide), (show ∀ x ∈ qRem, x ≠ 61 by decide), (aPlain_g hr).1⟩
  · exact ⟨hs b, (show gW qOld by simp only [gW]; decide), (show ∀ x ∈ qOld, x ≠ 61 by decide), (dig_all o ho).2.1⟩
def arcS (i v re : L8) (o a b : Nat) : L8 := i ++ flatP [([], arcT v re o a b)]
theorem arc_read {i v re : L8} {o a b : Nat} (hi : aPlain i = true) (hv : aVals.contains v = true) (hr : aPlain re = true) (ho : o < 51) (h1 : 1 ≤ o) : adText (arcS i v re o a b) = some (i, [.arc v re (o : Int)]) ∧ plain (arcS i v re o a b) = true ∧ (arcS i v re o a b).length < 2000 := by
  obtain ⟨g1, g2, g3⟩ := aPlain_g hi
  have ok := arc_ok (a := a) (b := b) hv hr ho
  have hall : ∀ p ∈ [(([] : L8), arcT v re o a b)], allWs p.1 ∧ p.2.Ok := by
    intro p hp
    simp only [List.mem_singleton] at hp
    subst hp
    exact ⟨by intro x hx; simp at hx, ok⟩
  refine ⟨ad_text (gW_no g1) (fun b hb => adId_word g1 g2 hb) hall ?_, plain_appB (gW_plain g1) (flatP_plain _ hall), ?_⟩
  · obtain ⟨v1, v2, v3⟩ := val_low hv
    have hm : lowS sArc = sArc := by decide
    have hp : (arcT v re o a b).prm = [(qRem, re), (qOld, digS o)] := by
      have e1 : lowS qRem = qRem := by decide
      have e2 : lowS qOld = qOld := by decide
      simp only [ResT.prm, arcT, List.map_cons, List.map_nil, e1, e2]
    have ha : arcOf [(qRem, re), (qOld, digS o)] = .inr (o : Int) := by
      have hf : findP [(qRem, re), (qOld, digS o)] qOld = some (digS o) := by
        have : ¬ qRem = qOld := by decide
        simp [findP, this]
      simp only [arcOf, hf, (dig_all o ho).1 h1]
      rw [if_neg (by omega)]
    have hl : lookP [(qRem, re), (qOld, digS o)] qRem = re := by simp [lookP]
    simp only [List.map_cons, List.map_nil, hp]
    have e1 : lowS (arcT v re o a b).head.1 = sArc := hm
    have e2 : lowS (arcT v re o a b).head.2 = v := v1
    rw [e1, e2]
    simp only [prOf, if_true, ha, hl]
  · have s1 := aSp_len a
    have s2 := aSp_len b
    have s3 := (aPlain_g hr).2.2
    have s4 := (dig_all o ho).2.2
    have s5 : v.length ≤ 9 := by
      simp only [aVals, List.contains_cons, List.contains_nil, Bool.or_false, Bool.or_eq_true, beq_iff_eq] at hv
      rcases hv with h | h | h | h | h | h | h | h | h <;> subst h <;> decide
    simp [arcS, flatP, ResT.txt, arcT, flatW, kvW, sArc, qRem, qOld]
    omega

def con_FnAuthArc : List AV → Option AV
  | [.str i, .int .u8 v, .str re, .int .u8 o, .int .u8 a, .int .u8 b] => if i.length < 9223372036854775808 ∧ (0 ≤ v ∧ v < 256) ∧ re.length < 9223372036854775808 ∧ (0 ≤ o ∧ o < 256) ∧ (0 ≤ a ∧ a < 256) ∧ (0 ≤ b ∧ b < 256) then some (.bool true) else none
  | _ => none
set_option maxHeartbeats 2000000 in
theorem ok_FnAuthArc (Γ : Gam) (h204 : Γ.fn 204 = con_APlain) (h203 : Γ.fn 203 = con_AValues) (h207 : Γ.fn 207 = con_ASpace) (h212 : Γ.fn 212 = con_digits) (h144 : Γ.fn 144 = con_AParse) (h202 : Γ.fn 202 = con_ASame) (h137 : Γ.fn 137 = con_awake) :
    ∀ args r, con_FnAuthArc args = some r → runs Γ c_laws_FnAuthArc args (fun v => v = r) := by
  intro args r h
  simp only [con_FnAuthArc] at h
  split at h <;> (try simp at h; done)
  rename_i i v re o a b
  obtain ⟨⟨hi, ⟨hv0, hv⟩, hre, ⟨ho0, ho⟩, ⟨ha0, ha⟩, hb0, hb⟩, rfl⟩ := ite_some h
  clear h
  by_cases h1 : (2147483647 : Int) < (i.length : Int)
  · simp -implicitDefEqProofs [c_laws_FnAuthArc, h1]
  by_cases h2 : (2147483647 : Int) < (re.length : Int)
  · simp -implicitDefEqProofs [c_laws_FnAuthArc, h1, h2]
  have k1 : con_APlain [.str i] = some (.bool (aPlain i)) := if_pos (by simp only [mid]; omega)
  have k2 : con_APlain [.str re] = some (.bool (aPlain re)) := if_pos (by simp only [mid]; omega)
  cases p1 : aPlain i with
  | false =>
    rw [p1] at k1
    simp -implicitDefEqProofs [c_laws_FnAuthArc, h1, h2, acall, h204, k1]
  | true =>
    rw [p1] at k1
    cases p2 : aPlain re with
    | false =>
      rw [p2] at k2
      simp -implicitDefEqProofs [c_laws_FnAuthArc, h1, h2, acall, h204, k1, k2]
    | true =>
      rw [p2] at k2
      by_cases h3 : o < 1
      · simp -implicitDefEqProofs [c_laws_FnAuthArc, h1, h2, acall, h204, k1, k2, h3]
      by_cases h4 : 50 < o
      · simp -implicitDefEqProofs [c_laws_FnAuthArc, h1, h2, acall, h204, k1, k2, h3, h4]
      obtain ⟨o, rfl⟩ : ∃ m : Nat, o = (m : Int) := ⟨o.toNat, by omega⟩
      obtain ⟨v, rfl⟩ : ∃ m : Nat, v = (m : Int) := ⟨v.toNat, by omega⟩
      obtain ⟨a, rfl⟩ : ∃ m : Nat, a = (m : Int) := ⟨a.toNat, by omega⟩
      obtain ⟨b, rfl⟩ : ∃ m : Nat, b = (m : Int) := ⟨b.toNat, by omega⟩
      obtain ⟨q, e, hlt⟩ : ∃ q : Nat, (v : Int).tmod 9 = (q : Int) ∧ q < 9 := ⟨v % 9, by rw [Int.tmod_eq_emod_of_nonneg (by omega)]; rfl, Nat.mod_lt _ (by omega)⟩
      obtain ⟨w, hw⟩ : ∃ w, aVals[q]? = some w := ⟨aVals[q]'(by simp [aVals]; omega), by simp⟩
      have hwc : aVals.contains w = true := by simpa using List.mem_of_getElem? hw
      have ewv : IntKind.i64.wrap (v : Int) = (v : Int) := wrap64 (by omega) (by omega)
      have ewo : IntKind.i64.wrap (o : Int) = (o : Int) := wrap64 (by omega) (by omega)
      have k203 : con_AValues [] = some (.sl 1 (strsA aVals)) := rfl
      have hal : aVals.length = 9 := rfl
      have ka : con_ASpace [.int .u8 (a : Int)] = some (.str (aSp a)) := by simp only [con_ASpace]; rw [if_pos (by omega)]; simp
      have kb : con_ASpace [.int .u8 (b : Int)] = some (.str (aSp b)) := by simp only [con_ASpace]; rw [if_pos (by omega)]; simp
      have kd : con_digits [.int .i64 (o : Int)] = some (.str (digS o)) := by simp only [con_digits]; rw [if_pos (by omega)]; simp
      obtain ⟨R1, R2, R3⟩ := arc_read (i := i) (v := w) (re := re) (o := o) (a := a) (b := b) p1 hwc p2 (by omega) (by omega)
      have kp : con_AParse [.str (arcS i w re o a b)] = some (adV (some (i, [.arc w re (o : Int)]))) := by
        simp only [con_AParse]; rw [if_pos ⟨by simp only [qtr]; omega, R2⟩, R1]
      have eS : arcS i w re o a b = i ++ ([59, 32, 97, 114, 99, 61] ++ (w ++ (aSp a ++ ([115, 109, 116, 112, 46, 114, 101, 109, 111, 116, 101, 45, 105, 112, 61] ++ (re ++ (aSp b ++ ([104, 101, 97, 100, 101, 114, 46, 111, 108, 100, 101, 115, 116, 45, 112, 97, 115, 115, 61] ++ digS o))))))) := by
        simp [arcS, flatP, ResT.txt, arcT, flatW, kvW, sArc, qRem, qOld]
      rw [eS] at kp R3
      simp only [adV, List.map_cons, List.map_nil, arV, arA_cons, arA_nil, PR.ar, ar0, AR.cells, slP_none] at kp
      have ks : con_ASame [.agg [.int .i64 8, .str [], .str w, .str [], .str [], .str [], .str [], .str [], .str [], .str [], .str [], .str [], .str [], .str re, .int .i64 (o : Int), .nilS], .agg [.int .i64 8, .str [], .str w, .str [], .str [], .str [], .str [], .str [], .str [], .str [], .str [], .str [], .str [], .str re, .int .i64 (o : Int), .nilS]] = some (.bool true) := by
        simp [con_ASame, asAR, asP, arSame, half]
      have k6 : con_awake [] = some (.bool true) := rfl
      simp only [List.length_append, List.length_cons, List.length_nil] at R3
      simp only [List.cons_append, List.nil_append] at kp
      simp -implicitDefEqProofs [c_laws_FnAuthArc, h1, h2, acall, h204, k1, k2, h3, h4]
      simp -implicitDefEqProofs [f_laws_FnAuthArc_3, acall, h203, k203, hal, ewv, e, hw]
      simp -implicitDefEqProofs [f_laws_FnAuthArc_2, acall, h207, ka, kb, ewo, h212, kd, h144, kp]
      refine ⟨by omega, by omega, by omega, by omega, by omega, by omega, by omega, by omega, ?_⟩
      simp -implicitDefEqProofs [f_laws_FnAuthArc_1, acall, ewo, h202, ks, h137, k6]
end Wax


namespace Wax
open Go Go.RowKit

theorem repSl_mk {T : Tab} {w : World} {F : Frz} {b : Nat} (hF : F b) : ∀ (l : List (List UInt8)) (o : Nat), (∀ (j : Nat) s, l[j]? = some s → w.cell? ⟨b, o + j, none⟩ = some (.string ⟨s.toArray⟩)) → RepSl T w F 1 b o (strsA l)
  | [], _, _ => trivial
  | x :: r, o, h => by
    simp only [strsA, List.map_cons, RepSl]
    refine ⟨trivial, ⟨hF, _, by simpa using h 0 x rfl, by simp [Rep]⟩, ?_⟩
    exact repSl_mk hF r (o + 1) fun j s hj => by
      rw [show o + 1 + j = o + (j + 1) by omega]
      exact h (j + 1) s (by simpa using hj)

theorem owned_strs {T : Tab} {w w' : World} {F : Frz} {e9 : TypeId} {v' : Value} {l : List (List UInt8)} (ho : w'.ownsRow w.heap.size e9 1 v' l.length (l.map fun s => Value.string ⟨s.toArray⟩)) (hn : v' ≠ .slice none 0 0) :
    Rep T w' (fun b => F b ∨ (w.heap.size ≤ b ∧ b < w'.heap.size)) noRho (.sl 1 (strsA l)) v' := by
  have ho' := ho
  obtain ⟨_, hx⟩ := ho
  rcases hx with ⟨he, _⟩ | ⟨g, cap, cur, rfl, hg, hh, hcap, _, _, _⟩
  · exact absurd he hn
  · simp only [Rep]
    refine ⟨g, 0, cap, by simp, by simpa using hcap, ?_⟩
    have hgl : g < w'.heap.size := by
      rcases Nat.lt_or_ge g w'.heap.size with h | h
      · exact h
      · rw [Array.getElem?_eq_none h] at hh; simp at hh
    refine repSl_mk (.inr ⟨hg, hgl⟩) l 0 fun j s hj => ?_
    have := ho'.cells (g := g) rfl j (.string ⟨s.toArray⟩) (by rw [List.getElem?_map, hj]; rfl)
    have e : ((⟨g, 0, none⟩ : Addr).add j) = ⟨g, 0 + j, none⟩ := by
      cases j <;> simp [Addr.add]
    rw [e] at this
    exact this

end Wax


namespace Wax
open Go Go.RowKit Go.Proofs

/-- Nothing is read of the values. -/
def noVal : Value → Option (DataW Nat × List MemPlace) := fun _ => some (.nil, [])

/-- What the shelf says of slices.Sorted at what maps.Keys hands back, in one piece. -/
def SortedSays (P : Program) (T : Tab) (f g : FuncId) : Prop :=
  (∀ h, lkN T.fns h = some 55 → h = g) ∧ ∃ e9 k : TypeId, P.underlying k = some .string ∧
  ∀ (Bm b nn : Nat) (D0 : DataW Nat) (w : World), Bm < w.heap.size → w.cell? ⟨Bm, 0, none⟩ = some (.map (some b)) → w.ownsMap P k noVal b nn D0 → Maps.size D0 ≤ maxLen → Maps.size D0 * 16 ≤ 140737488355328 →
    Calls P f #[.func (.func g) #[] #[.pointer (some ⟨Bm, 0, none⟩)]] w fun e w' => ∃ (v : Value) (ss : List (List UInt8)), e = .returned v ∧ ss.Perm (Go.strKeys D0) ∧
      w'.ownsRow w.heap.size e9 1 v ss.length ((ss.mergeSort (fun x y => decide (x ≤ y))).map encStr) ∧ (v = .slice none 0 0 ↔ ss = []) ∧ Below w.heap.size w w'

theorem repM_keyList {T : Tab} {w : World} {F : Frz} : ∀ {es : List (List UInt8 × AV)} {l : List MapEntry}, RepM T w F es l → l.map (·.key) = es.map fun p => Value.string ⟨p.1.toArray⟩
  | [], [], _ => rfl
  | (k, c) :: r, e :: s, h => by
    simp only [RepM] at h
    simp only [List.map_cons, h.1, repM_keyList h.2.2]
  | [], _ :: _, h => by simp [RepM] at h
  | _ :: _, [], h => by simp [RepM] at h

theorem ok_Sorted {P : Program} {T : Tab} {f g : FuncId} (H : SortedSays P T f g) : ∀ args r, con_Sorted args = some r → OkCall P T f args r := by
  intro args r h w F vs hF _ hx
  obtain ⟨hinj, e9, k, hk, H⟩ := H
  simp only [con_Sorted] at h
  split at h <;> (try simp at h; done)
  rename_i es
  obtain ⟨⟨hlen, hkl⟩, rfl⟩ := ite_some h
  clear h
  simp only [half] at hlen
  match vs, hx with
  | [v], hx =>
    simp only [RepL, and_true] at hx
    simp only [Rep] at hx
    obtain ⟨f', vs', rfl, hf', hcap⟩ := hx
    obtain rfl := hinj f' hf'
    obtain ⟨l⟩ := vs'
    match l, hcap with
    | [p], hcap =>
      simp only [RepL, and_true, Rep] at hcap
      obtain ⟨Bm, rfl, hat⟩ := hcap
      simp only [RepAt, and_true] at hat
      obtain ⟨hFB, x, hcell, hmp⟩ := hat
      simp only [Rep] at hmp
      obtain ⟨b, ents, clk, rfl, hFb, hheap, hM, hst⟩ := hmp
      have hBm : Bm < w.heap.size := hF Bm hFB
      have hkeys := repM_keyList hM
      have hsz : ents.size = es.length := by
        have := congrArg List.length hkeys
        simpa using this
      have hread : ∀ x ∈ ents.toList, ∃ s : List UInt8, x.key = .string ⟨s.toArray⟩ ∧ keyOf P k x.key = some (.string s) := by
        intro x hx
        have hm : x.key ∈ ents.toList.map (·.key) := List.mem_map_of_mem hx
        rw [hkeys, List.mem_map] at hm
        obtain ⟨q, hq, e⟩ := hm
        refine ⟨q.1, e.symm, ?_⟩
        have hs := hkl q hq
        simp only [half] at hs
        rw [← e]
        have hsz : (⟨q.1.toArray⟩ : ByteArray).size = q.1.length := by show q.1.toArray.size = _; simp
        have := Go.WideMaps.keyOf_string_mk hk (s := ⟨q.1.toArray⟩) (by rw [hsz]; simp only [maxLen]; omega)
        simpa using this
      have hown : w.ownsMap P k noVal b ents.size (.map ((ents.toList.map (WideElems.rg P k noVal)).foldr DataW.insert [])) := by
        refine ⟨ents, clk, hheap, ⟨by rw [hsz]; simp only [maxLen]; omega, hst, fun x hx => ?_⟩, Nat.le_refl _, rfl⟩
        obtain ⟨s, _, hs⟩ := hread x hx
        exact ⟨_, WideElems.rd_mk (val := x.val) (born := x.born) hs rfl⟩
      have hds : Maps.size (.map ((ents.toList.map (WideElems.rg P k noVal)).foldr DataW.insert [])) = es.length := by
        simp only [Maps.size]
        rw [(WideShapes.sorted_perm _).length_eq]
        simp [hsz]
      have hsk : (Go.strKeys (.map ((ents.toList.map (WideElems.rg P k noVal)).foldr DataW.insert []))).Perm (es.map (·.1)) := by
        simp only [Go.strKeys]
        refine ((WideShapes.sorted_perm _).map _).trans ?_
        have : (ents.toList.map (WideElems.rg P k noVal)).map (fun p => Go.strOf p.1) = es.map (·.1) := by
          rw [List.map_map]
          have e1 : ents.toList.map ((fun p => Go.strOf p.1) ∘ WideElems.rg P k noVal) = (ents.toList.map (·.key)).map (fun v => match v with | .string s => s.data.toList | _ => []) := by
            rw [List.map_map]
            refine List.map_congr_left fun x hx => ?_
            obtain ⟨s, h1, h2⟩ := hread x hx
            have h3 := WideElems.rg_of (WideElems.rd_mk (R := noVal) (val := x.val) (born := x.born) h2 rfl)
            simp only [Function.comp_apply]
            rw [show x = ⟨x.key, x.val, x.born⟩ from rfl, h3, h1]
            rfl
          rw [e1, hkeys, List.map_map]
          refine List.map_congr_left fun x _ => ?_
          simp
        rw [this]
      refine (H Bm b ents.size _ w hBm hcell hown (by rw [hds]; simp only [maxLen]; omega) (by rw [hds]; omega)).mono ?_
      rintro e w' ⟨v, ss, rfl, hp, ho, hn, hbl⟩
      have hperm : ss.Perm (es.map (·.1)) := hp.trans hsk
      have hms : ss.mergeSort (fun x y => decide (x ≤ y)) = sortB (es.map (·.1)) := Go.mergeSort_of_perm hperm
      rw [hms] at ho
      have hl : ss.length = (sortB (es.map (·.1))).length := by rw [hperm.length_eq]; simp [sortB]
      rw [hl] at ho
      refine ⟨v, rfl, hbl, ?_⟩
      by_cases he : es = []
      · subst he
        have hss : ss = [] := by simpa using hperm
        rw [hn.2 hss]
        simp [sortB, strV, Rep]
      · have hss : ss ≠ [] := fun e => he (by rw [e] at hperm; simpa using hperm.symm)
        have hne : sortB (es.map (·.1)) ≠ [] := fun e => by rw [e] at hl; exact hss (List.length_eq_zero_iff.1 hl)
        have : strV (sortB (es.map (·.1))) = .sl 1 (strsA (sortB (es.map (·.1)))) := by
          cases hq : sortB (es.map (·.1)) with
          | nil => exact absurd hq hne
          | cons _ _ => rfl
        rw [this]
        exact owned_strs (e9 := e9) (l := sortB (es.map (·.1))) ho (fun e => hss (hn.1 e))

/-- Only one function bears this number. -/
def lkOnly (l : List (Nat × Nat)) (n g : Nat) : Bool := l.all fun p => p.2 != n || p.1 == g

theorem lkN_only {l : List (Nat × Nat)} {n g : Nat} (h : lkOnly l n g = true) : ∀ i, lkN l i = some n → i = g := by
  intro i hi
  induction l with
  | nil => simp [lkN] at hi
  | cons p r ih =>
    simp only [lkOnly, List.all_cons, Bool.and_eq_true, Bool.or_eq_true, bne_iff_ne, ne_eq, beq_iff_eq] at h
    obtain ⟨a, b⟩ := p
    simp only [lkN] at hi
    split at hi
    · rename_i e
      simp only [beq_iff_eq] at e
      simp only [Option.some.injEq] at hi
      rcases h.1 with h1 | h1
      · exact absurd hi h1
      · exact e ▸ h1
    · exact ih (by simpa [lkOnly] using h.2) hi
end Wax


namespace Wax
open Go Go.ChangeShapes Go.WideShapes Go.RowKit

theorem lkGl_mem : ∀ {l : List (Nat × List AV)} {g : Nat} {cs : List AV}, lkGl l g = some cs → (g, cs) ∈ l
  | [], _, _, h => by simp [lkGl] at h
  | (i, v) :: r, g, cs, h => by
    simp only [lkGl] at h
    split at h
    · rename_i e
      simp only [beq_iff_eq] at e
      simp only [Option.some.injEq] at h
      subst e; subst h; simp
    · exact List.mem_cons_of_mem _ (lkGl_mem h)

theorem GlobOk.of {T : Tab} {w : World} {F : Frz} (h : ∀ p ∈ T.gl, RepAt T w F p.1 0 p.2 ∧ F p.1 ∧ ∃ vs q a, w.heap[p.1]? = some (.cells vs q a) ∧ vs.size = p.2.length) : GlobOk T w F := fun g cs hg => h (g, cs) (lkGl_mem hg)

theorem var_heap {P : Program} {w : World} {n : String} {g : Nat} {cs : Array Value} (hg : P.globalNamed n = some g) (hv : w.var? P n = some cs) : ∃ q a, w.heap[g]? = some (.cells cs q a) := by
  simp only [World.var?, hg, Option.bind_some] at hv
  split at hv
  · rename_i cs' q a h
    injection hv with hv
    subst hv
    exact ⟨q, a, h⟩
  · simp at hv

theorem lt_of_heap {w : World} {g : Nat} {x : Obj} (h : w.heap[g]? = some x) : g < w.heap.size := by
  rcases Nat.lt_or_ge g w.heap.size with h' | h'
  · exact h'
  · rw [Array.getElem?_eq_none h'] at h; simp at h

/-- A variable that bears an error. -/
theorem repAt_err {T : Tab} {P : Program} {w : World} {n : String} {g tp : Nat} {y : Value} (hg : P.globalNamed n = some g) (hv : w.var? P n = some #[.iface tp y]) (ht : lkN T.tys tp = some 3) :
    RepAt T w (fun b => b < w.heap.size) g 0 [.ifc 3 .junk] ∧ g < w.heap.size ∧ ∃ vs q a, w.heap[g]? = some (.cells vs q a) ∧ vs.size = 1 := by
  obtain ⟨q, a, h⟩ := var_heap hg hv
  refine ⟨?_, lt_of_heap h, _, q, a, h, rfl⟩
  simp only [RepAt, and_true]
  exact ⟨lt_of_heap h, _, by simpa using World.var?_cell hg hv 0, tp, y, rfl, ht, trivial⟩

theorem repAt_ints {T : Tab} {w : World} {F : Frz} {g : Nat} {k : IntKind} (hF : F g) : ∀ (zs : List Int) (o : Nat), (∀ j z, zs[j]? = some z → w.cell? ⟨g, o + j, none⟩ = some (.int k z)) → RepAt T w F g o (zs.map (AV.int k))
  | [], _, _ => trivial
  | z :: r, o, h => by
    simp only [List.map_cons, RepAt]
    refine ⟨⟨hF, _, by simpa using h 0 z rfl, by simp [Rep]⟩, ?_⟩
    exact repAt_ints hF r (o + 1) fun j s hj => by
      rw [show o + 1 + j = o + (j + 1) by omega]
      exact h (j + 1) s (by simpa using hj)

/-- A table of integers. -/
theorem repAt_tab {T : Tab} {P : Program} {w : World} {n : String} {g : Nat} {k : IntKind} {zs : List Int} (hg : P.globalNamed n = some g) (hv : Lib.TabIs P w n k zs) :
    RepAt T w (fun b => b < w.heap.size) g 0 (zs.map (AV.int k)) ∧ g < w.heap.size ∧ ∃ vs q a, w.heap[g]? = some (.cells vs q a) ∧ vs.size = (zs.map (AV.int k)).length := by
  have hv' : w.var? P n = some (zs.map fun z => Value.int k z).toArray := hv
  obtain ⟨q, a, h⟩ := var_heap hg hv'
  refine ⟨repAt_ints (F := fun b => b < w.heap.size) (lt_of_heap h) zs 0 fun j z hj => ?_, lt_of_heap h, _, q, a, h, by simp⟩
  have hc := World.var?_cell hg hv' j
  rw [Nat.zero_add, hc]
  simp [hj]

end Wax


namespace Wax
open Go Go.ChangeShapes Go.WideShapes Go.RowKit

section
variable {P : Program} {T : Tab} {w : World} {H : Type} {enc : TypeId × Value → H}

theorem u8_has {n : Int} (h : (Lit.int .u8 n).wf = true) : 0 ≤ n ∧ n < 256 := by
  simp only [Lit.wf] at h
  have : 0 ≤ n ∧ n ≤ 255 := by simpa [IntKind.min, IntKind.max, IntKind.bits, IntKind.signed] using h
  omega

end
end Wax


