/- The machine by which the functions are read, and what is proved of them (part 7): no premise. -/
import Derived.Test.YthiehlcbjcejcaaGreatDoorWf
set_option linter.all false
namespace Wax
open Go (IntKind)

/-- Which names there are. -/
def tmM (l : List KVp) : List (List UInt8 × AV) := l.map fun t => (t.1, .bool true)
theorem tm_find (k : L8) : ∀ l : List KVp, mfind (tmM l) k = if (findP l k).isSome = true then some (.bool true) else none
  | [] => rfl
  | (i, u) :: r => by
    have ih := tm_find k r
    simp only [tmM, List.map_cons, mfind, findP] at ih ⊢
    by_cases e : i = k
    · subst e; simp
    · have e' : ¬ k = i := fun h => e h.symm
      simp only [if_neg e, if_neg e']; exact ih
theorem tm_look (k : L8) (l : List KVp) : lookA (tmM l) k (.bool false) false = .bool (findP l k).isSome := by
  have := tm_find k l
  unfold lookA
  rw [this]
  cases (findP l k).isSome <;> simp
theorem tm_set {k : L8} : ∀ {l : List KVp}, ¬ k ∈ l.map (·.1) → mset (tmM l) k (.bool true) = tmM l ++ [(k, .bool true)]
  | [], _ => rfl
  | (i, u) :: r, h => by
    simp only [List.map_cons, List.mem_cons, not_or] at h
    have ih := tm_set (k := k) (l := r) h.2
    simp only [tmM, List.map_cons, mset] at ih ⊢
    rw [if_neg h.1, ih]; rfl

def con_FnDmarcDefaults : List AV → Option AV
  | [u] => match slPairs u with
    | some l => if l.length < 9223372036854775808 then some (.bool true) else none
    | none => none
  | _ => none

set_option maxHeartbeats 2000000 in
theorem ok_FnDmarcDefaults (Γ : Gam) (h131 : Γ.fn 131 = con_zzFits13) (h132 : Γ.fn 132 = con_MRight) (h134 : Γ.fn 134 = con_MText) (h133 : Γ.fn 133 = con_MParse) (h137 : Γ.fn 137 = con_awake) :
    ∀ args r, con_FnDmarcDefaults args = some r → runs Γ c_laws_FnDmarcDefaults args (fun v => v = r) := by
  intro args r h
  simp only [con_FnDmarcDefaults] at h
  split at h <;> (try simp at h; done)
  rename_i u
  split at h <;> (try simp at h; done)
  rename_i l hl
  obtain ⟨h1, rfl⟩ := ite_some h
  clear h
  have k1 := k_fits hl h1
  cases hb : fits13 l with
  | false =>
    rw [hb] at k1
    simp -implicitDefEqProofs [-alen, c_laws_FnDmarcDefaults, acall, tgs_ref hl, tgs_kill hl, h131, k1]
  | true =>
    rw [hb] at k1
    have k2 := k_right hl hb
    cases hr : mRight l with
    | false =>
      rw [hr] at k2
      simp -implicitDefEqProofs [-alen, c_laws_FnDmarcDefaults, acall, tgs_ref hl, tgs_kill hl, h131, k1, h132, k2]
    | true =>
      rw [hr] at k2
      obtain ⟨rd, z⟩ := right_rd hr
      have k3 := k_text hl nil_bytes z false
      have k4 := rd.parse z [] false
      have k6 : con_awake [] = some (.bool true) := rfl
      have d1 : (findP l kAdkim).isSome = false → (recM (recOf (findP l))).adkim = sR := by
        intro h; simp only [recM, recOf]; cases hf : findP l kAdkim with
        | none => rfl
        | some v => rw [hf] at h; simp at h
      have d2 : (findP l kAspf).isSome = false → (recM (recOf (findP l))).aspf = sR := by
        intro h; simp only [recM, recOf]; cases hf : findP l kAspf with
        | none => rfl
        | some v => rw [hf] at h; simp at h
      have d3 : (recM (recOf (findP l))).has = (findP l kPct).isSome := by
        simp only [recM, recOf]; cases findP l kPct <;> rfl
      have d4 : (findP l kRua).isSome = false → (recM (recOf (findP l))).rua = none := by
        intro h; simp only [recM, recOf]; cases hf : findP l kRua with
        | none => rfl
        | some v => rw [hf] at h; simp at h
      have d5 : (findP l kRuf).isSome = false → (recM (recOf (findP l))).ruf = none := by
        intro h; simp only [recM, recOf]; cases hf : findP l kRuf with
        | none => rfl
        | some v => rw [hf] at h; simp at h
      have t1 := tm_look kAdkim l
      have t2 := tm_look kAspf l
      have t3 := tm_look kPct l
      have t4 := tm_look kRua l
      have t5 := tm_look kRuf l
      generalize (findP l kAdkim).isSome = b1 at *
      generalize (findP l kAspf).isSome = b2 at *
      generalize (findP l kPct).isSome = b3 at *
      generalize (findP l kRua).isSome = b4 at *
      generalize (findP l kRuf).isSome = b5 at *
      simp only [kAdkim, kAspf, kPct, kRua, kRuf] at t1 t2 t3 t4 t5
      generalize recM (recOf (findP l)) = R at *
      obtain ⟨r1, r2, r3, r4, r5, r6, r7, r8, r9, r10, r11⟩ := R
      simp only at d1 d2 d3 d4 d5
      simp only [MR.cells] at k4
      have cu := slO_cells r9
      have cf := slO_cells r10
      have cn := slO_cells r7
      simp only [cells] at cu cf cn
      simp -implicitDefEqProofs [-alen, c_laws_FnDmarcDefaults, acall, tgs_ref hl, tgs_kill hl, h131, k1, h132, k2, slp_alen hl, h134, k3, h133, k4, cu, cf, cn]
      refine awp_loop2 (σ := List KVp × List KVp) (fun p => ⟨[(3, .ref 3 0), (5, .mref 22), (23, u), (24, .int .i64 l.length), (25, .int .i64 p.1.length)], [(22, .mp (tmM p.1)), (3, .cells [.str r1, .str r2, .int .i64 r3, .str r4, .int .i64 r5, .bool r6, slO r7, .int .i64 r8, slO r9, slO r10, .str r11])]⟩)
        (fun p => l = p.1 ++ p.2) (fun p => p.2.length) ([], l) ?_ (by simp) ?_
      · simp [tmM]
      rintro ⟨pre, post⟩ e1 LQ hLQ
      simp only at e1
      have hlen : l.length = pre.length + post.length := by rw [e1]; simp
      cases post with
      | nil =>
        simp only [List.append_nil] at e1
        subst e1
        have a4 : ∀ hp, alen hp 1 (slO r9) = some (r9.getD []).length := fun hp => slO_alen hp r9
        have a5 : ∀ hp, alen hp 1 (slO r10) = some (r10.getD []).length := fun hp => slO_alen hp r10
        subst d3
        cases b1 <;> cases b2 <;> cases b4 <;> cases b5 <;> simp at d1 d2 d4 d5 <;> (try subst d1) <;> (try subst d2) <;> (try subst d4) <;> (try subst d5) <;>
          simp -implicitDefEqProofs [b_laws_FnDmarcDefaults_1, t_laws_FnDmarcDefaults_2, t1, t2, t3, t4, t5, acall, h137, k6, sR]
      | cons t post =>
        obtain ⟨n, v⟩ := t
        have hu := slp_ne hl (by rw [e1]; simp)
        subst hu
        have hlt : (pre.length : Int) < (l.length : Int) := by simp at hlen; omega
        have g : l[pre.length]? = some (n, v) := by rw [e1]; exact get_mid rfl
        have hnd : ¬ n ∈ pre.map (·.1) := by
          have := rd.nd'
          rw [e1, List.map_append, List.nodup_append] at this
          intro hm
          exact this.2.2 n hm n (by simp) rfl
        have ts := tm_set hnd
        have ew : IntKind.i64.wrap ((pre.length : Int) + 1) = (pre.length : Int) + 1 := wrap64 (by omega) (by have := z.n; omega)
        simp -implicitDefEqProofs [b_laws_FnDmarcDefaults_1, hlt, g, ts, ew]
        refine hLQ (pre ++ [(n, v)], post) (by rw [e1]; simp) (by simp) _ ?_
        simp [tmM]
end Wax


namespace Wax
open Go (IntKind)

theorem pc2_at : ∀ {M : List KVp} {i : Nat} {x : KVp}, M[i]? = some x → ((pc2 M).drop (i * 2)).take 2 = [.str x.1, .str x.2]
  | [], i, x, h => by simp at h
  | y :: M, 0, x, h => by simp at h; subst h; simp
  | y :: M, i + 1, x, h => by
    simp only [List.getElem?_cons_succ] at h
    have e : (i + 1) * 2 = i * 2 + 1 + 1 := by omega
    rw [e, pc2_cons, List.drop_succ_cons, List.drop_succ_cons]
    exact pc2_at h
theorem pc2_put : ∀ {M : List KVp} {i : Nat} {x : KVp}, i < M.length → spliceL (pc2 M) (i * 2) [.str x.1, .str x.2] = pc2 (M.set i x)
  | [], i, x, h => by simp at h
  | y :: M, 0, x, h => by simp [spliceL]
  | y :: M, i + 1, x, h => by
    have ih := pc2_put (M := M) (i := i) (x := x) (by simpa using h)
    have e : (i + 1) * 2 = i * 2 + 1 + 1 := by omega
    rw [e, pc2_cons, List.set_cons_succ, pc2_cons]
    simp only [spliceL] at ih ⊢
    simpa using ih

/-- Two tags change places. -/
theorem swap_perm {M : List KVp} {i j : Nat} {x y : KVp} (hi : M[i]? = some x) (hj : M[j]? = some y) : ((M.set i y).set j x).Perm M := by
  obtain ⟨h1, e1⟩ := List.getElem?_eq_some_iff.1 hi
  obtain ⟨h2, e2⟩ := List.getElem?_eq_some_iff.1 hj
  rw [List.perm_iff_count]
  intro b
  have h2' : j < (M.set i y).length := by simpa using h2
  have e3 : (M.set i y)[j] = y := by
    rw [List.getElem_set]
    split
    · rfl
    · exact e2
  rw [List.count_set h2', List.count_set h1, e1, e3]
  have hx : (if (x == b) = true then 1 else 0) ≤ M.count b := by
    split
    · rename_i h
      have : x = b := by simpa using h
      subst this
      exact List.count_pos_iff.2 (e1 ▸ List.getElem_mem h1)
    · omega
  omega

theorem findP_perm {M l : List KVp} (h : M.Perm l) (nd : (l.map (·.1)).Nodup) (k : L8) : findP M k = findP l k := by
  have ndM : (M.map (·.1)).Nodup := (h.map _).nodup_iff.2 nd
  cases hl : findP l k with
  | some v => exact findP_of_mem ndM (h.mem_iff.2 (findP_in hl))
  | none =>
    cases hM : findP M k with
    | none => rfl
    | some v =>
      have := findP_of_mem nd (h.mem_iff.1 (findP_in hM))
      rw [hl] at this; simp at this
theorem perm_rd {M l : List KVp} (h : M.Perm l) (r : Rd l) (z : Sz l) : Rd M ∧ Sz M ∧ recOf (findP M) = recOf (findP l) := by
  refine ⟨⟨fun t ht => r.ok t (h.mem_iff.1 ht), ((h.cons (kV, sDM)).map _).nodup_iff.2 r.nd, ?_⟩, ⟨by rw [h.length_eq]; exact z.n, fun t ht => z.t t (h.mem_iff.1 ht)⟩, recOf_congr fun k _ => findP_perm h r.nd' k⟩
  obtain ⟨v, hv⟩ := r.p
  exact ⟨v, by rw [findP_perm h r.nd' kP]; exact hv⟩

def con_FnDmarcOrder : List AV → Option AV
  | [u, f] => match slPairs u, slBytes f with
    | some l, some fm => if l.length < 9223372036854775808 ∧ fm.length < 9223372036854775808 then some (.bool true) else none
    | _, _ => none
  | _ => none

set_option maxHeartbeats 2000000 in
theorem ok_FnDmarcOrder (Γ : Gam) (h131 : Γ.fn 131 = con_zzFits13) (h132 : Γ.fn 132 = con_MRight) (h134 : Γ.fn 134 = con_MText) (h133 : Γ.fn 133 = con_MParse) (h136 : Γ.fn 136 = con_MSame) (h137 : Γ.fn 137 = con_awake) :
    ∀ args r, con_FnDmarcOrder args = some r → runs Γ c_laws_FnDmarcOrder args (fun v => v = r) := by
  intro args r h
  simp only [con_FnDmarcOrder] at h
  split at h <;> (try simp at h; done)
  rename_i u f
  split at h <;> (try simp at h; done)
  rename_i l fm hl hf
  obtain ⟨⟨h1, h2⟩, rfl⟩ := ite_some h
  clear h
  have k1 := k_fits hl h1
  have ff := slb_alen hf
  cases hb : fits13 l with
  | false =>
    rw [hb] at k1
    simp -implicitDefEqProofs [-alen, c_laws_FnDmarcOrder, acall, tgs_ref hl, tgs_kill hl, slb_ref hf, slb_kill hf, h131, k1]
  | true =>
    rw [hb] at k1
    have k2 := k_right hl hb
    by_cases hfm : (2147483647 : Int) < (fm.length : Int)
    · simp -implicitDefEqProofs [-alen, c_laws_FnDmarcOrder, acall, tgs_ref hl, tgs_kill hl, slb_ref hf, slb_kill hf, h131, k1, ff, hfm]
    · cases hr : mRight l with
      | false =>
        rw [hr] at k2
        simp -implicitDefEqProofs [-alen, c_laws_FnDmarcOrder, acall, tgs_ref hl, tgs_kill hl, slb_ref hf, slb_kill hf, h131, k1, ff, hfm, h132, k2]
      | true =>
        rw [hr] at k2
        by_cases hfm2 : (50 : Int) < (fm.length : Int)
        · simp -implicitDefEqProofs [-alen, c_laws_FnDmarcOrder, acall, tgs_ref hl, tgs_kill hl, slb_ref hf, slb_kill hf, h131, k1, ff, hfm, h132, k2, hfm2]
        · obtain ⟨rd, z⟩ := right_rd hr
          have hne : l ≠ [] := by obtain ⟨v, r, rfl⟩ := right_first hr; simp
          have hu := slp_ne hl hne
          subst hu
          have zn := z.n
          have hpos : 0 < l.length := List.length_pos_iff.2 hne
          have hcp : (pr2 l).flatMap cells = pc2 l := by simp [pr2, pc2, List.flatMap_map, cells]
          have hbd : (l.length + 1) * 33 < 35184372088832 := by omega
          simp -implicitDefEqProofs [-alen, c_laws_FnDmarcOrder, acall, slb_ref hf, slb_kill hf, h131, k1, ff, hfm, h132, k2, hfm2, hne, hcp, hbd]
          refine awp_loop2 (σ := List UInt8 × List UInt8 × List KVp) (fun p => ⟨[(0, .sl 2 (pr2 l)), (5, .msl 33 2 0 l.length), (34, f), (35, .int .i64 fm.length), (36, .int .i64 p.1.length)], [(33, .cells (pc2 p.2.2))]⟩)
            (fun p => fm = p.1 ++ p.2.1 ∧ p.2.2.Perm l) (fun p => p.2.1.length) ([], fm, l) ?_ (by simp) ?_
          · simp
          rintro ⟨pre, post, M⟩ ⟨e1, hp⟩ LQ hLQ
          simp only at e1 hp
          have hML := hp.length_eq
          cases post with
          | nil =>
            simp only [List.append_nil] at e1
            subst e1
            obtain ⟨rd2, z2, er⟩ := perm_rd hp rd z
            have k3 := k_text hl nil_bytes z false
            have k4 := rd.parse z [] false
            have k3' := k_text (u := .sl 2 (pr2 M)) (by simp [slPairs, asPairs_pr2]) nil_bytes z2 false
            have k4' := rd2.parse z2 [] false
            rw [er] at k4'
            have k5 := k_same (rd_short hr) (rd_short hr)
            rw [mSame_refl] at k5
            have k6 : con_awake [] = some (.bool true) := rfl
            generalize recM (recOf (findP l)) = R at *
            simp only [MR.cells] at k4 k4' k5
            have cu := slO_cells R.rua
            have cf := slO_cells R.ruf
            have cn := slO_cells R.rf
            simp only [cells] at cu cf cn
            rw [← hML]
            simp -implicitDefEqProofs [-alen, b_laws_FnDmarcOrder_1, t_laws_FnDmarcOrder_2, acall, h134, k3, k3', h133, k4, k4', h136, k5, h137, k6, cu, cf, cn]
          | cons x post =>
            have hlen : fm.length = pre.length + (post.length + 1) := by rw [e1]; simp
            have hfx : f = .sl 1 (bcA fm) := by
              rcases slBytes_cases hf with ⟨_, rfl⟩ | h
              · simp at e1
              · exact h
            subst hfx
            have hlt : (pre.length : Int) < (fm.length : Int) := by omega
            have g : fm[pre.length]? = some x := by rw [e1]; exact get_mid rfl
            have ew : IntKind.i64.wrap ((pre.length : Int) + 1) = (pre.length : Int) + 1 := wrap64 (by omega) (by omega)
            have ew2 : IntKind.i64.wrap ((l.length : Int) - 1) = (l.length : Int) - 1 := wrap64 (by omega) (by omega)
            by_cases h0 : (1 : Int) < (l.length : Int)
            · have hm : ∀ q : Int, 0 ≤ q → ∃ i : Nat, i < l.length ∧ IntKind.i64.wrap (1 + q.tmod ((l.length : Int) - 1)) = (i : Int) := by
                intro q hq
                rw [Int.tmod_eq_emod_of_nonneg hq]
                have ha := Int.emod_nonneg q (show (l.length : Int) - 1 ≠ 0 by omega)
                have hb := Int.emod_lt_of_pos q (show (0 : Int) < (l.length : Int) - 1 by omega)
                refine ⟨(1 + q % ((l.length : Int) - 1)).toNat, by omega, ?_⟩
                rw [wrap64 (by omega) (by omega)]
                omega
              obtain ⟨i, hi, ei⟩ := hm pre.length (by omega)
              obtain ⟨j, hj, ej⟩ := hm x.toNat (by omega)
              have hxw : IntKind.i64.wrap (x.toNat : Int) = (x.toNat : Int) := wrap64 (by omega) (by have := x.toNat_lt; omega)
              have hz : ¬ (l.length : Int) - 1 = 0 := by omega
              have hi' : i < M.length := by omega
              have hj' : j < M.length := by omega
              obtain ⟨y, hy⟩ : ∃ y, M[i]? = some y := ⟨_, List.getElem?_eq_getElem hi'⟩
              obtain ⟨w, hw⟩ : ∃ w, M[j]? = some w := ⟨_, List.getElem?_eq_getElem hj'⟩
              have ai := pc2_at hy
              have aj := pc2_at hw
              have p1 := pc2_put (M := M) (i := i) (x := w) hi'
              have p2 := pc2_put (M := M.set i w) (i := j) (x := y) (by simpa using hj')
              have c1 : 2 ≤ M.length * 2 - i * 2 := by omega
              have c2 : 2 ≤ M.length * 2 - j * 2 := by omega
              have c3 : i * 2 + 2 ≤ M.length * 2 := by omega
              have c4 : j * 2 + 2 ≤ M.length * 2 := by omega
              have m1 : min 2 (M.length * 2 - i * 2) = 2 := by omega
              have m2 : min 2 (M.length * 2 - j * 2) = 2 := by omega
              have fin := fun st => hLQ (pre ++ [x], post, (M.set i w).set j y) ⟨by rw [e1]; simp, (swap_perm hy hw).trans hp⟩ (by simp) st
              simp -implicitDefEqProofs [b_laws_FnDmarcOrder_1, hlt, g, ew, ew2, h0, hxw, hz, ei, ej, hi, hj, ai, aj, p1, p2, c1, c2, c3, c4, m1, m2]
              refine fin _ ?_
              simp only [spliceL] at p1 p2
              simp [p1, p2]
            · simp -implicitDefEqProofs [b_laws_FnDmarcOrder_1, hlt, g, ew, ew2, h0]
              refine hLQ (pre ++ [x], post, M) ⟨by rw [e1]; simp, hp⟩ (by simp) _ ?_
              simp
end Wax


namespace Wax
open Go (IntKind)

/-- A text that is no record. -/
def noRec (s : L8) : Prop := con_MParse [.str s] = some (.tup [.agg mr0.cells, .bool false])
theorem noRec_of {s : L8} (h1 : s.length < mid) (h2 : plain s = true) {e : AV} (h : mdText s = .inl e) : noRec s := by
  simp only [noRec, con_MParse]
  rw [if_pos ⟨h1, h2⟩, h]; rfl
theorem mdAll_ver {acc : List KVp} (h : (findP acc kV).getD [] ≠ sDM) : mdAll acc = .inl (.ifc 3 .junk) := if_neg h
theorem cur1_no {x : L8} (h : ∀ c ∈ x, gB c) {k : L8} (hk : ∀ c ∈ k, gB c) : noB 59 (k ++ 61 :: x) := by
  intro c hc
  simp only [List.mem_append, List.mem_cons] at hc
  rcases hc with hc | rfl | hc
  · exact gB_no hk c hc
  · decide
  · exact gB_no h c hc
theorem sp_nil (k : Nat) : spAt [] k = [] := rfl
theorem want1 {l : List KVp} (r : Rd l) (z : Sz l) {x : L8} (hx : ∀ c ∈ x, gB c) (hne : x ≠ []) (hd : x ≠ sDM) (hl : x.length ≤ 20) : noRec (kV ++ 61 :: x ++ tagsT [] 2 l) := by
  have hg := fun t ht => (r.ok t ht).2
  have hs := split_tags [] false l 2 (kV ++ 61 :: x) (cur1_no hx (by simp only [kV, gB]; decide)) hg
  have hp := prd2_pcsL [] false l 2 (kV ++ 61 :: x) (kV, x) [] ⟨[], [], [], allBl_nil, allBl_nil, allBl_nil, by simp⟩ ⟨by simp [kV], by simp only [kV, gB]; decide, hne, hx⟩ hg (by simpa using r.nd)
  simp only [tailT, Bool.false_eq_true, if_false, List.append_nil] at hs
  have b := tagsT_len (fm := []) (k := 2) z.t
  have zn := z.n
  refine noRec_of (e := .ifc 3 .junk) ?_ ?_ ?_
  · simp [kV, mid]; omega
  · have b2 : plainB 61 = true := by decide
    have b3 : plain kV = true := by decide
    have b4 : plain x = true := by simp only [plain, List.all_eq_true]; exact fun c hc => gB_plain (hx c hc)
    simp only [plain_app, plain_cons, b2, b3, b4, tagsT_plain [] l 2 hg, Bool.and_self]
  · simp only [mdText, hs, hp, if_true]
    exact mdAll_ver (by simpa [findP] using hd)
theorem want2 {l : List KVp} (r : Rd l) (z : Sz l) {v : L8} {q : List KVp} (hl : l = (kP, v) :: q) : noRec ((tagsT [] 2 l).drop 1) := by
  have hg := fun t ht => (r.ok t ht).2
  have g0 : Gt (kP, v) := hg _ (by rw [hl]; simp)
  have hgq : ∀ t ∈ q, Gt t := fun t ht => hg t (by rw [hl]; simp [ht])
  have e : (tagsT [] 2 l).drop 1 = kP ++ 61 :: v ++ tagsT [] 6 q := by rw [hl]; simp [tagsT, oneT, sp_nil]
  have hs := split_tags [] false q 6 (kP ++ 61 :: v) (cur1_no g0.v2 (by simp only [kP, gB]; decide)) hgq
  have hp := prd2_pcsL [] false q 6 (kP ++ 61 :: v) (kP, v) [] ⟨[], [], [], allBl_nil, allBl_nil, allBl_nil, by simp⟩ g0 hgq (by have := r.nd'; rw [hl] at this; simpa using this)
  simp only [tailT, Bool.false_eq_true, if_false, List.append_nil] at hs
  have b := tagsT_len (fm := []) (k := 2) z.t
  have zn := z.n
  refine noRec_of (e := .ifc 3 .junk) ?_ ?_ ?_
  · rw [List.length_drop]; simp only [mid]; omega
  · have := tagsT_plain [] l 2 hg
    exact plain_sub (fun y hy => List.mem_of_mem_drop hy) this
  · rw [e]
    simp only [mdText, hs, hp, if_true]
    refine mdAll_ver ?_
    have hn : findP l kV = none := by
      cases hf : findP l kV with
      | none => rfl
      | some u =>
        have := r.nd
        simp only [List.map_cons, List.nodup_cons] at this
        exact absurd (List.mem_map.2 ⟨_, findP_in hf, rfl⟩) this.1
    rw [hl] at hn
    simp only [List.nil_append, hn]
    decide
theorem want3 {l : List KVp} (r : Rd l) (z : Sz l) {v : L8} {q : List KVp} (hl : l = (kP, v) :: q) : noRec (mText [] q false) := by
  have hgq : ∀ t ∈ q, Gt t := fun t ht => (r.ok t (by rw [hl]; simp [ht])).2
  have nd := r.nd
  rw [hl] at nd
  have hp := prd2_text [] q false hgq (by
    simp only [List.map_cons, List.nodup_cons, List.mem_cons, not_or] at nd ⊢
    exact ⟨nd.1.2, nd.2.2⟩)
  refine noRec_of (e := eN mNoP) (mText_len (by have := z.n; rw [hl] at this; simp at this; omega) (fun t ht => z.t t (by rw [hl]; simp [ht]))) (mText_plain hgq) ?_
  simp only [mdText, hp, if_true]
  unfold mdAll
  have hv : (findP ((kV, sDM) :: q) kV).getD [] = sDM := by simp [findP]
  have hn : findP ((kV, sDM) :: q) kP = none := by
    rw [findP_cons_ne (by decide)]
    cases hf : findP q kP with
    | none => rfl
    | some u =>
      simp only [List.map_cons, List.nodup_cons] at nd
      exact absurd (List.mem_map.2 ⟨_, findP_in hf, rfl⟩) nd.2.1
  rw [if_pos hv, hn]

def con_FnDmarcWanting : List AV → Option AV
  | [u, .str x] => match slPairs u with
    | some l => if l.length < 9223372036854775808 ∧ x.length < 9223372036854775808 then some (.bool true) else none
    | none => none
  | _ => none

set_option maxHeartbeats 2000000 in
theorem ok_FnDmarcWanting (Γ : Gam) (h131 : Γ.fn 131 = con_zzFits13) (h132 : Γ.fn 132 = con_MRight) (h99 : Γ.fn 99 = con_MailKeyword) (h112 : Γ.fn 112 = con_MailLower) (h134 : Γ.fn 134 = con_MText) (h133 : Γ.fn 133 = con_MParse) (h137 : Γ.fn 137 = con_awake) :
    ∀ args r, con_FnDmarcWanting args = some r → runs Γ c_laws_FnDmarcWanting args (fun v => v = r) := by
  intro args r h
  simp only [con_FnDmarcWanting] at h
  split at h <;> (try simp at h; done)
  rename_i u x
  split at h <;> (try simp at h; done)
  rename_i l hl
  obtain ⟨⟨h1, h2⟩, rfl⟩ := ite_some h
  clear h
  have k1 := k_fits hl h1
  cases hb : fits13 l with
  | false =>
    rw [hb] at k1
    simp -implicitDefEqProofs [c_laws_FnDmarcWanting, acall, tgs_ref hl, tgs_kill hl, h131, k1]
  | true =>
    rw [hb] at k1
    have k2 := k_right hl hb
    by_cases hx1 : (2147483647 : Int) < (x.length : Int)
    · simp -implicitDefEqProofs [c_laws_FnDmarcWanting, acall, tgs_ref hl, tgs_kill hl, h131, k1, hx1]
    · have hxm : x.length < mid := by simp only [mid]; omega
      have kw := kw_con hxm
      have kl := low_con hxm
      cases hr : mRight l with
      | false =>
        rw [hr] at k2
        simp -implicitDefEqProofs [c_laws_FnDmarcWanting, acall, tgs_ref hl, tgs_kill hl, h131, k1, hx1, h132, k2]
      | true =>
        rw [hr] at k2
        cases hk : mKw x with
        | false =>
          rw [hk] at kw
          simp -implicitDefEqProofs [c_laws_FnDmarcWanting, acall, tgs_ref hl, tgs_kill hl, h131, k1, hx1, h132, k2, h99, kw]
        | true =>
          rw [hk] at kw
          by_cases hx2 : (20 : Int) < (x.length : Int)
          · simp -implicitDefEqProofs [c_laws_FnDmarcWanting, acall, tgs_ref hl, tgs_kill hl, h131, k1, hx1, h132, k2, h99, kw, hx2]
          · by_cases hx3 : lowS x = [100, 109, 97, 114, 99, 49]
            · rw [hx3] at kl
              simp -implicitDefEqProofs [c_laws_FnDmarcWanting, acall, tgs_ref hl, tgs_kill hl, h131, k1, hx1, h132, k2, h99, kw, hx2, h112, kl]
            · obtain ⟨rd, z⟩ := right_rd hr
              obtain ⟨v, q, hlq⟩ := right_first hr
              have hu := slp_ne hl (by rw [hlq]; simp)
              subst hu
              simp only [mKw, Bool.and_eq_true, decide_eq_true_eq] at hk
              have hxg : ∀ c ∈ x, gB c := fun c hc => (kwB_g (List.all_eq_true.1 hk.1.1.1 c hc)).1
              have hxd : x ≠ sDM := by rintro rfl; exact hx3 (by decide)
              have w1 := want1 rd z hxg hk.1.1.2 hxd (by omega)
              have w2 := want2 rd z hlq
              have w3 := want3 rd z hlq
              have k3 := k_text hl nil_bytes z false
              have zq : Sz q := ⟨by have := z.n; rw [hlq] at this; simp at this; omega, fun t ht => z.t t (by rw [hlq]; simp [ht])⟩
              have k3' := k_text (u := .sl 2 (pr2 q)) (by simp [slPairs, asPairs_pr2]) nil_bytes zq false
              have k6 : con_awake [] = some (.bool true) := rfl
              have et : mText [] l false = [118, 61, 68, 77, 65, 82, 67, 49] ++ tagsT [] 2 l := by simp [mText, headT, sp_nil, sDM]
              have eT : tagsT [] 2 l = 59 :: (tagsT [] 2 l).drop 1 := by rw [hlq]; simp [tagsT, oneT, sp_nil]
              rw [et] at k3
              have tl := tagsT_len (fm := []) (k := 2) z.t
              have zn := z.n
              generalize hT : (tagsT [] 2 l).drop 1 = T at *
              have hTl : T.length < 5000 := by rw [← hT, List.length_drop]; omega
              simp only [eT, noRec, MR.cells, mr0, slO_none] at w1 w2 w3 k3
              simp -implicitDefEqProofs [c_laws_FnDmarcWanting, acall, h131, k1, hx1, h132, k2, h99, kw, hx2, h112, kl, hx3, h134, k3]
              refine ⟨by omega, by omega, by omega, by omega, ?_⟩
              have e1 : kV ++ 61 :: x ++ 59 :: T = 118 :: 61 :: (x ++ 59 :: T) := by simp [kV]
              rw [e1] at w1
              have dq : (pr2 l).drop 1 = pr2 q := by rw [hlq]; rfl
              have dl : 1 ≤ l.length := by rw [hlq]; simp
              refine awp_loop2 (σ := Nat) (fun p => ⟨[(0, AV.sl 2 (pr2 l)), (49, AV.msl 49 1 0 2), (50, AV.int IntKind.i64 2), (51, AV.int IntKind.i64 p)], [(49, AObj.cells [AV.str (118 :: 61 :: (x ++ 59 :: T)), AV.str T])]⟩)
                (fun p => p ≤ 2) (fun p => 2 - p) 0 (by simp) (by omega) ?_
              intro p hp LQ hLQ
              match p, hp with
              | 0, _ =>
                have f := hLQ 1 (by omega) (by omega)
                have ew : IntKind.i64.wrap 1 = 1 := rfl
                simp -implicitDefEqProofs [b_laws_FnDmarcWanting_1, acall, h133, w1, ew]
                refine f _ ?_
                simp
              | 1, _ =>
                have f := hLQ 2 (by omega) (by omega)
                have ew : IntKind.i64.wrap 2 = 2 := rfl
                simp -implicitDefEqProofs [b_laws_FnDmarcWanting_1, acall, h133, w2, ew]
                refine f _ ?_
                simp
              | 2, _ =>
                simp -implicitDefEqProofs [b_laws_FnDmarcWanting_1, t_laws_FnDmarcWanting_2, acall, dq, dl, h134, k3', h133, w3, h137, k6]
                omega
end Wax


namespace Wax
open Go (IntKind)

def f_laws_FnDmarcApart_1 : SCode :=
  (.seq
    (.region [
      ⟨some 106, .load (some 11) (.t 6), none⟩,
      ⟨some 107, .load (some 11) (.t 8), none⟩,
      ⟨some 108, .call 136 [(.t 106), (.t 107)], none⟩,
      ⟨some 109, .mv (.t 108), none⟩,
      ⟨some 110, .call 137 [], some (109, true)⟩,
      ⟨some 111, .pick (.t 109) (.t 110) (.k (.bool false)), none⟩,
      ⟨some 4, .mv (.t 111), none⟩] [4] [6] [[6], [8], [106, 107], [108], [], [109, 110]])
    .ret)

def f_laws_FnDmarcApart_2 : SCode :=
  (.seq
    (.seq
      (.region [
        ⟨some 56, .fAddr 0 (.t 3), none⟩,
        ⟨some 57, .load none (.t 56), none⟩] [6, 8, 57] [] [[3]])
      (.block 0
        (.seq
          (.region [
            ⟨some 59, .bin .eql (.t 57) (.k (.str [97, 100, 107, 105, 109])), none⟩,
            ⟨some 58, .mv (.t 59), none⟩] [6, 8, 57, 58] [] [])
          (.cond (.t 58)
            (.region [
              ⟨some 60, .fAddr 0 (.t 8), none⟩,
              ⟨some 61, .load none (.t 60), none⟩,
              ⟨some 62, .fAddr 0 (.t 6), none⟩,
              ⟨none, .store 1 (.t 62) (.t 61), none⟩] [6, 8] [] [[], [60]])
            (.seq
              (.region [
                ⟨some 64, .bin .eql (.t 57) (.k (.str [97, 115, 112, 102])), none⟩,
                ⟨some 63, .mv (.t 64), none⟩] [6, 8, 57, 63] [] [])
              (.cond (.t 63)
                (.region [
                  ⟨some 65, .fAddr 1 (.t 8), none⟩,
                  ⟨some 66, .load none (.t 65), none⟩,
                  ⟨some 67, .fAddr 1 (.t 6), none⟩,
                  ⟨none, .store 1 (.t 67) (.t 66), none⟩] [6, 8] [] [[], [65]])
                (.seq
                  (.region [
                    ⟨some 69, .bin .eql (.t 57) (.k (.str [102, 111])), none⟩,
                    ⟨some 68, .mv (.t 69), none⟩] [6, 8, 57, 68] [] [])
                  (.cond (.t 68)
                    (.region [
                      ⟨some 70, .fAddr 2 (.t 8), none⟩,
                      ⟨some 71, .load none (.t 70), none⟩,
                      ⟨some 72, .fAddr 2 (.t 6), none⟩,
                      ⟨none, .store 1 (.t 72) (.t 71), none⟩] [6, 8] [] [[], [70]])
                    (.seq
                      (.region [
                        ⟨some 74, .bin .eql (.t 57) (.k (.str [112, 99, 116])), none⟩,
                        ⟨some 73, .mv (.t 74), none⟩] [6, 8, 57, 73] [] [])
                      (.cond (.t 73)
                        (.region [
                          ⟨some 75, .fl (.fAddr 4 (.t 8)), none⟩,
                          ⟨some 76, .fl (.load none (.t 75)), none⟩,
                          ⟨some 77, .fl (.fAddr 5 (.t 8)), none⟩,
                          ⟨some 78, .fl (.load none (.t 77)), none⟩,
                          ⟨some 79, .fAddr 4 (.t 6), none⟩,
                          ⟨none, .store 1 (.t 79) (.t 76), none⟩,
                          ⟨some 80, .fAddr 5 (.t 6), none⟩,
                          ⟨none, .store 1 (.t 80) (.t 78), none⟩] [6, 8] [] [])
                        (.seq
                          (.region [
                            ⟨some 82, .bin .eql (.t 57) (.k (.str [114, 102])), none⟩,
                            ⟨some 81, .mv (.t 82), none⟩] [6, 8, 57, 81] [] [])
                          (.cond (.t 81)
                            (.region [
                              ⟨some 83, .fAddr 6 (.t 8), none⟩,
                              ⟨some 84, .load none (.t 83), none⟩,
                              ⟨some 85, .fAddr 6 (.t 6), none⟩,
                              ⟨none, .store 1 (.t 85) (.t 84), none⟩] [6, 8] [] [[], [83]])
                            (.seq
                              (.region [
                                ⟨some 87, .bin .eql (.t 57) (.k (.str [114, 105])), none⟩,
                                ⟨some 86, .mv (.t 87), none⟩] [6, 8, 57, 86] [] [])
                              (.cond (.t 86)
                                (.region [
                                  ⟨some 88, .fAddr 7 (.t 8), none⟩,
                                  ⟨some 89, .load none (.t 88), none⟩,
                                  ⟨some 90, .fAddr 7 (.t 6), none⟩,
                                  ⟨none, .store 1 (.t 90) (.t 89), none⟩] [6, 8] [] [[], [88]])
                                (.seq
                                  (.region [
                                    ⟨some 92, .bin .eql (.t 57) (.k (.str [114, 117, 97])), none⟩,
                                    ⟨some 91, .mv (.t 92), none⟩] [6, 8, 57, 91] [] [])
                                  (.cond (.t 91)
                                    (.region [
                                      ⟨some 93, .fAddr 8 (.t 8), none⟩,
                                      ⟨some 94, .load none (.t 93), none⟩,
                                      ⟨some 95, .fAddr 8 (.t 6), none⟩,
                                      ⟨none, .store 1 (.t 95) (.t 94), none⟩] [6, 8] [] [[], [93]])
                                    (.seq
                                      (.region [
                                        ⟨some 97, .bin .eql (.t 57) (.k (.str [114, 117, 102])), none⟩,
                                        ⟨some 96, .mv (.t 97), none⟩] [6, 8, 57, 96] [] [])
                                      (.cond (.t 96)
                                        (.region [
                                          ⟨some 98, .fAddr 9 (.t 8), none⟩,
                                          ⟨some 99, .load none (.t 98), none⟩,
                                          ⟨some 100, .fAddr 9 (.t 6), none⟩,
                                          ⟨none, .store 1 (.t 100) (.t 99), none⟩] [6, 8] [] [[], [98]])
                                        (.seq
                                          (.region [
                                            ⟨some 102, .bin .eql (.t 57) (.k (.str [115, 112])), none⟩,
                                            ⟨some 101, .mv (.t 102), none⟩] [6, 8, 101] [] [[57]])
                                          (.cond (.t 101)
                                            (.region [
                                              ⟨some 103, .fAddr 10 (.t 8), none⟩,
                                              ⟨some 104, .load none (.t 103), none⟩,
                                              ⟨some 105, .fAddr 10 (.t 6), none⟩,
                                              ⟨none, .store 1 (.t 105) (.t 104), none⟩] [6, 8] [] [[], [103]])
                                            .skip))))))))))))))))))))
    f_laws_FnDmarcApart_1)

def f_laws_FnDmarcApart_3 : SCode :=
  (.seq
    (.seq
      (.region [
        ⟨some 44, .mv (.t 7), none⟩,
        ⟨some 45, .un .not (.t 44), none⟩,
        ⟨some 46, .mv (.t 45), none⟩,
        ⟨some 47, .mv (.t 9), some (46, false)⟩,
        ⟨some 48, .un .not (.t 47), some (46, false)⟩,
        ⟨some 49, .pick (.t 46) (.k (.bool true)) (.t 48), none⟩,
        ⟨some 50, .mv (.t 49), none⟩,
        ⟨some 51, .load (some 11) (.t 8), some (50, false)⟩,
        ⟨some 52, .mv (.t 5), some (50, false)⟩,
        ⟨some 53, .call 135 [(.t 51), (.t 52)], some (50, false)⟩,
        ⟨some 54, .un .not (.t 53), some (50, false)⟩,
        ⟨some 55, .pick (.t 50) (.k (.bool true)) (.t 54), none⟩] [3, 6, 8, 55] [18, 20, 23] [[7], [44], [45], [9], [47], [46, 48], [49], [], [5], [51, 52], [53]])
      (.cond (.t 55)
        (.seq
          (.region [
            ⟨some 4, .mv (.k (.bool false)), none⟩] [4] [6] [])
          .ret)
        .skip))
    f_laws_FnDmarcApart_2)

def f_laws_FnDmarcApart_4 : SCode :=
  (.seq
    (.seq
    (.region [
      ⟨some 39, .mv (.t 5), none⟩,
      ⟨some 40, .call 134 [(.t 39), (.k .nilS), (.k (.bool false))], none⟩,
      ⟨some 41, .call 133 [(.t 40)], none⟩,
      ⟨some 38, .mv (.t 41), none⟩,
      ⟨some 42, .extr (.t 38) 0, none⟩,
      ⟨some 43, .extr (.t 38) 1, none⟩,
      ⟨some 8, .alloc [(.str []), (.str []), (.int .i64 0), (.str []), (.int .i64 0), (.bool false), .nilS, (.int .i64 0), .nilS, .nilS, (.str [])], none⟩,
      ⟨none, .store 11 (.t 8) (.t 42), none⟩,
      ⟨some 9, .mv (.t 43), none⟩] [3, 5, 6, 7, 8, 9] [] [[], [39], [40], [41], [], [38], [], [42]])
    (.ghost [.frz 8]))
    f_laws_FnDmarcApart_3)

def f_laws_FnDmarcApart_5 : SCode :=
  (.seq
    (.region [
      ⟨some 33, .mv (.t 0), none⟩,
      ⟨some 34, .call 134 [(.t 33), (.k .nilS), (.k (.bool false))], none⟩,
      ⟨some 35, .call 133 [(.t 34)], none⟩,
      ⟨some 32, .mv (.t 35), none⟩,
      ⟨some 36, .extr (.t 32) 0, none⟩,
      ⟨some 37, .extr (.t 32) 1, none⟩,
      ⟨some 6, .alloc [(.str []), (.str []), (.int .i64 0), (.str []), (.int .i64 0), (.bool false), .nilS, (.int .i64 0), .nilS, .nilS, (.str [])], none⟩,
      ⟨none, .store 11 (.t 6) (.t 36), none⟩,
      ⟨some 7, .mv (.t 37), none⟩] [3, 5, 6, 7] [] [[0], [33], [34], [35], [], [32], [], [36]])
    f_laws_FnDmarcApart_4)

def f_laws_FnDmarcApart_6 : SCode :=
  (.seq
    (.seq
      (.region [
        ⟨some 24, .mv (.t 0), none⟩,
        ⟨some 25, .call 132 [(.t 24)], none⟩,
        ⟨some 26, .un .not (.t 25), none⟩,
        ⟨some 27, .mv (.t 26), none⟩,
        ⟨some 28, .mv (.t 5), some (27, false)⟩,
        ⟨some 29, .call 132 [(.t 28)], some (27, false)⟩,
        ⟨some 30, .un .not (.t 29), some (27, false)⟩,
        ⟨some 31, .pick (.t 27) (.k (.bool true)) (.t 30), none⟩] [0, 3, 5, 31] [] [[], [24], [25], [26], [], [28], [29]])
      (.cond (.t 31)
        (.seq
          (.region [
            ⟨some 4, .mv (.k (.bool true)), none⟩] [4] [18, 20, 23] [])
          .ret)
        .skip))
    f_laws_FnDmarcApart_5)

def f_laws_FnDmarcApart_7 : SCode :=
  (.seq
    (.region [
      ⟨some 18, .mkSl 2 0 [(.str []), (.str [])] [], none⟩,
      ⟨some 19, .mv (.t 0), none⟩,
      ⟨some 20, .app 2 32 (.t 18) (.t 19), none⟩,
      ⟨some 21, .fl (.load (some 2) (.t 3)), none⟩,
      ⟨some 22, .fl (.mkSlF 2 1 [(.str []), (.str [])] [(0, (.t 21))]), none⟩,
      ⟨some 23, .app 2 32 (.t 20) (.t 22), none⟩,
      ⟨some 5, .mv (.t 23), none⟩] [0, 3, 5] [] [])
    f_laws_FnDmarcApart_6)

def c_laws_FnDmarcApart : SFn := ⟨2,
    (.seq
      (.seq
      (.region [
        ⟨some 3, .box (.t 1), none⟩,
        ⟨some 4, .mv (.k (.bool false)), none⟩] [0, 3] [] [[1]])
      (.ghost [.frz 3]))
      (.seq
        (.seq
          (.region [
            ⟨some 10, .mv (.t 0), none⟩,
            ⟨some 11, .call 131 [(.t 10)], none⟩,
            ⟨some 12, .un .not (.t 11), none⟩,
            ⟨some 13, .mv (.t 12), none⟩,
            ⟨some 14, .load (some 2) (.t 3), some (13, false)⟩,
            ⟨some 15, .call 119 [(.t 14)], some (13, false)⟩,
            ⟨some 16, .un .not (.t 15), some (13, false)⟩,
            ⟨some 17, .pick (.t 13) (.k (.bool true)) (.t 16), none⟩] [0, 3, 17] [] [[], [10], [11], [12], [], [14], [15]])
          (.cond (.t 17)
            (.seq
              (.region [
                ⟨some 4, .mv (.k (.bool true)), none⟩] [4] [] [])
              .ret)
            .skip))
        f_laws_FnDmarcApart_7)),
  [.t 4]⟩

def l_laws_FnDmarcApart : Lay := { rg := [(0, ([0, 3], [])), (1, ([0, 3, 17], [])), (2, ([4], [])), (3, ([0, 3, 5], [])), (4, ([0, 3, 5, 31], [])), (5, ([4], [18, 20, 23])), (6, ([3, 5, 6, 7], [])), (7, ([3, 5, 6, 7, 8, 9], [])), (8, ([3, 6, 8, 55], [18, 20, 23])), (9, ([4], [6])), (10, ([6, 8, 57], [])), (11, ([6, 8, 57, 58], [])), (12, ([6, 8], [])), (13, ([6, 8, 57, 63], [])), (14, ([6, 8], [])), (15, ([6, 8, 57, 68], [])), (16, ([6, 8], [])), (17, ([6, 8, 57, 73], [])), (18, ([6, 8], [])), (19, ([6, 8, 57, 81], [])), (20, ([6, 8], [])), (21, ([6, 8, 57, 86], [])), (22, ([6, 8], [])), (23, ([6, 8, 57, 91], [])), (24, ([6, 8], [])), (25, ([6, 8, 57, 96], [])), (26, ([6, 8], [])), (27, ([6, 8, 101], [])), (28, ([6, 8], [])), (29, ([4], [6]))], dd := [(0, [[1]]), (1, [[], [10], [11], [12], [], [14], [15]]), (4, [[], [24], [25], [26], [], [28], [29]]), (6, [[0], [33], [34], [35], [], [32], [], [36]]), (7, [[], [39], [40], [41], [], [38], [], [42]]), (8, [[7], [44], [45], [9], [47], [46, 48], [49], [], [5], [51, 52], [53]]), (10, [[3]]), (12, [[], [60]]), (14, [[], [65]]), (16, [[], [70]]), (20, [[], [83]]), (22, [[], [88]]), (24, [[], [93]]), (26, [[], [98]]), (27, [[57]]), (28, [[], [103]]), (29, [[6], [8], [106, 107], [108], [], [109, 110]])], gh := [(0, [.frz 3]), (7, [.frz 8])], fz := [22], fl := [21, 22, 75, 76, 77, 78] }

end Wax


namespace Wax
open Go (IntKind)

theorem findP_app_ne {l : List KVp} {k i v : L8} (h : k ≠ i) : findP (l ++ [(i, v)]) k = findP l k := by
  induction l with
  | nil => simp only [List.nil_append]; rw [findP_cons_ne h]
  | cons t l ih =>
    obtain ⟨a, b⟩ := t
    simp only [List.cons_append, findP]
    split
    · rfl
    · exact ih
section
variable {l : List KVp} {k v : L8}
/-- The two records, but for the field of the last tag. -/
def apR (l : List KVp) : MR := recM (recOf (findP l))
theorem ap_un (h : ¬ k ∈ mKnown) : apR l = apR (l ++ [(k, v)]) := by
  simp only [apR]
  rw [recOf_congr (f := findP (l ++ [(k, v)])) (g := findP l)]
  intro q hq
  exact findP_app_ne (fun e => h (e ▸ hq))
theorem ap_kAdkim : { apR l with adkim := (apR (l ++ [(kAdkim, v)])).adkim } = apR (l ++ [(kAdkim, v)]) := by
  simp only [apR, recM, recOf, findP_app_ne (v := v) (l := l) (show kAspf ≠ kAdkim by decide), findP_app_ne (v := v) (l := l) (show kFo ≠ kAdkim by decide), findP_app_ne (v := v) (l := l) (show kP ≠ kAdkim by decide), findP_app_ne (v := v) (l := l) (show kPct ≠ kAdkim by decide), findP_app_ne (v := v) (l := l) (show kRf ≠ kAdkim by decide), findP_app_ne (v := v) (l := l) (show kRi ≠ kAdkim by decide), findP_app_ne (v := v) (l := l) (show kRua ≠ kAdkim by decide), findP_app_ne (v := v) (l := l) (show kRuf ≠ kAdkim by decide), findP_app_ne (v := v) (l := l) (show kSp ≠ kAdkim by decide)]
  try rfl
theorem ap_kAspf : { apR l with aspf := (apR (l ++ [(kAspf, v)])).aspf } = apR (l ++ [(kAspf, v)]) := by
  simp only [apR, recM, recOf, findP_app_ne (v := v) (l := l) (show kAdkim ≠ kAspf by decide), findP_app_ne (v := v) (l := l) (show kFo ≠ kAspf by decide), findP_app_ne (v := v) (l := l) (show kP ≠ kAspf by decide), findP_app_ne (v := v) (l := l) (show kPct ≠ kAspf by decide), findP_app_ne (v := v) (l := l) (show kRf ≠ kAspf by decide), findP_app_ne (v := v) (l := l) (show kRi ≠ kAspf by decide), findP_app_ne (v := v) (l := l) (show kRua ≠ kAspf by decide), findP_app_ne (v := v) (l := l) (show kRuf ≠ kAspf by decide), findP_app_ne (v := v) (l := l) (show kSp ≠ kAspf by decide)]
  try rfl
theorem ap_kFo : { apR l with fo := (apR (l ++ [(kFo, v)])).fo } = apR (l ++ [(kFo, v)]) := by
  simp only [apR, recM, recOf, findP_app_ne (v := v) (l := l) (show kAdkim ≠ kFo by decide), findP_app_ne (v := v) (l := l) (show kAspf ≠ kFo by decide), findP_app_ne (v := v) (l := l) (show kP ≠ kFo by decide), findP_app_ne (v := v) (l := l) (show kPct ≠ kFo by decide), findP_app_ne (v := v) (l := l) (show kRf ≠ kFo by decide), findP_app_ne (v := v) (l := l) (show kRi ≠ kFo by decide), findP_app_ne (v := v) (l := l) (show kRua ≠ kFo by decide), findP_app_ne (v := v) (l := l) (show kRuf ≠ kFo by decide), findP_app_ne (v := v) (l := l) (show kSp ≠ kFo by decide)]
  try rfl
theorem ap_kPct : { apR l with pct := (apR (l ++ [(kPct, v)])).pct, has := (apR (l ++ [(kPct, v)])).has } = apR (l ++ [(kPct, v)]) := by
  simp only [apR, recM, recOf, findP_app_ne (v := v) (l := l) (show kAdkim ≠ kPct by decide), findP_app_ne (v := v) (l := l) (show kAspf ≠ kPct by decide), findP_app_ne (v := v) (l := l) (show kFo ≠ kPct by decide), findP_app_ne (v := v) (l := l) (show kP ≠ kPct by decide), findP_app_ne (v := v) (l := l) (show kRf ≠ kPct by decide), findP_app_ne (v := v) (l := l) (show kRi ≠ kPct by decide), findP_app_ne (v := v) (l := l) (show kRua ≠ kPct by decide), findP_app_ne (v := v) (l := l) (show kRuf ≠ kPct by decide), findP_app_ne (v := v) (l := l) (show kSp ≠ kPct by decide)]
  try rfl
theorem ap_kRf : { apR l with rf := (apR (l ++ [(kRf, v)])).rf } = apR (l ++ [(kRf, v)]) := by
  simp only [apR, recM, recOf, findP_app_ne (v := v) (l := l) (show kAdkim ≠ kRf by decide), findP_app_ne (v := v) (l := l) (show kAspf ≠ kRf by decide), findP_app_ne (v := v) (l := l) (show kFo ≠ kRf by decide), findP_app_ne (v := v) (l := l) (show kP ≠ kRf by decide), findP_app_ne (v := v) (l := l) (show kPct ≠ kRf by decide), findP_app_ne (v := v) (l := l) (show kRi ≠ kRf by decide), findP_app_ne (v := v) (l := l) (show kRua ≠ kRf by decide), findP_app_ne (v := v) (l := l) (show kRuf ≠ kRf by decide), findP_app_ne (v := v) (l := l) (show kSp ≠ kRf by decide)]
  try rfl
theorem ap_kRi : { apR l with ri := (apR (l ++ [(kRi, v)])).ri } = apR (l ++ [(kRi, v)]) := by
  simp only [apR, recM, recOf, findP_app_ne (v := v) (l := l) (show kAdkim ≠ kRi by decide), findP_app_ne (v := v) (l := l) (show kAspf ≠ kRi by decide), findP_app_ne (v := v) (l := l) (show kFo ≠ kRi by decide), findP_app_ne (v := v) (l := l) (show kP ≠ kRi by decide), findP_app_ne (v := v) (l := l) (show kPct ≠ kRi by decide), findP_app_ne (v := v) (l := l) (show kRf ≠ kRi by decide), findP_app_ne (v := v) (l := l) (show kRua ≠ kRi by decide), findP_app_ne (v := v) (l := l) (show kRuf ≠ kRi by decide), findP_app_ne (v := v) (l := l) (show kSp ≠ kRi by decide)]
  try rfl
theorem ap_kRua : { apR l with rua := (apR (l ++ [(kRua, v)])).rua } = apR (l ++ [(kRua, v)]) := by
  simp only [apR, recM, recOf, findP_app_ne (v := v) (l := l) (show kAdkim ≠ kRua by decide), findP_app_ne (v := v) (l := l) (show kAspf ≠ kRua by decide), findP_app_ne (v := v) (l := l) (show kFo ≠ kRua by decide), findP_app_ne (v := v) (l := l) (show kP ≠ kRua by decide), findP_app_ne (v := v) (l := l) (show kPct ≠ kRua by decide), findP_app_ne (v := v) (l := l) (show kRf ≠ kRua by decide), findP_app_ne (v := v) (l := l) (show kRi ≠ kRua by decide), findP_app_ne (v := v) (l := l) (show kRuf ≠ kRua by decide), findP_app_ne (v := v) (l := l) (show kSp ≠ kRua by decide)]
  try rfl
theorem ap_kRuf : { apR l with ruf := (apR (l ++ [(kRuf, v)])).ruf } = apR (l ++ [(kRuf, v)]) := by
  simp only [apR, recM, recOf, findP_app_ne (v := v) (l := l) (show kAdkim ≠ kRuf by decide), findP_app_ne (v := v) (l := l) (show kAspf ≠ kRuf by decide), findP_app_ne (v := v) (l := l) (show kFo ≠ kRuf by decide), findP_app_ne (v := v) (l := l) (show kP ≠ kRuf by decide), findP_app_ne (v := v) (l := l) (show kPct ≠ kRuf by decide), findP_app_ne (v := v) (l := l) (show kRf ≠ kRuf by decide), findP_app_ne (v := v) (l := l) (show kRi ≠ kRuf by decide), findP_app_ne (v := v) (l := l) (show kRua ≠ kRuf by decide), findP_app_ne (v := v) (l := l) (show kSp ≠ kRuf by decide)]
  try rfl
theorem ap_kSp : { apR l with sp := (apR (l ++ [(kSp, v)])).sp } = apR (l ++ [(kSp, v)]) := by
  simp only [apR, recM, recOf, findP_app_ne (v := v) (l := l) (show kAdkim ≠ kSp by decide), findP_app_ne (v := v) (l := l) (show kAspf ≠ kSp by decide), findP_app_ne (v := v) (l := l) (show kFo ≠ kSp by decide), findP_app_ne (v := v) (l := l) (show kP ≠ kSp by decide), findP_app_ne (v := v) (l := l) (show kPct ≠ kSp by decide), findP_app_ne (v := v) (l := l) (show kRf ≠ kSp by decide), findP_app_ne (v := v) (l := l) (show kRi ≠ kSp by decide), findP_app_ne (v := v) (l := l) (show kRua ≠ kSp by decide), findP_app_ne (v := v) (l := l) (show kRuf ≠ kSp by decide)]
  try rfl
end

theorem ap_ref2 : ∀ (l : List KVp), hasRefL (pc2 l) = false
  | [] => rfl
  | x :: l => by simp [ap_ref2 l]
theorem slp_pr2 (l : List KVp) : slPairs (.sl 2 (pr2 l)) = some l := by simp [slPairs, asPairs_pr2]
/-- The field of a name, taken from another record. -/
def apSet (k : L8) (x y : MR) : MR :=
  if k = kAdkim then { x with adkim := y.adkim } else
  if k = kAspf then { x with aspf := y.aspf } else
  if k = kFo then { x with fo := y.fo } else
  if k = kPct then { x with pct := y.pct, has := y.has } else
  if k = kRf then { x with rf := y.rf } else
  if k = kRi then { x with ri := y.ri } else
  if k = kRua then { x with rua := y.rua } else
  if k = kRuf then { x with ruf := y.ruf } else
  if k = kSp then { x with sp := y.sp } else
  x
theorem apSet_eq (l : List KVp) (k v : L8) (hp : k ≠ kP) : apSet k (apR l) (apR (l ++ [(k, v)])) = apR (l ++ [(k, v)]) := by
  unfold apSet
  by_cases h_kAdkim : k = kAdkim
  · subst h_kAdkim; rw [if_pos rfl]; exact ap_kAdkim
  rw [if_neg h_kAdkim]
  by_cases h_kAspf : k = kAspf
  · subst h_kAspf; rw [if_pos rfl]; exact ap_kAspf
  rw [if_neg h_kAspf]
  by_cases h_kFo : k = kFo
  · subst h_kFo; rw [if_pos rfl]; exact ap_kFo
  rw [if_neg h_kFo]
  by_cases h_kPct : k = kPct
  · subst h_kPct; rw [if_pos rfl]; exact ap_kPct
  rw [if_neg h_kPct]
  by_cases h_kRf : k = kRf
  · subst h_kRf; rw [if_pos rfl]; exact ap_kRf
  rw [if_neg h_kRf]
  by_cases h_kRi : k = kRi
  · subst h_kRi; rw [if_pos rfl]; exact ap_kRi
  rw [if_neg h_kRi]
  by_cases h_kRua : k = kRua
  · subst h_kRua; rw [if_pos rfl]; exact ap_kRua
  rw [if_neg h_kRua]
  by_cases h_kRuf : k = kRuf
  · subst h_kRuf; rw [if_pos rfl]; exact ap_kRuf
  rw [if_neg h_kRuf]
  by_cases h_kSp : k = kSp
  · subst h_kSp; rw [if_pos rfl]; exact ap_kSp
  rw [if_neg h_kSp]
  refine ap_un ?_
  simp only [mKnown, List.mem_cons, List.not_mem_nil, or_false, not_or]
  exact ⟨hp, h_kAdkim, h_kAspf, h_kFo, h_kPct, h_kRf, h_kRi, h_kRua, h_kRuf, h_kSp⟩
theorem apSet_short {k : L8} {x y : MR} (hx : x.short) (hy : y.short) : (apSet k x y).short := by
  unfold apSet
  repeat' split
  all_goals first | exact hx | exact ⟨hy.1, hx.2.1, hx.2.2⟩ | exact ⟨hx.1, hy.2.1, hx.2.2⟩ | exact ⟨hx.1, hx.2.1, hy.2.2⟩

section
variable {Γ : Gam} (h134 : Γ.fn 134 = con_MText) (h133 : Γ.fn 133 = con_MParse) (h135 : Γ.fn 135 = con_MHas) (h136 : Γ.fn 136 = con_MSame) (h137 : Γ.fn 137 = con_awake)
include h136 h137
theorem apart_1 {x y : MR} (hx : x.short) (hy : y.short) (hs : mSame x y = true) (ex : List (Nat × AV)) : awp Γ f_laws_FnDmarcApart_1 (finQ [.t 4] fun v => v = .bool true) ⟨(6, .ref 6 0) :: (8, .ptr y.cells) :: ex, [(6, .cells x.cells)]⟩ := by
  have k5 := k_same hx hy
  rw [hs] at k5
  have k6 : con_awake [] = some (.bool true) := rfl
  simp only [MR.cells] at k5
  simp -implicitDefEqProofs [f_laws_FnDmarcApart_1, MR.cells, acall, h136, k5, h137, k6]
set_option maxHeartbeats 4000000 in
theorem apart_2 (k v : L8) {x y : MR} (hx : x.short) (hy : y.short) (hs : mSame (apSet k x y) y = true) (v55 : AV) :
    awp Γ f_laws_FnDmarcApart_2 (finQ [.t 4] fun v => v = .bool true) ⟨[(3, .ptr [.str k, .str v]), (6, .ref 6 0), (8, .ptr y.cells), (55, v55)], [(6, .cells x.cells)]⟩ := by
  have hz := apSet_short (k := k) hx hy
  have fin := fun ex => apart_1 (Γ := Γ) h136 h137 hz hy hs ex
  have cua := slO_cells x.rua
  have cfa := slO_cells x.ruf
  have cna := slO_cells x.rf
  have cub := slO_cells y.rua
  have cfb := slO_cells y.ruf
  have cnb := slO_cells y.rf
  simp only [cells] at cua cfa cna cub cfb cnb
  unfold apSet at fin
  by_cases h_kAdkim : k = kAdkim
  · rw [if_pos h_kAdkim] at fin
    have h := h_kAdkim
    simp only [kAdkim] at h
    subst h
    simp only [MR.cells] at fin
    simp -implicitDefEqProofs [f_laws_FnDmarcApart_2, MR.cells, cua, cfa, cna, cub, cfb, cnb]
    exact fin _
  by_cases h_kAspf : k = kAspf
  · rw [if_neg h_kAdkim, if_pos h_kAspf] at fin
    have h := h_kAspf
    simp only [kAspf] at h
    subst h
    simp only [MR.cells] at fin
    simp -implicitDefEqProofs [f_laws_FnDmarcApart_2, MR.cells, cua, cfa, cna, cub, cfb, cnb]
    exact fin _
  by_cases h_kFo : k = kFo
  · rw [if_neg h_kAdkim, if_neg h_kAspf, if_pos h_kFo] at fin
    have h := h_kFo
    simp only [kFo] at h
    subst h
    simp only [MR.cells] at fin
    simp -implicitDefEqProofs [f_laws_FnDmarcApart_2, MR.cells, cua, cfa, cna, cub, cfb, cnb]
    exact fin _
  by_cases h_kPct : k = kPct
  · rw [if_neg h_kAdkim, if_neg h_kAspf, if_neg h_kFo, if_pos h_kPct] at fin
    have h := h_kPct
    simp only [kPct] at h
    subst h
    simp only [MR.cells] at fin
    simp -implicitDefEqProofs [f_laws_FnDmarcApart_2, MR.cells, cua, cfa, cna, cub, cfb, cnb]
    exact fin _
  by_cases h_kRf : k = kRf
  · rw [if_neg h_kAdkim, if_neg h_kAspf, if_neg h_kFo, if_neg h_kPct, if_pos h_kRf] at fin
    have h := h_kRf
    simp only [kRf] at h
    subst h
    simp only [MR.cells] at fin
    simp -implicitDefEqProofs [f_laws_FnDmarcApart_2, MR.cells, cua, cfa, cna, cub, cfb, cnb]
    exact fin _
  by_cases h_kRi : k = kRi
  · rw [if_neg h_kAdkim, if_neg h_kAspf, if_neg h_kFo, if_neg h_kPct, if_neg h_kRf, if_pos h_kRi] at fin
    have h := h_kRi
    simp only [kRi] at h
    subst h
    simp only [MR.cells] at fin
    simp -implicitDefEqProofs [f_laws_FnDmarcApart_2, MR.cells, cua, cfa, cna, cub, cfb, cnb]
    exact fin _
  by_cases h_kRua : k = kRua
  · rw [if_neg h_kAdkim, if_neg h_kAspf, if_neg h_kFo, if_neg h_kPct, if_neg h_kRf, if_neg h_kRi, if_pos h_kRua] at fin
    have h := h_kRua
    simp only [kRua] at h
    subst h
    simp only [MR.cells] at fin
    simp -implicitDefEqProofs [f_laws_FnDmarcApart_2, MR.cells, cua, cfa, cna, cub, cfb, cnb]
    exact fin _
  by_cases h_kRuf : k = kRuf
  · rw [if_neg h_kAdkim, if_neg h_kAspf, if_neg h_kFo, if_neg h_kPct, if_neg h_kRf, if_neg h_kRi, if_neg h_kRua, if_pos h_kRuf] at fin
    have h := h_kRuf
    simp only [kRuf] at h
    subst h
    simp only [MR.cells] at fin
    simp -implicitDefEqProofs [f_laws_FnDmarcApart_2, MR.cells, cua, cfa, cna, cub, cfb, cnb]
    exact fin _
  by_cases h_kSp : k = kSp
  · rw [if_neg h_kAdkim, if_neg h_kAspf, if_neg h_kFo, if_neg h_kPct, if_neg h_kRf, if_neg h_kRi, if_neg h_kRua, if_neg h_kRuf, if_pos h_kSp] at fin
    have h := h_kSp
    simp only [kSp] at h
    subst h
    simp only [MR.cells] at fin
    simp -implicitDefEqProofs [f_laws_FnDmarcApart_2, MR.cells, cua, cfa, cna, cub, cfb, cnb]
    exact fin _
  rw [if_neg h_kAdkim, if_neg h_kAspf, if_neg h_kFo, if_neg h_kPct, if_neg h_kRf, if_neg h_kRi, if_neg h_kRua, if_neg h_kRuf, if_neg h_kSp] at fin
  have g_kAdkim := h_kAdkim
  simp only [kAdkim] at g_kAdkim
  have g_kAspf := h_kAspf
  simp only [kAspf] at g_kAspf
  have g_kFo := h_kFo
  simp only [kFo] at g_kFo
  have g_kPct := h_kPct
  simp only [kPct] at g_kPct
  have g_kRf := h_kRf
  simp only [kRf] at g_kRf
  have g_kRi := h_kRi
  simp only [kRi] at g_kRi
  have g_kRua := h_kRua
  simp only [kRua] at g_kRua
  have g_kRuf := h_kRuf
  simp only [kRuf] at g_kRuf
  have g_kSp := h_kSp
  simp only [kSp] at g_kSp
  simp only [MR.cells] at fin
  simp -implicitDefEqProofs [f_laws_FnDmarcApart_2, MR.cells, g_kAdkim, g_kAspf, g_kFo, g_kPct, g_kRf, g_kRi, g_kRua, g_kRuf, g_kSp]
  exact fin _

include h135
theorem apart_3 (k v : L8) {x y : MR} {all : List KVp} (hx : x.short) (hy : y.short) (hs : mSame (apSet k x y) y = true) (za : Sz all) (hh : mHas y all = true) :
    awp Γ f_laws_FnDmarcApart_3 (finQ [.t 4] fun v => v = .bool true) ⟨[(3, .ptr [.str k, .str v]), (5, .msl 23 2 0 all.length), (6, .ref 6 0), (7, .bool true), (8, .ptr y.cells), (9, .bool true)], [(6, .cells x.cells), (23, .cells (pc2 all))]⟩ := by
  have k5 := k_has (u := .sl 2 (pr2 all)) (slp_pr2 _) za hy
  rw [hh] at k5
  have fin := fun v55 => apart_2 (Γ := Γ) h136 h137 k v hx hy hs v55
  have cua := slO_cells x.rua
  have cfa := slO_cells x.ruf
  have cna := slO_cells x.rf
  have cub := slO_cells y.rua
  have cfb := slO_cells y.ruf
  have cnb := slO_cells y.rf
  simp only [cells] at cua cfa cna cub cfb cnb
  simp only [MR.cells] at k5 fin
  have hle : all.length * 2 ≤ (pc2 all).length := by simp
  simp -implicitDefEqProofs [f_laws_FnDmarcApart_3, MR.cells, acall, h135, k5, cua, cfa, cna, cub, cfb, cnb]
  exact fin _

include h133 h134
theorem apart_4 {l : List KVp} (k v : L8) (hr : mRight l = true) (ha : mRight (l ++ [(k, v)]) = true) (hp : k ≠ kP) :
    awp Γ f_laws_FnDmarcApart_4 (finQ [.t 4] fun v => v = .bool true) ⟨[(3, .ptr [.str k, .str v]), (5, .msl 23 2 0 (l.length + 1)), (6, .ref 6 0), (7, .bool true)], [(6, .cells (apR l).cells), (23, .cells (pc2 (l ++ [(k, v)])))]⟩ := by
  obtain ⟨rd, z⟩ := right_rd hr
  obtain ⟨rda, za⟩ := right_rd ha
  have hl' : slPairs (.sl 2 (pr2 (l ++ [(k, v)]))) = some (l ++ [(k, v)]) := slp_pr2 _
  have k3 := k_text hl' nil_bytes za false
  have k4 := rda.parse za [] false
  have hh := rda.has
  have hs := apSet_eq l k v hp
  have fin := apart_3 (Γ := Γ) h135 h136 h137 k v (x := apR l) (y := apR (l ++ [(k, v)])) (all := l ++ [(k, v)]) (rd_short hr) (rd_short ha) (by rw [hs]; exact mSame_refl _) za hh
  have hg := group_pc2 (l := l ++ [(k, v)])
  simp only [List.length_append, List.length_singleton] at hg fin
  show awp Γ f_laws_FnDmarcApart_4 _ ⟨[(3, .ptr [.str k, .str v]), (5, .msl 23 2 0 (l.length + 1)), (6, .ref 6 0), (7, .bool true)], [(6, .cells (apR l).cells), (23, .cells (pc2 (l ++ [(k, v)])))]⟩
  generalize hR : apR l = x at *
  have hR2 : recM (recOf (findP (l ++ [(k, v)]))) = apR (l ++ [(k, v)]) := rfl
  rw [hR2] at k4
  generalize apR (l ++ [(k, v)]) = y at *
  generalize pr2 (l ++ [(k, v)]) = P at *
  generalize hC : pc2 (l ++ [(k, v)]) = C at *
  have c1 : (l.length + 1) * 2 ≤ C.length := by rw [← hC]; simp; omega
  have c2 : atoms C = true := by rw [← hC]; simp
  have c3 : C.map (snap 3 [(6, .cells x.cells), (23, .cells C)]) = C := by rw [← hC]; simp
  have c4 : hasRefL C = false := by rw [← hC]; exact ap_ref2 _
  have c5 : killL 8 C = C := by rw [← hC]; simp
  have c6 : ∀ g, snapWL g C = C := fun g => by rw [← hC]; simp
  have cua := slO_cells x.rua
  have cfa := slO_cells x.ruf
  have cna := slO_cells x.rf
  have cub := slO_cells y.rua
  have cfb := slO_cells y.ruf
  have cnb := slO_cells y.rf
  simp only [cells] at cua cfa cna cub cfb cnb
  simp only [MR.cells] at k4 fin c3
  simp -implicitDefEqProofs [f_laws_FnDmarcApart_4, MR.cells, acall, h134, h133, cua, cfa, cna, cub, cfb, cnb, c1, c2, c3, c4, c5, c6, hg, k3, k4]
  exact fin

theorem apart_5 {l : List KVp} (k v : L8) (hr : mRight l = true) (ha : mRight (l ++ [(k, v)]) = true) (hp : k ≠ kP) (v31 : AV) :
    awp Γ f_laws_FnDmarcApart_5 (finQ [.t 4] fun v => v = .bool true) ⟨[(0, .sl 2 (pr2 l)), (3, .ptr [.str k, .str v]), (5, .msl 23 2 0 (l.length + 1)), (31, v31)], [(23, .cells (pc2 (l ++ [(k, v)])))]⟩ := by
  obtain ⟨rd, z⟩ := right_rd hr
  have k3 := k_text (slp_pr2 l) nil_bytes z false
  have k4 := rd.parse z [] false
  have fin := apart_4 (Γ := Γ) h134 h133 h135 h136 h137 (l := l) k v hr ha hp
  have hR2 : recM (recOf (findP l)) = apR l := rfl
  rw [hR2] at k4
  generalize hR : apR l = x at *
  generalize hC : pc2 (l ++ [(k, v)]) = C at *
  have c4 : hasRefL C = false := by rw [← hC]; exact ap_ref2 _
  have c5 : killL 6 C = C := by rw [← hC]; simp
  have cua := slO_cells x.rua
  have cfa := slO_cells x.ruf
  have cna := slO_cells x.rf
  simp only [cells] at cua cfa cna
  simp only [MR.cells] at k4 fin
  simp -implicitDefEqProofs [f_laws_FnDmarcApart_5, MR.cells, acall, h134, h133, cua, cfa, cna, c4, c5, k3, k4]
  exact fin
end

theorem right_ne_p {l : List KVp} {k v : L8} (hr : mRight l = true) (ha : mRight (l ++ [(k, v)]) = true) : k ≠ kP := by
  obtain ⟨u, q, rfl⟩ := right_first hr
  intro e
  subst e
  have nd := (right_rd ha).1.nd'
  simp at nd

theorem ap_bd {l : List KVp} (hb : fits13 l = true) : (l.length + 1) * 33 < 35184372088832 ∧ (l.length + 1 + 1) * 33 < 35184372088832 := by
  have hln : l.length ≤ 2147483647 := by
    simp only [fits13, Bool.and_eq_true, decide_eq_true_eq] at hb; exact hb.1
  clear hb
  omega
section
variable {Γ : Gam} (h132 : Γ.fn 132 = con_MRight) (h134 : Γ.fn 134 = con_MText) (h133 : Γ.fn 133 = con_MParse) (h135 : Γ.fn 135 = con_MHas) (h136 : Γ.fn 136 = con_MSame) (h137 : Γ.fn 137 = con_awake)
include h132 h134 h133 h135 h136 h137
theorem apart_6 {u : AV} {l : List KVp} (hl : slPairs u = some l) (k v : L8) (hb : fits13 l = true) (hb2 : fits14 k v = true) :
    awp Γ f_laws_FnDmarcApart_6 (finQ [.t 4] fun v => v = .bool true) ⟨[(0, u), (3, .ptr [.str k, .str v]), (5, .msl 23 2 0 (l.length + 1))], [(23, .cells (pc2 (l ++ [(k, v)])))]⟩ := by
  have k2 := k_right hl hb
  have fa := fits_all hb
  have fk : k.length < mid ∧ v.length < mid := by
    simp only [fits14, Bool.and_eq_true, decide_eq_true_eq] at hb2
    simp only [mid]; omega
  have hln : l.length ≤ 2147483647 := by
    simp only [fits13, Bool.and_eq_true, decide_eq_true_eq] at hb; exact hb.1
  have k2' : con_MRight [.sl 2 (pr2 (l ++ [(k, v)]))] = some (.bool (mRight (l ++ [(k, v)]))) := by
    simp only [con_MRight, slp_pr2]
    refine if_pos ⟨by simp only [List.length_append, List.length_singleton, mid]; omega, fun t ht => ?_⟩
    rcases List.mem_append.1 ht with ht | ht
    · exact fa.2 t ht
    · simp at ht; subst ht; exact fk
  have ur := tgs_ref hl
  cases hr : mRight l with
  | false =>
    rw [hr] at k2
    simp -implicitDefEqProofs [f_laws_FnDmarcApart_6, acall, h132, k2, ur]
  | true =>
    rw [hr] at k2
    have hne : l ≠ [] := by obtain ⟨v, r, rfl⟩ := right_first hr; simp
    have hu := slp_ne hl hne
    subst hu
    have hg := group_pc2 (l := l ++ [(k, v)])
    simp only [List.length_append, List.length_singleton] at hg
    have fin := fun ha v31 => apart_5 (Γ := Γ) h134 h133 h135 h136 h137 (l := l) k v hr ha (right_ne_p hr ha) v31
    generalize hC : pc2 (l ++ [(k, v)]) = C at *
    generalize pr2 (l ++ [(k, v)]) = P at *
    have c1 : (l.length + 1) * 2 ≤ C.length := by rw [← hC]; simp; omega
    have c2 : atoms C = true := by rw [← hC]; simp
    have c3 : C.map (snap 3 [(23, .cells C)]) = C := by rw [← hC]; simp
    cases ha : mRight (l ++ [(k, v)]) with
    | false =>
      rw [ha] at k2'
      simp -implicitDefEqProofs [f_laws_FnDmarcApart_6, acall, h132, k2, k2', c1, c2, c3, hg]
    | true =>
      rw [ha] at k2'
      simp -implicitDefEqProofs [f_laws_FnDmarcApart_6, acall, h132, k2, k2', c1, c2, c3, hg]
      exact fin ha _
theorem apart_7 {u : AV} {l : List KVp} (hl : slPairs u = some l) (k v : L8) (hb : fits13 l = true) (hb2 : fits14 k v = true) (v17 : AV) :
    awp Γ f_laws_FnDmarcApart_7 (finQ [.t 4] fun v => v = .bool true) ⟨[(0, u), (3, .ptr [.str k, .str v]), (17, v17)], []⟩ := by
  have fin := apart_6 (Γ := Γ) h132 h134 h133 h135 h136 h137 hl k v hb hb2
  have hcp : (pr2 l).flatMap cells = pc2 l := by simp [pr2, pc2, List.flatMap_map, cells]
  obtain ⟨hbd, hbd2⟩ := ap_bd hb
  rcases slPairs_cases hl with ⟨rfl, rfl⟩ | rfl
  · clear hcp hbd hbd2
    simp -implicitDefEqProofs [f_laws_FnDmarcApart_7, just, group, cells]
    exact fin
  · by_cases hne : l = []
    · subst hne
      clear hcp hbd hbd2
      simp -implicitDefEqProofs [f_laws_FnDmarcApart_7, just, group, cells]
      exact fin
    · simp -implicitDefEqProofs [f_laws_FnDmarcApart_7, hne, hcp, hbd, hbd2, just, group, cells, List.take_of_length_le]
      simpa using fin
end

def con_FnDmarcApart : List AV → Option AV
  | [u, .agg [.str k, .str v]] => match slPairs u with
    | some l => if l.length < 9223372036854775808 then some (.bool true) else none
    | none => none
  | _ => none

theorem ok_FnDmarcApart (Γ : Gam) (h131 : Γ.fn 131 = con_zzFits13) (h119 : Γ.fn 119 = con_zzFits14) (h132 : Γ.fn 132 = con_MRight) (h134 : Γ.fn 134 = con_MText) (h133 : Γ.fn 133 = con_MParse) (h135 : Γ.fn 135 = con_MHas) (h136 : Γ.fn 136 = con_MSame) (h137 : Γ.fn 137 = con_awake) :
    ∀ args r, con_FnDmarcApart args = some r → runs Γ c_laws_FnDmarcApart args (fun v => v = r) := by
  intro args r h
  simp only [con_FnDmarcApart] at h
  split at h <;> (try simp at h; done)
  rename_i u k v
  split at h <;> (try simp at h; done)
  rename_i l hl
  obtain ⟨h1, rfl⟩ := ite_some h
  clear h
  have k1 := k_fits hl h1
  cases hb : fits13 l with
  | false =>
    rw [hb] at k1
    simp -implicitDefEqProofs [c_laws_FnDmarcApart, acall, tgs_ref hl, tgs_kill hl, tgs_snapW hl, h131, k1]
  | true =>
    rw [hb] at k1
    have k1b : con_zzFits14 [.agg [.str k, .str v]] = some (.bool (fits14 k v)) := rfl
    cases hb2 : fits14 k v with
    | false =>
      rw [hb2] at k1b
      simp -implicitDefEqProofs [c_laws_FnDmarcApart, acall, tgs_ref hl, tgs_kill hl, tgs_snapW hl, h131, k1, h119, k1b]
    | true =>
      rw [hb2] at k1b
      have fin := fun v17 => apart_7 (Γ := Γ) h132 h134 h133 h135 h136 h137 hl k v hb hb2 v17
      simp -implicitDefEqProofs [c_laws_FnDmarcApart, acall, tgs_ref hl, tgs_kill hl, tgs_snapW hl, h131, k1, h119, k1b]
      exact fin _
end Wax


