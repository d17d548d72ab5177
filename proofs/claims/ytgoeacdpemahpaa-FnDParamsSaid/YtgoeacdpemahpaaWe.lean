/- The machine by which the functions are read, and what is proved of them (part 5): no premise. -/
import Derived.Lib.Join
import Derived.Laws.OwnMore
import Derived.Maps.Own
import Derived.Sort.KeysCollected
import Derived.WideShapes
import Derived.SliceStrings
import Derived.OpenShut
import Derived.Test.YtgoeacdpemahpaaWd
/- FnDParams (7): the reference's tags, each put to its place. -/
namespace Wax
open Go (IntKind)

theorem insP_pre (x : KV) : ∀ (pre post : List KV), (∀ y ∈ pre, lexLt y.1 x.1 = true) → insP x (pre ++ post) = (insP x post).map (pre ++ ·)
  | [], post, _ => by simp
  | y :: r, post, h => by
    have ih := insP_pre x r post (fun z hz => h z (by simp [hz]))
    simp only [List.cons_append, insP, h y (by simp), if_true, ih, Option.map_map]
    rfl

theorem cells_pr2 : ∀ l : List KV, (pr2 l).flatMap cells = pc2 l
  | [] => rfl
  | x :: l => by simp [cells_pr2 l]

@[simp] theorem gO_just {hp : List (Nat × AObj)} {v : AV} {k : Out → Prop} : gO (just hp v) k = k (o1 hp v) := by simp [just, o1]
@[simp] theorem just_map {α : Type} {hp : List (Nat × AObj)} {v : AV} {f : Out → α} : (just hp v).map f = some (f (o1 hp v)) := rfl
theorem take_pr2 (l : List KV) : List.take l.length (pr2 l) = pr2 l := List.take_of_length_le (by simp)
theorem take_pr2_app (l : List KV) (x : List AV) : List.take l.length (pr2 l ++ x) = pr2 l := List.take_left' (by simp)
theorem drop_pr2_app (l : List KV) (x : List AV) : List.drop l.length (pr2 l ++ x) = x := List.drop_left' (by simp)
theorem drop_pr2 (l : List KV) : List.drop l.length (pr2 l) = [] := List.drop_of_length_le (by simp)
theorem take_pc2 (l : List KV) (a b : AV) : List.take ((l.length + 1) * 2) (a :: b :: pc2 l) = a :: b :: pc2 l := List.take_of_length_le (by simp; omega)
theorem take_pc2' (l : List KV) (a b c d : AV) : List.take ((l.length + 1 + 1) * 2) (a :: b :: (pc2 l ++ [c, d])) = a :: b :: (pc2 l ++ [c, d]) := List.take_of_length_le (by simp; omega)
@[simp] theorem hasRefL_pc2 : ∀ (l : List KV), hasRefL (pc2 l) = false
  | [] => rfl
  | x :: l => by simp [hasRefL_pc2 l]
theorem group_one (k v : AV) : group 2 1 [k, v] = [.agg [k, v]] := rfl

/-- From the place on: one of that name, or the new pair is put there. -/
def insRes (x : KV) (pre post : List KV) : Option (List KV) := match post with
  | [] => some (pre ++ [x])
  | y :: r => if y.1 = x.1 then none else some (pre ++ x :: y :: r)

/-- The slots when the place is found. -/
def dtSt (out : List KV) (x : KV) (i : Nat) (L : AV) (m j : Int) (ext : List (Nat × AV)) : St := ⟨(4, pairV out) :: (10, .ptr [.str x.1, .str x.2]) :: (11, .int .i64 i) :: (13, L) :: (14, .int .i64 m) :: (15, .int .i64 j) :: ext, []⟩

set_option maxRecDepth 100000 in
set_option maxHeartbeats 4000000 in
theorem dt_insert {Γ : Gam} {Q : APost} (pre post : List KV) (x : KV) (L : List (List UInt8)) (m j : Int) (ext : List (Nat × AV)) (h1 : pre.length + post.length < half)
    (hno : insRes x pre post = none → Q .ret ⟨[(2, .nilS), (3, .bool false)], []⟩)
    (hyes : ∀ o, insRes x pre post = some o → Q .normal ⟨[(4, pairV o), (13, .sl 1 (strsA L)), (14, .int .i64 m), (15, .int .i64 j)], []⟩) :
    awp Γ t_spec_DTags_2 Q (dtSt (pre ++ post) x pre.length (.sl 1 (strsA L)) m j ext) := by
  obtain ⟨k, v⟩ := x
  simp only [half] at h1
  have fin : ∀ (o : List KV) (n q : Nat) (cs : List AV), insRes (k, v) pre post = some o → o ≠ [] → n = o.length → cs = pc2 o → n * 2 ≤ q →
      Q .normal ⟨[(4, if n * 2 ≤ q then .sl 2 (group 2 n cs) else .junk), (13, .sl 1 (strsA L)), (14, .int .i64 m), (15, .int .i64 j)], []⟩ := by
    intro o n q cs h2 h3 h4 h5 h6
    have := hyes o h2
    subst h4 h5
    rw [if_pos h6, group_pc2]
    cases o with
    | nil => exact absurd rfl h3
    | cons _ _ => exact this
  cases post with
  | nil =>
    have hy := hyes _ rfl
    cases pre with
    | nil =>
      simp [t_spec_DTags_2, dtSt, pairV, group_one]
      simpa [pairV] using hy
    | cons a pre =>
      simp at h1
      simp [t_spec_DTags_2, dtSt, pairV, take_pr2, cells_pr2, group_one, take_pr2_app, drop_pr2_app, drop_pr2, take_pc2, take_pc2']
      exact ⟨by omega, by omega, by omega, by omega, fin (a :: pre ++ [(k, v)]) _ _ _ rfl (by simp) (by simp) (by simp) (by omega)⟩
  | cons y post =>
    by_cases hy : y.1 = k
    · have hn := hno (by simp [insRes, hy])
      cases pre with
      | nil =>
        simp at h1
        simp [t_spec_DTags_2, dtSt, pairV, take_pr2, cells_pr2, group_one, take_pr2_app, drop_pr2_app, drop_pr2, take_pc2, take_pc2', hy, hn]
      | cons a pre =>
        simp at h1
        have g2 : ∀ (q : List AV) (z : AV), (pr2 pre ++ z :: q)[pre.length]? = some z := fun q z => get_mid (by simp)
        simp [t_spec_DTags_2, dtSt, pairV, take_pr2, cells_pr2, group_one, take_pr2_app, drop_pr2_app, drop_pr2, take_pc2, take_pc2', hy, hn]
        omega
    · have hr : ∀ (q : List KV), insRes (k, v) q (y :: post) = some (q ++ (k, v) :: y :: post) := by intro q; simp [insRes, hy]
      cases pre with
      | nil =>
        simp at h1
        simp [t_spec_DTags_2, dtSt, pairV, take_pr2, cells_pr2, group_one, take_pr2_app, drop_pr2_app, drop_pr2, take_pc2, take_pc2', hy]
        exact ⟨by omega, by omega, fin _ _ _ _ (hr _) (by simp) (by simp; omega) (by simp) (by omega)⟩
      | cons a pre =>
        simp at h1
        simp [t_spec_DTags_2, dtSt, pairV, take_pr2, cells_pr2, group_one, take_pr2_app, drop_pr2_app, drop_pr2, take_pc2, take_pc2', hy]
        exact ⟨fun _ => ⟨by omega, by omega, by omega, by omega, by omega, by omega, fin _ _ _ _ (hr _) (by simp) (by simp; omega) (by simp) (by omega)⟩, fun _ => by omega⟩
end Wax

/- FnDParams (8): the reference's tags, the whole function. -/
namespace Wax
open Go (IntKind)

@[simp] theorem kill_pairV {d : Nat} (l : List KV) : kill d (pairV l) = pairV l := by cases l <;> rfl
@[simp] theorem snapW_pairV {g : AV → AV} (l : List KV) : snapW g (pairV l) = pairV l := by cases l <;> rfl
theorem pairV_ref (l : List KV) : hasRef (pairV l) = false := slp_ref slPairs_pairV
theorem pairV_cons (x : KV) (l : List KV) : pairV (x :: l) = .sl 2 (pr2 (x :: l)) := rfl
theorem pairV_alen (l : List KV) (hp : List (Nat × AObj)) : alen hp 1 (pairV l) = some l.length := slp_alen slPairs_pairV hp

theorem insRes_spec (x : KV) (pre post : List KV) (h1 : ∀ y ∈ pre, lexLt y.1 x.1 = true) (h2 : ∀ y r, post = y :: r → lexLt y.1 x.1 = false) : insP x (pre ++ post) = insRes x pre post := by
  rw [insP_pre x pre post h1]
  cases post with
  | nil => simp [insP, insRes]
  | cons y r =>
    have := h2 y r rfl
    simp only [insP, insRes, this]
    by_cases hy : y.1 = x.1
    · simp [hy]
    · simp [hy]

theorem insRes_length {x : KV} {pre post o : List KV} (h : insRes x pre post = some o) : o.length = pre.length + post.length + 1 := by
  cases post with
  | nil => simp [insRes] at h; subst h; simp
  | cons y r =>
    simp only [insRes] at h
    split at h
    · simp at h
    · simp only [Option.some.injEq] at h; subst h; simp; omega

theorem dt_insert_mk {Γ : Gam} {Q : APost} {out pre post : List KV} {k v : List UInt8} (e : out = pre ++ post) (L : List (List UInt8)) (m j : Int) (ext : List (Nat × AV)) (h1 : pre.length + post.length < half)
    (hno : insRes (k, v) pre post = none → Q .ret ⟨[(2, .nilS), (3, .bool false)], []⟩)
    (hyes : ∀ o, insRes (k, v) pre post = some o → Q .normal ⟨[(4, pairV o), (13, .sl 1 (strsA L)), (14, .int .i64 m), (15, .int .i64 j)], []⟩) :
    awp Γ t_spec_DTags_2 Q ⟨(4, pairV out) :: (10, .ptr [.str k, .str v]) :: (11, .int .i64 pre.length) :: (13, .sl 1 (strsA L)) :: (14, .int .i64 m) :: (15, .int .i64 j) :: ext, []⟩ := by
  subst e
  exact dt_insert pre post (k, v) L m j ext h1 hno hyes

set_option maxRecDepth 100000 in
set_option maxHeartbeats 4000000 in
theorem ok_DTags (Γ : Gam) (h2 : Γ.fn 2 = con_dCut) (h3 : Γ.fn 3 = con_DTrim) (h54 : Γ.fn 54 = con_DSplit) : ∀ args r, con_DTags args = some r → runs Γ c_spec_DTags args (fun v => v = r) := by
  intro args r h
  simp only [con_DTags] at h
  split at h <;> (try simp at h; done)
  rename_i s
  obtain ⟨hs, rfl⟩ := ite_some h
  clear h
  simp only [half] at hs
  have k54 : con_DSplit [.str s, .int .u8 59] = some (.sl 1 (strsA (splitB 59 s))) := if_pos ⟨by simp only [mid]; omega, by omega, by omega⟩
  have hl := splitB_length 59 s
  have hm := splitB_mem_length 59 s
  generalize splitB 59 s = L at *
  have k2 : ∀ t ∈ L, con_dCut [.str t, .int .u8 61] = some (cutV 61 t) := by
    intro t ht
    have := hm t ht
    simp only [con_dCut]; exact if_pos (by simp only [big]; omega)
  have k3 : ∀ t : List UInt8, t.length ≤ s.length → con_DTrim [.str t] = some (.str (trimS t)) := by
    intro t ht
    simp only [con_DTrim]; exact if_pos (by simp only [big]; omega)
  simp [c_spec_DTags, acall, h54, k54]
  refine awp_loop2 (σ := List (List UInt8) × List (List UInt8) × List KV) (fun p => ⟨[(4, pairV p.2.2), (13, .sl 1 (strsA L)), (14, .int .i64 L.length), (15, .int .i64 p.1.length)], []⟩)
    (fun p => L = p.1 ++ p.2.1 ∧ tgL L [] = tgL p.2.1 p.2.2 ∧ p.2.2.length ≤ p.1.length) (fun p => p.2.1.length) ([], L, []) (by simp [pairV]) (by simp) ?_
  rintro ⟨pre, post, out⟩ ⟨hs1, hs2, hs3⟩ LQ hLQ
  simp only at hs1 hs2 hs3
  cases post with
  | nil =>
    simp only [tgL] at hs2
    rw [hs2]
    simp only [List.append_nil] at hs1
    subst hs1
    simp [b_spec_DTags_4, t_spec_DTags_5, pairV_ref]
  | cons p post =>
    have hpL : p ∈ L := by rw [hs1]; simp
    have hlen : L.length = pre.length + (post.length + 1) := by rw [hs1]; simp
    have hlt : (pre.length : Int) < L.length := by omega
    have g0 : L[pre.length]? = some p := by rw [hs1]; exact get_mid rfl
    have ew : IntKind.i64.wrap ((pre.length : Int) + 1) = (pre.length : Int) + 1 := wrap64 (by omega) (by omega)
    have hpl := hm p hpL
    simp only [tgL] at hs2
    cases hc : cutAt 61 p with
    | none =>
      simp only [hc] at hs2
      by_cases ht : trimS p = []
      · simp only [ht, if_true] at hs2
        simp [b_spec_DTags_4, t_spec_DTags_3, hlt, g0, acall, h2, k2 p hpL, cutV, hc, h3, k3 p hpl, ht, ew]
        exact hLQ (pre ++ [p], post, out) ⟨by simp [hs1], hs2, by simp; omega⟩ (by simp) _ (by simp)
      · simp only [ht, if_false] at hs2
        rw [hs2]
        simp [b_spec_DTags_4, t_spec_DTags_3, hlt, g0, acall, h2, k2 p hpL, cutV, hc, h3, k3 p hpl, ht, ew]
    | some q =>
      simp only [hc] at hs2
      obtain ⟨hq1, _⟩ := cutAt_le hc
      simp [b_spec_DTags_4, hlt, g0, acall, h2, k2 p hpL, cutV, hc, h3, k3 q.1 (by omega), k3 q.2 (by omega)]
      have hk1 := trimS_length q.1
      have hk2 := trimS_length q.2
      generalize trimS q.1 = k at *
      generalize trimS q.2 = v at *
      refine awp_loop2 (σ := List KV × List KV) (fun p => dtSt out (k, v) p.1.length (.sl 1 (strsA L)) L.length pre.length [])
        (fun p => out = p.1 ++ p.2 ∧ ∀ y ∈ p.1, lexLt y.1 k = true) (fun p => p.2.length) ([], out) (by simp [dtSt]) (by simp) ?_
      rintro ⟨pre2, post2⟩ ⟨e1, e2⟩ LQ2 hLQ2
      simp only at e1 e2
      have hol : out.length = pre2.length + post2.length := by rw [e1]; simp
      have hno : ∀ h2 : ∀ y r, post2 = y :: r → lexLt y.1 k = false, insRes (k, v) pre2 post2 = none → tgL L [] = none := by
        intro h2 h
        rw [hs2, e1, insRes_spec (k, v) pre2 post2 e2 h2, h]
      have hyes : ∀ h2 : ∀ y r, post2 = y :: r → lexLt y.1 k = false, ∀ o, insRes (k, v) pre2 post2 = some o → tgL L [] = tgL post o ∧ o.length ≤ pre.length + 1 := by
        intro h2 o h
        refine ⟨by rw [hs2, e1, insRes_spec (k, v) pre2 post2 e2 h2, h], ?_⟩
        rw [insRes_length h]; omega
      cases post2 with
      | nil =>
        simp [b_spec_DTags_1, dtSt, pairV_alen, hol, -alen]
        refine dt_insert_mk e1 L _ _ _ (by simp only [half]; omega) ?_ ?_
        · intro h
          simp [hno (by simp) h]
        · intro o h
          obtain ⟨f1, f2⟩ := hyes (by simp) o h
          simp [t_spec_DTags_3, ew]
          exact hLQ (pre ++ [p], post, o) ⟨by simp [hs1], f1, by simpa using f2⟩ (by simp) _ (by simp)
      | cons y post2 =>
        have ew2 : IntKind.i64.wrap ((pre2.length : Int) + 1) = (pre2.length : Int) + 1 := wrap64 (by simp at hol; omega) (by simp at hol; omega)
        have hlt2 : (pre2.length : Int) < (pre2.length : Int) + ((post2.length : Int) + 1) := by omega
        have hpv : pairV out = .sl 2 (pr2 out) := by rw [e1]; cases pre2 <;> rfl
        have g2 : (pr2 out)[pre2.length]? = some (.agg [.str y.1, .str y.2]) := by rw [e1]; simp
        have g3 : out[pre2.length]? = some y := by rw [e1]; exact get_mid rfl
        have hol' : (out.length : Int) = (pre2.length : Int) + ((post2.length : Int) + 1) := by simp at hol; omega
        by_cases hlx : lexLt y.1 k = true
        · simp [b_spec_DTags_1, dtSt, hpv, hol', hlt2, g3, hlx, ew2]
          exact hLQ2 (pre2 ++ [y], post2) ⟨by simp [e1], by intro z hz; rcases List.mem_append.1 hz with hz | hz; exact e2 z hz; simp at hz; subst hz; exact hlx⟩ (by simp) _ (by simp [dtSt, hpv])
        · have hlx' : lexLt y.1 k = false := by simpa using hlx
          have hh : ∀ z r, y :: post2 = z :: r → lexLt z.1 k = false := by intro z r h; simp at h; rw [← h.1]; exact hlx'
          simp [b_spec_DTags_1, dtSt, hpv, hol', hlt2, g3, hlx']
          rw [← hpv]
          refine dt_insert_mk e1 L _ _ _ (by simp only [half]; omega) ?_ ?_
          · intro h
            simp [hno hh h]
          · intro o h
            obtain ⟨f1, f2⟩ := hyes hh o h
            simp [t_spec_DTags_3, ew]
            exact hLQ (pre ++ [p], post, o) ⟨by simp [hs1], f1, by simpa using f2⟩ (by simp) _ (by simp)
end Wax

/- strings.Join, as the kit's shelf has it, for the engine. -/
namespace Wax
open Go Go.RowKit

theorem repSl_strs {T : Tab} {w : World} {F : Frz} {b : Nat} : ∀ (l : List (List UInt8)) (o : Nat), RepSl T w F 1 b o (strsA l) → ∀ (j : Nat) (s : List UInt8), l[j]? = some s → F b ∧ w.cell? ⟨b, o + j, none⟩ = some (.string ⟨s.toArray⟩)
  | [], _, _, j, s, h => by simp at h
  | x :: r, o, h, j, s, hj => by
    simp only [strsA, List.map_cons, RepSl] at h
    cases j with
    | zero =>
      simp at hj; subst hj
      obtain ⟨_, ⟨hF, v, hv, hr⟩, _⟩ := h
      simp only [Rep] at hr
      subst hr
      exact ⟨hF, by simpa using hv⟩
    | succ j =>
      have := repSl_strs r (o + 1) h.2.2 j s (by simpa using hj)
      rw [show o + (j + 1) = o + 1 + j by omega]
      exact this

theorem joinB_lib : ∀ (l : List (List UInt8)), joinB l = Go.Lib.join l [32]
  | [] => rfl
  | x :: r => by
    rw [joinB_cons, Go.Lib.join_cons]
    congr 1
    cases r with
    | nil => rfl
    | cons y r =>
      have := joinB_lib (y :: r)
      rw [Go.Lib.join_cons] at this
      simp only [J2, Go.Lib.joinTail, List.map_cons, List.flatten_cons] at this ⊢
      simp [this]

/-- What the shelf says of strings.Join, in one piece. -/
def JoinSays (P : Program) (f : FuncId) : Prop :=
  (∀ (a : Option Addr) (c : Nat) (sep : ByteArray) (w : World), Calls P f #[.slice a 0 c, .string sep] w fun e w' => e = .returned (.string ⟨#[]⟩) ∧ w' = w) ∧
  ∀ (bk o c : Nat) (xs : List ByteArray) (sep : ByteArray) (w : World), (∀ (j : Nat) x, xs[j]? = some x → w.cell? ⟨bk, o + j, none⟩ = some (.string x)) → bk < w.heap.size → xs.length ≤ 140737488355328 → xs.length ≤ c →
    (Go.Lib.join (xs.map (·.data.toList)) sep.data.toList).length ≤ 140737488355328 →
    Calls P f #[.slice (some ⟨bk, o, none⟩) xs.length c, .string sep] w fun e w' => e = .returned (.string ⟨(Go.Lib.join (xs.map (·.data.toList)) sep.data.toList).toArray⟩) ∧ Below w.heap.size w w'

theorem joinTail_length (r : List (List UInt8)) : r.length ≤ (Go.Lib.joinTail [32] r).length := by
  induction r with
  | nil => simp [Go.Lib.joinTail]
  | cons x r ih => simp only [Go.Lib.joinTail, List.map_cons, List.flatten_cons, List.length_append, List.length_cons] at ih ⊢; omega

theorem ok_Join {P : Program} {T : Tab} {f : FuncId} (H : JoinSays P f) : ∀ args r, con_Join args = some r → OkCall P T f args r := by
  intro args r h w F vs hF hx
  simp only [con_Join] at h
  split at h <;> (try simp at h; done)
  rename_i v
  split at h <;> (try simp at h; done)
  rename_i l hl
  obtain ⟨hlen, rfl⟩ := ite_some h
  clear h
  match vs, hx with
  | [u, u'], hx =>
    simp only [RepL, and_true] at hx
    obtain ⟨h1, h2⟩ := hx
    simp only [Rep] at h2
    subst h2
    cases v <;> simp [slStrs] at hl
    · subst hl
      simp only [Rep] at h1
      subst h1
      refine (H.1 none 0 _ w).mono ?_
      rintro e w' ⟨rfl, rfl⟩
      exact ⟨_, rfl, Below.refl _ _, by simp [Rep, joinB]⟩
    · rename_i es xs
      obtain ⟨rfl, hl⟩ := hl
      have := asStrs_spec hl
      subst this
      simp only [Rep] at h1
      obtain ⟨b, o, cap, rfl, hcap, hsl⟩ := h1
      cases l with
      | nil =>
        refine (H.1 _ cap _ w).mono ?_
        rintro e w' ⟨rfl, rfl⟩
        exact ⟨_, rfl, Below.refl _ _, by simp [Rep, joinB]⟩
      | cons x0 l =>
        have hc := repSl_strs (x0 :: l) o hsl
        have hb : b < w.heap.size := hF b (hc 0 x0 rfl).1
        have hn : (x0 :: l).length ≤ (joinB (x0 :: l)).length + 1 := by
          rw [joinB_lib, Go.Lib.join_cons]
          have := joinTail_length l
          simp; omega
        simp only [mid] at hlen
        have e1 : ((x0 :: l).map fun s => (⟨s.toArray⟩ : ByteArray)).map (·.data.toList) = x0 :: l := by
          have : ((fun x : ByteArray => x.data.toList) ∘ fun s : List UInt8 => (⟨s.toArray⟩ : ByteArray)) = id := by funext s; simp
          rw [List.map_map, this, List.map_id]
        have := H.2 b o cap ((x0 :: l).map fun s => (⟨s.toArray⟩ : ByteArray)) ⟨#[32]⟩ w (fun j x hj => by
          rw [List.getElem?_map] at hj
          cases hq : (x0 :: l)[j]? with
          | none => rw [hq] at hj; simp at hj
          | some s => rw [hq] at hj; simp at hj; subst hj; exact (hc j s hq).2) hb (by simp only [List.length_map]; omega) (by simpa using hcap) (by rw [e1]; show (Go.Lib.join (x0 :: l) [32]).length ≤ _; rw [← joinB_lib]; omega)
        rw [e1] at this
        have e2 : ((x0 :: l).map fun s => (⟨s.toArray⟩ : ByteArray)).length = (strsA (x0 :: l)).length := by simp
        rw [e2] at this
        refine this.mono ?_
        rintro e w' ⟨rfl, hbl⟩
        refine ⟨_, rfl, hbl, ?_⟩
        simp only [Rep]
        rw [joinB_lib]
end Wax

/- slices.Clone of texts, as the kit's shelf has it, for the engine. -/
namespace Wax
open Go Go.RowKit

/-- What the shelf says of slices.Clone at []string, in one piece. -/
def CloneSays (P : Program) (f : FuncId) : Prop :=
  ∃ e9 : TypeId,
  (∀ (n c : Nat) (w : World), Calls P f #[.slice none n c] w fun e w' => e = .returned (.slice none 0 0) ∧ w' = w) ∧
  (∀ (a : Addr) (c : Nat) (w : World), Calls P f #[.slice (some a) 0 c] w fun e w' => ∃ v', e = .returned v' ∧ w'.ownsRow w.heap.size e9 1 v' 0 [] ∧ v' ≠ .slice none 0 0 ∧ Below w.heap.size w w') ∧
  ∀ (b off n c : Nat) (zs : List ByteArray) (w : World), n ≤ zs.length → n * 16 ≤ 140737488355328 → (∀ j, j < zs.length → w.cell? ⟨b, off + j, none⟩ = some (.string (zs.getD j ByteArray.empty))) →
    Calls P f #[.slice (some ⟨b, off, none⟩) n c] w fun e w' => ∃ v', e = .returned v' ∧ w'.ownsRow w.heap.size e9 1 v' n ((zs.take n).map (Value.string)) ∧ v' ≠ .slice none 0 0 ∧ Below w.heap.size w w'

def con_Clone : List AV → Option AV
  | [u] => match slStrs u with
    | some l => if l.length < mid then some u else none
    | none => none
  | _ => none

theorem repSl_mk {T : Tab} {w : World} {F : Frz} {b : Nat} (hF : F b) : ∀ (l : List (List UInt8)) (o : Nat), (∀ (j : Nat) s, l[j]? = some s → w.cell? ⟨b, o + j, none⟩ = some (.string ⟨s.toArray⟩)) → RepSl T w F 1 b o (strsA l)
  | [], _, _ => trivial
  | x :: r, o, h => by
    simp only [strsA, List.map_cons, RepSl]
    refine ⟨trivial, ⟨hF, _, by simpa using h 0 x rfl, by simp [Rep]⟩, ?_⟩
    exact repSl_mk hF r (o + 1) fun j s hj => by
      rw [show o + 1 + j = o + (j + 1) by omega]
      exact h (j + 1) s (by simpa using hj)

theorem owned_strs {T : Tab} {w w' : World} {F : Frz} {e9 : TypeId} {v' : Value} {l : List (List UInt8)} (ho : w'.ownsRow w.heap.size e9 1 v' l.length (l.map fun s => Value.string ⟨s.toArray⟩)) (hn : v' ≠ .slice none 0 0) :
    Rep T w' (fun b => F b ∨ (w.heap.size ≤ b ∧ b < w'.heap.size)) noRho (.sl 1 (strsA l)) v' := by
  have ho' := ho
  obtain ⟨_, hx⟩ := ho
  rcases hx with ⟨he, _⟩ | ⟨g, cap, cur, rfl, hg, hh, hcap, _, _, _⟩
  · exact absurd he hn
  · simp only [Rep]
    refine ⟨g, 0, cap, by simp, by simpa using hcap, ?_⟩
    have hgl : g < w'.heap.size := by
      rcases Nat.lt_or_ge g w'.heap.size with h | h
      · exact h
      · rw [Array.getElem?_eq_none h] at hh; simp at hh
    refine repSl_mk (.inr ⟨hg, hgl⟩) l 0 fun j s hj => ?_
    have := ho'.cells (g := g) rfl j (.string ⟨s.toArray⟩) (by rw [List.getElem?_map, hj]; rfl)
    have e : ((⟨g, 0, none⟩ : Addr).add j) = ⟨g, 0 + j, none⟩ := by
      cases j <;> simp [Addr.add]
    rw [e] at this
    exact this

theorem ok_Clone {P : Program} {T : Tab} {f : FuncId} (H : CloneSays P f) : ∀ args r, con_Clone args = some r → OkCall P T f args r := by
  intro args r h w F vs hF hx
  obtain ⟨e9, H1, H2, H3⟩ := H
  simp only [con_Clone] at h
  split at h <;> (try simp at h; done)
  rename_i u
  split at h <;> (try simp at h; done)
  rename_i l hl
  obtain ⟨hlen, rfl⟩ := ite_some h
  clear h
  simp only [mid] at hlen
  match vs, hx with
  | [v], hx =>
    simp only [RepL, and_true] at hx
    rcases slStrs_cases hl with ⟨rfl, rfl⟩ | rfl
    · simp only [Rep] at hx
      subst hx
      refine (H1 0 0 w).mono ?_
      rintro e w' ⟨rfl, rfl⟩
      exact ⟨_, rfl, Below.refl _ _, by simp [Rep]⟩
    · simp only [Rep] at hx
      obtain ⟨b, o, cap, rfl, hcap, hsl⟩ := hx
      cases l with
      | nil =>
        refine (H2 _ cap w).mono ?_
        rintro e w' ⟨v', rfl, ho, hn, hbl⟩
        exact ⟨_, rfl, hbl, owned_strs (e9 := e9) (l := []) (by simpa using ho) hn⟩
      | cons x0 l =>
        have hc := repSl_strs (x0 :: l) o hsl
        have hH := H3 b o (x0 :: l).length cap ((x0 :: l).map fun s => (⟨s.toArray⟩ : ByteArray)) w (by simp) (by omega) (fun j hj => by
          have hj' : j < (x0 :: l).length := by simpa using hj
          have := (hc j _ (List.getElem?_eq_getElem hj')).2
          rw [this, List.getD_eq_getElem?_getD, List.getElem?_map, List.getElem?_eq_getElem hj']; rfl)
        have e2 : (strsA (x0 :: l)).length = (x0 :: l).length := by simp
        rw [e2]
        refine hH.mono ?_
        rintro e w' ⟨v', rfl, ho, hn, hbl⟩
        refine ⟨_, rfl, hbl, owned_strs (e9 := e9) (l := x0 :: l) ?_ hn⟩
        have e3 : ((x0 :: l).map fun s => (⟨s.toArray⟩ : ByteArray)).take (x0 :: l).length = (x0 :: l).map fun s => (⟨s.toArray⟩ : ByteArray) := List.take_of_length_le (by simp)
        rw [e3, List.map_map] at ho
        exact ho
end Wax

/- slices.Sorted of maps.Keys, as the kit's shelf has it, for the engine. -/
namespace Wax
open Go Go.RowKit Go.Proofs

/-- Nothing is read of the values. -/
def noVal : Value → Option (DataW Nat × List MemPlace) := fun _ => some (.nil, [])

/-- What the shelf says of slices.Sorted at what maps.Keys hands back, in one piece. -/
def SortedSays (P : Program) (T : Tab) (f g : FuncId) : Prop :=
  (∀ h, lkN T.fns h = some 55 → h = g) ∧ ∃ e9 k : TypeId, P.underlying k = some .string ∧
  ∀ (Bm b nn : Nat) (D0 : DataW Nat) (w : World), Bm < w.heap.size → w.cell? ⟨Bm, 0, none⟩ = some (.map (some b)) → w.ownsMap P k noVal b nn D0 → Maps.size D0 ≤ maxLen → Maps.size D0 * 16 ≤ 140737488355328 →
    Calls P f #[.func (.func g) #[] #[.pointer (some ⟨Bm, 0, none⟩)]] w fun e w' => ∃ (v : Value) (ss : List (List UInt8)), e = .returned v ∧ ss.Perm (Go.strKeys D0) ∧
      w'.ownsRow w.heap.size e9 1 v ss.length ((ss.mergeSort (fun x y => decide (x ≤ y))).map encStr) ∧ (v = .slice none 0 0 ↔ ss = []) ∧ Below w.heap.size w w'

theorem repM_keyList {T : Tab} {w : World} {F : Frz} : ∀ {es : List (List UInt8 × AV)} {l : List MapEntry}, RepM T w F es l → l.map (·.key) = es.map fun p => Value.string ⟨p.1.toArray⟩
  | [], [], _ => rfl
  | (k, c) :: r, e :: s, h => by
    simp only [RepM] at h
    simp only [List.map_cons, h.1, repM_keyList h.2.2]
  | [], _ :: _, h => by simp [RepM] at h
  | _ :: _, [], h => by simp [RepM] at h

theorem ok_Sorted {P : Program} {T : Tab} {f g : FuncId} (H : SortedSays P T f g) : ∀ args r, con_Sorted args = some r → OkCall P T f args r := by
  intro args r h w F vs hF hx
  obtain ⟨hinj, e9, k, hk, H⟩ := H
  simp only [con_Sorted] at h
  split at h <;> (try simp at h; done)
  rename_i es
  obtain ⟨⟨hlen, hkl⟩, rfl⟩ := ite_some h
  clear h
  simp only [half] at hlen
  match vs, hx with
  | [v], hx =>
    simp only [RepL, and_true] at hx
    simp only [Rep] at hx
    obtain ⟨f', vs', rfl, hf', hcap⟩ := hx
    obtain rfl := hinj f' hf'
    obtain ⟨l⟩ := vs'
    match l, hcap with
    | [p], hcap =>
      simp only [RepL, and_true, Rep] at hcap
      obtain ⟨Bm, rfl, hat⟩ := hcap
      simp only [RepAt, and_true] at hat
      obtain ⟨hFB, x, hcell, hmp⟩ := hat
      simp only [Rep] at hmp
      obtain ⟨b, ents, clk, rfl, hFb, hheap, hM, hst⟩ := hmp
      have hBm : Bm < w.heap.size := hF Bm hFB
      have hkeys := repM_keyList hM
      have hsz : ents.size = es.length := by
        have := congrArg List.length hkeys
        simpa using this
      have hread : ∀ x ∈ ents.toList, ∃ s : List UInt8, x.key = .string ⟨s.toArray⟩ ∧ keyOf P k x.key = some (.string s) := by
        intro x hx
        have hm : x.key ∈ ents.toList.map (·.key) := List.mem_map_of_mem hx
        rw [hkeys, List.mem_map] at hm
        obtain ⟨q, hq, e⟩ := hm
        refine ⟨q.1, e.symm, ?_⟩
        have hs := hkl q hq
        simp only [half] at hs
        rw [← e]
        have hsz : (⟨q.1.toArray⟩ : ByteArray).size = q.1.length := by show q.1.toArray.size = _; simp
        have := Go.WideMaps.keyOf_string_mk hk (s := ⟨q.1.toArray⟩) (by rw [hsz]; simp only [maxLen]; omega)
        simpa using this
      have hown : w.ownsMap P k noVal b ents.size (.map ((ents.toList.map (WideElems.rg P k noVal)).foldr DataW.insert [])) := by
        refine ⟨ents, clk, hheap, ⟨by rw [hsz]; simp only [maxLen]; omega, hst, fun x hx => ?_⟩, Nat.le_refl _, rfl⟩
        obtain ⟨s, _, hs⟩ := hread x hx
        exact ⟨_, WideElems.rd_mk (val := x.val) (born := x.born) hs rfl⟩
      have hds : Maps.size (.map ((ents.toList.map (WideElems.rg P k noVal)).foldr DataW.insert [])) = es.length := by
        simp only [Maps.size]
        rw [(WideShapes.sorted_perm _).length_eq]
        simp [hsz]
      have hsk : (Go.strKeys (.map ((ents.toList.map (WideElems.rg P k noVal)).foldr DataW.insert []))).Perm (es.map (·.1)) := by
        simp only [Go.strKeys]
        refine ((WideShapes.sorted_perm _).map _).trans ?_
        have : (ents.toList.map (WideElems.rg P k noVal)).map (fun p => Go.strOf p.1) = es.map (·.1) := by
          rw [List.map_map]
          have e1 : ents.toList.map ((fun p => Go.strOf p.1) ∘ WideElems.rg P k noVal) = (ents.toList.map (·.key)).map (fun v => match v with | .string s => s.data.toList | _ => []) := by
            rw [List.map_map]
            refine List.map_congr_left fun x hx => ?_
            obtain ⟨s, h1, h2⟩ := hread x hx
            have h3 := WideElems.rg_of (WideElems.rd_mk (R := noVal) (val := x.val) (born := x.born) h2 rfl)
            simp only [Function.comp_apply]
            rw [show x = ⟨x.key, x.val, x.born⟩ from rfl, h3, h1]
            rfl
          rw [e1, hkeys, List.map_map]
          refine List.map_congr_left fun x _ => ?_
          simp
        rw [this]
      refine (H Bm b ents.size _ w hBm hcell hown (by rw [hds]; simp only [maxLen]; omega) (by rw [hds]; omega)).mono ?_
      rintro e w' ⟨v, ss, rfl, hp, ho, hn, hbl⟩
      have hperm : ss.Perm (es.map (·.1)) := hp.trans hsk
      have hms : ss.mergeSort (fun x y => decide (x ≤ y)) = sortB (es.map (·.1)) := Go.mergeSort_of_perm hperm
      rw [hms] at ho
      have hl : ss.length = (sortB (es.map (·.1))).length := by rw [hperm.length_eq]; simp [sortB]
      rw [hl] at ho
      refine ⟨v, rfl, hbl, ?_⟩
      by_cases he : es = []
      · subst he
        have hss : ss = [] := by simpa using hperm
        rw [hn.2 hss]
        simp [sortB, strV, Rep]
      · have hss : ss ≠ [] := fun e => he (by rw [e] at hperm; simpa using hperm.symm)
        have hne : sortB (es.map (·.1)) ≠ [] := fun e => by rw [e] at hl; exact hss (List.length_eq_zero_iff.1 hl)
        have : strV (sortB (es.map (·.1))) = .sl 1 (strsA (sortB (es.map (·.1)))) := by
          cases hq : sortB (es.map (·.1)) with
          | nil => exact absurd hq hne
          | cons _ _ => rfl
        rw [this]
        exact owned_strs (e9 := e9) (l := sortB (es.map (·.1))) ho (fun e => hss (hn.1 e))

/-- Only one function bears this number. -/
def lkOnly (l : List (Nat × Nat)) (n g : Nat) : Bool := l.all fun p => p.2 != n || p.1 == g

theorem lkN_only {l : List (Nat × Nat)} {n g : Nat} (h : lkOnly l n g = true) : ∀ i, lkN l i = some n → i = g := by
  intro i hi
  induction l with
  | nil => simp [lkN] at hi
  | cons p r ih =>
    simp only [lkOnly, List.all_cons, Bool.and_eq_true, Bool.or_eq_true, bne_iff_ne, ne_eq, beq_iff_eq] at h
    obtain ⟨a, b⟩ := p
    simp only [lkN] at hi
    split at hi
    · rename_i e
      simp only [beq_iff_eq] at e
      simp only [Option.some.injEq] at hi
      rcases h.1 with h1 | h1
      · exact absurd hi h1
      · exact e ▸ h1
    · exact ih (by simpa [lkOnly] using h.2) hi
end Wax

/- Arguments as the rows hand them in. -/
namespace Wax
open Go Go.ChangeShapes Go.WideShapes Go.RowKit

section
variable {P : Program} {T : Tab} {w : World} {H : Type} {enc : TypeId × Value → H}

theorem has_block {a : Addr} {e : TypeId} {n : Nat} {r : Reach} {base : Nat} (h : w.has P r base a e n) : ∃ o, a = ⟨a.block, o, none⟩ ∧ a.block < w.heap.size := by
  obtain ⟨_, h2, row, cells, h3, _⟩ := h
  refine ⟨a.off, ?_, ?_⟩
  · cases a; simp at h2; simp [h2]
  · rcases Nat.lt_or_ge a.block w.heap.size with h | h
    · exact h
    · simp [World.shape?, Array.getElem?_eq_none h] at h3

/-- A slice's place, from its outer form. -/
theorem okWide_place {t e : TypeId} {r : Reach} {base : Nat} {a : Addr} {len cap : Nat} (ht : P.underlying t = some (.slice e)) (h : Value.okWide P w r base t (.slice (some a) len cap)) : ∃ b o, a = ⟨b, o, none⟩ ∧ b < w.heap.size := by
  simp only [Value.okWide, ht, Cell.okWide, Cell.ok] at h
  obtain ⟨o, h1, h2⟩ := has_block h.2.2
  exact ⟨a.block, o, h1, h2⟩

theorem repSl_of : ∀ (l : List (List UInt8)) (b o : Nat), b < w.heap.size → (∀ (j : Nat) s, l[j]? = some s → w.cell? ⟨b, o + j, none⟩ = some (.string ⟨s.toArray⟩)) → RepSl T w (fun k => k < w.heap.size) 1 b o (strsA l)
  | [], b, o, _, _ => by simp [strsA, RepSl]
  | s :: r, b, o, hb, h => by
    have ih := repSl_of r b (o + 1) hb (fun j s' hj => by
      have := h (j + 1) s' (by simpa using hj)
      rwa [show o + 1 + j = o + (j + 1) by omega])
    simp only [strsA, List.map_cons, RepSl]
    exact ⟨trivial, ⟨hb, .string ⟨s.toArray⟩, by simpa using h 0 s rfl, by simp [Rep]⟩, ih⟩

/-- A slice of texts that came in. -/
theorem open_strs {t e : TypeId} {base : Nat} {v : Value} {d : DataW H} {ps : List MemPlace} (ht : P.underlying t = some (.slice e)) (he : P.underlying e = some .string) (hc : P.cellsOf e = 1)
    (hval : Value.okWide P w .any base t v) (h : DataW.Trod enc P w 0 (fun _ => true) true t v d ps) :
    ∃ (x : AV) (l : List (List UInt8)), slStrs x = some l ∧ Rep T w (fun k => k < w.heap.size) noRho x v ∧ l.length < 9223372036854775808 ∧ ∀ s ∈ l, s.length < 9223372036854775808 := by
  obtain ⟨a0, len0, cap0, rfl⟩ := okWide_slice ht hval
  obtain ⟨fuel, hf⟩ := h
  rcases open_strings ht he hc hf with ⟨hcs, _⟩ | ⟨a, len, cap, ss, hcs, _, hl, hm, hsl, _, hcell, hsz⟩
  · simp [Value.cells] at hcs
    obtain ⟨rfl, rfl, rfl⟩ := hcs
    exact ⟨.nilS, [], rfl, by simp [Rep], by simp, by simp⟩
  · simp [Value.cells] at hcs
    obtain ⟨rfl, rfl, rfl⟩ := hcs
    obtain ⟨b, o, rfl, hb⟩ := okWide_place ht hval
    simp only [if_true] at hsl
    obtain ⟨l, hl'⟩ : ∃ l : List (List UInt8), l = (ss.take len0).map (·.data.toList) := ⟨_, rfl⟩
    have hll : l.length = len0 := by rw [hl', List.length_map, List.length_take]; omega
    refine ⟨.sl 1 (strsA l), l, ?_, ?_, ?_, ?_⟩
    · simp [slStrs]
    · simp only [Rep]
      refine ⟨b, o, cap0, ?_, ?_, ?_⟩
      · simp [hll]
      · simp [hll]; exact hl
      · refine repSl_of l b o hb ?_
        intro j s hj
        have hjl : j < l.length := by
          rcases Nat.lt_or_ge j l.length with h | h
          · exact h
          · simp [List.getElem?_eq_none h] at hj
        have hjs : j < ss.length := by omega
        have := hcell j hjs
        rw [addr_add] at this
        rw [this]
        rw [hl', List.getElem?_map, List.getElem?_take_of_lt (by omega), List.getElem?_eq_getElem hjs] at hj
        simp at hj
        rw [List.getD_eq_getElem?_getD, List.getElem?_eq_getElem hjs]
        simp [← hj]
    · have h1 : cap0 ≤ 9223372036854775807 := hm
      omega
    · intro s hs
      rw [hl'] at hs
      obtain ⟨q, hq, rfl⟩ := List.mem_map.1 hs
      have h1 : q.size ≤ 9223372036854775807 := hsz q (List.mem_of_mem_take hq)
      have h2 : q.data.toList.length = q.size := by simp
      omega
end
end Wax

