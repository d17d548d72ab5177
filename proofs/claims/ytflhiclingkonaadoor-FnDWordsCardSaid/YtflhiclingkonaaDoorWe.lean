/- The machine by which the functions are read, and what is proved of them (part 5): no premise. -/
import Derived.WideShapes
import Derived.SliceStrings
import Derived.OpenShut
import Derived.Test.YtflhiclingkonaaDoorWd
/- FnDWords (3): the reference's number, walked. -/
namespace Wax
open Go (IntKind)

def con_DWhole : List AV → Option AV
  | [.str s] => if s.length < mid then some (wholeV (wholeS (stripD s))) else none
  | _ => none

theorem u64_in {x : Int} (h1 : 0 ≤ x) (h2 : x < 18446744073709551616) : IntKind.u64.wrap x = x := by
  simp [IntKind.wrap, IntKind.bits, IntKind.signed]
  omega

set_option maxRecDepth 100000 in
theorem ok_DWhole (Γ : Gam) (h27 : Γ.fn 27 = con_DStrip) : ∀ args r, con_DWhole args = some r → runs Γ c_spec_DWhole args (fun v => v = r) := by
  intro args r h
  simp only [con_DWhole] at h
  split at h <;> (try simp at h; done)
  rename_i s
  obtain ⟨hs, rfl⟩ := ite_some h
  clear h
  have k27 : con_DStrip [.str s] = some (.str (stripD s)) := if_pos hs
  have hl := stripD_length s
  generalize stripD s = t at *
  simp only [mid] at hs
  have loop : ∀ (l : List UInt8) (Q : APost), l.length < 1099511627776 → (wloop 0 l = none → Q .ret ⟨[(2, .int .i64 0), (3, .bool false)], []⟩) →
      (∀ n, wloop 0 l = some n → awp Γ t_spec_DWhole_2 Q ⟨[(4, .str l), (5, .bool (minusB t)), (6, .int .u64 n), (7, .int .i64 l.length), (35, .bool false)], []⟩) →
      awp Γ (.loop [4, 5, 6, 7] b_spec_DWhole_1) (blockQ 0 (thenQ (awp Γ t_spec_DWhole_2 Q) Q)) ⟨[(4, .str l), (5, .bool (minusB t)), (6, .int .u64 0), (7, .int .i64 0)], []⟩ := by
    intro l Q hll hno hyes
    refine awp_loop2 (σ := List UInt8 × List UInt8 × Nat) (fun p => ⟨[(4, .str l), (5, .bool (minusB t)), (6, .int .u64 p.2.2), (7, .int .i64 p.1.length)], []⟩)
      (fun p => l = p.1 ++ p.2.1 ∧ wloop 0 l = wloop p.2.2 p.2.1 ∧ p.2.2 ≤ 9223372036854775808) (fun p => p.2.1.length) ([], l, 0) (by simp) (by simp) ?_
    rintro ⟨pre, post, n⟩ ⟨e1, e2, e3⟩ LQ hLQ
    simp only at e1 e2 e3
    cases post with
    | nil =>
      have hy := hyes n (by rw [e2]; rfl)
      simp only [List.append_nil] at e1
      subst e1
      simp -implicitDefEqProofs [b_spec_DWhole_1]
      exact hy
    | cons c post =>
      have hlen : l.length = pre.length + (post.length + 1) := by rw [e1]; simp
      have hlt : (pre.length : Int) < l.length := by omega
      have g0 : l[pre.length]? = some c := by rw [e1]; exact get_mid rfl
      have ew : IntKind.i64.wrap ((pre.length : Int) + 1) = (pre.length : Int) + 1 := wrap64 (by omega) (by omega)
      have hcb : c.toNat < 256 := c.toNat_lt
      have ec : IntKind.u64.wrap (c.toNat : Int) = c.toNat := u64_in (by omega) (by omega)
      simp only [wloop] at e2
      by_cases h1 : 48 ≤ c.toNat
      · have ed : IntKind.u64.wrap ((c.toNat : Int) - 48) = (c.toNat : Int) - 48 := u64_in (by omega) (by omega)
        by_cases h2 : c.toNat ≤ 57
        · have ef : IntKind.u64.wrap (9223372036854775808 - ((c.toNat : Int) - 48)) = 9223372036854775808 - ((c.toNat : Int) - 48) := u64_in (by omega) (by omega)
          have eg : IntKind.u64.wrap ((9223372036854775808 - ((c.toNat : Int) - 48)).tdiv 10) = (((9223372036854775808 - (c.toNat - 48)) / 10 : Nat) : Int) := by
            have : (9223372036854775808 - ((c.toNat : Int) - 48)).tdiv 10 = (((9223372036854775808 - (c.toNat - 48)) / 10 : Nat) : Int) := by
              rw [Int.tdiv_eq_ediv_of_nonneg (by omega)]; omega
            rw [this]; exact u64_in (by omega) (by omega)
          have n1 : ¬ ((c.toNat : Int) < 48) := by omega
          have n2 : ¬ ((57 : Int) < c.toNat) := by omega
          by_cases h3 : n ≤ (9223372036854775808 - (c.toNat - 48)) / 10
          · rw [if_pos ⟨h1, h2, h3⟩] at e2
            have n3 : ¬ ((((9223372036854775808 - (c.toNat - 48)) / 10 : Nat) : Int) < (n : Int)) := by omega
            have eh : IntKind.u64.wrap ((n : Int) * 10) = (n : Int) * 10 := u64_in (by omega) (by omega)
            have ei : IntKind.u64.wrap ((n : Int) * 10 + ((c.toNat : Int) - 48)) = ((n * 10 + (c.toNat - 48) : Nat) : Int) := by
              rw [u64_in (by omega) (by omega)]; omega
            simp -implicitDefEqProofs [b_spec_DWhole_1, hlt, g0, ew, ec, ed, ef, eg, n1, n2, n3, eh, ei]
            exact ⟨fun hh => by omega, fun _ => hLQ (pre ++ [c], post, n * 10 + (c.toNat - 48)) ⟨by simp [e1], e2, by simp only; omega⟩ (by simp) _ (by simp)⟩
          · rw [if_neg (fun h => h3 h.2.2)] at e2
            have hn := hno e2
            have n3 : ((((9223372036854775808 - (c.toNat - 48)) / 10 : Nat) : Int) < (n : Int)) := by omega
            simp -implicitDefEqProofs [b_spec_DWhole_1, hlt, g0, ew, ec, ed, ef, eg, n1, n2, n3]
            exact ⟨fun _ => hn, fun hh => by omega⟩
        · rw [if_neg (fun h => h2 h.2.1)] at e2
          have hn := hno e2
          have n1 : ¬ ((c.toNat : Int) < 48) := by omega
          have n2 : ((57 : Int) < c.toNat) := by omega
          simp -implicitDefEqProofs [b_spec_DWhole_1, hlt, g0, ew, ec, ed, n1, n2]
          exact hn
      · rw [if_neg (fun h => h1 h.1)] at e2
        have hn := hno e2
        have n1 : ((c.toNat : Int) < 48) := by omega
        simp -implicitDefEqProofs [b_spec_DWhole_1, hlt, g0, ew, ec, n1]
        exact hn
  have fin : ∀ l : List UInt8, l = signOff t → l.length < 1099511627776 → awp Γ (.loop [4, 5, 6, 7] b_spec_DWhole_1) (blockQ 0 (thenQ (awp Γ t_spec_DWhole_2 (finQ [.t 2, .t 3] fun v => v = wholeV (wholeS t))) (finQ [.t 2, .t 3] fun v => v = wholeV (wholeS t)))) ⟨[(4, .str l), (5, .bool (minusB t)), (6, .int .u64 0), (7, .int .i64 0)], []⟩ := by
    intro l hl1 hl2
    refine loop l _ hl2 ?_ ?_
    · intro hn
      simp [wholeS, ← hl1, hn, wholeV]
    · intro n hn
      have hn2 := wloop_le hn
      have hw : wholeS t = if l = [] ∨ (minusB t = false ∧ n = 9223372036854775808) then none else some (if minusB t = true then -(n : Int) else n) := by
        simp only [wholeS, ← hl1, hn]
      rw [hw]
      by_cases h0 : l = []
      · subst h0
        simp -implicitDefEqProofs [t_spec_DWhole_2, wholeV]
      · cases hmb : minusB t with
        | true =>
          have e1 : IntKind.i64.wrap (IntKind.u64.wrap (0 - (n : Int))) = -(n : Int) := by
            simp [IntKind.wrap, IntKind.bits, IntKind.signed]
            omega
          have e2 : IntKind.i64.wrap (IntKind.u64.wrap (-(n : Int))) = -(n : Int) := by
            simp [IntKind.wrap, IntKind.bits, IntKind.signed]
            omega
          simp -implicitDefEqProofs [t_spec_DWhole_2, wholeV, h0, e1, e2]
        | false =>
          by_cases h9 : n = 9223372036854775808
          · subst h9
            simp -implicitDefEqProofs [t_spec_DWhole_2, wholeV, h0]
          · have h8 : ¬ ((n : Int) = 9223372036854775808) := by omega
            have e1 : IntKind.i64.wrap (n : Int) = n := wrap64 (by omega) (by omega)
            simp -implicitDefEqProofs [t_spec_DWhole_2, wholeV, h0, h8, h9, e1]
  cases t with
  | nil =>
    have f := fin [] rfl (by simp)
    simp only [minusB] at f
    simp -implicitDefEqProofs [c_spec_DWhole, acall, h27, k27]
    exact f
  | cons c r =>
    simp at hl
    by_cases c1 : c.toNat = 45
    · have f := fin r (by simp [signOff, c1]) (by omega)
      simp only [minusB, c1, decide_true] at f
      have c1' : (c.toNat : Int) = 45 := by omega
      simp -implicitDefEqProofs [c_spec_DWhole, acall, h27, k27, c1']
      first | exact f | (refine ⟨by omega, ?_⟩; exact f)
    · have c1' : ¬ (c.toNat : Int) = 45 := by omega
      by_cases c2 : c.toNat = 43
      · have f := fin r (by simp [signOff, c2]) (by omega)
        simp only [minusB, c1, decide_false] at f
        have c2' : (c.toNat : Int) = 43 := by omega
        simp -implicitDefEqProofs [c_spec_DWhole, acall, h27, k27, c1', c2']
        first | exact f | (refine ⟨by omega, ?_⟩; exact f)
      · have f := fin (c :: r) (by simp [signOff, c1, c2]) (by simp; omega)
        simp only [minusB, c1, decide_false] at f
        have c2' : ¬ (c.toNat : Int) = 43 := by omega
        simp -implicitDefEqProofs [c_spec_DWhole, acall, h27, k27, c1', c2']
        exact f
end Wax

/- FnDCanonAgain: the plain law of words and white space; its own text. -/
namespace Wax
open Go (IntKind)

def nonWs (s : List UInt8) : Prop := ∀ x ∈ s, isWs x.toNat = false
def allWs (s : List UInt8) : Prop := ∀ x ∈ s, isWs x.toNat = true

theorem nonWs_of {s : List UInt8} (h : stripD s = s) : nonWs s := by
  intro x hx
  rw [← h] at hx
  simp only [stripD, List.mem_filter, Bool.not_eq_true'] at hx
  exact hx.2

theorem allWs_of {s : List UInt8} (h : stripD s = []) : allWs s := by
  intro x hx
  simp only [stripD, List.filter_eq_nil_iff] at h
  simpa using h x hx

theorem wordsGo_ws : ∀ {b : List UInt8} (s : List UInt8), allWs b → wordsGo [] (b ++ s) = wordsGo [] s
  | [], s, _ => rfl
  | x :: r, s, h => by
    have h1 := h x (by simp)
    simp only [List.cons_append, wordsGo, h1, if_true]
    exact wordsGo_ws s fun y hy => h y (by simp [hy])

theorem wordsGo_word : ∀ {w : List UInt8} (cur s : List UInt8), nonWs w → wordsGo cur (w ++ s) = wordsGo (cur ++ w) s
  | [], cur, s, _ => by simp
  | x :: r, cur, s, h => by
    have h1 := h x (by simp)
    simp only [List.cons_append, wordsGo, h1, Bool.false_eq_true, if_false]
    rw [wordsGo_word _ s fun y hy => h y (by simp [hy])]
    simp

theorem wordsGo_end {b cur s : List UInt8} (hc : cur ≠ []) (hb : b ≠ []) (hw : allWs b) : wordsGo cur (b ++ s) = cur :: wordsGo [] (b ++ s) := by
  cases b with
  | nil => exact absurd rfl hb
  | cons x r =>
    have h1 := hw x (by simp)
    simp only [List.cons_append, wordsGo, h1, if_true, if_neg hc]

/-- Words, each with white space ahead of it. -/
def spr (bl : List (List UInt8)) (k : Nat) (ws : List (List UInt8)) : List UInt8 := (ws.zipIdx k).flatMap fun p => bl.getD (p.2 % bl.length) [] ++ p.1

theorem spr_cons {bl : List (List UInt8)} {k : Nat} {w : List UInt8} {ws : List (List UInt8)} : spr bl k (w :: ws) = bl.getD (k % bl.length) [] ++ w ++ spr bl (k + 1) ws := by simp [spr, List.zipIdx_cons]
theorem spr_snoc {bl : List (List UInt8)} {w : List UInt8} {ws : List (List UInt8)} : spr bl 0 (ws ++ [w]) = spr bl 0 ws ++ bl.getD (ws.length % bl.length) [] ++ w := by
  simp [spr, List.zipIdx_append]

theorem getD_blank {bl : List (List UInt8)} (hb : bl ≠ []) {k : Nat} : bl.getD (k % bl.length) [] ∈ bl := by
  have hl : 0 < bl.length := List.length_pos_iff.2 hb
  have := Nat.mod_lt k hl
  rw [List.getD_eq_getElem?_getD, List.getElem?_eq_getElem this]; simp

theorem words_spr {bl : List (List UInt8)} (hb : bl ≠ []) (hbl : ∀ b ∈ bl, b ≠ [] ∧ allWs b) {t : List UInt8} (ht : t ≠ []) (htw : allWs t) : ∀ (ws : List (List UInt8)) (k : Nat), (∀ w ∈ ws, w ≠ [] ∧ nonWs w) →
    wordsGo [] (spr bl k ws ++ t) = ws
  | [], k, _ => by
    have := wordsGo_ws (b := t) [] htw
    simpa [spr, wordsGo] using this
  | w :: r, k, h => by
    have ih := words_spr hb hbl ht htw r (k + 1) (fun x hx => h x (by simp [hx]))
    have hbk := hbl _ (getD_blank hb (k := k))
    have hw := h w (by simp)
    rw [spr_cons, List.append_assoc, List.append_assoc, wordsGo_ws _ hbk.2, wordsGo_word _ _ hw.2, List.nil_append]
    have key : wordsGo w (spr bl (k + 1) r ++ t) = w :: wordsGo [] (spr bl (k + 1) r ++ t) := by
      cases r with
      | nil => simpa [spr] using wordsGo_end (s := []) hw.1 ht htw
      | cons w2 r2 =>
        have hb2 := hbl _ (getD_blank hb (k := k + 1))
        rw [spr_cons, List.append_assoc, List.append_assoc]
        exact wordsGo_end hw.1 hb2.1 hb2.2
    rw [key, ih]

theorem words_join {t : List UInt8} (ht : t ≠ []) (htw : allWs t) : ∀ (ws : List (List UInt8)), (∀ w ∈ ws, w ≠ [] ∧ nonWs w) → wordsGo [] (joinB ws ++ t) = ws
  | [], _ => by
    have := wordsGo_ws (b := t) [] htw
    simpa [joinB, wordsGo] using this
  | w :: r, h => by
    have ih := words_join ht htw r (fun x hx => h x (by simp [hx]))
    have hw := h w (by simp)
    rw [joinB_cons, List.append_assoc, wordsGo_word _ _ hw.2, List.nil_append]
    have key : wordsGo w (J2 r ++ t) = w :: wordsGo [] (joinB r ++ t) := by
      cases r with
      | nil => simpa [J2, joinB] using wordsGo_end (s := []) hw.1 ht htw
      | cons w2 r2 =>
        have hsp : allWs [32] := by intro x hx; simp at hx; subst hx; rfl
        have e1 : J2 (w2 :: r2) ++ t = [32] ++ (joinB (w2 :: r2) ++ t) := by simp [J2]
        rw [e1, wordsGo_end hw.1 (by simp) hsp, wordsGo_ws _ hsp]
    rw [key, ih]

theorem lowB_ws (b : UInt8) : isWs (lowB b).toNat = isWs b.toNat := by
  have h := lowB_toNat b
  unfold isWs
  apply decide_eq_decide.2
  rw [h]
  split <;> omega

theorem lowS_nonWs {s : List UInt8} (h : nonWs s) : nonWs (lowS s) := by
  intro x hx
  simp only [lowS, List.mem_map] at hx
  obtain ⟨y, hy, rfl⟩ := hx
  rw [lowB_ws]; exact h y hy

theorem lowS_allWs {s : List UInt8} (h : allWs s) : allWs (lowS s) := by
  intro x hx
  simp only [lowS, List.mem_map] at hx
  obtain ⟨y, hy, rfl⟩ := hx
  rw [lowB_ws]; exact h y hy

theorem trimS_word {n b : List UInt8} (hn : nonWs n) (hne : n ≠ []) (hb : allWs b) : trimS (n ++ b) = n := by
  have h1 : trimL (n ++ b) = n ++ b := by
    cases n with
    | nil => exact absurd rfl hne
    | cons x r => simp [trimL, hn x (by simp)]
  rw [trimS, h1, trimR, List.reverse_append, List.dropWhile_append_of_pos (by intro x hx; exact hb x (by simpa using hx))]
  have h2 : n.reverse.dropWhile (fun b => isWs b.toNat) = n.reverse := by
    cases hr : n.reverse with
    | nil => rfl
    | cons x r =>
      have : x ∈ n := by rw [← List.mem_reverse, hr]; simp
      simp [hn x this]
  rw [h2, List.reverse_reverse]

theorem lowB_low (b : UInt8) : lowB (lowB b) = lowB b := by
  have h := lowB_toNat b
  have h2 := lowB_toNat (lowB b)
  apply UInt8.toNat_inj.1
  have : ((lowB (lowB b)).toNat : Int) = (lowB b).toNat := by
    rw [h2]; split
    · rename_i hc; rw [h] at hc ⊢; split at hc <;> split <;> omega
    · rfl
  omega

theorem lowS_low (s : List UInt8) : lowS (lowS s) = lowS s := by simp [lowS, lowB_low]

theorem cutAt_noB {c : UInt8} {n r : List UInt8} (h : noB c.toNat n) : cutAt c.toNat (n ++ c :: r) = some (n, r) := by
  rw [cutAt_app _ _ _ h]; simp [cutAt]

theorem noB_low {n : List UInt8} (h : noB 58 n) : noB 58 (lowS n) := by
  intro x hx
  simp only [lowS, List.mem_map] at hx
  obtain ⟨y, hy, rfl⟩ := hx
  have := h y hy
  rw [lowB_toNat]; split <;> omega

theorem relaxedOf_cut {n r : List UInt8} (h : noB 58 n) : relaxedOf (n ++ 58 :: r) = trimS (lowS n) ++ 58 :: joinB (wordsOf r) ++ [13, 10] := by
  have := cutAt_noB (c := 58) (r := r) h
  have e : cutAt 58 (n ++ 58 :: r) = some (n, r) := this
  simp [relaxedOf, e]

theorem noB_ws {b : List UInt8} (h : allWs b) : noB 58 b := by
  intro x hx
  have := of_decide_eq_true (h x hx)
  omega

/-- What is asked of a name, words, white space. -/
structure CA (n : List UInt8) (ws bl : List (List UInt8)) : Prop where
  nne : n ≠ []
  nn : nonWs n
  nc : noB 58 n
  bne : bl ≠ []
  bl : ∀ b ∈ bl, b ≠ [] ∧ allWs b
  ws : ∀ w ∈ ws, w ≠ [] ∧ nonWs w

def wantOf (n : List UInt8) (ws : List (List UInt8)) : List UInt8 := lowS n ++ 58 :: joinB ws ++ [13, 10]

theorem crlf_ws : allWs [13, 10] := by intro x hx; simp at hx; rcases hx with rfl | rfl <;> rfl

theorem law_plain {n : List UInt8} {ws bl : List (List UInt8)} (h : CA n ws bl) : relaxedOf (n ++ 58 :: (joinB ws ++ [13, 10])) = wantOf n ws := by
  rw [relaxedOf_cut h.nc, show wordsOf (joinB ws ++ [13, 10]) = ws from words_join (by simp) crlf_ws ws h.ws]
  have := trimS_word (lowS_nonWs h.nn) (by simpa [lowS] using h.nne) (b := []) (by intro x hx; simp at hx)
  simp only [List.append_nil] at this
  rw [this, wantOf]

theorem law_again {n : List UInt8} {ws bl : List (List UInt8)} (h : CA n ws bl) : relaxedOf (wantOf n ws) = wantOf n ws := by
  have e : wantOf n ws = lowS n ++ 58 :: (joinB ws ++ [13, 10]) := by simp [wantOf]
  have h' : CA (lowS n) ws bl := ⟨by simpa [lowS] using h.nne, lowS_nonWs h.nn, noB_low h.nc, h.bne, h.bl, h.ws⟩
  conv => lhs; rw [e]
  rw [law_plain h', wantOf, wantOf, lowS_low]

theorem law_spread {n : List UInt8} {ws bl : List (List UInt8)} (h : CA n ws bl) : relaxedOf (n ++ bl.getD 0 [] ++ 58 :: (spr bl 0 ws ++ (bl.getD 0 [] ++ [13, 10]))) = wantOf n ws := by
  have h0 := h.bl _ (getD_blank h.bne (k := 0))
  rw [Nat.zero_mod] at h0
  have hc : noB 58 (n ++ bl.getD 0 []) := by
    intro x hx
    rcases List.mem_append.1 hx with hx | hx
    · exact h.nc x hx
    · exact noB_ws h0.2 x hx
  have ht : allWs (bl.getD 0 [] ++ [13, 10]) := by
    intro x hx
    rcases List.mem_append.1 hx with hx | hx
    · exact h0.2 x hx
    · exact crlf_ws x hx
  rw [relaxedOf_cut hc, show wordsOf (spr bl 0 ws ++ (bl.getD 0 [] ++ [13, 10])) = ws from words_spr h.bne h.bl (by simp) ht ws 0 h.ws, lowS_app,
    trimS_word (lowS_nonWs h.nn) (by simpa [lowS] using h.nne) (lowS_allWs h0.2), wantOf]
end Wax

/- FnDCanonAgain: its loops. -/
namespace Wax
open Go (IntKind)

def con_FnDCanonAgain : List AV → Option AV
  | [.str name, v, u] => match slStrs v, slStrs u with
    | some ws, some bl => if name.length < 9223372036854775808 ∧ (ws.length < 9223372036854775808 ∧ ∀ s ∈ ws, s.length < 9223372036854775808) ∧ (bl.length < 9223372036854775808 ∧ ∀ s ∈ bl, s.length < 9223372036854775808) then some (.bool true) else none
    | _, _ => none
  | _ => none

theorem plain_ap {s t : List UInt8} : plain (s ++ t) = (plain s && plain t) := by simp [plain]

def nameOk (x : UInt8) : Bool := !(decide ((x.toNat : Int) ≤ 32) || decide ((x.toNat : Int) = 58) || decide ((x.toNat : Int) = 127))

theorem dShort_all {m : Int} {l : List (List UInt8)} (h : dShort m l = true) : (∀ s ∈ l, plain s = true ∧ (s.length : Int) ≤ m) ∧ l.length ≤ 200 := by
  simp only [dShort, Bool.and_eq_true, List.all_eq_true, decide_eq_true_eq] at h
  refine ⟨fun s hs => ?_, by omega⟩
  have := h.1 s hs
  simpa only [dPlain, Bool.and_eq_true, decide_eq_true_eq, plain] using this

theorem joinB_length {m : Nat} : ∀ (ws : List (List UInt8)), (∀ w ∈ ws, w.length ≤ m) → (joinB ws).length ≤ ws.length * (m + 1)
  | [], _ => by simp [joinB]
  | w :: r, h => by
    have ih := joinB_length r (fun x hx => h x (by simp [hx]))
    have hw := h w (by simp)
    rw [joinB_cons]
    cases r with
    | nil => simp [J2]; omega
    | cons x y => rw [J2_ne (by simp)]; simp [Nat.add_mul] at ih ⊢; omega

theorem spr_length {m : Nat} {bl : List (List UInt8)} (hb : bl ≠ []) (hbl : ∀ b ∈ bl, b.length ≤ m) : ∀ (ws : List (List UInt8)) (k : Nat), (∀ w ∈ ws, w.length ≤ m) → (spr bl k ws).length ≤ ws.length * (2 * m)
  | [], k, _ => by simp [spr]
  | w :: r, k, h => by
    have ih := spr_length hb hbl r (k + 1) (fun x hx => h x (by simp [hx]))
    have hw := h w (by simp)
    have hk := hbl _ (getD_blank hb (k := k))
    rw [spr_cons]
    simp only [List.length_append, List.length_cons, Nat.add_mul]
    omega

theorem plain_joinB : ∀ (ws : List (List UInt8)), (∀ w ∈ ws, plain w = true) → plain (joinB ws) = true
  | [], _ => rfl
  | w :: r, h => by
    have ih := plain_joinB r (fun x hx => h x (by simp [hx]))
    rw [joinB_cons, plain_ap, h w (by simp)]
    cases r with
    | nil => rfl
    | cons x y =>
      rw [J2_ne (by simp)]
      have e : plain (32 :: joinB (x :: y)) = (plainB 32 && plain (joinB (x :: y))) := rfl
      have e2 : plainB 32 = true := plainB_true ⟨by decide, by decide, by decide⟩
      rw [e, ih, e2]; rfl

theorem plain_spr {bl : List (List UInt8)} (hb : bl ≠ []) (hbl : ∀ b ∈ bl, plain b = true) : ∀ (ws : List (List UInt8)) (k : Nat), (∀ w ∈ ws, plain w = true) → plain (spr bl k ws) = true
  | [], k, _ => rfl
  | w :: r, k, h => by
    have ih := plain_spr hb hbl r (k + 1) (fun x hx => h x (by simp [hx]))
    rw [spr_cons, plain_ap, plain_ap, h w (by simp), hbl _ (getD_blank hb (k := k)), ih]; rfl


theorem ca_loop1 (Γ : Gam) (h11 : Γ.fn 11 = con_dAwake) (Q : APost) {name : List UInt8} {V U : AV} (hV : hasRef V = false) (hU : hasRef U = false) (hn : name.length ≤ 2147483647) (hQr : Q .ret ⟨[(6, .bool true)], []⟩)
    (hQe : (∀ x ∈ name, nameOk x = true) → Q (.exit 0) ⟨[(0, .str name), (1, V), (2, U), (7, .int .i64 name.length), (60, .bool false)], []⟩) :
    awp Γ (.loop [0, 1, 2, 7] b_laws_FnDCanonAgain_1) Q ⟨[(0, .str name), (1, V), (2, U), (7, .int .i64 0)], []⟩ := by
  refine awp_loop2 (σ := List UInt8 × List UInt8) (fun p => ⟨[(0, .str name), (1, V), (2, U), (7, .int .i64 p.1.length)], []⟩) (fun p => name = p.1 ++ p.2 ∧ ∀ x ∈ p.1, nameOk x = true) (fun p => p.2.length) ([], name) (by simp) (by simp) ?_
  rintro ⟨pre, post⟩ ⟨hs1, hs2⟩ LQ hLQ
  simp only at hs1 hs2
  subst hs1
  cases post with
  | nil =>
    simp at hQe
    simp [b_laws_FnDCanonAgain_1]
    exact hQe hs2
  | cons x post =>
    simp at hn
    have ew : IntKind.i64.wrap ((pre.length : Int) + 1) = (pre.length : Int) + 1 := wrap64 (by omega) (by omega)
    have hlt : (pre.length : Int) < (pre.length : Int) + ((post.length : Int) + 1) := by omega
    by_cases c1 : (x.toNat : Int) ≤ 32
    · simp [b_laws_FnDCanonAgain_1, c1, acall, h11, con_dAwake]
      exact ⟨fun _ => hQr, fun _ => by omega⟩
    · by_cases c2 : (x.toNat : Int) = 58
      · simp [b_laws_FnDCanonAgain_1, c2, acall, h11, con_dAwake]
        exact ⟨fun _ => hQr, fun _ => by omega⟩
      · by_cases c3 : (x.toNat : Int) = 127
        · simp [b_laws_FnDCanonAgain_1, c3, acall, h11, con_dAwake]
          exact ⟨fun _ => hQr, fun _ => by omega⟩
        · have hok : nameOk x = true := by simp [nameOk, c1, c2, c3]
          simp [b_laws_FnDCanonAgain_1, c1, c2, c3, ew]
          refine ⟨fun _ => ?_, fun _ => by omega⟩
          refine hLQ (pre ++ [x], post) ⟨by simp, ?_⟩ (by simp) _ (by simp)
          intro y hy
          rcases List.mem_append.1 hy with hy | hy
          · exact hs2 y hy
          · simp at hy; subst hy; exact hok

theorem ca_loop2 (Γ : Gam) (h11 : Γ.fn 11 = con_dAwake) (h27 : Γ.fn 27 = con_DStrip) (Q : APost) {N U : AV} {ws : List (List UInt8)} (hws : ∀ w ∈ ws, w.length < mid) (hl : ws.length ≤ 2147483647) (hQr : Q .ret ⟨[(6, .bool true)], []⟩)
    (hQe : (∀ w ∈ ws, stripD w = w ∧ w ≠ []) → Q (.exit 2) ⟨[(0, N), (1, .sl 1 (strsA ws)), (2, U), (9, .int .i64 ws.length), (80, .bool false)], []⟩) :
    awp Γ (.loop [0, 1, 2, 9] b_laws_FnDCanonAgain_2) Q ⟨[(0, N), (1, .sl 1 (strsA ws)), (2, U), (9, .int .i64 0)], []⟩ := by
  refine awp_loop2 (σ := List (List UInt8) × List (List UInt8)) (fun p => ⟨[(0, N), (1, .sl 1 (strsA ws)), (2, U), (9, .int .i64 p.1.length)], []⟩) (fun p => ws = p.1 ++ p.2 ∧ ∀ w ∈ p.1, stripD w = w ∧ w ≠ []) (fun p => p.2.length) ([], ws) (by simp) (by simp) ?_
  rintro ⟨pre, post⟩ ⟨hs1, hs2⟩ LQ hLQ
  simp only at hs1 hs2
  subst hs1
  cases post with
  | nil =>
    simp at hQe
    simp [b_laws_FnDCanonAgain_2]
    exact hQe fun w hw => hs2 w hw
  | cons x post =>
    simp at hl
    have hx := hws x (by simp)
    have hk : con_DStrip [.str x] = some (.str (stripD x)) := if_pos hx
    have ew : IntKind.i64.wrap ((pre.length : Int) + 1) = (pre.length : Int) + 1 := wrap64 (by omega) (by omega)
    have hlt : (pre.length : Int) < (pre.length : Int) + ((post.length : Int) + 1) := by omega
    by_cases c1 : stripD x = x
    · by_cases c2 : x = []
      · subst c2
        simp [b_laws_FnDCanonAgain_2, acall, h27, hk, c1, h11, con_dAwake]
        exact ⟨fun _ => hQr, fun _ => by omega⟩
      · simp [b_laws_FnDCanonAgain_2, acall, h27, hk, c1, c2, ew]
        refine ⟨fun _ => ?_, fun _ => by omega⟩
        refine hLQ (pre ++ [x], post) ⟨by simp, ?_⟩ (by simp) _ (by simp)
        intro y hy
        rcases List.mem_append.1 hy with hy | hy
        · exact hs2 y hy
        · simp at hy; subst hy; exact ⟨c1, c2⟩
    · simp [b_laws_FnDCanonAgain_2, acall, h27, hk, c1, h11, con_dAwake]
      exact ⟨fun _ => hQr, fun _ => by omega⟩

theorem ca_loop3 (Γ : Gam) (h11 : Γ.fn 11 = con_dAwake) (h27 : Γ.fn 27 = con_DStrip) (Q : APost) {N U : AV} {ws : List (List UInt8)} (hws : ∀ w ∈ ws, w.length < mid) (hl : ws.length ≤ 2147483647) (hQr : Q .ret ⟨[(6, .bool true)], []⟩)
    (hQe : (∀ w ∈ ws, stripD w = [] ∧ w ≠ []) → Q (.exit 4) ⟨[(0, N), (1, U), (2, .sl 1 (strsA ws)), (10, .int .i64 ws.length), (104, .bool false)], []⟩) :
    awp Γ (.loop [0, 1, 2, 10] b_laws_FnDCanonAgain_3) Q ⟨[(0, N), (1, U), (2, .sl 1 (strsA ws)), (10, .int .i64 0)], []⟩ := by
  refine awp_loop2 (σ := List (List UInt8) × List (List UInt8)) (fun p => ⟨[(0, N), (1, U), (2, .sl 1 (strsA ws)), (10, .int .i64 p.1.length)], []⟩) (fun p => ws = p.1 ++ p.2 ∧ ∀ w ∈ p.1, stripD w = [] ∧ w ≠ []) (fun p => p.2.length) ([], ws) (by simp) (by simp) ?_
  rintro ⟨pre, post⟩ ⟨hs1, hs2⟩ LQ hLQ
  simp only at hs1 hs2
  subst hs1
  cases post with
  | nil =>
    simp at hQe
    simp [b_laws_FnDCanonAgain_3]
    exact hQe fun w hw => hs2 w hw
  | cons x post =>
    simp at hl
    have hx := hws x (by simp)
    have hk : con_DStrip [.str x] = some (.str (stripD x)) := if_pos hx
    have ew : IntKind.i64.wrap ((pre.length : Int) + 1) = (pre.length : Int) + 1 := wrap64 (by omega) (by omega)
    have hlt : (pre.length : Int) < (pre.length : Int) + ((post.length : Int) + 1) := by omega
    by_cases c1 : stripD x = []
    · by_cases c2 : x = []
      · subst c2
        simp [b_laws_FnDCanonAgain_3, acall, h27, hk, c1, h11, con_dAwake]
        exact ⟨fun _ => hQr, fun _ => by omega⟩
      · simp [b_laws_FnDCanonAgain_3, acall, h27, hk, c1, c2, ew]
        refine ⟨fun _ => ?_, fun _ => by omega⟩
        refine hLQ (pre ++ [x], post) ⟨by simp, ?_⟩ (by simp) _ (by simp)
        intro y hy
        rcases List.mem_append.1 hy with hy | hy
        · exact hs2 y hy
        · simp at hy; subst hy; exact ⟨c1, c2⟩
    · simp [b_laws_FnDCanonAgain_3, acall, h27, hk, c1, h11, con_dAwake]
      exact ⟨fun _ => hQr, fun _ => by omega⟩
end Wax

/- FnDParams (2): lists of pairs; a text's tags, as the program reads them. -/
namespace Wax
open Go (IntKind)

def con_dSamePairs : List AV → Option AV
  | [u, v] => match slPairs u, slPairs v with
    | some l, some m => if l.length < mid ∧ m.length < mid then some (.bool (decide (l = m))) else none
    | _, _ => none
  | _ => none

theorem slp_alen {u : AV} {l} (h : slPairs u = some l) (hp : List (Nat × AObj)) : alen hp 1 u = some l.length := by
  rcases slPairs_cases h with ⟨rfl, rfl⟩ | rfl <;> simp
theorem slp_ne {u : AV} {l} (h : slPairs u = some l) (hl : l ≠ []) : u = .sl 2 (pr2 l) := by
  rcases slPairs_cases h with ⟨rfl, rfl⟩ | rfl
  · exact absurd rfl hl
  · rfl
@[simp] theorem pr2_get {l : List (List UInt8 × List UInt8)} {i : Nat} : (pr2 l)[i]? = l[i]?.map fun p => AV.agg [.str p.1, .str p.2] := by simp [pr2]

theorem ok_dSamePairs (Γ : Gam) : ∀ args r, con_dSamePairs args = some r → runs Γ c_laws_dSamePairs args (fun v => v = r) := by
  intro args r h
  simp only [con_dSamePairs] at h
  split at h <;> (try simp at h; done)
  rename_i u v
  split at h <;> (try simp at h; done)
  rename_i l m hl hm
  obtain ⟨⟨h1, h2⟩, rfl⟩ := ite_some h
  clear h
  simp only [mid] at h1 h2
  by_cases hlen : l.length = m.length
  · have hlen2 : (l.length : Int) = (m.length : Int) := by omega
    simp [-alen, c_laws_dSamePairs, slp_alen hl, slp_alen hm, hlen2, hlen]
    refine awp_loop2 (σ := List (List UInt8 × List UInt8) × List (List UInt8 × List UInt8) × List (List UInt8 × List UInt8)) (fun p => ⟨[(0, u), (1, v), (5, .int .i64 p.1.length)], []⟩)
      (fun p => l = p.1 ++ p.2.1 ∧ m = p.1 ++ p.2.2) (fun p => p.2.1.length) ([], l, m) (by simp) (by simp) ?_
    rintro ⟨pre, a, b⟩ ⟨e1, e2⟩ LQ hLQ
    simp only at e1 e2
    subst e1 e2
    cases a with
    | nil =>
      have hb : b = [] := by simpa using hlen
      subst hb
      simp [-alen, slp_alen hl, b_laws_dSamePairs_1, t_laws_dSamePairs_2]
    | cons x a =>
      cases b with
      | nil => simp at hlen
      | cons y b =>
        obtain ⟨x1, x2⟩ := x
        obtain ⟨y1, y2⟩ := y
        simp at h1 h2 hlen
        have hu := slp_ne hl (by simp)
        have hv := slp_ne hm (by simp)
        subst hu hv
        have ew : IntKind.i64.wrap ((pre.length : Int) + 1) = (pre.length : Int) + 1 := wrap64 (by omega) (by omega)
        have hlt : (pre.length : Int) < (pre.length : Int) + ((a.length : Int) + 1) := by omega
        have g : ∀ (q : List (List UInt8 × List UInt8)) (z : List UInt8 × List UInt8), (pre ++ z :: q)[pre.length]? = some z := fun q z => get_mid rfl
        have g2 : ∀ (q : List AV) (z : AV), (pr2 pre ++ z :: q)[pre.length]? = some z := fun q z => get_mid (by simp)
        by_cases hxy : x1 = y1 ∧ x2 = y2
        · obtain ⟨rfl, rfl⟩ := hxy
          simp [b_laws_dSamePairs_1, ew, g, g2, hlt]
          exact hLQ (pre ++ [(x1, x2)], a, b) (by simp) (by simp) _ (by simp)
        · have hb : (decide (x1 = y1) && decide (x2 = y2)) = false := by
            rw [Bool.and_eq_false_iff]; simp only [decide_eq_false_iff_not]
            by_cases hx : x1 = y1
            · right; exact fun e => hxy ⟨hx, e⟩
            · left; exact hx
          have hne : ¬ ((x1, x2) = (y1, y2)) := by simpa using fun a b => hxy ⟨a, b⟩
          simp [b_laws_dSamePairs_1, ew, g, g2, hlt, hb]
  · have hne : ¬ l = m := fun e => hlen (by rw [e])
    have hlen2 : ¬ (l.length : Int) = (m.length : Int) := by omega
    simp [-alen, c_laws_dSamePairs, slp_alen hl, slp_alen hm, hlen2, hne]

def half : Nat := 549755813888

def con_pairsOf : List AV → Option AV
  | [u] => match slPairs u with
    | some l => if l.length < half then some (pairV l) else none
    | none => none
  | _ => none

theorem ok_pairsOf (Γ : Gam) : ∀ args r, con_pairsOf args = some r → runs Γ c_impl_pairsOf args (fun v => v = r) := by
  intro args r h
  simp only [con_pairsOf] at h
  split at h <;> (try simp at h; done)
  rename_i u
  split at h <;> (try simp at h; done)
  rename_i l hl
  obtain ⟨h1, rfl⟩ := ite_some h
  clear h
  simp only [half] at h1
  simp [-alen, c_impl_pairsOf, slp_alen hl]
  refine awp_loop2 (σ := List (List UInt8 × List UInt8) × List (List UInt8 × List UInt8)) (fun p => ⟨[(3, grV 19 2 p.1.length), (6, u), (7, .int .i64 l.length), (8, .int .i64 p.1.length)], grH 19 p.1.length (pc2 p.1)⟩)
    (fun p => l = p.1 ++ p.2) (fun p => p.2.length) ([], l) (by simp) (by simp) ?_
  rintro ⟨pre, post⟩ hs LQ hLQ
  simp only at hs
  subst hs
  cases post with
  | nil =>
    cases pre with
    | nil => simp [b_impl_pairsOf_1, t_impl_pairsOf_2, pairV]
    | cons x pre =>
      simp at h1 hl
      have hg := group_pc2 (l := x :: pre)
      simp at hg
      simp [b_impl_pairsOf_1, t_impl_pairsOf_2, pairV, hg]
      omega
  | cons x post =>
    have hu := slp_ne hl (by simp)
    subst hu
    obtain ⟨x1, x2⟩ := x
    simp at h1
    have ew : IntKind.i64.wrap ((pre.length : Int) + 1) = (pre.length : Int) + 1 := wrap64 (by omega) (by omega)
    have hlt : (pre.length : Int) < (pre.length : Int) + ((post.length : Int) + 1) := by omega
    have g2 : ∀ (q : List AV) (z : AV), (pr2 pre ++ z :: q)[pre.length]? = some z := fun q z => get_mid (by simp)
    have fin : ∀ st, norm [3, 6, 7, 8] st = ⟨[(3, .msl 19 2 0 (pre.length + 1)), (6, .sl 2 (pr2 (pre ++ (x1, x2) :: post))), (7, .int .i64 ((pre.length : Int) + ((post.length : Int) + 1))), (8, .int .i64 ((pre.length : Int) + 1))], [(19, .cells (pc2 pre ++ [.str x1, .str x2]))]⟩ → LQ st := by
      intro st hst
      exact hLQ (pre ++ [(x1, x2)], post) (by simp) (by simp) st (by simpa using hst)
    cases pre with
    | nil =>
      have ew0 : IntKind.i64.wrap 1 = 1 := rfl
      simp [b_impl_pairsOf_1, ew0, g2, hlt]
      exact fin _ (by simp)
    | cons y pre =>
      simp at h1
      have ew1 : IntKind.i64.wrap ((pre.length : Int) + 1 + 1) = (pre.length : Int) + 1 + 1 := wrap64 (by omega) (by omega)
      have tk : List.take ((pre.length + 1) * 2) (AV.str y.1 :: AV.str y.2 :: pc2 pre) = AV.str y.1 :: AV.str y.2 :: pc2 pre := List.take_of_length_le (by simp; omega)
      simp [b_impl_pairsOf_1, ew1, g2, tk]
      refine ⟨fun _ => ⟨by omega, ⟨by omega, by omega⟩, fin _ (by simp; omega)⟩, fun h => by omega⟩
end Wax

/- FnDParams (3): a text's tags, as the program reads them. -/
namespace Wax
open Go (IntKind)

def con_errorsNew : List AV → Option AV
  | [.str s] => some (.ifc 3 (.ptr [.str s]))
  | _ => none

theorem ok_errorsNew (Γ : Gam) : ∀ args r, con_errorsNew args = some r → runs Γ c_errors_New args (fun v => v = r) := by
  intro args r h
  simp only [con_errorsNew] at h
  split at h <;> (try simp at h; done)
  injection h with h; subst h
  simp [c_errors_New]

def msgBad : List UInt8 := [100, 107, 105, 109, 58, 32, 109, 97, 108, 102, 111, 114, 109, 101, 100, 32, 104, 101, 97, 100, 101, 114, 32, 112, 97, 114, 97, 109, 115]
def msgTwice : List UInt8 := [100, 107, 105, 109, 58, 32, 100, 117, 112, 108, 105, 99, 97, 116, 101, 32, 116, 97, 103, 32, 110, 97, 109, 101]

/-- A map of texts, as it was written. -/
def pmA (l : List (List UInt8 × List UInt8)) : List (List UInt8 × AV) := l.map fun p => (p.1, .str p.2)
def hasK (k : List UInt8) (l : List (List UInt8 × List UInt8)) : Bool := l.any fun p => decide (k = p.1)
theorem mfind_pmA_none {k : List UInt8} : ∀ {l : List (List UInt8 × List UInt8)}, hasK k l = false → mfind (pmA l) k = none ∧ ∀ v, mset (pmA l) k (.str v) = pmA (l ++ [(k, v)])
  | [], _ => ⟨rfl, fun _ => rfl⟩
  | (i, u) :: r, h => by
    simp only [hasK, List.any_cons, Bool.or_eq_false_iff, decide_eq_false_iff_not] at h
    have ih := mfind_pmA_none (k := k) (l := r) h.2
    refine ⟨by simp only [pmA, List.map_cons, mfind, if_neg h.1]; exact ih.1, fun v => ?_⟩
    have := ih.2 v
    simp only [pmA, List.map_cons, mset, if_neg h.1, List.cons_append] at this ⊢
    rw [this]
theorem mfind_pmA_some {k : List UInt8} : ∀ {l : List (List UInt8 × List UInt8)}, hasK k l = true → ∃ v, mfind (pmA l) k = some (.str v)
  | [], h => by simp [hasK] at h
  | (i, u) :: r, h => by
    by_cases hk : k = i
    · exact ⟨u, by simp [pmA, mfind, hk]⟩
    · have : hasK k r = true := by simpa [hasK, hk] using h
      obtain ⟨v, hv⟩ := mfind_pmA_some this
      exact ⟨v, by simp only [pmA, List.map_cons, mfind, if_neg hk]; exact hv⟩

def prm : List (List UInt8) → List (List UInt8 × List UInt8) → List (List UInt8 × List UInt8) × Option (List UInt8)
  | [], acc => (acc, none)
  | p :: r, acc => match cutAt 61 p with
    | none => if trimS p = [] then prm r acc else (acc, some msgBad)
    | some q => if hasK (trimS q.1) acc = true then (acc, some msgTwice) else prm r (acc ++ [(trimS q.1, trimS q.2)])

def prmV (x : List (List UInt8 × List UInt8) × Option (List UInt8)) : AV := .tup [.mp (pmA x.1), match x.2 with | none => .nilI | some m => .ifc 3 (.ptr [.str m])]

def con_parseHeaderParams : List AV → Option AV
  | [.str s] => if s.length < mid ∧ plain s = true then some (prmV (prm (splitB 59 s) [])) else none
  | _ => none

theorem splitB_sub (b : UInt8) : ∀ (s p : List UInt8), p ∈ splitB b s → ∀ y ∈ p, y ∈ s
  | [], p, h, y, hy => by simp [splitB] at h; subst h; exact hy
  | x :: r, p, h, y, hy => by
    have ih := splitB_sub b r
    simp only [splitB] at h
    split at h
    · rcases List.mem_cons.1 h with e | h
      · subst e; simp at hy
      · exact List.mem_cons_of_mem _ (ih p h y hy)
    · split at h
      · simp at h; subst h; simp at hy; subst hy; simp
      · rename_i hd t e
        rcases List.mem_cons.1 h with e' | h
        · subst e'
          rcases List.mem_cons.1 hy with e2 | hy
          · subst e2; simp
          · exact List.mem_cons_of_mem _ (ih hd (by rw [e]; simp) y hy)
        · exact List.mem_cons_of_mem _ (ih p (by rw [e]; simp [h]) y hy)
theorem splitB_plain (b : UInt8) (s p : List UInt8) (hs : plain s = true) (h : p ∈ splitB b s) : plain p = true := plain_sub (splitB_sub b s p h) hs

set_option maxRecDepth 100000 in
theorem ok_parseHeaderParams (Γ : Gam) (s25 : Γ.st 25 = con_zzSplit) (h16 : Γ.fn 16 = con_zzCut) (h18 : Γ.fn 18 = con_zzTrimSpace) (h50 : Γ.fn 50 = con_errorsNew) : ∀ args r, con_parseHeaderParams args = some r → runs Γ c_dkim_parseHeaderParams args (fun v => v = r) := by
  intro args r h
  simp only [con_parseHeaderParams] at h
  split at h <;> (try simp at h; done)
  rename_i s
  obtain ⟨⟨hs, hp⟩, rfl⟩ := ite_some h
  clear h
  have hsp : con_zzSplit [.str s, .str [59]] [] = some (.msl 0 1 0 (splitB 59 s).length, [(0, .cells (strsA (splitB 59 s)))]) := if_pos hs
  have hl := splitB_length 59 s
  have hml := splitB_mem_length 59 s
  have hmp := fun p => splitB_plain 59 s p hp
  simp [c_dkim_parseHeaderParams, acallS, s25, hsp]
  clear hsp
  generalize splitB 59 s = L at *
  have hs' := hs
  simp only [mid] at hs'
  refine awp_loop2 (σ := List (List UInt8) × List (List UInt8) × List (List UInt8 × List UInt8)) (fun p => ⟨[(5, .mref 16), (17, .msl 15 1 0 L.length), (18, .int .i64 L.length), (19, .int .i64 p.1.length)], [(16, .mp (pmA p.2.2)), (15, .cells (strsA L))]⟩)
    (fun p => L = p.1 ++ p.2.1 ∧ prm L [] = prm p.2.1 p.2.2) (fun p => p.2.1.length) ([], L, []) (by simp [pmA]) (by simp) ?_
  rintro ⟨pre, post, acc⟩ ⟨e1, e2⟩ LQ hLQ
  simp only at e1 e2
  cases post with
  | nil =>
    simp at e1
    rw [e2]
    simp [b_dkim_parseHeaderParams_1, t_dkim_parseHeaderParams_2, e1, prm, prmV]
  | cons x post =>
    have hxm : x ∈ L := by rw [e1]; simp
    have hxl := hml x hxm
    have hxp := hmp x hxm
    have hlen : L.length = pre.length + post.length + 1 := by rw [e1]; simp; omega
    have hlt : pre.length < L.length := by omega
    have g2 : List.drop pre.length L = x :: post := by rw [e1]; simp
    have ew : IntKind.i64.wrap ((pre.length : Int) + 1) = (pre.length : Int) + 1 := wrap64 (by omega) (by omega)
    have hlt' : (pre.length : Int) < (L.length : Int) := by omega
    have k16 : con_zzCut [.str x, .str [61]] = some (cutV 61 x) := by
      simp only [con_zzCut]; exact if_pos (by simp only [big]; omega)
    have k18 : ∀ t : List UInt8, t.length ≤ s.length → plain t = true → con_zzTrimSpace [.str t] = some (.str (trimS t)) := by
      intro t ht hpt
      simp only [con_zzTrimSpace]; exact if_pos ⟨by omega, hpt⟩
    have fin : ∀ acc', prm (x :: post) acc = prm post acc' → ∀ st, norm [5, 17, 18, 19] st = ⟨[(5, .mref 16), (17, .msl 15 1 0 L.length), (18, .int .i64 L.length), (19, .int .i64 ((pre.length : Int) + 1))], [(16, .mp (pmA acc')), (15, .cells (strsA L))]⟩ → LQ st := by
      intro acc' he st hst
      exact hLQ (pre ++ [x], post, acc') ⟨by rw [e1]; simp, by rw [e2, he]⟩ (by simp) st (by simpa using hst)
    cases hc : cutAt 61 x with
    | none =>
      have kx := k18 x hxl hxp
      by_cases ht : trimS x = []
      · have f1 := fin acc (by simp [prm, hc, ht])
        simp [b_dkim_parseHeaderParams_1, hlt, g2, acall, h16, k16, cutV, hc, h18, kx, ht, ew]
        exact f1 _ (by simp)
      · rw [e2]
        simp [b_dkim_parseHeaderParams_1, hlt, g2, acall, h16, k16, cutV, hc, h18, kx, ht, h50, con_errorsNew, prm, prmV, msgBad]
    | some q =>
      obtain ⟨hql, y, hy⟩ := cutAt_le hc
      have hxp' := hxp
      rw [hy, plain_app] at hxp'
      simp only [Bool.and_eq_true] at hxp'
      have hp2 : plain q.2 = true := by
        have := hxp'.2
        simp only [plain, List.all_cons, Bool.and_eq_true] at this
        exact this.2
      have kk := k18 q.1 (by omega) hxp'.1
      have kv := k18 q.2 (by omega) hp2
      cases hh : hasK (trimS q.1) acc with
      | true =>
        obtain ⟨v, hv⟩ := mfind_pmA_some hh
        rw [e2]
        simp [b_dkim_parseHeaderParams_1, hlt, g2, acall, h16, k16, cutV, hc, h18, kk, h50, con_errorsNew, prm, prmV, hh, hv, lookA, msgTwice]
      | false =>
        obtain ⟨hv, hm⟩ := mfind_pmA_none hh
        have f1 := fin (acc ++ [(trimS q.1, trimS q.2)]) (by simp [prm, hc, hh])
        simp [b_dkim_parseHeaderParams_1, hlt, g2, acall, h16, k16, cutV, hc, h18, kk, kv, hh, hv, hm, lookA, ew]
        exact f1 _ (by simp)
end Wax

/- FnDPicks (3): one pick. -/
namespace Wax
open Go (IntKind)

set_option maxRecDepth 100000 in
theorem ok_hpPick (Γ : Gam) (h17 : Γ.fn 17 = con_zzToLower) (h40 : Γ.fn 40 = con_parseHeaderField) (h41 : Γ.fn 41 = con_zzEqualFold) : ∀ args hp q, con_hpPick args hp = some q → runsS Γ c_dkim_headerPicker_Pick args hp (fun v => v = some q) := by
  intro args hp q h
  simp only [con_hpPick] at h
  split at h <;> (try simp at h; done)
  rename_i k u es
  split at h <;> (try simp at h; done)
  rename_i fs c hu hc
  obtain rfl := asCnt_spec hc
  obtain ⟨⟨hfl, hfs, hkl, hkp, hcl⟩, rfl⟩ := ite_some h
  clear h
  have k17 : con_zzToLower [.str k] = some (.str (lowS k)) := if_pos ⟨hkl, plain_ascii hkp⟩
  have hkeyl : (lowS k).length < mid := by simpa using hkl
  have hkeya : ascii (lowS k) = true := plain_lowS hkp
  have hkk : lowS (lowS k) = lowS k := lowS_low k
  have ew0 : IntKind.i64.wrap ((fs.length : Int) - 1) = (fs.length : Int) - 1 := wrap64 (by simp only [mid] at hfl; omega) (by simp only [mid] at hfl; omega)
  simp [-alen, c_dkim_headerPicker_Pick, acall, h17, k17, slf_map hu, slf_atom hu, slf_alen hu, look_mpA, ew0]
  clear k17 hkl hkp
  generalize lowS k = key at *
  refine awp_loop2 (σ := List (List UInt8) × Nat) (fun p => ⟨[(0, .ref 1000000 0), (1, .str key), (5, .int .i64 p.2), (6, .int .i64 ((p.1.length : Int) - 1))], [(1000000, .cells [u, .mref 1000001]), (1000001, .mp (mpA c))]⟩)
    (fun p => (∃ post, fs = p.1 ++ post) ∧ pk key fs.reverse (getC c key) = pk key p.1.reverse p.2 ∧ p.2 < mid) (fun p => p.1.length) (fs, getC c key) (by simp) ⟨⟨[], by simp⟩, rfl, hcl⟩ ?_
  rintro ⟨pre, n⟩ ⟨⟨post, hpost⟩, hpk, hn⟩ LQ hLQ
  simp only at hpost hpk hn
  rcases List.eq_nil_or_concat pre with rfl | ⟨init, f, rfl⟩
  · rw [hpk]
    simp [b_dkim_headerPicker_Pick_1, t_dkim_headerPicker_Pick_2, pk, pkRes, slf_map hu, slf_refs hu, reach_succ, slf_ref hu]
  · simp only [List.concat_eq_append] at *
    subst hpost
    obtain ⟨hf1, hf2⟩ := hfs f (by simp)
    have hu' := slf_ne hu (by simp)
    subst hu'
    have k40 : con_parseHeaderField [.str f] = some (.tup [.str (nameOf f), .str (trimS (match cutAt 58 f with | some p => p.2 | none => []))]) := if_pos ⟨hf1, hf2⟩
    have k41 : con_zzEqualFold [.str (nameOf f), .str key] = some (.bool (decide (lowS (nameOf f) = key))) := by
      have := nameOf_len f
      have e : decide (lowS (nameOf f) = lowS key) = decide (lowS (nameOf f) = key) := by rw [hkk]
      rw [← e]
      exact if_pos ⟨by omega, hkeyl, plain_ascii (nameOf_plain hf2), hkeya⟩
    simp only [mid] at hfl hn hcl
    simp at hfl
    have ew1 : IntKind.i64.wrap ((init.length : Int) - 1) = (init.length : Int) - 1 := wrap64 (by omega) (by omega)
    have ew2 : IntKind.i64.wrap ((getC c key : Int) + 1) = ((getC c key + 1 : Nat) : Int) := wrap64 (by omega) (by omega)
    have fin : ∀ n', pk key (f :: init.reverse) n = pk key init.reverse n' → n' ≤ n → ∀ st, norm [0, 1, 5, 6] st = ⟨[(0, .ref 1000000 0), (1, .str key), (5, .int .i64 n'), (6, .int .i64 ((init.length : Int) - 1))], [(1000000, .cells [.sl 1 (strsA (init ++ [f] ++ post)), .mref 1000001]), (1000001, .mp (mpA c))]⟩ → LQ st := by
      intro n' e he st hst
      refine hLQ (init, n') ⟨⟨f :: post, by simp⟩, ?_, by simp only [mid]; omega⟩ (by simp) st hst
      rw [hpk]; simpa using e
    have g : (strsA init ++ .str f :: strsA post)[init.length]? = some (.str f) := get_mid (by simp)
    by_cases hm : lowS (nameOf f) = key
    · cases n with
      | zero =>
        have ms := mset_mpA c key (getC c key + 1)
        rw [Int.natCast_add] at ms
        have hres : pk key (init ++ [f] ++ post).reverse (getC c key) = some f := by rw [hpk]; simp [pk, hm]
        rw [hres]
        simp [b_dkim_headerPicker_Pick_1, acall, h40, k40, h41, k41, hm, g, look_mpA, ew1, ew2, pkRes, reach_succ]
        exact ms
      | succ n =>
        have f1 := fin n (by simp [pk, hm]) (by omega)
        have ew3 : IntKind.i64.wrap (n : Int) = (n : Int) := wrap64 (by omega) (by omega)
        have hn0 : ¬ (n : Int) + 1 = 0 := by omega
        simp [b_dkim_headerPicker_Pick_1, acall, h40, k40, h41, k41, hm, g, ew1, ew3, hn0]
        exact f1 _ (by simp)
    · have f1 := fin n (by simp [pk, hm]) (by omega)
      simp [b_dkim_headerPicker_Pick_1, acall, h40, k40, h41, k41, hm, g, ew1]
      exact f1 _ (by simp)
end Wax

/- FnDPicks (4): all picks, one after another. -/
namespace Wax
open Go (IntKind)

def pickL (rev : List (List UInt8)) : List (List UInt8) → List (List UInt8 × Nat) → List (List UInt8)
  | [], _ => []
  | k :: ks, c => match pk (lowS k) rev (getC c (lowS k)) with
    | some f => f :: pickL rev ks (setC c (lowS k) (getC c (lowS k) + 1))
    | none => [] :: pickL rev ks c

def strV (l : List (List UInt8)) : AV := match l with | [] => .nilS | _ => .sl 1 (strsA l)
theorem slStrs_strV {l : List (List UInt8)} : slStrs (strV l) = some l := by
  cases l <;> simp [strV, slStrs, ← strsA_cons]

def con_Pick : List AV → Option AV
  | [u, v] => match slStrs u, slStrs v with
    | some fs, some ks => if fs.length < mid ∧ (∀ s ∈ fs, s.length < mid ∧ plain s = true) ∧ ks.length < mid ∧ (∀ s ∈ ks, s.length < mid ∧ plain s = true) then
        some (strV (pickL fs.reverse ks []))
      else none
    | _, _ => none
  | _ => none

set_option maxRecDepth 100000 in
theorem ok_Pick (Γ : Gam) (s38 : Γ.st 38 = con_newHeaderPicker) (s39 : Γ.st 39 = con_hpPick) : ∀ args r, con_Pick args = some r → runs Γ c_dkim_Pick args (fun v => v = r) := by
  intro args r h
  simp only [con_Pick] at h
  split at h <;> (try simp at h; done)
  rename_i u v
  split at h <;> (try simp at h; done)
  rename_i fs ks hu hv
  obtain ⟨⟨hfl, hfs, hkl, hks⟩, rfl⟩ := ite_some h
  clear h
  have k38 : con_newHeaderPicker [u] [] = some (.ref 0 0, [(0, .cells [u, .mref 1]), (1, .mp [])]) := by simp only [con_newHeaderPicker, hu]
  simp [-alen, c_dkim_Pick, acallS, s38, k38, slf_map hu, slf_kill hu, slf_kill hv, slf_refs hu, slf_alen hv]
  refine awp_loop2 (σ := List (List UInt8) × List (List UInt8) × List (List UInt8) × List (List UInt8 × Nat)) (fun p => ⟨[(5, .ref 10 0), (6, grV 22 1 p.2.2.1.length), (11, v), (12, .int .i64 ks.length), (13, .int .i64 p.1.length)], grH 22 p.2.2.1.length (strsA p.2.2.1) ++ [(10, .cells [u, .mref 100010]), (100010, .mp (mpA p.2.2.2))]⟩)
    (fun p => ks = p.1 ++ p.2.1 ∧ pickL fs.reverse ks [] = p.2.2.1 ++ pickL fs.reverse p.2.1 p.2.2.2 ∧ p.2.2.1.length = p.1.length ∧ ∀ j, getC p.2.2.2 j ≤ p.1.length) (fun p => p.2.1.length) ([], ks, [], []) (by simp [mpA]) ⟨by simp, by simp, rfl, fun j => Nat.le_refl _⟩ ?_
  rintro ⟨pre, post, outs, c⟩ ⟨hpost, hpk, hol, hgc⟩ LQ hLQ
  simp only at hpost hpk hol hgc
  subst hpost
  cases post with
  | nil =>
    simp only [pickL, List.append_nil] at hpk ⊢
    rw [hpk]
    cases outs with
    | nil =>
      have : pre = [] := List.eq_nil_of_length_eq_zero hol.symm
      subst this
      simp [b_dkim_Pick_1, t_dkim_Pick_2, strV]
    | cons o outs =>
      simp at hol
      simp [b_dkim_Pick_1, t_dkim_Pick_2, strV, ← hol, List.take_of_length_le]
  | cons k post =>
    have hv' := slf_ne hv (by simp)
    subst hv'
    obtain ⟨hk1, hk2⟩ := hks k (by simp)
    have k39 : con_hpPick [.ref 0 0, .str k] [(0, .cells [u, .mref 1]), (1, .mp (mpA c))] = some (pkRes u c (lowS k) (pk (lowS k) fs.reverse (getC c (lowS k)))) := by
      simp only [con_hpPick, hu, asCnt_mpA]
      exact if_pos ⟨hfl, hfs, hk1, hk2, by have := hgc (lowS k); simp at hkl; omega⟩
    simp only [mid] at hkl
    simp at hkl
    have g : (strsA pre ++ .str k :: strsA post)[pre.length]? = some (.str k) := get_mid (by simp)
    have ew : IntKind.i64.wrap ((pre.length : Int) + 1) = (pre.length : Int) + 1 := wrap64 (by omega) (by omega)
    have hlt : (pre.length : Int) < (pre.length : Int) + ((post.length : Int) + 1) := by omega
    have fin : ∀ (x : List UInt8) (c' : List (List UInt8 × Nat)), pickL fs.reverse (k :: post) c = x :: pickL fs.reverse post c' → (∀ j, getC c' j ≤ pre.length + 1) → ∀ st, norm [5, 6, 11, 12, 13] st = ⟨[(5, .ref 10 0), (6, .msl 22 1 0 (outs.length + 1)), (11, .sl 1 (strsA (pre ++ k :: post))), (12, .int .i64 ((pre.length : Int) + ((post.length : Int) + 1))), (13, .int .i64 ((pre.length : Int) + 1))], [(22, .cells (strsA outs ++ [.str x])), (10, .cells [u, .mref 100010]), (100010, .mp (mpA c'))]⟩ → LQ st := by
      intro x c' e hc st hst
      refine hLQ (pre ++ [k], post, outs ++ [x], c') ⟨by simp, ?_, by simp [hol], by simpa using hc⟩ (by simp) st ?_
      · rw [hpk, e]; simp
      · simpa using hst
    cases hpkv : pk (lowS k) fs.reverse (getC c (lowS k)) with
    | none =>
      rw [hpkv] at k39
      have f1 := fin [] c (by simp [pickL, hpkv]) (fun j => by have := hgc j; omega)
      cases outs with
      | nil =>
        simp [b_dkim_Pick_1, hlt, g, acallS, s39, k39, slf_map hu, slf_kill hu, slf_refs hu, reach_succ, pkRes, ew]
        exact f1 _ (by simp)
      | cons o outs =>
        simp at hol
        simp [b_dkim_Pick_1, hlt, g, acallS, s39, k39, slf_map hu, slf_kill hu, slf_refs hu, reach_succ, pkRes, ew]
        refine ⟨by omega, f1 _ (by simp)⟩
    | some f =>
      rw [hpkv] at k39
      have f1 := fin f (setC c (lowS k) (getC c (lowS k) + 1)) (by simp [pickL, hpkv]) (fun j => by rw [getC_setC]; have := hgc j; have := hgc (lowS k); split <;> omega)
      cases outs with
      | nil =>
        simp [b_dkim_Pick_1, hlt, g, acallS, s39, k39, slf_map hu, slf_kill hu, slf_refs hu, reach_succ, pkRes, ew]
        exact f1 _ (by simp)
      | cons o outs =>
        simp at hol
        simp [b_dkim_Pick_1, hlt, g, acallS, s39, k39, slf_map hu, slf_kill hu, slf_refs hu, reach_succ, pkRes, ew]
        refine ⟨by omega, f1 _ (by simp)⟩
end Wax

/- Functions as the abstract machine has them. -/
namespace Wax
open Go (IntKind)

/- maps.Keys[map[string]string,string,string] -/
def c_maps_Keys : SFn := ⟨1,
    (.seq
      (.region [
        ⟨some 1, .boxF (.t 0), none⟩,
        ⟨some 2, .mv (.k .nilF), none⟩] [1] [] [[0]])
      (.seq
        (.region [
          ⟨some 3, .mkFn 55 [(.t 1)], none⟩,
          ⟨some 2, .mv (.t 3), none⟩] [2] [] [[1]])
        .ret)),
  [.t 2]⟩

def l_maps_Keys : Lay := { rg := [(0, ([1], [])), (1, ([2], []))], dd := [(0, [[0]]), (1, [[1]])], fz := [1] }

end Wax

/- FnDParams (4): the tags in ascending order. -/
namespace Wax
open Go (IntKind)

def sortB (l : List (List UInt8)) : List (List UInt8) := l.mergeSort (fun x y => decide (x ≤ y))

def con_Keys : List AV → Option AV
  | [.mp es] => some (.fn 55 [.bx [.mp es]])
  | _ => none

theorem ok_Keys (Γ : Gam) : ∀ args r, con_Keys args = some r → runs Γ c_maps_Keys args (fun v => v = r) := by
  intro args r h
  simp only [con_Keys] at h
  split at h <;> (try simp at h; done)
  injection h with h; subst h
  simp [c_maps_Keys]

/-- slices.Sorted of a map's keys. -/
def con_Sorted : List AV → Option AV
  | [.fn 55 [.bx [.mp es]]] => if es.length < half ∧ (∀ q ∈ es, q.1.length < half) then some (strV (sortB (es.map (·.1)))) else none
  | _ => none

def lookP : List (List UInt8 × List UInt8) → List UInt8 → List UInt8
  | [], _ => []
  | (i, v) :: r, k => if k = i then v else lookP r k
theorem lookA_pmA : ∀ (l : List (List UInt8 × List UInt8)) (k : List UInt8), lookA (pmA l) k (.str []) false = .str (lookP l k)
  | [], k => rfl
  | (i, v) :: r, k => by
    have := lookA_pmA r k
    by_cases h : k = i <;> simp [pmA, lookA, mfind, lookP, h] at this ⊢
    exact this

def sortP (acc : List (List UInt8 × List UInt8)) : List (List UInt8 × List UInt8) := (sortB (acc.map (·.1))).map fun k => (k, lookP acc k)

def dpV (x : List (List UInt8 × List UInt8) × Option (List UInt8)) : AV := match x.2 with
  | none => .tup [pairV (sortP x.1), .nilI]
  | some m => .tup [.nilS, .ifc 3 (.ptr [.str m])]

def con_dkimParams : List AV → Option AV
  | [.str s] => if s.length + 1 < half ∧ plain s = true then some (dpV (prm (splitB 59 s) [])) else none
  | _ => none

theorem prm_length : ∀ (L : List (List UInt8)) (acc : List (List UInt8 × List UInt8)), (prm L acc).1.length ≤ acc.length + L.length
  | [], acc => by simp [prm]
  | p :: r, acc => by
    simp only [prm]
    split
    · split
      · have := prm_length r acc; simp; omega
      · simp
    · split
      · simp
      · rename_i q _ _
        have := prm_length r (acc ++ [(trimS q.1, trimS q.2)])
        simp at this ⊢; omega

theorem prm_keys (n : Nat) : ∀ (L : List (List UInt8)) (acc : List (List UInt8 × List UInt8)), (∀ p ∈ L, p.length ≤ n) → (∀ q ∈ acc, q.1.length ≤ n) → ∀ q ∈ (prm L acc).1, q.1.length ≤ n
  | [], acc, _, h2 => h2
  | p :: r, acc, h1, h2 => by
    have hr : ∀ p ∈ r, p.length ≤ n := fun p hp => h1 p (by simp [hp])
    simp only [prm]
    cases hc : cutAt 61 p with
    | none =>
      simp only
      by_cases ht : trimS p = []
      · simp only [ht, if_true]; exact prm_keys n r acc hr h2
      · simp only [ht, if_false]; exact h2
    | some q =>
      simp only
      split
      · exact h2
      · refine prm_keys n r _ hr fun z hz => ?_
        rcases List.mem_append.1 hz with hz | hz
        · exact h2 z hz
        · simp only [List.mem_singleton] at hz
          subst hz
          have t1 := trimS_length q.1
          have t2 := (cutAt_le hc).1
          have t3 := h1 p (by simp)
          simp only
          omega

set_option maxRecDepth 100000 in
theorem ok_dkimParams (Γ : Gam) (h47 : Γ.fn 47 = con_parseHeaderParams) (h48 : Γ.fn 48 = con_Keys) (h49 : Γ.fn 49 = con_Sorted) : ∀ args r, con_dkimParams args = some r → runs Γ c_dkim_Params args (fun v => v = r) := by
  intro args r h
  simp only [con_dkimParams] at h
  split at h <;> (try simp at h; done)
  rename_i s
  obtain ⟨⟨hs, hp⟩, rfl⟩ := ite_some h
  clear h
  have k47 : con_parseHeaderParams [.str s] = some (prmV (prm (splitB 59 s) [])) := if_pos ⟨by simp only [half, mid] at *; omega, hp⟩
  have hl := prm_length (splitB 59 s) []
  have hl2 := splitB_length 59 s
  have hkl := prm_keys s.length (splitB 59 s) [] (splitB_mem_length 59 s) (by simp)
  generalize prm (splitB 59 s) [] = q at *
  obtain ⟨acc, e⟩ := q
  cases e with
  | some m => simp [c_dkim_Params, acall, h47, k47, prmV, dpV]
  | none =>
    simp at hl
    have hacc : acc.length < half := by omega
    have k49 : con_Sorted [.fn 55 [.bx [.mp (pmA acc)]]] = some (strV (sortB (acc.map (·.1)))) := by
      have e1 : (pmA acc).map (·.1) = acc.map (·.1) := by simp [pmA, Function.comp_def]
      simp only [con_Sorted, e1]
      refine if_pos ⟨by simpa [pmA] using hacc, fun q hq => ?_⟩
      simp only [pmA, List.mem_map] at hq
      obtain ⟨z, hz, rfl⟩ := hq
      have := hkl z hz
      simp only [half] at *
      omega
    have hsl : (sortB (acc.map (·.1))).length < half := by simpa [sortB] using hacc
    have hsl' := hsl
    simp only [half] at hsl'
    have hp1 := slf_ref (slStrs_strV (l := sortB (acc.map (·.1))))
    have hp2 := slf_alen (slStrs_strV (l := sortB (acc.map (·.1))))
    have hsv := slStrs_strV (l := sortB (acc.map (·.1)))
    simp [-alen, c_dkim_Params, acall, h47, k47, prmV, dpV, h48, con_Keys, h49, k49, hp1, hp2]
    rw [sortP]
    generalize sortB (acc.map (·.1)) = ks at *
    refine awp_loop2 (σ := List (List UInt8) × List (List UInt8)) (fun p => ⟨[(4, .mp (pmA acc)), (6, grV 32 2 p.1.length), (19, strV ks), (20, .int .i64 ks.length), (21, .int .i64 p.1.length)], grH 32 p.1.length (pc2 (p.1.map fun k => (k, lookP acc k)))⟩)
      (fun p => ks = p.1 ++ p.2) (fun p => p.2.length) ([], ks) (by simp) (by simp) ?_
    rintro ⟨pre, post⟩ hs1 LQ hLQ
    simp only at hs1
    subst hs1
    cases post with
    | nil =>
      cases pre with
      | nil => simp [b_dkim_Params_1, t_dkim_Params_2, pairV]
      | cons x pre =>
        have hg := group_pc2 (l := (x :: pre).map fun k => (k, lookP acc k))
        simp at hg
        simp [b_dkim_Params_1, t_dkim_Params_2, pairV, hg]
        omega
    | cons x post =>
      have hu := slf_ne hsv (by simp)
      rw [hu] at hLQ ⊢
      simp at hsl'
      have hlt : (pre.length : Int) < (pre.length : Int) + ((post.length : Int) + 1) := by omega
      have g2 : ∀ (q : List AV) (z : AV), (strsA pre ++ z :: q)[pre.length]? = some z := fun q z => get_mid (by simp)
      have fin : ∀ st, norm [4, 6, 19, 20, 21] st = ⟨[(4, .mp (pmA acc)), (6, .msl 32 2 0 (pre.length + 1)), (19, .sl 1 (strsA (pre ++ x :: post))), (20, .int .i64 ((pre.length : Int) + ((post.length : Int) + 1))), (21, .int .i64 ((pre.length : Int) + 1))], [(32, .cells (pc2 (pre.map fun k => (k, lookP acc k)) ++ [.str x, .str (lookP acc x)]))]⟩ → LQ st := by
        intro st hst
        exact hLQ (pre ++ [x], post) (by simp) (by simp) st (by simpa using hst)
      cases pre with
      | nil =>
        have ew0 : IntKind.i64.wrap 1 = 1 := rfl
        simp [b_dkim_Params_1, ew0, g2, lookA_pmA]
        exact fin _ (by simp)
      | cons y pre =>
        simp at hsl'
        have ew1 : IntKind.i64.wrap ((pre.length : Int) + 1 + 1) = (pre.length : Int) + 1 + 1 := wrap64 (by omega) (by omega)
        have tk : List.take ((pre.length + 1) * 2) (AV.str y :: AV.str (lookP acc y) :: pc2 (pre.map fun k => (k, lookP acc k))) = AV.str y :: AV.str (lookP acc y) :: pc2 (pre.map fun k => (k, lookP acc k)) := List.take_of_length_le (by simp; omega)
        simp [b_dkim_Params_1, ew1, g2, tk, lookA_pmA]
        refine ⟨fun _ => ⟨by omega, ⟨by omega, by omega⟩, fin _ (by simp; omega)⟩, fun h => by omega⟩

def con_DParams : List AV → Option AV
  | [.str s] => if s.length + 1 < half ∧ plain s = true then some (match prm (splitB 59 s) [] with | (acc, none) => .tup [pairV (sortP acc), .bool true] | (_, some _) => .tup [.nilS, .bool false]) else none
  | _ => none

theorem ok_DParams (Γ : Gam) (h45 : Γ.fn 45 = con_dkimParams) (h46 : Γ.fn 46 = con_pairsOf) : ∀ args r, con_DParams args = some r → runs Γ c_impl_DParams args (fun v => v = r) := by
  intro args r h
  simp only [con_DParams] at h
  split at h <;> (try simp at h; done)
  rename_i s
  obtain ⟨⟨hs, hp⟩, rfl⟩ := ite_some h
  clear h
  have k45 : con_dkimParams [.str s] = some (dpV (prm (splitB 59 s) [])) := if_pos ⟨hs, hp⟩
  have hl := prm_length (splitB 59 s) []
  have hl2 := splitB_length 59 s
  generalize prm (splitB 59 s) [] = q at *
  obtain ⟨acc, e⟩ := q
  cases e with
  | some m => simp [c_impl_DParams, acall, h45, k45, dpV]
  | none =>
    have k46 : con_pairsOf [pairV (sortP acc)] = some (pairV (sortP acc)) := by
      simp only [con_pairsOf, slPairs_pairV]
      exact if_pos (by simp [sortP, sortB]; simp at hl; omega)
    have hr : hasRef (pairV (sortP acc)) = false := by cases sortP acc <;> rfl
    simp [c_impl_DParams, acall, h45, k45, dpV, h46, k46, hr]
end Wax

/- FnDParams (5): the plain law: both readings are the same. -/
namespace Wax

theorem lexLt_eq : ∀ x y : List UInt8, lexLt x y = decide (x < y)
  | [], [] => by simp [lexLt, Go.Op.bytesLess]
  | _ :: _, [] => by simp [lexLt, Go.Op.bytesLess]
  | [], _ :: _ => by simp [lexLt, Go.Op.bytesLess]
  | a :: x, b :: y => by
    have ih := lexLt_eq x y
    simp only [lexLt] at ih
    simp only [lexLt, Go.Op.bytesLess, ih, List.cons_lt_cons_iff, Bool.decide_or, Bool.decide_and]
    congr 2

abbrev KV := List UInt8 × List UInt8

/-- A pair goes to its place; none: there is one of that name. -/
def insP (x : KV) : List KV → Option (List KV)
  | [] => some [x]
  | y :: r => if lexLt y.1 x.1 = true then (insP x r).map (y :: ·) else if y.1 = x.1 then none else some (x :: y :: r)

def tgL : List (List UInt8) → List KV → Option (List KV)
  | [], out => some out
  | p :: r, out => match cutAt 61 p with
    | none => if trimS p = [] then tgL r out else none
    | some q => match insP (trimS q.1, trimS q.2) out with
      | none => none
      | some out' => tgL r out'

def Asc (l : List KV) : Prop := l.Pairwise fun a b => a.1 < b.1

theorem lt_asymm' {a b : List UInt8} (h : a < b) : ¬ b < a := List.lt_asymm h
theorem lt_tri {a b : List UInt8} (h : ¬ a < b) (hn : ¬ a = b) : b < a := by
  rcases Std.lt_trichotomy a b with h1 | h1 | h1
  · exact absurd h1 h
  · exact absurd h1 hn
  · exact h1

theorem insP_spec (x : KV) : ∀ (out : List KV), Asc out → (hasK x.1 out = true → insP x out = none) ∧ (hasK x.1 out = false → ∃ o, insP x out = some o ∧ Asc o ∧ o.Perm (out ++ [x]))
  | [], _ => ⟨fun h => by simp [hasK] at h, fun _ => ⟨[x], rfl, by simp [Asc], by simp⟩⟩
  | y :: r, h => by
    have h' := List.pairwise_cons.1 h
    have ih := insP_spec x r h'.2
    by_cases hlt : y.1 < x.1
    · have hl : lexLt y.1 x.1 = true := by rw [lexLt_eq]; exact decide_eq_true hlt
      have hne : ¬ x.1 = y.1 := fun e => by rw [e] at hlt; exact List.lt_irrefl _ hlt
      have hk : hasK x.1 (y :: r) = hasK x.1 r := by simp [hasK, hne]
      rw [hk]
      refine ⟨fun hh => by simp [insP, hl, ih.1 hh], fun hh => ?_⟩
      obtain ⟨o, h1, h2, h3⟩ := ih.2 hh
      refine ⟨y :: o, by simp [insP, hl, h1], ?_, ?_⟩
      · refine List.pairwise_cons.2 ⟨fun z hz => ?_, h2⟩
        rcases List.mem_append.1 (h3.mem_iff.1 hz) with hz | hz
        · exact h'.1 z hz
        · simp at hz; subst hz; exact hlt
      · simpa using h3
    · have hl : lexLt y.1 x.1 = false := by rw [lexLt_eq]; exact decide_eq_false hlt
      by_cases he : y.1 = x.1
      · rw [he] at hl
        refine ⟨fun _ => by simp [insP, hl, he], fun hh => ?_⟩
        simp [hasK, he] at hh
      · have hgt : x.1 < y.1 := lt_tri hlt he
        have hnk : hasK x.1 (y :: r) = false := by
          simp only [hasK, List.any_cons, Bool.or_eq_false_iff, decide_eq_false_iff_not, List.any_eq_false]
          refine ⟨fun e => he e.symm, fun z hz => ?_⟩
          have := h'.1 z hz
          intro e
          have e := of_decide_eq_true e
          rw [← e] at this
          exact lt_asymm' hgt this
        refine ⟨fun hh => by rw [hnk] at hh; simp at hh, fun _ => ⟨x :: y :: r, by simp [insP, hl, he], ?_, ?_⟩⟩
        · refine List.pairwise_cons.2 ⟨fun z hz => ?_, h⟩
          rcases List.mem_cons.1 hz with rfl | hz
          · exact hgt
          · exact List.lt_trans hgt (h'.1 z hz)
        · exact (List.perm_append_comm (l₁ := [x]) (l₂ := y :: r))

theorem lookP_mem : ∀ {l : List KV} {k v}, (l.map (·.1)).Nodup → (k, v) ∈ l → lookP l k = v
  | [], k, v, _, h => by simp at h
  | (i, u) :: r, k, v, hn, h => by
    simp only [List.map_cons, List.nodup_cons] at hn
    rcases List.mem_cons.1 h with h | h
    · simp at h; obtain ⟨rfl, rfl⟩ := h; simp [lookP]
    · have : ¬ k = i := fun e => hn.1 (by rw [← e]; exact List.mem_map.2 ⟨_, h, rfl⟩)
      simp only [lookP, if_neg this]
      exact lookP_mem hn.2 h

theorem asc_sortP {out acc : List KV} (h : Asc out) (hp : out.Perm acc) : out = sortP acc := by
  have hk : (out.map (·.1)).Pairwise (· < ·) := List.pairwise_map.2 h
  have hnd : (out.map (·.1)).Nodup := hk.imp fun hab e => by rw [e] at hab; exact List.lt_irrefl _ hab
  have hnd2 : (acc.map (·.1)).Nodup := (hp.map (·.1)).nodup_iff.1 hnd
  have hs : out.map (·.1) = sortB (acc.map (·.1)) := by
    have p1 : (out.map (·.1)).Perm (sortB (acc.map (·.1))) := (hp.map _).trans (List.mergeSort_perm _ _).symm
    refine p1.eq_of_pairwise (le := fun a b => a ≤ b) ?_ ?_ ?_
    · intro a b _ _ h1 h2; exact List.le_antisymm h1 h2
    · exact hk.imp fun hab => List.le_of_lt hab
    · have := List.pairwise_mergeSort (le := fun x y : List UInt8 => decide (x ≤ y)) (fun a b c h1 h2 => by
        simp only [decide_eq_true_eq] at *; exact List.le_trans h1 h2) (fun a b => by
        simp only [Bool.or_eq_true, decide_eq_true_eq]; exact List.le_total a b) (acc.map (·.1))
      exact this.imp fun h => of_decide_eq_true h
  rw [sortP, ← hs, List.map_map]
  have : ∀ p ∈ out, (((fun k => (k, lookP acc k)) ∘ fun x : KV => x.1) p) = p := by
    intro p hpm
    have := lookP_mem (k := p.1) (v := p.2) hnd2 (hp.mem_iff.1 hpm)
    simp [this]
  exact (List.map_congr_left this).symm ▸ (List.map_id out).symm

theorem params_law : ∀ (L : List (List UInt8)) (acc out : List KV), Asc out → out.Perm acc → match prm L acc with
    | (a, none) => tgL L out = some (sortP a)
    | (_, some _) => tgL L out = none
  | [], acc, out, h, hp => by simp only [prm, tgL]; rw [asc_sortP h hp]
  | p :: r, acc, out, h, hp => by
    simp only [prm, tgL]
    cases hc : cutAt 61 p with
    | none =>
      simp only
      by_cases ht : trimS p = []
      · simp only [ht, if_true]; exact params_law r acc out h hp
      · simp only [ht, if_false]
    | some q =>
      simp only
      have hk : hasK (trimS q.1) acc = hasK (trimS q.1) out := by
        simp only [hasK]
        exact (hp.any_eq).symm
      have hi := insP_spec (trimS q.1, trimS q.2) out h
      cases hh : hasK (trimS q.1) out with
      | true => rw [hk, hh]; simp only [if_true]; rw [hi.1 hh]
      | false =>
        rw [hk, hh]
        obtain ⟨o, h1, h2, h3⟩ := hi.2 hh
        simp only [Bool.false_eq_true, if_false, h1]
        exact params_law r _ o h2 (h3.trans (hp.append_right _))
end Wax

/- FnDParams: its own text, by its callees' contracts. -/
namespace Wax
open Go (IntKind)

def con_DTags : List AV → Option AV
  | [.str s] => if s.length + 1 < half then some (match tgL (splitB 59 s) [] with | some o => .tup [pairV o, .bool true] | none => .tup [.nilS, .bool false]) else none
  | _ => none

def con_FnDParams : List AV → Option AV
  | [.str s] => if s.length < 9223372036854775808 then some (.bool true) else none
  | _ => none

theorem slp_ref {u : AV} {l} (h : slPairs u = some l) : hasRef u = false := by
  rcases slPairs_cases h with ⟨rfl, rfl⟩ | rfl <;> simp
theorem slp_snap {u : AV} {l} (h : slPairs u = some l) (n : Nat) (hp : List (Nat × AObj)) : snap (n + 1) hp u = u := by
  rcases slPairs_cases h with ⟨rfl, rfl⟩ | rfl <;> simp

set_option maxHeartbeats 1000000 in
set_option maxRecDepth 100000 in
theorem ok_FnDParams (Γ : Gam) (h10 : Γ.fn 10 = con_dShort) (h11 : Γ.fn 11 = con_dAwake) (h51 : Γ.fn 51 = con_DParams) (h52 : Γ.fn 52 = con_DTags) (h53 : Γ.fn 53 = con_dSamePairs) :
    ∀ args r, con_FnDParams args = some r → runs Γ c_laws_FnDParams args (fun v => v = r) := by
  intro args r h
  simp only [con_FnDParams] at h
  split at h <;> (try simp at h; done)
  rename_i s
  obtain ⟨hs, rfl⟩ := ite_some h
  clear h
  by_cases hl : (2147483647 : Int) < (s.length : Int)
  · simp [c_laws_FnDParams, hl]
  have ds : con_dShort [.int .i64 2000, .sl 1 [.str s]] = some (.bool (dShort 2000 [s])) := by
    have : slStrs (.sl 1 [.str s]) = some [s] := by simp [slStrs, asStrs]
    simp only [con_dShort, this]
    exact if_pos ⟨by simp [big], by simp [big]; omega⟩
  cases hA : dShort 2000 [s] with
  | false =>
    rw [hA] at ds
    simp [c_laws_FnDParams, hl, acall, h10, ds, h11, con_dAwake]
  | true =>
    rw [hA] at ds
    obtain ⟨a1, _⟩ := dShort_all hA
    obtain ⟨a2, a3⟩ := a1 s (by simp)
    have hh : s.length + 1 < half := by simp only [half]; omega
    have k51 : con_DParams [.str s] = some (match prm (splitB 59 s) [] with | (acc, none) => .tup [pairV (sortP acc), .bool true] | (_, some _) => .tup [.nilS, .bool false]) := if_pos ⟨hh, a2⟩
    have k52 : con_DTags [.str s] = some (match tgL (splitB 59 s) [] with | some o => .tup [pairV o, .bool true] | none => .tup [.nilS, .bool false]) := if_pos hh
    have law := params_law (splitB 59 s) [] [] (by simp [Asc]) (List.Perm.refl _)
    have hpl := prm_length (splitB 59 s) []
    have hsl := splitB_length 59 s
    have k51b : ∃ x y, con_DParams [.str [97, 61, 98, 59, 32, 99, 61, 100, 59]] = some (.tup [.sl 2 (pr2 [x, y]), .bool true]) := by
      have e : prm (splitB 59 [97, 61, 98, 59, 32, 99, 61, 100, 59]) [] = ([([97], [98]), ([99], [100])], none) := by decide
      simp only [con_DParams, e]
      rw [if_pos ⟨by decide, by decide⟩]
      have hlen : (sortP [([97], [98]), ([99], [100])]).length = 2 := by simp [sortP, sortB]
      revert hlen
      generalize sortP [([97], [98]), ([99], [100])] = z
      intro hlen
      match z, hlen with
      | [x, y], _ => exact ⟨x, y, rfl⟩
    obtain ⟨x, y, k51b⟩ := k51b
    have hs0 : ∀ hp, alen hp 0 (.str s) = some s.length := fun _ => rfl
    have hxy := slp_alen (show slPairs (.sl 2 (pr2 [x, y])) = some [x, y] by simp [slPairs, asPairs])
    simp only [pr2_cons, pr2_nil] at hxy k51b
    generalize prm (splitB 59 s) [] = q at *
    obtain ⟨acc, e⟩ := q
    cases e with
    | some m =>
      simp only at law
      rw [law] at k52
      simp [-alen, hs0, hxy, c_laws_FnDParams, hl, acall, h10, ds, h51, h52, k51, k52, k51b]
    | none =>
      simp only at law
      rw [law] at k52
      simp only at hpl
      have k53 : con_dSamePairs [pairV (sortP acc), pairV (sortP acc)] = some (.bool true) := by
        simp only [con_dSamePairs, slPairs_pairV]
        rw [if_pos ⟨by simp [sortP, sortB, mid]; simp at hpl; omega, by simp [sortP, sortB, mid]; simp at hpl; omega⟩]
        simp
      have hr := slp_ref (slPairs_pairV (l := sortP acc))
      have hsn := slp_snap (slPairs_pairV (l := sortP acc))
      simp [-alen, hs0, hxy, c_laws_FnDParams, hl, acall, h10, ds, h51, h52, k51, k52, k51b, h53, k53, hr, hsn]
end Wax

/- FnDWords (4): the statement. -/
namespace Wax
open Go (IntKind)

def con_FnDWords : List AV → Option AV
  | [.str s] => if s.length < 9223372036854775808 then some (.bool true) else none
  | _ => none

theorem strip_plain {s : List UInt8} (h : plain s = true) : stripS s = stripD s := by
  refine List.filter_congr fun x hx => ?_
  simp only [plain, List.all_eq_true] at h
  rw [isSp_ws (h x hx)]

theorem stripD_cons (x : UInt8) (r : List UInt8) : stripD (x :: r) = if isWs x.toNat = true then stripD r else x :: stripD r := by
  simp only [stripD, List.filter_cons]
  cases isWs x.toNat <;> rfl

theorem split_strip : ∀ (s : List UInt8), (splitB 58 s).map stripD = splitB 58 (stripD s)
  | [] => rfl
  | x :: r => by
    have ih := split_strip r
    rw [stripD_cons]
    by_cases hx : x = 58
    · subst hx
      have : isWs (58 : UInt8).toNat = false := by decide
      rw [this]
      simp only [splitB, if_true, List.map_cons, ih]
      rfl
    · simp only [splitB, if_neg hx]
      cases hc : splitB 58 r with
      | nil => exact absurd hc (splitB_ne 58 r)
      | cons h t =>
        rw [hc] at ih
        simp only [List.map_cons] at ih
        cases hw : isWs x.toNat with
        | true =>
          simp only [if_true, List.map_cons, stripD_cons, hw]
          exact ih
        | false =>
          simp only [List.map_cons, stripD_cons, hw, Bool.false_eq_true, if_false, splitB, if_neg hx, ← ih]

theorem ok_FnDWords (Γ : Gam) (h10 : Γ.fn 10 = con_dShort) (h11 : Γ.fn 11 = con_dAwake) (h7 : Γ.fn 7 = con_TagList) (h35 : Γ.fn 35 = con_dSameTexts) (h66 : Γ.fn 66 = con_DForms) (h67 : Γ.fn 67 = con_DFormsOf) (h68 : Γ.fn 68 = con_DNumber) (h69 : Γ.fn 69 = con_DWhole) (h70 : Γ.fn 70 = con_DParts) :
    ∀ args r, con_FnDWords args = some r → runs Γ c_laws_FnDWords args (fun v => v = r) := by
  intro args r h
  simp only [con_FnDWords] at h
  split at h <;> (try simp at h; done)
  rename_i s
  obtain ⟨hs, rfl⟩ := ite_some h
  clear h
  by_cases hl : (2147483647 : Int) < (s.length : Int)
  · simp -implicitDefEqProofs [c_laws_FnDWords, hl]
  have ds : con_dShort [.int .i64 500, .sl 1 [.str s]] = some (.bool (dShort 500 [s])) := by
    have : slStrs (.sl 1 [.str s]) = some [s] := by simp [slStrs, asStrs]
    simp only [con_dShort, this]
    exact if_pos ⟨by simp [big], by simp [big]; omega⟩
  cases hA : dShort 500 [s] with
  | false =>
    rw [hA] at ds
    simp -implicitDefEqProofs [c_laws_FnDWords, hl, acall, h10, ds, h11, con_dAwake]
  | true =>
    rw [hA] at ds
    obtain ⟨a1, _⟩ := dShort_all hA
    obtain ⟨a2, a3⟩ := a1 s (by simp)
    have ha := plain_ascii a2
    have hm : s.length < mid := by simp only [mid]; omega
    have e := strip_plain a2
    have k66 : con_DForms [.str s] = some (formsV (pcan (stripD s))) := by rw [← e]; exact if_pos ⟨hm, ha⟩
    have k67 : con_DFormsOf [.str s] = some (formsV (pcan (stripD s))) := if_pos hm
    have k68 : con_DNumber [.str s] = some (wholeV (wholeS (stripD s))) := by rw [whole_law, ← e]; exact if_pos ⟨hm, ha⟩
    have k69 : con_DWhole [.str s] = some (wholeV (wholeS (stripD s))) := if_pos hm
    have k7 : con_TagList [.str s] = some (.sl 1 (strsA (splitB 58 (stripD s)))) := by
      have : tagL s = splitB 58 (stripD s) := by
        rw [← split_strip, tagL]
        refine List.map_congr_left fun p hp => ?_
        refine strip_plain ?_
        have := splitB_sub 58 s p hp
        simp only [plain, List.all_eq_true] at a2 ⊢
        exact fun y hy => a2 y (this y hy)
      simp only [con_TagList, con_parseTagList]
      rw [if_pos ⟨hm, ha⟩, this]
    have k70 : con_DParts [.str s] = some (.sl 1 (strsA (splitB 58 (stripD s)))) := if_pos hm
    have hsl := splitB_length 58 (stripD s)
    have hsd := stripD_length s
    have hst : slStrs (.sl 1 (strsA (splitB 58 (stripD s)))) = some (splitB 58 (stripD s)) := by simp [slStrs]
    have k35 : con_dSameTexts [.sl 1 (strsA (splitB 58 (stripD s))), .sl 1 (strsA (splitB 58 (stripD s)))] = some (.bool true) := by
      simp only [con_dSameTexts, hst]
      rw [if_pos ⟨by simp only [mid]; omega, by simp only [mid]; omega⟩]
      simp
    generalize splitB 58 (stripD s) = P at *
    generalize pcan (stripD s) = q at *
    generalize wholeS (stripD s) = n at *
    obtain ⟨a, b⟩ := q
    simp only [formsV] at k66 k67
    cases hk : (known a && known b) <;> rw [hk] at k66 k67 <;> cases n <;> simp only [wholeV] at k68 k69 <;>
      simp -implicitDefEqProofs [c_laws_FnDWords, hl, acall, h10, ds, h11, con_dAwake, h66, k66, h67, k67, h68, k68, h69, k69, h7, k7, h70, k70, h35, k35]
end Wax

/- Arguments as the rows hand them in. -/
namespace Wax
open Go Go.ChangeShapes Go.WideShapes Go.RowKit

section
variable {P : Program} {T : Tab} {w : World} {H : Type} {enc : TypeId × Value → H}

theorem has_block {a : Addr} {e : TypeId} {n : Nat} {r : Reach} {base : Nat} (h : w.has P r base a e n) : ∃ o, a = ⟨a.block, o, none⟩ ∧ a.block < w.heap.size := by
  obtain ⟨_, h2, row, cells, h3, _⟩ := h
  refine ⟨a.off, ?_, ?_⟩
  · cases a; simp at h2; simp [h2]
  · rcases Nat.lt_or_ge a.block w.heap.size with h | h
    · exact h
    · simp [World.shape?, Array.getElem?_eq_none h] at h3

/-- A slice's place, from its outer form. -/
theorem okWide_place {t e : TypeId} {r : Reach} {base : Nat} {a : Addr} {len cap : Nat} (ht : P.underlying t = some (.slice e)) (h : Value.okWide P w r base t (.slice (some a) len cap)) : ∃ b o, a = ⟨b, o, none⟩ ∧ b < w.heap.size := by
  simp only [Value.okWide, ht, Cell.okWide, Cell.ok] at h
  obtain ⟨o, h1, h2⟩ := has_block h.2.2
  exact ⟨a.block, o, h1, h2⟩

theorem repSl_of : ∀ (l : List (List UInt8)) (b o : Nat), b < w.heap.size → (∀ (j : Nat) s, l[j]? = some s → w.cell? ⟨b, o + j, none⟩ = some (.string ⟨s.toArray⟩)) → RepSl T w (fun k => k < w.heap.size) 1 b o (strsA l)
  | [], b, o, _, _ => by simp [strsA, RepSl]
  | s :: r, b, o, hb, h => by
    have ih := repSl_of r b (o + 1) hb (fun j s' hj => by
      have := h (j + 1) s' (by simpa using hj)
      rwa [show o + 1 + j = o + (j + 1) by omega])
    simp only [strsA, List.map_cons, RepSl]
    exact ⟨trivial, ⟨hb, .string ⟨s.toArray⟩, by simpa using h 0 s rfl, by simp [Rep]⟩, ih⟩

/-- A slice of texts that came in. -/
theorem open_strs {t e : TypeId} {base : Nat} {v : Value} {d : DataW H} {ps : List MemPlace} (ht : P.underlying t = some (.slice e)) (he : P.underlying e = some .string) (hc : P.cellsOf e = 1)
    (hval : Value.okWide P w .any base t v) (h : DataW.Trod enc P w 0 (fun _ => true) true t v d ps) :
    ∃ (x : AV) (l : List (List UInt8)), slStrs x = some l ∧ Rep T w (fun k => k < w.heap.size) noRho x v ∧ l.length < 9223372036854775808 ∧ ∀ s ∈ l, s.length < 9223372036854775808 := by
  obtain ⟨a0, len0, cap0, rfl⟩ := okWide_slice ht hval
  obtain ⟨fuel, hf⟩ := h
  rcases open_strings ht he hc hf with ⟨hcs, _⟩ | ⟨a, len, cap, ss, hcs, _, hl, hm, hsl, _, hcell, hsz⟩
  · simp [Value.cells] at hcs
    obtain ⟨rfl, rfl, rfl⟩ := hcs
    exact ⟨.nilS, [], rfl, by simp [Rep], by simp, by simp⟩
  · simp [Value.cells] at hcs
    obtain ⟨rfl, rfl, rfl⟩ := hcs
    obtain ⟨b, o, rfl, hb⟩ := okWide_place ht hval
    simp only [if_true] at hsl
    obtain ⟨l, hl'⟩ : ∃ l : List (List UInt8), l = (ss.take len0).map (·.data.toList) := ⟨_, rfl⟩
    have hll : l.length = len0 := by rw [hl', List.length_map, List.length_take]; omega
    refine ⟨.sl 1 (strsA l), l, ?_, ?_, ?_, ?_⟩
    · simp [slStrs]
    · simp only [Rep]
      refine ⟨b, o, cap0, ?_, ?_, ?_⟩
      · simp [hll]
      · simp [hll]; exact hl
      · refine repSl_of l b o hb ?_
        intro j s hj
        have hjl : j < l.length := by
          rcases Nat.lt_or_ge j l.length with h | h
          · exact h
          · simp [List.getElem?_eq_none h] at hj
        have hjs : j < ss.length := by omega
        have := hcell j hjs
        rw [addr_add] at this
        rw [this]
        rw [hl', List.getElem?_map, List.getElem?_take_of_lt (by omega), List.getElem?_eq_getElem hjs] at hj
        simp at hj
        rw [List.getD_eq_getElem?_getD, List.getElem?_eq_getElem hjs]
        simp [← hj]
    · have h1 : cap0 ≤ 9223372036854775807 := hm
      omega
    · intro s hs
      rw [hl'] at hs
      obtain ⟨q, hq, rfl⟩ := List.mem_map.1 hs
      have h1 : q.size ≤ 9223372036854775807 := hsz q (List.mem_of_mem_take hq)
      have h2 : q.data.toList.length = q.size := by simp
      omega
end
theorem lkGl_mem : ∀ {l : List (Nat × List AV)} {g : Nat} {cs : List AV}, lkGl l g = some cs → (g, cs) ∈ l
  | [], _, _, h => by simp [lkGl] at h
  | (i, v) :: r, g, cs, h => by
    simp only [lkGl] at h
    split at h
    · rename_i e
      simp only [beq_iff_eq] at e
      simp only [Option.some.injEq] at h
      subst e; subst h; simp
    · exact List.mem_cons_of_mem _ (lkGl_mem h)

theorem GlobOk.of {T : Tab} {w : World} {F : Frz} (h : ∀ p ∈ T.gl, RepAt T w F p.1 0 p.2) : GlobOk T w F := fun g cs hg => h (g, cs) (lkGl_mem hg)

/-- A variable that bears an error. -/
theorem repAt_err {T : Tab} {w : World} {g tp : Nat} {y : Value} (h : w.cell? ⟨g, 0, none⟩ = some (.iface tp y)) (ht : lkN T.tys tp = some 3) : RepAt T w (fun b => b < w.heap.size) g 0 [.ifc 3 .junk] := by
  have hlt : g < w.heap.size := by
    simp only [World.cell?] at h
    rcases Nat.lt_or_ge g w.heap.size with h' | h'
    · exact h'
    · rw [Array.getElem?_eq_none h'] at h; simp at h
  simp only [RepAt, and_true]
  exact ⟨hlt, _, h, tp, y, rfl, ht, trivial⟩
end Wax

