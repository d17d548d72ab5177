/- The machine by which the functions are read, and what is proved of them (part 4): no premise. -/
import Derived.Lib.Join
import Derived.Laws.OwnMore
import Derived.WideShapes
import Derived.SliceStrings
import Derived.OpenShut
import Derived.Test.YtgoeacdpemahpaaWc
/- The program's own functions (3): white space, of ASCII. -/
namespace Wax
open Go (IntKind)

def isSp (n : Int) : Bool := decide ((9 ≤ n ∧ n ≤ 13) ∨ n = 32)

def con_zzIsSpace : List AV → Option AV
  | [.int .i32 n] => if n < 128 then some (.bool (isSp n)) else none
  | _ => none

theorem ok_zzIsSpace (Γ : Gam) : ∀ args r, con_zzIsSpace args = some r → runs Γ c_dkim_zzIsSpace args (fun v => v = r) := by
  intro args r h
  simp only [con_zzIsSpace] at h
  split at h <;> (try simp at h; done)
  rename_i n
  obtain ⟨hn, rfl⟩ := ite_some h
  clear h
  have f1 : ¬ n = 133 := by omega
  have f2 : ¬ n = 160 := by omega
  have f3 : ¬ n = 5760 := by omega
  have f4 : ¬ 8192 ≤ n := by omega
  have f5 : ¬ n = 8232 := by omega
  have f6 : ¬ n = 8233 := by omega
  have f7 : ¬ n = 8239 := by omega
  have f8 : ¬ n = 8287 := by omega
  have f9 : ¬ n = 12288 := by omega
  have key : ∀ b : Bool, ((9 ≤ n ∧ n ≤ 13) ∨ n = 32 ↔ b = true) → b = isSp n := by
    intro b hb; unfold isSp; cases b <;> simp at hb ⊢ <;> omega
  by_cases h1 : 9 ≤ n <;> by_cases h2 : n ≤ 13 <;> by_cases h3 : n = 32 <;>
    simp [c_dkim_zzIsSpace, f1, f2, f3, f4, f5, f6, f7, f8, f9, h1, h2, h3] <;> first | rfl | exact decide_eq_true (by omega) | exact decide_eq_false (by omega)

def con_closure : List AV → Option AV
  | [.int .i32 n] => some (.bool (isWs n))
  | _ => none

theorem ok_closure (Γ : Gam) : ∀ args r, con_closure args = some r → runs Γ c_dkim_relaxedCanonicalizer_CanonicalizeHeader_1 args (fun v => v = r) := by
  intro args r h
  simp only [con_closure] at h
  split at h <;> simp at h
  rename_i b
  subst h
  simp [c_dkim_relaxedCanonicalizer_CanonicalizeHeader_1, isWs]
  refine ⟨fun h => ⟨fun h2 => ⟨fun h3 => ?_, fun h3 => ?_⟩, fun h2 => ?_⟩, fun h => ?_⟩ <;> simp [*]

def con_simpleCH : List AV → Option AV
  | [_, .str s] => some (.str s)
  | _ => none

theorem ok_simpleCH (Γ : Gam) : ∀ args r, con_simpleCH args = some r → runs Γ c_dkim_simpleCanonicalizer_CanonicalizeHeader args (fun v => v = r) := by
  intro args r h
  simp only [con_simpleCH] at h
  split at h <;> simp at h
  subst h
  simp [c_dkim_simpleCanonicalizer_CanonicalizeHeader]

def con_canonicalizers : List AV → Option AV
  | [.str s] => some (if s = simpleB then .tup [.ifc 1 (.ptr []), .bool true] else if s = relaxedB then .tup [.ifc 2 (.ptr []), .bool true] else .tup [.nilI, .bool false])
  | _ => none

theorem ok_canonicalizers (Γ : Gam) : ∀ args r, con_canonicalizers args = some r → runs Γ c_dkim_canonicalizers args (fun v => v = r) := by
  intro args r h
  simp only [con_canonicalizers] at h
  split at h <;> simp at h
  rename_i s
  subst h
  simp [c_dkim_canonicalizers, simpleB, relaxedB, snap, snapW, snapWL, resolveA]
  exact ⟨fun h => by simp [h], fun h => ⟨fun h2 => by simp [h2], fun h2 => by simp [h, h2]⟩⟩

/-- The parts of a text between white space. -/
def wordsGo : List UInt8 → List UInt8 → List (List UInt8)
  | cur, [] => if cur = [] then [] else [cur]
  | cur, x :: r => if isWs x.toNat then (if cur = [] then wordsGo [] r else cur :: wordsGo [] r) else wordsGo (cur ++ [x]) r
def wordsOf (s : List UInt8) : List (List UInt8) := wordsGo [] s

def joinB : List (List UInt8) → List UInt8
  | [] => []
  | [s] => s
  | s :: r => s ++ [32] ++ joinB r

theorem wordsGo_ne : ∀ (s cur : List UInt8), cur ≠ [] → wordsGo cur s ≠ []
  | [], cur, h => by simp [wordsGo, h]
  | x :: r, cur, h => by
    simp only [wordsGo]
    split
    · simp
    · exact wordsGo_ne r _ (by simp)

def J2 (ws : List (List UInt8)) : List UInt8 := if ws = [] then [] else 32 :: joinB ws

theorem joinB_cons (c : List UInt8) (ws : List (List UInt8)) : joinB (c :: ws) = c ++ J2 ws := by
  cases ws with
  | nil => simp [joinB, J2]
  | cons d r => simp [joinB, J2]

theorem J2_ne {ws : List (List UInt8)} (h : ws ≠ []) : J2 ws = 32 :: joinB ws := by simp [J2, h]

/-- The reference's joined text is that of the words. -/
theorem joinGo_words : ∀ (s : List UInt8),
    (∀ out : List UInt8, out ≠ [] → joinGo out true s = out ++ J2 (wordsOf s)) ∧
    (joinGo [] false s = joinB (wordsOf s)) ∧
    (∀ pre cur : List UInt8, cur ≠ [] → joinGo (pre ++ cur) false s = pre ++ joinB (wordsGo cur s))
  | [] => by
    refine ⟨fun out _ => by simp [joinGo, wordsOf, wordsGo, J2], by simp [joinGo, wordsOf, wordsGo, joinB], fun pre cur h => by simp [joinGo, wordsGo, h, joinB]⟩
  | x :: r => by
    obtain ⟨hA, hB, hC⟩ := joinGo_words r
    by_cases hw : isWs x.toNat = true
    · refine ⟨fun out ho => ?_, ?_, fun pre cur hc => ?_⟩
      · have : decide (0 < out.length) = true := decide_eq_true (List.length_pos_iff.2 ho)
        simp only [joinGo, if_pos hw, this, hA out ho, wordsOf, wordsGo]
        rfl
      · simp only [joinGo, if_pos hw, wordsOf, wordsGo]
        exact hB
      · have : decide (0 < (pre ++ cur).length) = true := decide_eq_true (List.length_pos_iff.2 (by simp [hc]))
        simp only [joinGo, if_pos hw, this, hA (pre ++ cur) (by simp [hc]), wordsGo, if_neg hc, joinB_cons]
        simp [wordsOf]
    · refine ⟨fun out ho => ?_, ?_, fun pre cur hc => ?_⟩
      · have h1 := hC (out ++ [32]) [x] (by simp)
        have h2 := wordsGo_ne r [x] (by simp)
        simp only [joinGo, if_neg hw, if_true, wordsOf, wordsGo, List.nil_append, h1, J2_ne h2]
        simp
      · have h1 := hC [] [x] (by simp)
        simp only [joinGo, if_neg hw, wordsOf, wordsGo, List.nil_append] at h1 ⊢
        exact h1
      · have h1 := hC pre (cur ++ [x]) (by simp)
        simp only [joinGo, if_neg hw, wordsGo, ← List.append_assoc] at h1 ⊢
        exact h1

theorem joinB_words (s : List UInt8) : joinB (wordsOf s) = joinGo [] false s := (joinGo_words s).2.1.symm

def relaxedOf (s : List UInt8) : List UInt8 :=
  match cutAt 58 s with
  | none => trimS (lowS s) ++ [58, 13, 10]
  | some p => trimS (lowS p.1) ++ [58] ++ joinB (wordsOf p.2) ++ [13, 10]

def con_FieldsFunc : List AV → Option AV
  | [.str s, .fn 20 []] => if s.length < mid ∧ ascii s = true then some (.sl 1 (strsA (wordsOf s))) else none
  | _ => none

def con_Join : List AV → Option AV
  | [v, .str [32]] => match slStrs v with
    | some l => if (joinB l).length < mid then some (.str (joinB l)) else none
    | none => none
  | _ => none

def plain (s : List UInt8) : Bool := s.all plainB

def con_zzTrimSpace : List AV → Option AV
  | [.str s] => if s.length < mid ∧ plain s = true then some (.str (trimS s)) else none
  | _ => none

def con_relaxedCH : List AV → Option AV
  | [_, .str s] => if s.length < mid ∧ plain s = true ∧ (∀ p, cutAt 58 s = some p → (joinB (wordsOf p.2)).length < mid) then some (.str (relaxedOf s)) else none
  | _ => none

theorem plain_ascii {s : List UInt8} (h : plain s = true) : ascii s = true := by
  simp only [plain, ascii, List.all_eq_true] at h ⊢
  intro b hb
  have := of_decide_eq_true (h b hb)
  exact decide_eq_true (by omega)

theorem plain_low {s : List UInt8} (h : plain s = true) : plain (lowS s) = true := by
  simp only [plain, lowS, List.all_eq_true, List.mem_map] at h ⊢
  rintro b ⟨a, ha, rfl⟩
  have h1 := of_decide_eq_true (h a ha)
  have h2 := lowB_toNat a
  apply plainB_true
  split at h2 <;> omega

theorem ok_relaxedCH (Γ : Gam) (h16 : Γ.fn 16 = con_zzCut) (h17 : Γ.fn 17 = con_zzToLower) (h18 : Γ.fn 18 = con_zzTrimSpace) (h19 : Γ.fn 19 = con_FieldsFunc) (h21 : Γ.fn 21 = con_Join) :
    ∀ args r, con_relaxedCH args = some r → runs Γ c_dkim_relaxedCanonicalizer_CanonicalizeHeader args (fun v => v = r) := by
  intro args r h
  simp only [con_relaxedCH] at h
  split at h <;> (try simp at h; done)
  rename_i v s
  obtain ⟨⟨hs, hp, hj⟩, rfl⟩ := ite_some h
  clear h
  have e1 : s.length < big := by simp only [mid, big] at *; omega
  simp [c_dkim_relaxedCanonicalizer_CanonicalizeHeader]
  simp [acall, h16, con_zzCut, e1]
  have t1 := trimS_length (lowS s)
  simp at t1
  cases hc : cutAt 58 s with
  | none =>
    simp [cutV, hc, acall, h17, con_zzToLower, hs, plain_ascii hp, h18, con_zzTrimSpace, plain_low hp]
    simp only [mid] at hs
    refine ⟨by omega, by omega, ?_⟩
    simp [relaxedOf, hc]
  | some p =>
    obtain ⟨n, w⟩ := p
    have hl := cutAt_length hc
    obtain ⟨x, hx1, hx2, hx3⟩ := cutAt_eq hc
    have hpn : plain n = true ∧ plain w = true := by
      have h2 := hp
      rw [hx2] at h2
      simp only [plain, List.all_append, List.all_cons, Bool.and_eq_true] at h2 ⊢
      exact ⟨h2.1, h2.2.2⟩
    have e2 : n.length < mid := by simp only [mid] at *; omega
    have e3 : w.length < mid := by simp only [mid] at *; omega
    have hj' := hj (n, w) hc
    simp only at hj'
    have t2 := trimS_length (lowS n)
    simp at t2
    have hsl : slStrs (.sl 1 (strsA (wordsOf w))) = some (wordsOf w) := by simp [slStrs]
    simp [cutV, hc, acall, h17, con_zzToLower, e2, plain_ascii hpn.1, h18, con_zzTrimSpace, plain_low hpn.1, h19, con_FieldsFunc, e3, plain_ascii hpn.2, h21, con_Join, hsl, hj']
    simp only [mid] at e2 e3 hj'
    refine ⟨by omega, by omega, by omega, ?_⟩
    simp [relaxedOf, hc]

/-- A field in a form, as the program gives it; false: there is no such form. -/
def canonV (form s : List UInt8) : AV :=
  if form = simpleB then .tup [.str s, .bool true] else if form = relaxedB then .tup [.str (relaxedOf s), .bool true] else .tup [.str [], .bool false]

abbrev relOk (s : List UInt8) : Prop := s.length < mid ∧ plain s = true ∧ (∀ p, cutAt 58 s = some p → (joinB (wordsOf p.2)).length < mid)

theorem rel_ne : ¬ relaxedB = simpleB := by decide

def con_CanonicalHeader : List AV → Option AV
  | [.str form, .str s] => if relOk s then some (canonV form s) else none
  | _ => none

theorem ok_CanonicalHeader (Γ : Gam) (h15 : Γ.fn 15 = con_canonicalizers) (h30 : Γ.fn 30 = con_simpleCH) (h31 : Γ.fn 31 = con_relaxedCH) (m1 : Γ.mth 1 "CanonicalizeHeader" = some 30) (m2 : Γ.mth 2 "CanonicalizeHeader" = some 31) :
    ∀ args r, con_CanonicalHeader args = some r → runs Γ c_dkim_CanonicalHeader args (fun v => v = r) := by
  intro args r h
  simp only [con_CanonicalHeader] at h
  split at h <;> (try simp at h; done)
  rename_i form s
  obtain ⟨hr, rfl⟩ := ite_some h
  clear h
  have e : con_relaxedCH [.ptr [], .str s] = some (.str (relaxedOf s)) := by
    simp only [con_relaxedCH]
    exact if_pos hr
  by_cases f1 : form = simpleB
  · simp [c_dkim_CanonicalHeader, acall, h15, con_canonicalizers, f1, m1, h30, con_simpleCH, canonV]
  · by_cases f2 : form = relaxedB
    · simp [c_dkim_CanonicalHeader, acall, h15, con_canonicalizers, f2, rel_ne, m2, h31, e, canonV]
    · simp [c_dkim_CanonicalHeader, acall, h15, con_canonicalizers, f1, f2, canonV]

def con_DCanonField : List AV → Option AV
  | [.str form, .str s] => if relOk s then some (.str (if form = simpleB then s else if form = relaxedB then relaxedOf s else [])) else none
  | _ => none

theorem con_CanonicalHeader_eq {form s : List UInt8} (hr : relOk s) : con_CanonicalHeader [.str form, .str s] = some (canonV form s) := if_pos hr

theorem ok_DCanonField (Γ : Gam) (h13 : Γ.fn 13 = con_CanonicalHeader) : ∀ args r, con_DCanonField args = some r → runs Γ c_impl_DCanonField args (fun v => v = r) := by
  intro args r h
  simp only [con_DCanonField] at h
  split at h <;> (try simp at h; done)
  rename_i form s
  obtain ⟨hr, rfl⟩ := ite_some h
  clear h
  have e := con_CanonicalHeader_eq (form := form) hr
  clear hr
  by_cases f1 : form = simpleB
  · subst f1; simp [c_impl_DCanonField, acall, h13, e, canonV]
  · by_cases f2 : form = relaxedB
    · subst f2; simp [c_impl_DCanonField, acall, h13, e, canonV, rel_ne]
    · simp [c_impl_DCanonField, acall, h13, e, canonV, f1, f2]

/-- What the statement asks of its own calls: that the list is cut, and a field written, as the set's own samples have it. -/
def con_dAwake : List AV → Option AV
  | [] => some (.bool true)
  | _ => none

def con_FnDCanonFields : List AV → Option AV
  | [.str form, .str field] => if form.length < 9223372036854775808 ∧ field.length < 9223372036854775808 then some (.bool true) else none
  | _ => none

/-- Both give the same field. -/
theorem relaxedOf_eq (s : List UInt8) : relaxedOf s = fieldOf relaxedB s := by
  simp only [relaxedOf, fieldOf, if_neg rel_ne]
  cases cutAt 58 s with
  | none => rfl
  | some p => simp only [joinB_words]

theorem relOk_of {s : List UInt8} (hs : s.length < 549755813888) (hp : plain s = true) : relOk s := by
  refine ⟨by simp only [mid]; omega, hp, ?_⟩
  rintro ⟨n, v⟩ hc
  have h1 := cutAt_length hc
  have h2 := joinGo_length v [] false
  rw [joinB_words]
  simp at h2
  simp only [mid]; omega
end Wax

/- FnDCanonFields: its own text, by its callees' contracts. -/
namespace Wax
open Go (IntKind)

theorem ok_FnDCanonFields (Γ : Gam) (h8 : Γ.fn 8 = con_DCanonField) (h9 : Γ.fn 9 = con_dForm) (h10 : Γ.fn 10 = con_dShort) (h11 : Γ.fn 11 = con_dAwake) (h12 : Γ.fn 12 = con_DFieldOf) :
    ∀ args r, con_FnDCanonFields args = some r → runs Γ c_laws_FnDCanonFields args (fun v => v = r) := by
  intro args r h
  simp only [con_FnDCanonFields] at h
  split at h <;> (try simp at h; done)
  rename_i form field
  obtain ⟨⟨hf, hs⟩, rfl⟩ := ite_some h
  clear h
  have main : form.length ≤ 2147483647 → field.length ≤ 2147483647 → runs Γ c_laws_FnDCanonFields [.str form, .str field] (fun v => v = .bool true) := by
    intro hlf hle
    have hf : form.length < big := by simp only [big]; omega
    have hs : field.length < big := by simp only [big]; omega
    have c10 : con_dShort [.int .i64 2000, .sl 1 [.str field]] = some (.bool (dShort 2000 [field])) := by
      have : slStrs (.sl 1 [.str field]) = some [field] := by simp [slStrs, asStrs]
      simp only [con_dShort, this]
      exact if_pos ⟨by simp [big], by simpa using hs⟩
    by_cases hform : form = simpleB ∨ form = relaxedB
    · by_cases hsh : dShort 2000 [field] = true
      · have hp : plain field = true := by
          have : dPlain 2000 field = true := by simpa [dShort] using hsh
          simp only [dPlain, Bool.and_eq_true] at this
          exact this.1
        have hr : relOk field := relOk_of (by omega) hp
        have c8 : con_DCanonField [.str form, .str field] = some (.str (fieldOf form field)) := by
          have e : con_DCanonField [.str form, .str field] = some (.str (if form = simpleB then field else if form = relaxedB then relaxedOf field else [])) := if_pos hr
          rw [e]
          rcases hform with rfl | rfl
          · simp [fieldOf]
          · rw [if_neg rel_ne, if_pos rfl, relaxedOf_eq]
        have c12 : con_DFieldOf [.str form, .str field] = some (.str (fieldOf form field)) := if_pos (by simp only [mid]; omega)
        simp [c_laws_FnDCanonFields, acall, h9, con_dForm, hform, h10, snap, snapW, resolveA, elems, c10, hsh, h8, c8, h12, c12]
      · simp [c_laws_FnDCanonFields, acall, h9, con_dForm, hform, h10, snap, snapW, resolveA, elems, c10, hsh, h11, con_dAwake]
    · simp [c_laws_FnDCanonFields, acall, h9, con_dForm, hform, h11, con_dAwake]
  by_cases hlf : form.length ≤ 2147483647
  · by_cases hle : field.length ≤ 2147483647
    · exact main hlf hle
    · have hgt : (2147483647 : Int) < (field.length : Int) := by omega
      simp [c_laws_FnDCanonFields, hgt]
  · have hgt : (2147483647 : Int) < (form.length : Int) := by omega
    simp [c_laws_FnDCanonFields, hgt]
end Wax

/- zzTrimSpace: the inner loop does nothing on ASCII. (A slow text: two minutes.) -/
namespace Wax
open Go (IntKind)
set_option maxHeartbeats 1000000 in
theorem trim_inner (Γ : Gam) (Q : APost) (S : List UInt8) (x : UInt8) (i n : Nat) (f t : Int) (hn : S.length = n) (hi : S[i]? = some x) (hx : x.toNat < 128) (hb : n < 1099511627776) (hib : i < 1099511627776)
    (h : Q (.exit 4) ⟨[(0, .str S), (3, .int .i64 f), (4, .int .i64 t), (7, .int .i64 i), (8, .int .i64 1), (54, .bool false)], []⟩) :
    awp Γ b_dkim_zzTrimSpace_2 Q ⟨[(0, .str S), (3, .int .i64 f), (4, .int .i64 t), (7, .int .i64 i), (8, .int .i64 1)], []⟩ := by
  have e192 : ¬ (192 : Int) ≤ (x.toNat : Int) := by omega
  have ew : IntKind.i64.wrap ((i : Int) + 1) = (i : Int) + 1 := wrap64 (by omega) (by omega)
  simp only [b_dkim_zzTrimSpace_2, awp_seq]
  refine awp_region_to ⟨[(0, .str S), (3, .int .i64 f), (4, .int .i64 t), (7, .int .i64 i), (8, .int .i64 1), (54, .bool false)], []⟩ ?_ ?_
  · by_cases hlast : (i : Int) + 1 < (n : Int)
    · have h1 : ((i : Int) + 1 < (n : Int)) = True := eq_true hlast
      simp (maxSteps := 1000000) [ew, hn, hi, e192, h1]
    · have h1 : ((i : Int) + 1 < (n : Int)) = False := eq_false hlast
      simp (maxSteps := 1000000) [ew, hn, h1]
  · simpa using h
end Wax

/- The program's own functions (4): white space around a text, of plain texts. -/
namespace Wax
open Go (IntKind)

theorem decR_ascii {x : UInt8} {r : List UInt8} (h : x.toNat < 128) : decR (x :: r) = (x.toNat, 1) := by
  have e : (⟨(x :: r).toArray⟩ : ByteArray).get! 0 = x := by
    show (x :: r).toArray[0]! = x
    simp
  simp [decR, Go.Utf8.decode, e, h]

theorem plainB_lt {x : UInt8} (h : plainB x = true) : x.toNat < 128 := by
  have := of_decide_eq_true h
  omega

theorem isSp_ws {x : UInt8} (h : plainB x = true) : isSp x.toNat = isWs x.toNat := by
  have := of_decide_eq_true h
  unfold isSp isWs
  apply decide_eq_decide.2
  omega

theorem plain_app {s t : List UInt8} : plain (s ++ t) = (plain s && plain t) := by simp [plain]

theorem trimR_ws {c : List UInt8} {x : UInt8} (h : isWs x.toNat = true) : trimR (c ++ [x]) = trimR c := by simp [trimR, h]
theorem trimR_nw {c : List UInt8} {x : UInt8} (h : isWs x.toNat = false) : trimR (c ++ [x]) = c ++ [x] := by simp [trimR, h]

theorem trimR_prefix (c : List UInt8) : ∃ t, c = trimR c ++ t := by
  obtain ⟨t, ht⟩ := List.dropWhile_suffix (fun b : UInt8 => isWs b.toNat) (l := c.reverse)
  refine ⟨t.reverse, ?_⟩
  have := congrArg List.reverse ht
  simpa [trimR] using this.symm

theorem trimL_app {a b : List UInt8} (ha : ∀ x ∈ a, isWs x.toNat = true) : trimL (a ++ b) = trimL b := by
  induction a with
  | nil => rfl
  | cons x r ih =>
    have h1 := ha x (by simp)
    simp only [trimL, List.cons_append, List.dropWhile_cons, h1, if_true]
    exact ih fun y hy => ha y (by simp [hy])

theorem trimL_nw {b : List UInt8} (hb : ∀ x r, b = x :: r → isWs x.toNat = false) : trimL b = b := by
  cases b with
  | nil => rfl
  | cons x r => simp [trimL, hb x r rfl]

def toV (n : Nat) (a c : List UInt8) : Int := if c = [] then (n : Int) else (a.length : Int) + ((trimR c).length : Int)

theorem trim_loop2 (Γ : Gam) (h23 : Γ.fn 23 = con_zzIsSpace) (a b : List UInt8) (hp : plain (a ++ b) = true) (hs : (a ++ b).length < 1099511627776) (ha : ∀ x ∈ a, isWs x.toNat = true) (hb : ∀ x r, b = x :: r → isWs x.toNat = false) :
    awp Γ (.loop [0, 3, 4, 7] b_dkim_zzTrimSpace_4) (blockQ 2 (thenQ (awp Γ t_dkim_zzTrimSpace_5 (finQ [.t 2] fun v => v = .str (trimS (a ++ b)))) (finQ [.t 2] fun v => v = .str (trimS (a ++ b)))))
      ⟨[(0, .str (a ++ b)), (3, .int .i64 a.length), (4, .int .i64 (a ++ b).length), (7, .int .i64 a.length)], []⟩ := by
  have htrim : trimS (a ++ b) = trimR b := by rw [trimS, trimL_app ha, trimL_nw hb]
  rw [htrim]
  refine awp_loop (σ := List UInt8 × List UInt8) (fun p => ⟨[(0, .str (a ++ b)), (3, .int .i64 a.length), (4, .int .i64 (toV (a ++ b).length a p.1)), (7, .int .i64 (a.length + p.1.length))], []⟩)
    (fun p => b = p.1 ++ p.2) (fun p => p.2.length) ([], b) (by simp [toV]) (by simp) ?_
  rintro ⟨c, d⟩ hcd
  simp only at hcd
  subst hcd
  simp at hs
  cases d with
  | nil =>
    simp [b_dkim_zzTrimSpace_4, t_dkim_zzTrimSpace_5]
    refine ⟨fun h => ?_, fun h => ?_⟩
    · have : c = [] := List.length_eq_zero_iff.1 (by omega)
      subst this; simp [trimR]
    · have hc : c ≠ [] := by intro e; subst e; simp at h
      obtain ⟨t, ht⟩ := trimR_prefix c
      have hl : (trimR c).length ≤ c.length := trimR_length c
      have e1 : toV (a.length + c.length) a c = (a.length : Int) + ((trimR c).length : Int) := if_neg hc
      have e2 : ((a.length : Int) + ((trimR c).length : Int)).toNat = a.length + (trimR c).length := by omega
      rw [e1, e2]
      refine ⟨⟨by omega, by omega⟩, ?_⟩
      rw [List.take_length_add_append, List.drop_left]
      generalize trimR c = q at ht ⊢
      subst ht; simp
  | cons x d =>
    have hpx : plainB x = true := by
      have h1 : (plain a && (plain c && plain (x :: d))) = true := by rw [← plain_app, ← plain_app]; exact hp
      simp only [Bool.and_eq_true, plain, List.all_cons] at h1
      exact h1.2.2.1
    have hx := plainB_lt hpx
    have hx2 : (x.toNat : Int) < 128 := by omega
    have step : ∀ v : Int, v = toV (a ++ (c ++ x :: d)).length a (c ++ [x]) → loopQ [0, 3, 4, 7] (fun p : List UInt8 × List UInt8 => ⟨[(0, .str (a ++ (c ++ x :: d))), (3, .int .i64 a.length), (4, .int .i64 (toV (a ++ (c ++ x :: d)).length a p.1)), (7, .int .i64 (a.length + p.1.length))], []⟩)
        (fun p => c ++ x :: d = p.1 ++ p.2) (fun p => p.2.length) (c, x :: d)
        ⟨[(0, .str (a ++ (c ++ x :: d))), (3, .int .i64 a.length), (4, .int .i64 v), (7, .int .i64 (a.length + c.length + 1))], []⟩ := by
      intro v hv
      subst hv
      refine ⟨(c ++ [x], d), ?_, by simp, by simp⟩
      have : ((a.length : Int) + c.length + 1) = (a.length : Int) + ((c ++ [x]).length : Int) := by simp; omega
      rw [this]
      simp
    generalize hl : loopQ [0, 3, 4, 7] (fun p : List UInt8 × List UInt8 => (⟨[(0, .str (a ++ (c ++ x :: d))), (3, .int .i64 a.length), (4, .int .i64 (toV (a ++ (c ++ x :: d)).length a p.1)), (7, .int .i64 (a.length + p.1.length))], []⟩ : St))
        (fun p => c ++ x :: d = p.1 ++ p.2) (fun p => p.2.length) (c, x :: d) = LQ at step ⊢
    clear hl
    simp at hs
    have hget : (a ++ (c ++ x :: d))[a.length + c.length]? = some x := by
      rw [← List.append_assoc, List.getElem?_append_right (by simp)]; simp
    simp [b_dkim_zzTrimSpace_4]
    refine ⟨fun _ => ?_, fun h => by omega⟩
    refine awp_loop (σ := Unit) (fun _ => ⟨[(0, .str (a ++ (c ++ x :: d))), (3, .int .i64 a.length), (4, .int .i64 (toV (a.length + (c.length + (d.length + 1))) a c)), (7, .int .i64 (a.length + c.length)), (8, .int .i64 1)], []⟩) (fun _ => True) (fun _ => 0) () (by simp) trivial ?_
    intro _ _
    have en : ((a.length : Int) + (c.length : Int)) = ((a.length + c.length : Nat) : Int) := by omega
    have ew : IntKind.i64.wrap ((a.length : Int) + c.length + 1) = (a.length : Int) + c.length + 1 := wrap64 (by omega) (by omega)
    rw [en]
    refine trim_inner Γ _ (a ++ (c ++ x :: d)) x (a.length + c.length) (a.length + (c.length + (d.length + 1))) _ _ (by simp) hget hx (by omega) (by omega) ?_
    rw [← en]
    have en2 : ((a.length : Int) + (c.length : Int)).toNat = a.length + c.length := by omega
    have en3 : ((a.length : Int) + (c.length : Int) + 1).toNat = a.length + c.length + 1 := by omega
    have esl : List.drop (a.length + c.length) (List.take (a.length + c.length + 1) (a ++ (c ++ x :: d))) = [x] := by
      rw [← List.append_assoc, show a.length + c.length = (a ++ c).length by simp, List.take_length_add_append, List.drop_left]; rfl
    have erun : runesF 1 [x] = [x.toNat] := by simp [runesF, decR_ascii hx]
    simp [t_dkim_zzTrimSpace_3, ew, en2, en3, esl, erun, rcA, acall, h23, con_zzIsSpace, hx2]
    refine ⟨⟨by omega, by omega, by omega⟩, fun hw => step _ ?_, fun hw => step _ ?_⟩
    · rw [isSp_ws hpx] at hw
      simp [toV, trimR_nw hw]
      try omega
    · rw [isSp_ws hpx] at hw
      have hc : c ≠ [] := by
        intro e; subst e
        rw [hb x d rfl] at hw; simp at hw
      simp [toV, hc, trimR_ws hw]

theorem ok_zzTrimSpace (Γ : Gam) (h23 : Γ.fn 23 = con_zzIsSpace) : ∀ args r, con_zzTrimSpace args = some r → runs Γ c_dkim_zzTrimSpace args (fun v => v = r) := by
  intro args r h
  simp only [con_zzTrimSpace] at h
  split at h <;> (try simp at h; done)
  rename_i s
  obtain ⟨⟨hs, hp⟩, rfl⟩ := ite_some h
  clear h
  simp only [mid] at hs
  simp [c_dkim_zzTrimSpace]
  refine awp_loop (σ := List UInt8 × List UInt8) (fun p => ⟨[(0, .str s), (3, .int .i64 s.length), (4, .int .i64 s.length), (16, .ref 16 0)], [(16, .sit s p.1.length)]⟩)
    (fun p => s = p.1 ++ p.2 ∧ ∀ x ∈ p.1, isWs x.toNat = true) (fun p => p.2.length) ([], s) (by simp) (by simp) ?_
  rintro ⟨a, b⟩ ⟨hs1, ha⟩
  simp only at hs1 ha
  cases b with
  | nil =>
    simp at hs1
    subst hs1
    simp [b_dkim_zzTrimSpace_1, t_dkim_zzTrimSpace_6]
    have := trim_loop2 Γ h23 s [] (by simpa using hp) (by simpa using hs) ha (by simp)
    simpa using this
  | cons x b =>
    subst hs1
    have hpx : plainB x = true ∧ plain b = true := by
      have : (plain a && plain (x :: b)) = true := by rw [← plain_app]; exact hp
      simp only [Bool.and_eq_true] at this
      have h2 := this.2
      simp only [plain, List.all_cons, Bool.and_eq_true] at h2
      exact h2
    have e1 : List.drop a.length (a ++ x :: b) = x :: b := by simp
    have hx := plainB_lt hpx.1
    have hx2 : (x.toNat : Int) < 128 := by omega
    simp [b_dkim_zzTrimSpace_1, t_dkim_zzTrimSpace_6, e1, decR_ascii hx, acall, h23, con_zzIsSpace, hx2]
    refine ⟨fun hw => ?_, fun hw => ?_⟩
    · have := trim_loop2 Γ h23 a (x :: b) hp hs ha (fun y r e => by injection e with e1 e2; subst e1; rw [← isSp_ws hpx.1]; exact hw)
      simpa using this
    · refine ⟨(a ++ [x], b), by simp, ⟨by simp, ?_⟩, by simp⟩
      intro y hy
      simp at hy
      rcases hy with hy | rfl
      · exact ha y hy
      · rw [← isSp_ws hpx.1]; exact hw
end Wax

/- Loops with a named end; growing slices; what a caller gets back. -/
namespace Wax
open Go (IntKind)

/-- A loop by a ghost; a round's end is a state of a smaller ghost. -/
theorem awp_loop2 {σ : Type} {Γ : Gam} {Q : APost} {st : St} {live : List Nat} {c : SCode} (f : σ → St) (ok : σ → Prop) (m : σ → Nat) (s0 : σ) (h0 : norm live st = f s0) (hok : ok s0)
    (hr : ∀ s, ok s → ∀ LQ : St → Prop, (∀ s', ok s' → m s' < m s → ∀ st, norm live st = f s' → LQ st) → awp Γ c (thenQ LQ Q) (f s)) : awp Γ (.loop live c) Q st := by
  refine awp_loop f ok m s0 h0 hok fun s hs => hr s hs _ ?_
  intro s' h1 h2 st h3
  exact ⟨s', h3, h1, h2⟩

@[simp] theorem reach_nil {hp : List (Nat × AObj)} {n : Nat} {acc : List Nat} : reach hp n [] acc = acc := by cases n <;> rfl
theorem reach_succ {hp : List (Nat × AObj)} {n i : Nat} {r acc : List Nat} : reach hp (n + 1) (i :: r) acc = if acc.contains i then reach hp n r acc else reach hp n (r ++ (match hlk hp i with | some o => refsO o | none => [])) (acc ++ [i]) := rfl

/-- A slice that grows from nil. -/
def grV (d es n : Nat) : AV := match n with | 0 => .nilS | n + 1 => .msl d es 0 (n + 1)
def grH (d n : Nat) (cs : List AV) : List (Nat × AObj) := match n with | 0 => [] | _ + 1 => [(d, .cells cs)]
@[simp] theorem grV_zero {d es : Nat} : grV d es 0 = .nilS := rfl
@[simp] theorem grH_zero {d : Nat} {cs : List AV} : grH d 0 cs = [] := rfl
@[simp] theorem grV_succ {d es n : Nat} : grV d es (n + 1) = .msl d es 0 (n + 1) := rfl
@[simp] theorem grH_succ {d n : Nat} {cs : List AV} : grH d (n + 1) cs = [(d, .cells cs)] := rfl

@[simp] theorem strsA_nil : strsA [] = [] := rfl
@[simp] theorem strsA_cons {x : List UInt8} {l : List (List UInt8)} : strsA (x :: l) = .str x :: strsA l := rfl
@[simp] theorem strsA_app {l m : List (List UInt8)} : strsA (l ++ m) = strsA l ++ strsA m := by simp [strsA]
@[simp] theorem atoms_strsA {l : List (List UInt8)} : atoms (strsA l) = true := by induction l <;> simp_all
@[simp] theorem killL_strsA {d : Nat} {l : List (List UInt8)} : killL d (strsA l) = strsA l := by induction l <;> simp_all
@[simp] theorem hasRefL_strsA {l : List (List UInt8)} : hasRefL (strsA l) = false := by induction l <;> simp_all
@[simp] theorem refsL_strsA {l : List (List UInt8)} : refsL (strsA l) = [] := by induction l <;> simp_all
@[simp] theorem mapIdL_strsA {g : Nat → Nat} {l : List (List UInt8)} : mapIdL g (strsA l) = strsA l := by induction l <;> simp_all
@[simp] theorem hasRefL_bcA {l : List UInt8} : hasRefL (bcA l) = false := by induction l <;> simp_all
@[simp] theorem refsL_bcA {l : List UInt8} : refsL (bcA l) = [] := by induction l <;> simp_all
@[simp] theorem mapIdL_bcA {g : Nat → Nat} {l : List UInt8} : mapIdL g (bcA l) = bcA l := by induction l <;> simp_all
@[simp] theorem strsA_drop {l : List (List UInt8)} {i : Nat} : (strsA l).drop i = strsA (l.drop i) := by simp [strsA, List.map_drop]
@[simp] theorem strsA_take {l : List (List UInt8)} {i : Nat} : (strsA l).take i = strsA (l.take i) := by simp [strsA, List.map_take]
@[simp] theorem strsA_set {l : List (List UInt8)} {i : Nat} {x : List UInt8} : (strsA l).set i (.str x) = strsA (l.set i x) := by simp [strsA, List.map_set]
@[simp] theorem snapWL_strsA {g : AV → AV} {l : List (List UInt8)} : snapWL g (strsA l) = strsA l := by induction l <;> simp_all
@[simp] theorem snapWL_bcA {g : AV → AV} {l : List UInt8} : snapWL g (bcA l) = bcA l := by induction l <;> simp_all
@[simp] theorem map_snap_strsA {n : Nat} {hp : List (Nat × AObj)} {l : List (List UInt8)} : (strsA l).map (snap (n + 1) hp) = strsA l := by induction l <;> simp_all [snap]
@[simp] theorem map_snap_bcA {n : Nat} {hp : List (Nat × AObj)} {l : List UInt8} : (bcA l).map (snap (n + 1) hp) = bcA l := by induction l <;> simp_all [snap]

@[simp] theorem refsL_app {a b : List AV} : refsL (a ++ b) = refsL a ++ refsL b := by induction a <;> simp_all
@[simp] theorem mapIdL_app {g : Nat → Nat} {a b : List AV} : mapIdL g (a ++ b) = mapIdL g a ++ mapIdL g b := by induction a <;> simp_all
@[simp] theorem hasRefL_app {a b : List AV} : hasRefL (a ++ b) = (hasRefL a || hasRefL b) := by induction a <;> simp_all [Bool.or_assoc]
@[simp] theorem snapWL_app {g : AV → AV} {a b : List AV} : snapWL g (a ++ b) = snapWL g a ++ snapWL g b := by induction a <;> simp_all
@[simp] theorem map_snapW_strsA {g : AV → AV} {l : List (List UInt8)} : (strsA l).map (snapW g) = strsA l := by induction l <;> simp_all
@[simp] theorem map_snapW_bcA {g : AV → AV} {l : List UInt8} : (bcA l).map (snapW g) = bcA l := by induction l <;> simp_all
@[simp high] theorem aload_ref {hp : List (Nat × AObj)} {id off : Nat} : aload hp none (.ref id off) = (oCells (hlk hp id)).bind fun cs => cs[off]?.bind fun c => if atom c = true then some c else none := by
  simp only [aload]
  cases hlk hp id with
  | none => rfl
  | some o => cases o <;> simp only [oCells, Option.bind_some, loadC_drop] <;> rfl
theorem get_mid {α : Type} {a b : List α} {x : α} {n : Nat} (h : a.length = n) : (a ++ x :: b)[n]? = some x := by
  subst h; rw [List.getElem?_append_right (Nat.le_refl _)]; simp
theorem set_mid {α : Type} {a b : List α} {x y : α} {n : Nat} (h : a.length = n) : (a ++ x :: b).set n y = a ++ y :: b := by
  subst h; simp
@[simp] theorem spliceL_more {cs : List AV} {i : Nat} {x y : AV} {r : List AV} : spliceL cs i (x :: y :: r) = spliceL (cs.set i x) (i + 1) (y :: r) := rfl
@[simp] theorem killL_repl {d n : Nat} {v : AV} : killL d (List.replicate n v) = List.replicate n (kill d v) := by induction n <;> simp_all [List.replicate_succ]
@[simp] theorem refsL_repl {n : Nat} {v : AV} (h : refs v = []) : refsL (List.replicate n v) = [] := by induction n <;> simp_all [List.replicate_succ]
@[simp] theorem mapIdL_repl {g : Nat → Nat} {n : Nat} {v : AV} : mapIdL g (List.replicate n v) = List.replicate n (mapId g v) := by induction n <;> simp_all [List.replicate_succ]
@[simp] theorem atoms_repl {n : Nat} {v : AV} (h : atom v = true) : atoms (List.replicate n v) = true := by induction n <;> simp_all [List.replicate_succ]
theorem xor_neg1 (n : Int) : IntKind.i64.wrap ((BitVec.ofInt 64 (-1) ^^^ BitVec.ofInt 64 n).toNat : Int) = IntKind.i64.wrap (-n - 1) := by
  have e : BitVec.ofInt 64 (-1) ^^^ BitVec.ofInt 64 n = ~~~ BitVec.ofInt 64 n := by
    have : BitVec.ofInt 64 (-1) = BitVec.allOnes 64 := by decide
    rw [this, BitVec.allOnes_xor]
  rw [e, BitVec.toNat_not, BitVec.toNat_ofInt, IntKind.wrap_i64, IntKind.wrap_i64]
  omega
@[simp high] theorem aun_xor64 {n : Int} : aun .xor (.int .i64 n) = some (.int .i64 (IntKind.i64.wrap (-n - 1))) := by
  have := xor_neg1 n
  show some (AV.int .i64 (IntKind.i64.wrap ((BitVec.ofInt 64 (-1) ^^^ BitVec.ofInt 64 n).toNat : Int))) = _
  rw [this]
@[simp high] theorem aun_not {b : Bool} : aun .not (.bool b) = some (.bool (!b)) := rfl
@[simp high] theorem aun_neg {k : IntKind} {n : Int} : aun .neg (.int k n) = some (.int k (k.wrap (0 - n))) := rfl

section
variable {n : Nat} {hp : List (Nat × AObj)}
@[simp] theorem snap_junk : snap (n + 1) hp .junk = .junk := rfl
@[simp] theorem snap_bool {b} : snap (n + 1) hp (.bool b) = .bool b := rfl
@[simp] theorem snap_int {k m} : snap (n + 1) hp (.int k m) = .int k m := rfl
@[simp] theorem snap_str {s} : snap (n + 1) hp (.str s) = .str s := rfl
@[simp] theorem snap_nilI : snap (n + 1) hp .nilI = .nilI := rfl
@[simp] theorem snap_nilP : snap (n + 1) hp .nilP = .nilP := rfl
@[simp] theorem snap_nilF : snap (n + 1) hp .nilF = .nilF := rfl
@[simp] theorem snap_nilM : snap (n + 1) hp .nilM = .nilM := rfl
@[simp] theorem snap_nilS : snap (n + 1) hp .nilS = .nilS := rfl
@[simp] theorem snap_sl {e xs} : snap (n + 1) hp (.sl e xs) = .sl e xs := rfl
@[simp] theorem snap_ptr {cs} : snap (n + 1) hp (.ptr cs) = .ptr cs := rfl
@[simp] theorem snap_mp {es} : snap (n + 1) hp (.mp es) = .mp es := rfl
@[simp] theorem snap_ifc {t v} : snap (n + 1) hp (.ifc t v) = .ifc t (snap (n + 1) hp v) := rfl
theorem snapWL_map {g : AV → AV} : ∀ l : List AV, snapWL g l = l.map (snapW g)
  | [] => rfl
  | x :: r => by simp [snapWL, snapWL_map r]
@[simp] theorem snap_agg {cs} : snap (n + 1) hp (.agg cs) = .agg (cs.map (snap (n + 1) hp)) := by
  show AV.agg (snapWL _ cs) = _
  rw [snapWL_map]; rfl
@[simp] theorem snap_tup {cs} : snap (n + 1) hp (.tup cs) = .tup (cs.map (snap (n + 1) hp)) := by
  show AV.tup (snapWL _ cs) = _
  rw [snapWL_map]; rfl
@[simp] theorem snap_fn {f cs} : snap (n + 1) hp (.fn f cs) = .fn f (cs.map (snap (n + 1) hp)) := by
  show AV.fn f (snapWL _ cs) = _
  rw [snapWL_map]; rfl
@[simp] theorem snap_ref {id off} : snap (n + 1) hp (.ref id off) = match oCells (hlk hp id) with | some cs => .ptr ((cs.drop off).map (snap n hp)) | none => .junk := by
  show resolveA (snap n hp) hp (.ref id off) = _
  simp only [resolveA]
  cases hlk hp id with
  | none => rfl
  | some o => cases o <;> rfl
@[simp] theorem snap_msl {id es off m} : snap (n + 1) hp (.msl id es off m) = match oCells (hlk hp id) with | some cs => if off + m * es ≤ cs.length ∧ atoms cs = true ∧ 0 < es then .sl es (elems es m ((cs.drop off).map (snap n hp))) else .junk | none => .junk := by
  show resolveA (snap n hp) hp (.msl id es off m) = _
  simp only [resolveA]
  cases hlk hp id with
  | none => rfl
  | some o => cases o <;> rfl
@[simp] theorem snap_mref {id} : snap (n + 1) hp (.mref id) = match oMp (hlk hp id) with | some es => .mp es | none => .junk := by
  show resolveA (snap n hp) hp (.mref id) = _
  simp only [resolveA]
  cases hlk hp id with
  | none => rfl
  | some o => cases o <;> rfl
end
end Wax

/- The program's own functions: splitting, lists of tags. -/
namespace Wax
open Go (IntKind)

/-- What stands between the places of a byte. -/
def splitB (b : UInt8) : List UInt8 → List (List UInt8)
  | [] => [[]]
  | x :: r => if x = b then [] :: splitB b r else match splitB b r with
    | [] => [[x]]
    | h :: t => (x :: h) :: t

theorem splitB_ne (b : UInt8) (s : List UInt8) : splitB b s ≠ [] := by
  cases s with
  | nil => simp [splitB]
  | cons x r => simp only [splitB]; split; simp; split <;> simp

theorem splitB_cut (b : UInt8) : ∀ (s : List UInt8), splitB b s = match cutAt b.toNat s with | none => [s] | some (a, c) => a :: splitB b c
  | [] => rfl
  | x :: r => by
    have ih := splitB_cut b r
    simp only [splitB, cutAt]
    by_cases e : x = b
    · subst e; simp
    · have e1 : ¬ (x.toNat : Int) = (b.toNat : Int) := fun h => e (UInt8.toNat_inj.1 (by omega))
      rw [if_neg e, if_neg e1, ih]
      cases cutAt b.toNat r with
      | none => rfl
      | some p => rfl

theorem splitB_length (b : UInt8) : ∀ (s : List UInt8), (splitB b s).length ≤ s.length + 1
  | [] => by simp [splitB]
  | x :: r => by
    have ih := splitB_length b r
    simp only [splitB]
    split
    · simp; omega
    · split
      · simp
      · rename_i h t e; rw [e] at ih; simp at ih ⊢; omega

theorem splitB_mem_length (b : UInt8) : ∀ (s p : List UInt8), p ∈ splitB b s → p.length ≤ s.length
  | [], p, h => by simp [splitB] at h; subst h; simp
  | x :: r, p, h => by
    have ih := splitB_mem_length b r
    simp only [splitB] at h
    split at h
    · rcases List.mem_cons.1 h with e | h
      · subst e; simp
      · have := ih p h; simp; omega
    · split at h
      · simp at h; subst h; simp
      · rename_i hd t e
        rcases List.mem_cons.1 h with e' | h
        · subst e'
          have := ih hd (by rw [e]; simp); simp; omega
        · have := ih p (by rw [e]; simp [h]); simp; omega

def con_zzSplit : List AV → List (Nat × AObj) → Option (AV × List (Nat × AObj))
  | [.str s, .str [b]], [] => if s.length < mid then some (.msl 0 1 0 (splitB b s).length, [(0, .cells (strsA (splitB b s)))]) else none
  | _, _ => none

theorem ok_zzSplit (Γ : Gam) (h22 : Γ.fn 22 = con_zzIndex) : ∀ args hp q, con_zzSplit args hp = some q → runsS Γ c_dkim_zzSplit args hp (fun v => v = some q) := by
  intro args hp q h
  simp only [con_zzSplit] at h
  split at h <;> (try simp at h; done)
  rename_i s b
  obtain ⟨hs, rfl⟩ := ite_some h
  clear h
  simp only [mid] at hs
  have h1 : 1 < big := by decide
  simp [c_dkim_zzSplit, t_dkim_zzSplit_4]
  refine awp_loop2 (σ := List (List UInt8) × List UInt8) (fun p => ⟨[(0, .str p.2), (1, .str [b]), (5, grV 51 1 p.1.length)], grH 51 p.1.length (strsA p.1)⟩)
    (fun p => splitB b s = p.1 ++ splitB b p.2 ∧ p.1.length + p.2.length ≤ s.length) (fun p => p.2.length) ([], s) (by simp) (by simp) ?_
  rintro ⟨done, cur⟩ ⟨hs1, hs2⟩ LQ hLQ
  simp only at hs1 hs2
  have hcb : cur.length < big := by simp only [big]; omega
  simp [b_dkim_zzSplit_3, acall, h22, con_zzIndex, hcb, h1]
  simp only [idxV, findAt_one]
  rw [splitB_cut b cur] at hs1
  cases hc : cutAt b.toNat cur with
  | none =>
    simp only [hc] at hs1
    rw [hs1]
    cases done with
    | nil => simp [reach_succ]
    | cons d0 dr =>
      simp [reach_succ]
      simp at hs2
      omega
  | some p =>
    obtain ⟨a, c⟩ := p
    simp only [hc] at hs1
    obtain ⟨x, hx1, hx2, hx3⟩ := cutAt_eq hc
    subst hx2
    simp at hs2
    have fin : ∀ st, norm [0, 1, 5] st = ⟨[(0, .str c), (1, .str [b]), (5, grV 51 1 (done ++ [a]).length)], grH 51 (done ++ [a]).length (strsA (done ++ [a]))⟩ → LQ st := by
      intro st hst
      exact hLQ (done ++ [a], c) ⟨by simpa using hs1, by simp; omega⟩ (by simp; omega) st hst
    have e2 : ((a.length : Int) + 1).toNat = a.length + 1 := by omega
    cases done with
    | nil =>
      simp (disch := omega) [wrap64]
      refine ⟨by omega, by omega, ⟨by omega, by omega⟩, fin _ ?_⟩
      simp
    | cons d0 dr =>
      simp at hs2
      simp (disch := omega) [wrap64]
      refine ⟨by omega, by omega, by omega, ⟨by omega, by omega⟩, fin _ ?_⟩
      simp
end Wax

/- The program's own functions: lists of tags; runes of plain texts. -/
namespace Wax
open Go (IntKind)

theorem decA {x : UInt8} {r : List UInt8} (h : x.toNat < 128) : decR (x :: r) = (x.toNat, 1) := by
  have e : (⟨(x :: r).toArray⟩ : ByteArray).get! 0 = x := by
    show (x :: r).toArray[0]! = x
    simp
  simp [decR, Go.Utf8.decode, e, h]

theorem hvA {x : UInt8} (h : x.toNat < 128) : Go.Utf8.valid (x.toNat : Int) = true := by
    unfold Go.Utf8.valid
    have h1 : decide ((0:Int) ≤ x.toNat) = true := decide_eq_true (Int.natCast_nonneg _)
    have h2 : decide ((x.toNat : Int) < 0xD800) = true := decide_eq_true (by omega)
    rw [h1, h2]; rfl
theorem encA1 {x : UInt8} (h : x.toNat < 128) : Go.Utf8.encode (x.toNat : Int) = ⟨#[x]⟩ := by
  have hv := hvA h
  have e : UInt8.ofNat x.toNat = x := by simp
  have e2 : (if Go.Utf8.valid (x.toNat : Int) = true then (x.toNat : Int).toNat else Go.Utf8.runeError) = x.toNat := by rw [if_pos hv]; simp
  simp only [Go.Utf8.encode, e2, e, h, if_true]
theorem encA {x : UInt8} (h : x.toNat < 128) : encR (x.toNat : Int) = [x] := by
  rw [encR, encA1 h]

theorem ascii_lt {x : UInt8} {s : List UInt8} (h : ascii (x :: s) = true) : x.toNat < 128 ∧ ascii s = true := by
  rw [ascii_cons] at h; simpa using h

/-- A text without white space. -/
def stripS (s : List UInt8) : List UInt8 := s.filter fun b => !isSp b.toNat

def con_stripWhitespace : List AV → Option AV
  | [.str s] => if s.length < mid ∧ ascii s = true then some (.str (stripS s)) else none
  | _ => none

set_option maxRecDepth 100000 in
theorem ok_stripWhitespace (Γ : Gam) (h23 : Γ.fn 23 = con_zzIsSpace) : ∀ args r, con_stripWhitespace args = some r → runs Γ c_dkim_stripWhitespace args (fun v => v = r) := by
  intro args r h
  simp only [con_stripWhitespace] at h
  split at h <;> (try simp at h; done)
  rename_i s
  obtain ⟨⟨hs, ha⟩, rfl⟩ := ite_some h
  clear h
  simp only [mid] at hs
  simp [c_dkim_stripWhitespace]
  refine awp_loop2 (σ := List UInt8 × List UInt8) (fun p => ⟨[(3, outV 17 (stripS p.1)), (7, .ref 7 0)], outH 17 (stripS p.1) ++ [(7, .sit s p.1.length)]⟩)
    (fun p => s = p.1 ++ p.2) (fun p => p.2.length) ([], s) (by simp [stripS]) (by simp) ?_
  rintro ⟨pre, post⟩ hs1 LQ hLQ
  simp only at hs1
  subst hs1
  have hlen : (stripS pre).length ≤ pre.length := List.length_filter_le _ _
  cases post with
  | nil =>
    simp at hs
    by_cases ho : stripS pre = []
    · simp [b_dkim_stripWhitespace_1, t_dkim_stripWhitespace_2, ho]
    · simp [b_dkim_stripWhitespace_1, t_dkim_stripWhitespace_2, outV_ne ho, outH_ne ho, List.take_of_length_le]
  | cons x post =>
    have hx := (ascii_lt (by rw [ascii_app] at ha; simp only [Bool.and_eq_true] at ha; exact ha.2 : ascii (x :: post) = true)).1
    simp at hs
    have fin : ∀ st, norm [3, 7] st = ⟨[(3, outV 17 (stripS (pre ++ [x]))), (7, .ref 7 0)], outH 17 (stripS (pre ++ [x])) ++ [(7, .sit (pre ++ x :: post) (pre.length + 1))]⟩ → LQ st := by
      intro st hst
      exact hLQ (pre ++ [x], post) (by simp) (by simp) st (by simpa using hst)
    have hk : con_zzIsSpace [.int .i32 (x.toNat : Int)] = some (.bool (isSp x.toNat)) := by
      simp only [con_zzIsSpace]; exact if_pos (by omega)
    have e1 : (x.toNat : Int) < 128 := by omega
    cases hsp : isSp x.toNat with
    | true =>
      have e : stripS (pre ++ [x]) = stripS pre := by simp [stripS, hsp]
      rw [e] at fin
      by_cases ho : stripS pre = []
      · rw [ho] at fin
        simp [b_dkim_stripWhitespace_1, ho, decA hx, acall, h23, hk, hsp]
        exact fin _ (by simp)
      · rw [outV_ne ho, outH_ne ho] at fin
        simp [b_dkim_stripWhitespace_1, outV_ne ho, outH_ne ho, decA hx, acall, h23, hk, hsp]
        exact fin _ (by simp)
    | false =>
      have e : stripS (pre ++ [x]) = stripS pre ++ [x] := by simp [stripS, hsp]
      rw [e, outV_ne (by simp), outH_ne (by simp)] at fin
      by_cases ho : stripS pre = []
      · rw [ho] at fin
        simp [b_dkim_stripWhitespace_1, ho, decA hx, acall, h23, hk, hsp, encA hx]
        exact fin _ (by simp)
      · simp [b_dkim_stripWhitespace_1, outV_ne ho, outH_ne ho, decA hx, acall, h23, hk, hsp, encA hx]
        refine ⟨by omega, fin _ (by simp)⟩

/-- Texts between colons, without white space. -/
def tagL (s : List UInt8) : List (List UInt8) := (splitB 58 s).map stripS

def con_parseTagList : List AV → Option AV
  | [.str s] => if s.length < mid ∧ ascii s = true then some (.sl 1 (strsA (tagL s))) else none
  | _ => none

theorem splitB_ascii (b : UInt8) : ∀ (s p : List UInt8), ascii s = true → p ∈ splitB b s → ascii p = true
  | [], p, _, h => by simp [splitB] at h; subst h; rfl
  | x :: r, p, ha, h => by
    obtain ⟨hx, ha⟩ := ascii_lt ha
    have ih := splitB_ascii b r
    simp only [splitB] at h
    split at h
    · rcases List.mem_cons.1 h with e | h
      · subst e; rfl
      · exact ih p ha h
    · split at h
      · simp at h; subst h; simp [ascii_cons, hx]; rfl
      · rename_i hd t e
        rcases List.mem_cons.1 h with e' | h
        · subst e'
          rw [ascii_cons, ih hd ha (by rw [e]; simp)]; simp [hx]
        · exact ih p ha (by rw [e]; simp [h])

theorem ok_parseTagList (Γ : Gam) (s25 : Γ.st 25 = con_zzSplit) (h26 : Γ.fn 26 = con_stripWhitespace) : ∀ args r, con_parseTagList args = some r → runs Γ c_dkim_parseTagList args (fun v => v = r) := by
  intro args r h
  simp only [con_parseTagList] at h
  split at h <;> (try simp at h; done)
  rename_i s
  obtain ⟨⟨hs, ha⟩, rfl⟩ := ite_some h
  clear h
  have hsp : con_zzSplit [.str s, .str [58]] [] = some (.msl 0 1 0 (splitB 58 s).length, [(0, .cells (strsA (splitB 58 s)))]) := if_pos hs
  simp only [mid] at hs
  have hl := splitB_length 58 s
  simp [c_dkim_parseTagList, acallS, s25, hsp]
  refine awp_loop2 (σ := List (List UInt8) × List (List UInt8)) (fun p => ⟨[(3, .msl 7 1 0 (splitB 58 s).length), (8, .msl 7 1 0 (splitB 58 s).length), (9, .int .i64 (splitB 58 s).length), (10, .int .i64 p.1.length)], [(7, .cells (strsA (p.1.map stripS ++ p.2)))]⟩)
    (fun p => splitB 58 s = p.1 ++ p.2) (fun p => p.2.length) ([], splitB 58 s) (by simp) (by simp) ?_
  rintro ⟨pre, post⟩ hs1 LQ hLQ
  simp only at hs1
  cases post with
  | nil =>
    simp at hs1
    simp [b_dkim_parseTagList_1, t_dkim_parseTagList_2, hs1, tagL, snap, resolveA, List.take_of_length_le]
  | cons x post =>
    have hxl : x.length < 1099511627776 := by
      have := splitB_mem_length 58 s x (by rw [hs1]; simp)
      omega
    have hxa : ascii x = true := splitB_ascii 58 s x ha (by rw [hs1]; simp)
    have hk : con_stripWhitespace [.str x] = some (.str (stripS x)) := if_pos ⟨hxl, hxa⟩
    have hlen : (splitB 58 s).length = pre.length + post.length + 1 := by rw [hs1]; simp; omega
    simp (disch := first | omega | simp) [b_dkim_parseTagList_1, hlen, acall, h26, hk, wrap64, get_mid, set_mid]
    refine ⟨fun _ => ⟨by omega, ?_⟩, fun _ => by omega⟩
    refine hLQ (pre ++ [x], post) (by simp [hs1]) (by simp) _ ?_
    simp [hlen]

def con_TagList : List AV → Option AV := con_parseTagList
theorem ok_TagList (Γ : Gam) (h24 : Γ.fn 24 = con_parseTagList) : ∀ args r, con_TagList args = some r → runs Γ c_dkim_TagList args (fun v => v = r) := by
  intro args r h
  simp only [con_TagList] at h
  have h' := h
  simp only [con_parseTagList] at h
  split at h <;> (try simp at h; done)
  obtain ⟨_, rfl⟩ := ite_some h
  simp [c_dkim_TagList, acall, h24, h']

theorem ok_DList (Γ : Gam) (h14 : Γ.fn 14 = con_TagList) : ∀ args r, con_TagList args = some r → runs Γ c_impl_DList args (fun v => v = r) := by
  intro args r h
  have h' := h
  simp only [con_TagList, con_parseTagList] at h
  split at h <;> (try simp at h; done)
  obtain ⟨_, rfl⟩ := ite_some h
  simp [c_impl_DList, acall, h14, h']

theorem ok_dAwake (Γ : Gam) (h7 : Γ.fn 7 = con_TagList) (h8 : Γ.fn 8 = con_DCanonField) : ∀ args r, con_dAwake args = some r → runs Γ c_laws_dAwake args (fun v => v = r) := by
  intro args r h
  simp only [con_dAwake] at h
  split at h <;> (try simp at h; done)
  injection h with h; subst h
  have k7 : con_TagList [.str [97, 58, 98]] = some (.sl 1 (strsA [[97], [98]])) := by
    simp only [con_TagList, con_parseTagList]
    rw [if_pos ⟨by decide, by decide⟩]
    rfl
  have k8 : con_DCanonField [.str [114, 101, 108, 97, 120, 101, 100], .str [65, 58, 32, 66, 13, 10]] = some (.str [97, 58, 66, 13, 10]) := by
    simp only [con_DCanonField]
    rw [if_pos (relOk_of (by decide) (by decide))]
    rfl
  simp [c_laws_dAwake, acall, h7, h8, k7, k8]
end Wax

/- strings.FieldsFunc, of plain texts and of the program's own test of white space. -/
namespace Wax
open Go (IntKind)

def spA (l : List (Nat × Nat)) : List AV := l.flatMap fun p => [.int .i64 (p.1 : Int), .int .i64 (p.2 : Int)]
@[simp] theorem spA_nil : spA [] = [] := rfl
@[simp] theorem spA_cons {p : Nat × Nat} {l : List (Nat × Nat)} : spA (p :: l) = .int .i64 (p.1 : Int) :: .int .i64 (p.2 : Int) :: spA l := rfl
@[simp] theorem spA_app {l m : List (Nat × Nat)} : spA (l ++ m) = spA l ++ spA m := by simp [spA]
@[simp] theorem spA_length {l : List (Nat × Nat)} : (spA l).length = 2 * l.length := by induction l <;> simp_all; omega
@[simp] theorem atoms_spA {l : List (Nat × Nat)} : atoms (spA l) = true := by induction l <;> simp_all
@[simp] theorem take_spA {a b : AV} {l : List (Nat × Nat)} : List.take ((l.length + 1) * 2) (a :: b :: spA l) = a :: b :: spA l := List.take_of_length_le (by simp; omega)
@[simp] theorem killL_spA {d : Nat} {l : List (Nat × Nat)} : killL d (spA l) = spA l := by induction l <;> simp_all

def cutS (s : List UInt8) (p : Nat × Nat) : List UInt8 := (s.take p.2).drop p.1

theorem ff_loop2 (Γ : Gam) (Q : APost) (s : List UInt8) (sp : List (Nat × Nat)) (d : Nat) (hd : d ≠ 46 ∧ d ≠ 11) (hs : s.length < 1099511627776) (hl : sp.length < 2199023255552) (hsp : ∀ p ∈ sp, p.1 ≤ p.2 ∧ p.2 ≤ s.length)
    (hQ : Q (.exit 2) ⟨[(0, .str s), (9, .msl 46 1 0 sp.length), (47, .msl d 2 0 sp.length), (48, .int .i64 sp.length), (49, .int .i64 sp.length), (50, .bool false)], [(46, .cells (strsA (sp.map (cutS s)))), (d, .cells (spA sp))]⟩) :
    awp Γ (.loop [0, 9, 47, 48, 49] b_strings_FieldsFunc_2) Q ⟨[(0, .str s), (9, .msl 46 1 0 sp.length), (47, .msl d 2 0 sp.length), (48, .int .i64 sp.length), (49, .int .i64 0)], [(46, .cells (List.replicate sp.length (.str []))), (d, .cells (spA sp))]⟩ := by
  have hd1 : ¬ 46 = d := fun h => hd.1 h.symm
  have hd2 : ¬ 11 = d := fun h => hd.2 h.symm
  refine awp_loop2 (σ := List (Nat × Nat) × List (Nat × Nat)) (fun p => ⟨[(0, .str s), (9, .msl 46 1 0 sp.length), (47, .msl d 2 0 sp.length), (48, .int .i64 sp.length), (49, .int .i64 p.1.length)], [(46, .cells (strsA (p.1.map (cutS s)) ++ List.replicate p.2.length (.str []))), (d, .cells (spA sp))]⟩)
    (fun p => sp = p.1 ++ p.2) (fun p => p.2.length) ([], sp) (by simp) (by simp) ?_
  rintro ⟨pre, post⟩ hs1 LQ hLQ
  simp only at hs1
  subst hs1
  cases post with
  | nil =>
    simp at hQ
    simp [b_strings_FieldsFunc_2, hQ]
  | cons x post =>
    have hx := hsp x (by simp)
    simp at hl
    have e1 : List.drop (pre.length * 2) (spA pre ++ (AV.int .i64 (x.1 : Int) :: .int .i64 (x.2 : Int) :: spA post)) = .int .i64 (x.1 : Int) :: .int .i64 (x.2 : Int) :: spA post := by
      rw [List.drop_append_of_le_length (by simp; omega)]
      rw [List.drop_eq_nil_of_le (by simp; omega)]; rfl
    simp (disch := first | omega | simp) [b_strings_FieldsFunc_2, hd1, hd2, hd.1, hd.2, e1, loadC, wrap64, List.replicate_succ]
    refine ⟨fun _ => ⟨by omega, ?_⟩, fun _ => by omega⟩
    refine hLQ (pre ++ [x], post) (by simp) (by simp) _ ?_
    simp [cutS]

/-- The slice of the words' places, as it stands: first the one that was made, then one that grew. -/
def ffD (sp : List (Nat × Nat)) : Nat := match sp with | [] => 12 | _ => 29
def ffH (sp : List (Nat × Nat)) (o : AObj) : List (Nat × AObj) := match sp with | [] => [(14, o), (12, .cells [])] | _ => [(29, .cells (spA sp)), (14, o)]

structure FF (s pre post : List UInt8) (sp : List (Nat × Nat)) (cur : List UInt8) (v : Int) : Prop where
  cut : s = pre ++ post
  words : wordsOf s = sp.map (cutS s) ++ wordsGo cur post
  none : cur = [] → v < 0 ∧ -1099511627777 < v
  some : cur ≠ [] → ∃ p, pre = p ++ cur ∧ v = p.length
  ok : ∀ p ∈ sp, p.1 ≤ p.2 ∧ p.2 ≤ s.length
  len : sp.length ≤ pre.length

theorem FF.out {s pre post : List UInt8} {sp : List (Nat × Nat)} {cur : List UInt8} {v : Int} {x : UInt8} (h : FF s pre (x :: post) sp cur v) (hw : isWs x.toNat = true) (hc : cur = []) : FF s (pre ++ [x]) post sp [] v := by
  subst hc
  refine ⟨by rw [h.cut]; simp, ?_, fun _ => h.none rfl, fun hn => absurd rfl hn, h.ok, by have := h.len; simp; omega⟩
  have := h.words
  simpa [wordsGo, hw] using this

theorem FF.close {s pre post : List UInt8} {sp : List (Nat × Nat)} {cur : List UInt8} {v : Int} {x : UInt8} (h : FF s pre (x :: post) sp cur v) (hw : isWs x.toNat = true) (hc : cur ≠ []) (hs : s.length < 1099511627776) : FF s (pre ++ [x]) post (sp ++ [(v.toNat, pre.length)]) [] (-v - 1) := by
  obtain ⟨p, hp, hv⟩ := h.some hc
  subst hv
  have hl := congrArg List.length h.cut
  have hl2 := congrArg List.length hp
  simp at hl hl2
  refine ⟨by rw [h.cut]; simp, ?_, fun _ => ⟨by omega, by omega⟩, fun hn => absurd rfl hn, ?_, by have := h.len; simp; omega⟩
  · have := h.words
    simp only [wordsGo, hw, if_true, if_neg hc] at this
    rw [this]
    have e : cutS s ((p.length : Int).toNat, pre.length) = cur := by
      rw [cutS, h.cut, hp]
      simp only [Int.toNat_natCast, List.append_assoc]
      rw [show (p ++ cur).length = (p ++ cur).length + 0 by omega, ← List.append_assoc, List.take_length_add_append]; simp
    simp only [List.map_append, List.map_cons, List.map_nil, e, List.append_assoc, List.cons_append, List.nil_append]
  · intro q hq
    rcases List.mem_append.1 hq with hq | hq
    · exact h.ok q hq
    · simp at hq; subst hq; simp; omega

theorem FF.into {s pre post : List UInt8} {sp : List (Nat × Nat)} {cur : List UInt8} {v : Int} {x : UInt8} (h : FF s pre (x :: post) sp cur v) (hw : isWs x.toNat = false) (hc : cur = []) : FF s (pre ++ [x]) post sp [x] pre.length := by
  subst hc
  refine ⟨by rw [h.cut]; simp, ?_, fun hn => by simp at hn, fun _ => ⟨pre, rfl, rfl⟩, h.ok, by have := h.len; simp; omega⟩
  have := h.words
  simpa [wordsGo, hw] using this

theorem FF.on {s pre post : List UInt8} {sp : List (Nat × Nat)} {cur : List UInt8} {v : Int} {x : UInt8} (h : FF s pre (x :: post) sp cur v) (hw : isWs x.toNat = false) (hc : cur ≠ []) : FF s (pre ++ [x]) post sp (cur ++ [x]) v := by
  refine ⟨by rw [h.cut]; simp, ?_, fun hn => by simp at hn, fun _ => ?_, h.ok, by have := h.len; simp; omega⟩
  · have := h.words
    simpa [wordsGo, hw] using this
  · obtain ⟨p, hp, hv⟩ := h.some hc
    exact ⟨p, by rw [hp]; simp, hv⟩

theorem ffD_ne {sp : List (Nat × Nat)} (h : sp ≠ []) : ffD sp = 29 := by cases sp <;> first | exact absurd rfl h | rfl
theorem ffH_ne {sp : List (Nat × Nat)} {o : AObj} (h : sp ≠ []) : ffH sp o = [(29, .cells (spA sp)), (14, o)] := by cases sp <;> first | exact absurd rfl h | rfl

theorem ok_FieldsFunc (Γ : Gam) (h20 : Γ.fn 20 = con_closure) : ∀ args r, con_FieldsFunc args = some r → runs Γ c_strings_FieldsFunc args (fun v => v = r) := by
  intro args r h
  simp only [con_FieldsFunc] at h
  split at h <;> (try simp at h; done)
  rename_i s
  obtain ⟨⟨hs, ha⟩, rfl⟩ := ite_some h
  clear h
  simp only [mid] at hs
  simp [c_strings_FieldsFunc]
  refine awp_loop2 (σ := List UInt8 × List UInt8 × List (Nat × Nat) × List UInt8 × Int) (fun p => ⟨[(0, .str s), (1, .fn 20 []), (5, .msl (ffD p.2.2.1) 2 0 p.2.2.1.length), (6, .int .i64 p.2.2.2.2), (14, .ref 14 0)], ffH p.2.2.1 (.sit s p.1.length)⟩)
    (fun p => FF s p.1 p.2.1 p.2.2.1 p.2.2.2.1 p.2.2.2.2) (fun p => p.2.1.length) ([], s, [], [], -1) (by simp [ffD, ffH]) ⟨by simp, by simp [wordsOf], fun _ => ⟨by simp, by simp⟩, fun h => absurd rfl h, by simp, by simp⟩ ?_
  rintro ⟨pre, post, sp, cur, v⟩ hF LQ hLQ
  simp only at hF
  cases post with
  | nil =>
    have hcut := hF.cut
    simp at hcut
    subst hcut
    have fin : ∀ (d : Nat) (sp' : List (Nat × Nat)), d ≠ 46 ∧ d ≠ 11 → d = 12 ∨ d = 29 ∨ d = 43 → sp'.length ≤ s.length + 1 → (∀ p ∈ sp', p.1 ≤ p.2 ∧ p.2 ≤ s.length) → wordsOf s = sp'.map (cutS s) →
        awp Γ (SCode.loop [0, 9, 47, 48, 49] b_strings_FieldsFunc_2)
        (blockQ 2
          (thenQ (awp Γ t_strings_FieldsFunc_3 (finQ [.t 4] fun v => v = AV.sl 1 (strsA (wordsOf s))))
            (finQ [.t 4] fun v => v = AV.sl 1 (strsA (wordsOf s)))))
         ⟨[(0, .str s), (9, .msl 46 1 0 sp'.length), (47, .msl d 2 0 sp'.length), (48, .int .i64 sp'.length), (49, .int .i64 0)], [(46, .cells (List.replicate sp'.length (.str []))), (d, .cells (spA sp'))]⟩ := by
      intro d sp' hd hd3 hl hok hw
      refine ff_loop2 Γ _ s sp' d hd hs (by omega) hok ?_
      have hd1 : ¬ 46 = d := fun h => hd.1 h.symm
      rcases hd3 with rfl | rfl | rfl <;> simp [t_strings_FieldsFunc_3, snap, resolveA, hw, List.take_of_length_le]
    have hwd := hF.words
    have hlen := hF.len
    cases sp with
    | nil =>
      simp [b_strings_FieldsFunc_1, ffD, ffH, t_strings_FieldsFunc_4]
      refine ⟨fun h => ?_, fun h => ?_⟩
      · have hc : cur ≠ [] := fun hc => by have := (hF.none hc).1; omega
        obtain ⟨p, hp, hv⟩ := hF.some hc
        subst hv
        have hpl := congrArg List.length hp
        simp at hpl
        have := fin 43 [(p.length, s.length)] (by decide) (by simp) (by simp) (by simp; omega) (by
          rw [hwd]; simp [wordsGo, hc, cutS]; rw [hp]; simp)
        simpa using this
      · have hc : cur = [] := by
          apply Classical.byContradiction; intro hc
          obtain ⟨p, hp, hv⟩ := hF.some hc; omega
        subst hc
        have := fin 12 [] (by decide) (by simp) (by simp) (by simp) (by rw [hwd]; simp [wordsGo])
        simpa using this
    | cons y sp =>
      simp at hlen
      have e1 : ((sp.length : Int) + 1).toNat = sp.length + 1 := by omega
      have e2 : ((sp.length : Int) + 1 + 1).toNat = sp.length + 1 + 1 := by omega
      simp [b_strings_FieldsFunc_1, ffD, ffH, t_strings_FieldsFunc_4, e1, e2]
      refine ⟨fun h => ⟨⟨by omega, by omega⟩, by omega, ⟨by omega, by omega⟩, ?_⟩, fun h => ⟨by omega, ⟨by omega, by omega⟩, ?_⟩⟩
      · have hc : cur ≠ [] := fun hc => by have := (hF.none hc).1; omega
        obtain ⟨p, hp, hv⟩ := hF.some hc
        subst hv
        have hpl := congrArg List.length hp
        simp at hpl
        have := fin 43 (y :: sp ++ [(p.length, s.length)]) (by decide) (by simp) (by simp; omega) (by
          intro q hq
          rcases List.mem_append.1 hq with hq | hq
          · exact hF.ok q hq
          · simp at hq; subst hq; simp; omega) (by
          rw [hwd]; simp [wordsGo, hc, cutS]; rw [hp]; simp)
        simpa using this
      · have hc : cur = [] := by
          apply Classical.byContradiction; intro hc
          obtain ⟨p, hp, hv⟩ := hF.some hc; omega
        subst hc
        have := fin 29 (y :: sp) (by decide) (by simp) (by simp; omega) hF.ok (by rw [hwd]; simp [wordsGo])
        simpa using this
  | cons x post =>
    have hcut := hF.cut
    subst hcut
    have hx := (ascii_lt (by rw [ascii_app] at ha; simp only [Bool.and_eq_true] at ha; exact ha.2 : ascii (x :: post) = true)).1
    simp at hs
    have hlen := hF.len
    have hk : con_closure [.int .i32 (x.toNat : Int)] = some (.bool (isWs x.toNat)) := rfl
    have fin : ∀ sp' cur' v', FF (pre ++ x :: post) (pre ++ [x]) post sp' cur' v' → ∀ st, norm [0, 1, 5, 6, 14] st = ⟨[(0, .str (pre ++ x :: post)), (1, .fn 20 []), (5, .msl (ffD sp') 2 0 sp'.length), (6, .int .i64 v'), (14, .ref 14 0)], ffH sp' (.sit (pre ++ x :: post) (pre.length + 1))⟩ → LQ st := by
      intro sp' cur' v' h st hst
      exact hLQ (pre ++ [x], post, sp', cur', v') h (by simp) st (by simpa using hst)
    cases hw : isWs x.toNat with
    | true =>
      by_cases hc : cur = []
      · have f := fin _ _ _ (hF.out hw hc)
        have hv := (hF.none hc).1
        have hv' : ¬ 0 ≤ v := by omega
        cases sp with
        | nil =>
          simp [b_strings_FieldsFunc_1, ffD, ffH, decA hx, acall, h20, hk, hw, hv']
          exact f _ (by simp [ffD, ffH])
        | cons y sp =>
          simp [b_strings_FieldsFunc_1, ffD, ffH, decA hx, acall, h20, hk, hw, hv']
          exact f _ (by simp [ffD, ffH])
      · have f := fin _ _ _ (hF.close hw hc (by simp; omega))
        obtain ⟨p, hp, hv⟩ := hF.some hc
        subst hv
        have hl2 := congrArg List.length hp
        simp at hl2
        have ew : IntKind.i64.wrap (-(p.length : Int) - 1) = -(p.length : Int) - 1 := wrap64 (by omega) (by omega)
        cases sp with
        | nil =>
          simp [-aun, b_strings_FieldsFunc_1, ffD, ffH, decA hx, acall, h20, hk, hw, ew]
          exact f _ (by simp [ffD, ffH])
        | cons y sp =>
          simp at hlen
          simp [-aun, b_strings_FieldsFunc_1, ffD, ffH, decA hx, acall, h20, hk, hw, ew]
          refine ⟨⟨by omega, by omega⟩, f _ (by simp [ffD, ffH])⟩
    | false =>
      by_cases hc : cur = []
      · have f := fin _ _ _ (hF.into hw hc)
        have hv := (hF.none hc).1
        cases sp with
        | nil =>
          simp [b_strings_FieldsFunc_1, ffD, ffH, decA hx, acall, h20, hk, hw, hv]
          exact f _ (by simp [ffD, ffH])
        | cons y sp =>
          simp [b_strings_FieldsFunc_1, ffD, ffH, decA hx, acall, h20, hk, hw, hv]
          exact f _ (by simp [ffD, ffH])
      · have f := fin _ _ _ (hF.on hw hc)
        obtain ⟨p, hp, hv⟩ := hF.some hc
        have hv' : ¬ v < 0 := by omega
        cases sp with
        | nil =>
          simp [b_strings_FieldsFunc_1, ffD, ffH, decA hx, acall, h20, hk, hw, hv']
          exact f _ (by simp [ffD, ffH])
        | cons y sp =>
          simp [b_strings_FieldsFunc_1, ffD, ffH, decA hx, acall, h20, hk, hw, hv']
          exact f _ (by simp [ffD, ffH])
end Wax

/- strings.Join, as the kit's shelf has it, for the engine. -/
namespace Wax
open Go Go.RowKit

theorem repSl_strs {T : Tab} {w : World} {F : Frz} {b : Nat} : ∀ (l : List (List UInt8)) (o : Nat), RepSl T w F 1 b o (strsA l) → ∀ (j : Nat) (s : List UInt8), l[j]? = some s → F b ∧ w.cell? ⟨b, o + j, none⟩ = some (.string ⟨s.toArray⟩)
  | [], _, _, j, s, h => by simp at h
  | x :: r, o, h, j, s, hj => by
    simp only [strsA, List.map_cons, RepSl] at h
    cases j with
    | zero =>
      simp at hj; subst hj
      obtain ⟨_, ⟨hF, v, hv, hr⟩, _⟩ := h
      simp only [Rep] at hr
      subst hr
      exact ⟨hF, by simpa using hv⟩
    | succ j =>
      have := repSl_strs r (o + 1) h.2.2 j s (by simpa using hj)
      rw [show o + (j + 1) = o + 1 + j by omega]
      exact this

theorem joinB_lib : ∀ (l : List (List UInt8)), joinB l = Go.Lib.join l [32]
  | [] => rfl
  | x :: r => by
    rw [joinB_cons, Go.Lib.join_cons]
    congr 1
    cases r with
    | nil => rfl
    | cons y r =>
      have := joinB_lib (y :: r)
      rw [Go.Lib.join_cons] at this
      simp only [J2, Go.Lib.joinTail, List.map_cons, List.flatten_cons] at this ⊢
      simp [this]

/-- What the shelf says of strings.Join, in one piece. -/
def JoinSays (P : Program) (f : FuncId) : Prop :=
  (∀ (a : Option Addr) (c : Nat) (sep : ByteArray) (w : World), Calls P f #[.slice a 0 c, .string sep] w fun e w' => e = .returned (.string ⟨#[]⟩) ∧ w' = w) ∧
  ∀ (bk o c : Nat) (xs : List ByteArray) (sep : ByteArray) (w : World), (∀ (j : Nat) x, xs[j]? = some x → w.cell? ⟨bk, o + j, none⟩ = some (.string x)) → bk < w.heap.size → xs.length ≤ 140737488355328 → xs.length ≤ c →
    (Go.Lib.join (xs.map (·.data.toList)) sep.data.toList).length ≤ 140737488355328 →
    Calls P f #[.slice (some ⟨bk, o, none⟩) xs.length c, .string sep] w fun e w' => e = .returned (.string ⟨(Go.Lib.join (xs.map (·.data.toList)) sep.data.toList).toArray⟩) ∧ Below w.heap.size w w'

theorem joinTail_length (r : List (List UInt8)) : r.length ≤ (Go.Lib.joinTail [32] r).length := by
  induction r with
  | nil => simp [Go.Lib.joinTail]
  | cons x r ih => simp only [Go.Lib.joinTail, List.map_cons, List.flatten_cons, List.length_append, List.length_cons] at ih ⊢; omega

theorem ok_Join {P : Program} {T : Tab} {f : FuncId} (H : JoinSays P f) : ∀ args r, con_Join args = some r → OkCall P T f args r := by
  intro args r h w F vs hF hx
  simp only [con_Join] at h
  split at h <;> (try simp at h; done)
  rename_i v
  split at h <;> (try simp at h; done)
  rename_i l hl
  obtain ⟨hlen, rfl⟩ := ite_some h
  clear h
  match vs, hx with
  | [u, u'], hx =>
    simp only [RepL, and_true] at hx
    obtain ⟨h1, h2⟩ := hx
    simp only [Rep] at h2
    subst h2
    cases v <;> simp [slStrs] at hl
    · subst hl
      simp only [Rep] at h1
      subst h1
      refine (H.1 none 0 _ w).mono ?_
      rintro e w' ⟨rfl, rfl⟩
      exact ⟨_, rfl, Below.refl _ _, by simp [Rep, joinB]⟩
    · rename_i es xs
      obtain ⟨rfl, hl⟩ := hl
      have := asStrs_spec hl
      subst this
      simp only [Rep] at h1
      obtain ⟨b, o, cap, rfl, hcap, hsl⟩ := h1
      cases l with
      | nil =>
        refine (H.1 _ cap _ w).mono ?_
        rintro e w' ⟨rfl, rfl⟩
        exact ⟨_, rfl, Below.refl _ _, by simp [Rep, joinB]⟩
      | cons x0 l =>
        have hc := repSl_strs (x0 :: l) o hsl
        have hb : b < w.heap.size := hF b (hc 0 x0 rfl).1
        have hn : (x0 :: l).length ≤ (joinB (x0 :: l)).length + 1 := by
          rw [joinB_lib, Go.Lib.join_cons]
          have := joinTail_length l
          simp; omega
        simp only [mid] at hlen
        have e1 : ((x0 :: l).map fun s => (⟨s.toArray⟩ : ByteArray)).map (·.data.toList) = x0 :: l := by
          have : ((fun x : ByteArray => x.data.toList) ∘ fun s : List UInt8 => (⟨s.toArray⟩ : ByteArray)) = id := by funext s; simp
          rw [List.map_map, this, List.map_id]
        have := H.2 b o cap ((x0 :: l).map fun s => (⟨s.toArray⟩ : ByteArray)) ⟨#[32]⟩ w (fun j x hj => by
          rw [List.getElem?_map] at hj
          cases hq : (x0 :: l)[j]? with
          | none => rw [hq] at hj; simp at hj
          | some s => rw [hq] at hj; simp at hj; subst hj; exact (hc j s hq).2) hb (by simp only [List.length_map]; omega) (by simpa using hcap) (by rw [e1]; show (Go.Lib.join (x0 :: l) [32]).length ≤ _; rw [← joinB_lib]; omega)
        rw [e1] at this
        have e2 : ((x0 :: l).map fun s => (⟨s.toArray⟩ : ByteArray)).length = (strsA (x0 :: l)).length := by simp
        rw [e2] at this
        refine this.mono ?_
        rintro e w' ⟨rfl, hbl⟩
        refine ⟨_, rfl, hbl, ?_⟩
        simp only [Rep]
        rw [joinB_lib]
end Wax

/- The reference's text without white space; lists that are not too long. -/
namespace Wax
open Go (IntKind)

def stripD (s : List UInt8) : List UInt8 := s.filter fun b => !isWs b.toNat

def con_DStrip : List AV → Option AV
  | [.str s] => if s.length < mid then some (.str (stripD s)) else none
  | _ => none

theorem ok_DStrip (Γ : Gam) (h1 : Γ.fn 1 = con_dBlank) : ∀ args r, con_DStrip args = some r → runs Γ c_spec_DStrip args (fun v => v = r) := by
  intro args r h
  simp only [con_DStrip] at h
  split at h <;> (try simp at h; done)
  rename_i s
  obtain ⟨hs, rfl⟩ := ite_some h
  clear h
  simp only [mid] at hs
  simp [c_spec_DStrip]
  refine awp_loop2 (σ := List UInt8 × List UInt8) (fun p => ⟨[(0, .str s), (3, outV 21 (stripD p.1)), (4, .int .i64 p.1.length)], outH 21 (stripD p.1)⟩)
    (fun p => s = p.1 ++ p.2) (fun p => p.2.length) ([], s) (by simp [stripD]) (by simp) ?_
  rintro ⟨pre, post⟩ hs1 LQ hLQ
  simp only at hs1
  subst hs1
  have hlen : (stripD pre).length ≤ pre.length := List.length_filter_le _ _
  cases post with
  | nil =>
    simp at hs
    by_cases ho : stripD pre = []
    · simp [ho]
    · simp [outV_ne ho, outH_ne ho, List.take_of_length_le]
  | cons x post =>
    simp at hs
    have ew : IntKind.i64.wrap ((pre.length : Int) + 1) = (pre.length : Int) + 1 := wrap64 (by omega) (by omega)
    have fin : ∀ st, norm [0, 3, 4] st = ⟨[(0, .str (pre ++ x :: post)), (3, outV 21 (stripD (pre ++ [x]))), (4, .int .i64 ((pre.length : Int) + 1))], outH 21 (stripD (pre ++ [x]))⟩ → LQ st := by
      intro st hst
      exact hLQ (pre ++ [x], post) (by simp) (by simp) st (by simpa using hst)
    have hk : con_dBlank [.int .u8 (x.toNat : Int)] = some (.bool (isWs x.toNat)) := rfl
    have hlt : (pre.length : Int) < (pre.length : Int) + ((post.length : Int) + 1) := by omega
    cases hsp : isWs x.toNat with
    | true =>
      have e : stripD (pre ++ [x]) = stripD pre := by simp [stripD, hsp]
      rw [e] at fin
      by_cases ho : stripD pre = []
      · rw [ho] at fin
        simp [ho, acall, h1, hk, hsp, ew]
        exact ⟨fun _ => fin _ (by simp), fun h => by omega⟩
      · rw [outV_ne ho, outH_ne ho] at fin
        simp [outV_ne ho, outH_ne ho, acall, h1, hk, hsp, ew]
        exact ⟨fun _ => fin _ (by simp), fun h => by omega⟩
    | false =>
      have e : stripD (pre ++ [x]) = stripD pre ++ [x] := by simp [stripD, hsp]
      rw [e, outV_ne (by simp), outH_ne (by simp)] at fin
      by_cases ho : stripD pre = []
      · rw [ho] at fin
        simp [ho, acall, h1, hk, hsp, ew]
        exact ⟨fun _ => fin _ (by simp), fun h => by omega⟩
      · simp [outV_ne ho, outH_ne ho, acall, h1, hk, hsp, ew]
        refine ⟨fun _ => ⟨by omega, fin _ (by simp)⟩, fun h => by omega⟩

def fitsB (l : List (List UInt8)) : Bool := decide (l.length ≤ 2147483647) && l.all fun s => decide (s.length ≤ 2147483647)

def con_zzFits7 : List AV → Option AV
  | [v] => match slStrs v with
    | some l => if l.length < 9223372036854775808 ∧ ∀ s ∈ l, s.length < 9223372036854775808 then some (.bool (fitsB l)) else none
    | none => none
  | _ => none

theorem slStrs_cases {v : AV} {l : List (List UInt8)} (h : slStrs v = some l) : (v = .nilS ∧ l = []) ∨ v = .sl 1 (strsA l) := by
  cases v <;> simp [slStrs] at h
  · left; exact ⟨rfl, h⟩
  · right; obtain ⟨e, h⟩ := h; rw [asStrs_spec h, e]

theorem ok_zzFits7 (Γ : Gam) : ∀ args r, con_zzFits7 args = some r → runs Γ c_laws_zzFits7 args (fun v => v = r) := by
  intro args r h
  simp only [con_zzFits7] at h
  split at h <;> (try simp at h; done)
  rename_i v
  split at h <;> (try simp at h; done)
  rename_i l hl
  obtain ⟨⟨hlen, hall⟩, rfl⟩ := ite_some h
  clear h
  rcases slStrs_cases hl with ⟨rfl, rfl⟩ | rfl
  · simp [c_laws_zzFits7]
    refine awp_loop2 (σ := Unit) (fun p => ⟨[(8, .nilS), (9, .int .i64 0), (10, .int .i64 0)], []⟩) (fun _ => True) (fun _ => 0) () (by simp) (by simp) ?_
    intro _ _ LQ _
    simp [b_laws_zzFits7_1, t_laws_zzFits7_2, fitsB]
  · by_cases hbig : l.length ≤ 2147483647
    · have hng : ¬ (2147483647 : Int) < (l.length : Int) := by omega
      simp [c_laws_zzFits7, hng]
      refine awp_loop2 (σ := List (List UInt8) × List (List UInt8)) (fun p => ⟨[(8, .sl 1 (strsA l)), (9, .int .i64 l.length), (10, .int .i64 p.1.length)], []⟩) (fun p => l = p.1 ++ p.2 ∧ (p.1.all fun s => decide (s.length ≤ 2147483647)) = true) (fun p => p.2.length) ([], l) (by simp) (by simp) ?_
      rintro ⟨pre, post⟩ ⟨hs1, hs2⟩ LQ hLQ
      simp only at hs1 hs2
      subst hs1
      cases post with
      | nil =>
        simp at hs2 hbig
        simp [b_laws_zzFits7_1, t_laws_zzFits7_2, fitsB, hbig]
        exact fun x hx => hs2 x hx
      | cons x post =>
        simp at hbig
        have ew : IntKind.i64.wrap ((pre.length : Int) + 1) = (pre.length : Int) + 1 := wrap64 (by omega) (by omega)
        have hlt : (pre.length : Int) < (pre.length : Int) + ((post.length : Int) + 1) := by omega
        by_cases hx : x.length ≤ 2147483647
        · have hxn : ¬ (2147483647 : Int) < (x.length : Int) := by omega
          simp [b_laws_zzFits7_1, ew, hxn]
          refine ⟨fun _ => ?_, fun h => by omega⟩
          exact hLQ (pre ++ [x], post) ⟨by simp, by simp only [List.all_append, hs2, List.all_cons, hx]; rfl⟩ (by simp) _ (by simp)
        · have hxn : (2147483647 : Int) < (x.length : Int) := by omega
          have hf : fitsB (pre ++ x :: post) = false := by
            have e : decide (x.length ≤ 2147483647) = false := decide_eq_false hx
            simp only [fitsB, List.all_append, List.all_cons, e, Bool.false_and, Bool.and_false]
          rw [hf]
          simp [b_laws_zzFits7_1, hxn]
          omega
    · have hg : (2147483647 : Int) < (l.length : Int) := by omega
      simp [c_laws_zzFits7, hg, fitsB, hbig]
end Wax

/- FnDPicks (1): lists of texts that are the same; names of fields; texts that are the same but for letters' case. -/
namespace Wax
open Go (IntKind)

def con_dSameTexts : List AV → Option AV
  | [u, v] => match slStrs u, slStrs v with
    | some l, some m => if l.length < mid ∧ m.length < mid then some (.bool (decide (l = m))) else none
    | _, _ => none
  | _ => none

theorem ok_dSameTexts (Γ : Gam) : ∀ args r, con_dSameTexts args = some r → runs Γ c_laws_dSameTexts args (fun v => v = r) := by
  intro args r h
  simp only [con_dSameTexts] at h
  split at h <;> (try simp at h; done)
  rename_i u v
  split at h <;> (try simp at h; done)
  rename_i l m hl hm
  obtain ⟨⟨h1, h2⟩, rfl⟩ := ite_some h
  clear h
  simp only [mid] at h1 h2
  by_cases hlen : l.length = m.length
  · have key : awp Γ (.loop [0, 1, 5] b_laws_dSameTexts_1) (blockQ 0 (thenQ (awp Γ t_laws_dSameTexts_2 (finQ [.t 4] fun v => v = .bool (decide (l = m)))) (finQ [.t 4] fun v => v = .bool (decide (l = m))))) ⟨[(0, u), (1, v), (5, .int .i64 0)], []⟩ := by
      refine awp_loop2 (σ := List (List UInt8) × List (List UInt8) × List (List UInt8)) (fun p => ⟨[(0, u), (1, v), (5, .int .i64 p.1.length)], []⟩)
        (fun p => l = p.1 ++ p.2.1 ∧ m = p.1 ++ p.2.2) (fun p => p.2.1.length) ([], l, m) (by simp) (by simp) ?_
      rintro ⟨pre, a, b⟩ ⟨e1, e2⟩ LQ hLQ
      simp only at e1 e2
      subst e1 e2
      cases a with
      | nil =>
        have hb : b = [] := by simpa using hlen
        subst hb
        rcases slStrs_cases hl with ⟨rfl, hp⟩ | rfl
        · simp at hp; subst hp
          simp [b_laws_dSameTexts_1, t_laws_dSameTexts_2]
        · simp [b_laws_dSameTexts_1, t_laws_dSameTexts_2]
      | cons x a =>
        cases b with
        | nil => simp at hlen
        | cons y b =>
          simp at h1 h2 hlen
          rcases slStrs_cases hl with ⟨rfl, hp⟩ | rfl
          · simp at hp
          rcases slStrs_cases hm with ⟨rfl, hp⟩ | rfl
          · simp at hp
          have ew : IntKind.i64.wrap ((pre.length : Int) + 1) = (pre.length : Int) + 1 := wrap64 (by omega) (by omega)
          have hlt : (pre.length : Int) < (pre.length : Int) + ((a.length : Int) + 1) := by omega
          by_cases hxy : x = y
          · subst hxy
            simp [b_laws_dSameTexts_1, ew]
            refine ⟨fun _ => ?_, fun h => by omega⟩
            exact hLQ (pre ++ [x], a, b) (by simp) (by simp) _ (by simp)
          · have : ¬ pre ++ x :: a = pre ++ y :: b := by simp [hxy]
            simp [b_laws_dSameTexts_1, ew, hxy]
            omega
    rcases slStrs_cases hl with ⟨rfl, rfl⟩ | rfl <;> rcases slStrs_cases hm with ⟨rfl, rfl⟩ | rfl
    · simp [c_laws_dSameTexts]; simpa using key
    · obtain rfl : m = [] := List.eq_nil_of_length_eq_zero hlen.symm
      simp [c_laws_dSameTexts]; simpa using key
    · simp at hlen
      subst hlen
      simp [c_laws_dSameTexts]; simpa using key
    · simp [c_laws_dSameTexts, hlen]; exact key
  · have hne : ¬ l = m := fun e => hlen (by rw [e])
    have hlen2 : ¬ (l.length : Int) = (m.length : Int) := by omega
    rcases slStrs_cases hl with ⟨rfl, rfl⟩ | rfl <;> rcases slStrs_cases hm with ⟨rfl, rfl⟩ | rfl
    · simp at hlen
    · have : ¬ m.length = 0 := by simpa using fun e => hlen (by rw [e])
      have h0' : ¬ (0 : Int) = (m.length : Int) := by omega
      simp [c_laws_dSameTexts, h0', hne]
    · have : ¬ l.length = 0 := by simpa using fun e => hlen (by rw [e])
      have h0 : ¬ (l.length : Int) = 0 := by omega
      simp [c_laws_dSameTexts, h0, hne]
    · simp [c_laws_dSameTexts, hlen, hlen2, hne]

/-- A field's name. -/
def nameOf (s : List UInt8) : List UInt8 := trimS (match cutAt 58 s with | some p => p.1 | none => s)

def con_DName : List AV → Option AV
  | [.str s] => if s.length < mid then some (.str (nameOf s)) else none
  | _ => none

theorem cutAt_le {c : Int} {s : List UInt8} {p : List UInt8 × List UInt8} (h : cutAt c s = some p) : p.1.length + p.2.length < s.length ∧ ∃ x, s = p.1 ++ x :: p.2 := by
  obtain ⟨a, b⟩ := p
  obtain ⟨x, hx1, hx2, _⟩ := cutAt_eq h
  subst hx2
  simp

theorem ok_DName (Γ : Gam) (h2 : Γ.fn 2 = con_dCut) (h3 : Γ.fn 3 = con_DTrim) : ∀ args r, con_DName args = some r → runs Γ c_spec_DName args (fun v => v = r) := by
  intro args r h
  simp only [con_DName] at h
  split at h <;> (try simp at h; done)
  rename_i s
  obtain ⟨hs, rfl⟩ := ite_some h
  clear h
  have k2 : con_dCut [.str s, .int .u8 58] = some (cutV 58 s) := by
    simp only [con_dCut]; exact if_pos (by simp only [mid] at hs; simp only [big]; omega)
  have k3 : ∀ t : List UInt8, t.length ≤ s.length → con_DTrim [.str t] = some (.str (trimS t)) := by
    intro t ht
    simp only [con_DTrim]; exact if_pos (by simp only [mid] at hs; simp only [big]; omega)
  cases hc : cutAt 58 s with
  | none =>
    have k := k3 s (Nat.le_refl _)
    simp [c_spec_DName, acall, h2, h3, k2, cutV, hc, k, nameOf]
  | some p =>
    have k := k3 p.1 (by have := (cutAt_le hc).1; omega)
    simp [c_spec_DName, acall, h2, h3, k2, cutV, hc, k, nameOf]

def con_parseHeaderField : List AV → Option AV
  | [.str s] => if s.length < mid ∧ plain s = true then some (.tup [.str (nameOf s), .str (trimS (match cutAt 58 s with | some p => p.2 | none => []))]) else none
  | _ => none

theorem ok_parseHeaderField (Γ : Gam) (h16 : Γ.fn 16 = con_zzCut) (h18 : Γ.fn 18 = con_zzTrimSpace) : ∀ args r, con_parseHeaderField args = some r → runs Γ c_dkim_parseHeaderField args (fun v => v = r) := by
  intro args r h
  simp only [con_parseHeaderField] at h
  split at h <;> (try simp at h; done)
  rename_i s
  obtain ⟨⟨hs, hp⟩, rfl⟩ := ite_some h
  clear h
  have k16 : con_zzCut [.str s, .str [58]] = some (cutV 58 s) := by
    simp only [con_zzCut]; exact if_pos (by simp only [mid] at hs; simp only [big]; omega)
  have k18 : ∀ t : List UInt8, t.length ≤ s.length → plain t = true → con_zzTrimSpace [.str t] = some (.str (trimS t)) := by
    intro t ht hpt
    simp only [con_zzTrimSpace]; exact if_pos ⟨by omega, hpt⟩
  have e0 : con_zzTrimSpace [.str []] = some (.str (trimS [])) := k18 [] (by simp) rfl
  cases hc : cutAt 58 s with
  | none =>
    have k := k18 s (Nat.le_refl _) hp
    simp [c_dkim_parseHeaderField, acall, h16, h18, k16, cutV, hc, k, nameOf, e0]
  | some p =>
    obtain ⟨hl, x, hx⟩ := cutAt_le hc
    have hp' := hp
    rw [hx, plain_app] at hp'
    simp only [Bool.and_eq_true] at hp'
    have hp2 : plain p.2 = true := by
      have := hp'.2
      simp only [plain, List.all_cons, Bool.and_eq_true] at this
      exact this.2
    have k := k18 p.1 (by omega) hp'.1
    have kk := k18 p.2 (by omega) hp2
    simp [c_dkim_parseHeaderField, acall, h16, h18, k16, cutV, hc, k, kk, nameOf]

/-- Letters as runes. -/
def rA (s : List UInt8) : List AV := s.map fun b => AV.int .i32 (b.toNat : Int)
@[simp] theorem rA_nil : rA [] = [] := rfl
@[simp] theorem rA_cons {x : UInt8} {l : List UInt8} : rA (x :: l) = .int .i32 (x.toNat : Int) :: rA l := rfl
@[simp] theorem rA_app {l m : List UInt8} : rA (l ++ m) = rA l ++ rA m := by simp [rA]
@[simp] theorem rA_length {l : List UInt8} : (rA l).length = l.length := by simp [rA]
@[simp] theorem atoms_rA {l : List UInt8} : atoms (rA l) = true := by induction l <;> simp_all
@[simp] theorem killL_rA {d : Nat} {l : List UInt8} : killL d (rA l) = rA l := by induction l <;> simp_all
@[simp] theorem snapWL_rA {g : AV → AV} {l : List UInt8} : snapWL g (rA l) = rA l := by induction l <;> simp_all
@[simp] theorem map_snapW_rA {g : AV → AV} {l : List UInt8} : (rA l).map (snapW g) = rA l := by induction l <;> simp_all
@[simp] theorem map_snap_rA {n : Nat} {hp : List (Nat × AObj)} {l : List UInt8} : (rA l).map (snap (n + 1) hp) = rA l := by induction l <;> simp_all
attribute [local simp] lowS_cons lowS_nil lowS_app
@[simp] theorem take_rA {l : List UInt8} : List.take l.length (rA (lowS l)) = rA (lowS l) := List.take_of_length_le (by simp [lowS])
@[simp] theorem lowS_len {l : List UInt8} : (lowS l).length = l.length := by simp [lowS]

def rV (s : List UInt8) : AV := match s with | [] => .nilS | _ => .sl 1 (rA s)

def con_zzEqualFold1 : List AV → Option AV
  | [.str s] => if s.length < mid ∧ ascii s = true then some (rV (lowS s)) else none
  | _ => none

set_option maxRecDepth 100000 in
theorem ok_zzEqualFold1 (Γ : Gam) : ∀ args r, con_zzEqualFold1 args = some r → runs Γ c_dkim_zzEqualFold_1 args (fun v => v = r) := by
  intro args r h
  simp only [con_zzEqualFold1] at h
  split at h <;> (try simp at h; done)
  rename_i s
  obtain ⟨⟨hs, ha⟩, rfl⟩ := ite_some h
  clear h
  simp only [mid] at hs
  simp [c_dkim_zzEqualFold_1]
  refine awp_loop2 (σ := List UInt8 × List UInt8) (fun p => ⟨[(3, grV 29 1 p.1.length), (7, .ref 7 0)], grH 29 p.1.length (rA (lowS p.1)) ++ [(7, .sit s p.1.length)]⟩)
    (fun p => s = p.1 ++ p.2) (fun p => p.2.length) ([], s) (by simp) (by simp) ?_
  rintro ⟨pre, post⟩ hs1 LQ hLQ
  simp only at hs1
  subst hs1
  cases post with
  | nil =>
    simp at hs
    cases pre with
    | nil => simp [b_dkim_zzEqualFold_1_1, t_dkim_zzEqualFold_1_2, rV]
    | cons y pre => simp [b_dkim_zzEqualFold_1_1, t_dkim_zzEqualFold_1_2, rV, List.take_of_length_le]
  | cons x post =>
    have hx := (ascii_lt (by rw [ascii_app] at ha; simp only [Bool.and_eq_true] at ha; exact ha.2 : ascii (x :: post) = true)).1
    simp at hs
    have fin : ∀ st, norm [3, 7] st = ⟨[(3, .msl 29 1 0 (pre.length + 1)), (7, .ref 7 0)], [(29, .cells (rA (lowS pre) ++ [.int .i32 ((lowB x).toNat : Int)])), (7, .sit (pre ++ x :: post) (pre.length + 1))]⟩ → LQ st := by
      intro st hst
      refine hLQ (pre ++ [x], post) (by simp) (by simp) st ?_
      simpa using hst
    have n1 : ¬ (x.toNat : Int) = 383 := by omega
    have n2 : ¬ (x.toNat : Int) = 8490 := by omega
    have lb := lowB_toNat x
    by_cases hu : 65 ≤ x.toNat ∧ x.toNat ≤ 90
    · have hu1 : (65 : Int) ≤ (x.toNat : Int) := by omega
      have hu2 : (x.toNat : Int) ≤ 90 := by omega
      have ew : IntKind.i32.wrap ((x.toNat : Int) + 32) = ((lowB x).toNat : Int) := by
        rw [lb]
        have : (65 : Int) ≤ (x.toNat : Int) ∧ (x.toNat : Int) ≤ 90 := ⟨hu1, hu2⟩
        simp only [IntKind.wrap_i32]
        split <;> omega
      cases pre with
      | nil => 
        simp [b_dkim_zzEqualFold_1_1, decA hx, n1, n2, hu1, hu2, ew]
        exact fin _ (by simp)
      | cons y pre =>
        simp at hs
        simp [b_dkim_zzEqualFold_1_1, decA hx, n1, n2, hu1, hu2, ew]
        refine ⟨by omega, fin _ (by simp)⟩
    · have ew : ((lowB x).toNat : Int) = (x.toNat : Int) := by
        rw [lb]; split <;> omega
      have fin' := fin
      rw [ew] at fin'
      have hor : ¬ (65 : Int) ≤ (x.toNat : Int) ∨ ¬ (x.toNat : Int) ≤ 90 := by omega
      rcases hor with hu1 | hu2
      · cases pre with
        | nil => 
          simp [b_dkim_zzEqualFold_1_1, decA hx, n1, n2, hu1]
          exact fin' _ (by simp)
        | cons y pre =>
          simp at hs
          simp [b_dkim_zzEqualFold_1_1, decA hx, n1, n2, hu1]
          refine ⟨by omega, fin' _ (by simp)⟩
      · have hu1 : (65 : Int) ≤ (x.toNat : Int) := by omega
        cases pre with
        | nil => 
          simp [b_dkim_zzEqualFold_1_1, decA hx, n1, n2, hu1, hu2]
          exact fin' _ (by simp)
        | cons y pre =>
          simp at hs
          simp [b_dkim_zzEqualFold_1_1, decA hx, n1, n2, hu1, hu2]
          refine ⟨by omega, fin' _ (by simp)⟩

def con_zzEqualFold : List AV → Option AV
  | [.str s, .str t] => if s.length < mid ∧ t.length < mid ∧ ascii s = true ∧ ascii t = true then some (.bool (decide (lowS s = lowS t))) else none
  | _ => none

set_option maxRecDepth 100000 in
theorem ok_zzEqualFold (Γ : Gam) (h42 : Γ.fn 42 = con_zzEqualFold1) : ∀ args r, con_zzEqualFold args = some r → runs Γ c_dkim_zzEqualFold args (fun v => v = r) := by
  intro args r h
  simp only [con_zzEqualFold] at h
  split at h <;> (try simp at h; done)
  rename_i s t
  obtain ⟨⟨hs, ht, has, hat⟩, rfl⟩ := ite_some h
  clear h
  have ks : con_zzEqualFold1 [.str s] = some (rV (lowS s)) := if_pos ⟨hs, has⟩
  have kt : con_zzEqualFold1 [.str t] = some (rV (lowS t)) := if_pos ⟨ht, hat⟩
  simp only [mid] at hs ht
  have hls : (lowS s).length < 1099511627776 := by simpa using hs
  have hlt : (lowS t).length < 1099511627776 := by simpa using ht
  simp [c_dkim_zzEqualFold, acall, h42, ks, kt]
  clear ks kt hs ht has hat
  generalize lowS s = l at *
  generalize lowS t = m at *
  by_cases hlen : l.length = m.length
  · have key : awp Γ (.loop [6, 7, 21, 22] b_dkim_zzEqualFold_1) (blockQ 0 (thenQ (awp Γ t_dkim_zzEqualFold_2 (finQ [.t 4] fun v => v = .bool (decide (l = m)))) (finQ [.t 4] fun v => v = .bool (decide (l = m))))) ⟨[(6, rV l), (7, rV m), (21, .int .i64 l.length), (22, .int .i64 0)], []⟩ := by
      refine awp_loop2 (σ := List UInt8 × List UInt8 × List UInt8) (fun p => ⟨[(6, rV l), (7, rV m), (21, .int .i64 l.length), (22, .int .i64 p.1.length)], []⟩)
        (fun p => l = p.1 ++ p.2.1 ∧ m = p.1 ++ p.2.2) (fun p => p.2.1.length) ([], l, m) (by simp) (by simp) ?_
      rintro ⟨pre, a, b⟩ ⟨e1, e2⟩ LQ hLQ
      simp only at e1 e2
      subst e1 e2
      cases a with
      | nil =>
        have hb : b = [] := by simpa using hlen
        subst hb
        simp [b_dkim_zzEqualFold_1, t_dkim_zzEqualFold_2]
      | cons x a =>
        cases b with
        | nil => simp at hlen
        | cons y b =>
          simp at hls hlt hlen
          have er1 : rV (pre ++ x :: a) = .sl 1 (rA pre ++ .int .i32 (x.toNat : Int) :: rA a) := by
            cases pre <;> simp [rV]
          have er2 : rV (pre ++ y :: b) = .sl 1 (rA pre ++ .int .i32 (y.toNat : Int) :: rA b) := by
            cases pre <;> simp [rV]
          have ew : IntKind.i64.wrap ((pre.length : Int) + 1) = (pre.length : Int) + 1 := wrap64 (by omega) (by omega)
          have g : ∀ (q : List UInt8) (v : AV), (rA pre ++ v :: rA q)[pre.length]? = some v := fun q v => get_mid (by simp)
          by_cases hxy : x = y
          · subst hxy
            simp [b_dkim_zzEqualFold_1, ew, er1, er2, g]
            refine ⟨fun _ => ?_, fun h => by omega⟩
            exact hLQ (pre ++ [x], a, b) (by simp) (by simp) _ (by simp [er1, er2])
          · have hn : ¬ (x.toNat : Int) = (y.toNat : Int) := fun e => hxy (UInt8.toNat_inj.1 (by omega))
            simp [b_dkim_zzEqualFold_1, ew, er1, er2, g, hn, hxy]
            omega
    cases l with
    | nil =>
      cases m with
      | nil => simp [rV] at key ⊢; exact key
      | cons => simp at hlen
    | cons x l =>
      cases m with
      | nil => simp at hlen
      | cons y m => simp at hlen; simp [rV, hlen] at key ⊢; exact key
  · have hne : ¬ l = m := fun e => hlen (by rw [e])
    have hlen2 : ¬ (l.length : Int) = (m.length : Int) := by omega
    cases l with
    | nil =>
      cases m with
      | nil => simp at hlen
      | cons y m => simp [rV]; omega
    | cons x l =>
      cases m with
      | nil => simp [rV]; omega
      | cons y m => simp at hlen hlen2; simp [rV, hlen, hlen2]; simp at hne; omega
end Wax

/- FnDPicks (2): the picker of header fields. -/
namespace Wax
open Go (IntKind)

/-- What an evaluation asks of a slice of texts. -/
theorem slf_alen {u : AV} {l : List (List UInt8)} (h : slStrs u = some l) (hp : List (Nat × AObj)) : alen hp 1 u = some l.length := by
  rcases slStrs_cases h with ⟨rfl, rfl⟩ | rfl <;> simp
theorem slf_kill {u : AV} {l : List (List UInt8)} (h : slStrs u = some l) (d : Nat) : kill d u = u := by
  rcases slStrs_cases h with ⟨rfl, rfl⟩ | rfl <;> simp
theorem slf_ref {u : AV} {l : List (List UInt8)} (h : slStrs u = some l) : hasRef u = false := by
  rcases slStrs_cases h with ⟨rfl, rfl⟩ | rfl <;> simp
theorem slf_refs {u : AV} {l : List (List UInt8)} (h : slStrs u = some l) : refs u = [] := by
  rcases slStrs_cases h with ⟨rfl, rfl⟩ | rfl <;> simp
theorem slf_map {u : AV} {l : List (List UInt8)} (h : slStrs u = some l) (g : Nat → Nat) : mapId g u = u := by
  rcases slStrs_cases h with ⟨rfl, rfl⟩ | rfl <;> simp
theorem slf_snap {u : AV} {l : List (List UInt8)} (h : slStrs u = some l) (n : Nat) (hp : List (Nat × AObj)) : snap (n + 1) hp u = u := by
  rcases slStrs_cases h with ⟨rfl, rfl⟩ | rfl <;> simp
theorem slf_snapW {u : AV} {l : List (List UInt8)} (h : slStrs u = some l) (g : AV → AV) : snapW g u = u := by
  rcases slStrs_cases h with ⟨rfl, rfl⟩ | rfl <;> simp
theorem slf_atom {u : AV} {l : List (List UInt8)} (h : slStrs u = some l) : atom u = true := by
  rcases slStrs_cases h with ⟨rfl, rfl⟩ | rfl <;> simp
theorem slf_cells {u : AV} {l : List (List UInt8)} (h : slStrs u = some l) : cells u = [u] := by
  rcases slStrs_cases h with ⟨rfl, rfl⟩ | rfl <;> simp
theorem slf_ne {u : AV} {l : List (List UInt8)} (h : slStrs u = some l) (hl : l ≠ []) : u = .sl 1 (strsA l) := by
  rcases slStrs_cases h with ⟨rfl, rfl⟩ | rfl
  · exact absurd rfl hl
  · rfl

def con_newHeaderPicker : List AV → List (Nat × AObj) → Option (AV × List (Nat × AObj))
  | [u], [] => match slStrs u with
    | some _ => some (.ref 0 0, [(0, .cells [u, .mref 1]), (1, .mp [])])
    | none => none
  | _, _ => none

theorem ok_newHeaderPicker (Γ : Gam) : ∀ args hp q, con_newHeaderPicker args hp = some q → runsS Γ c_dkim_newHeaderPicker args hp (fun v => v = some q) := by
  intro args hp q h
  simp only [con_newHeaderPicker] at h
  split at h <;> (try simp at h; done)
  rename_i u
  split at h <;> (try simp at h; done)
  rename_i l hl
  injection h with h; subst h
  rcases slStrs_cases hl with ⟨rfl, rfl⟩ | rfl <;> simp [c_dkim_newHeaderPicker, reach_succ]

def mpA (c : List (List UInt8 × Nat)) : List (List UInt8 × AV) := c.map fun p => (p.1, .int .i64 (p.2 : Int))
def asCnt : List (List UInt8 × AV) → Option (List (List UInt8 × Nat))
  | [] => some []
  | (k, .int .i64 n) :: r => if 0 ≤ n then (asCnt r).map ((k, n.toNat) :: ·) else none
  | _ :: _ => none
theorem asCnt_mpA : ∀ c, asCnt (mpA c) = some c
  | [] => rfl
  | (k, n) :: r => by
    have := asCnt_mpA r
    simp only [mpA, List.map_cons, asCnt] at this ⊢
    rw [this, if_pos (by omega)]; simp
theorem asCnt_spec : ∀ {es c}, asCnt es = some c → es = mpA c
  | [], c, h => by simp [asCnt] at h; subst h; rfl
  | (k, v) :: r, c, h => by
    cases v <;> (try (simp [asCnt] at h; done))
    rename_i t n
    cases t <;> (try (simp [asCnt] at h; done))
    simp only [asCnt] at h
    split at h
    · rename_i hn
      cases hr : asCnt r with
      | none => rw [hr] at h; simp at h
      | some c' =>
        rw [hr] at h; simp at h; subst h
        rw [asCnt_spec hr]
        simp [mpA]; omega
    · simp at h

def getC : List (List UInt8 × Nat) → List UInt8 → Nat
  | [], _ => 0
  | (i, n) :: r, k => if k = i then n else getC r k
def setC : List (List UInt8 × Nat) → List UInt8 → Nat → List (List UInt8 × Nat)
  | [], k, v => [(k, v)]
  | (i, n) :: r, k, v => if k = i then (k, v) :: r else (i, n) :: setC r k v
theorem look_mpA : ∀ (c : List (List UInt8 × Nat)) (k : List UInt8), lookA (mpA c) k (.int .i64 0) false = .int .i64 (getC c k : Int)
  | [], k => rfl
  | (i, n) :: r, k => by
    have := look_mpA r k
    by_cases h : k = i <;> simp [mpA, lookA, mfind, getC, h] at this ⊢
    exact this
theorem mset_mpA : ∀ (c : List (List UInt8 × Nat)) (k : List UInt8) (n : Nat), mset (mpA c) k (.int .i64 (n : Int)) = mpA (setC c k n)
  | [], k, n => rfl
  | (i, m) :: r, k, n => by
    have := mset_mpA r k n
    by_cases h : k = i <;> simp [mpA, mset, setC, h] at this ⊢
    exact this
theorem getC_setC : ∀ (c : List (List UInt8 × Nat)) (k : List UInt8) (n : Nat) (j : List UInt8), getC (setC c k n) j = if j = k then n else getC c j
  | [], k, n, j => rfl
  | (i, m) :: r, k, n, j => by
    have := getC_setC r k n j
    by_cases h : k = i
    · subst h; by_cases h2 : j = k <;> simp [setC, getC, h2]
    · by_cases h2 : j = i
      · subst h2; have : ¬ j = k := fun e => h e.symm
        simp [setC, getC, h, this]
      · simp [setC, getC, h, h2, this]

/-- The field of that name, so many times passed over. -/
def pk (key : List UInt8) : List (List UInt8) → Nat → Option (List UInt8)
  | [], _ => none
  | f :: r, n => if lowS (nameOf f) = key then (match n with | 0 => some f | n + 1 => pk key r n) else pk key r n

def pkRes (u : AV) (c : List (List UInt8 × Nat)) (key : List UInt8) : Option (List UInt8) → AV × List (Nat × AObj)
  | some f => (.str f, [(0, .cells [u, .mref 1]), (1, .mp (mpA (setC c key (getC c key + 1))))])
  | none => (.str [], [(0, .cells [u, .mref 1]), (1, .mp (mpA c))])

def con_hpPick : List AV → List (Nat × AObj) → Option (AV × List (Nat × AObj))
  | [.ref 0 0, .str k], [(0, .cells [u, .mref 1]), (1, .mp es)] => match slStrs u, asCnt es with
    | some fs, some c => if fs.length < mid ∧ (∀ s ∈ fs, s.length < mid ∧ plain s = true) ∧ k.length < mid ∧ plain k = true ∧ getC c (lowS k) < mid then
        some (pkRes u c (lowS k) (pk (lowS k) fs.reverse (getC c (lowS k))))
      else none
    | _, _ => none
  | _, _ => none

theorem nameOf_len (s : List UInt8) : (nameOf s).length ≤ s.length := by
  have ht : ∀ t : List UInt8, (trimS t).length ≤ t.length := by
    intro t
    have h1 : (trimL t).length ≤ t.length := (List.dropWhile_suffix _).length_le
    have h2 : (trimR (trimL t)).length ≤ (trimL t).length := by
      simp only [trimR, List.length_reverse]
      have := (List.dropWhile_suffix (fun b : UInt8 => isWs b.toNat) (l := (trimL t).reverse)).length_le
      simpa using this
    exact Nat.le_trans h2 h1
  simp only [nameOf]
  cases hc : cutAt 58 s with
  | none => exact ht s
  | some p => have := (cutAt_le hc).1; have := ht p.1; simp only; omega

theorem plain_sub {s t : List UInt8} (h : ∀ x ∈ t, x ∈ s) (hs : plain s = true) : plain t = true := by
  simp only [plain, List.all_eq_true] at hs ⊢
  exact fun x hx => hs x (h x hx)

theorem trimS_sub {t : List UInt8} : ∀ x ∈ trimS t, x ∈ t := by
  intro x hx
  simp only [trimS, trimR, trimL, List.mem_reverse] at hx
  have := (List.dropWhile_suffix _).mem hx
  rw [List.mem_reverse] at this
  exact (List.dropWhile_suffix _).mem this

theorem nameOf_plain {s : List UInt8} (h : plain s = true) : plain (nameOf s) = true := by
  simp only [nameOf]
  refine plain_sub (fun x hx => trimS_sub x hx) ?_
  cases hc : cutAt 58 s with
  | none => exact h
  | some p =>
    obtain ⟨_, y, hy⟩ := cutAt_le hc
    refine plain_sub (fun x hx => ?_) h
    rw [hy]; simp [show x ∈ p.1 from hx]
theorem plain_lowS {s : List UInt8} (h : plain s = true) : ascii (lowS s) = true := by
  have := plain_ascii h
  simp only [ascii, lowS, List.all_map, List.all_eq_true] at this ⊢
  intro x hx
  have h1 := of_decide_eq_true (this x hx)
  have lb := lowB_toNat x
  refine decide_eq_true ?_
  split at lb <;> omega
end Wax

/- FnDCanonAgain: the plain law of words and white space; its own text. -/
namespace Wax
open Go (IntKind)

def nonWs (s : List UInt8) : Prop := ∀ x ∈ s, isWs x.toNat = false
def allWs (s : List UInt8) : Prop := ∀ x ∈ s, isWs x.toNat = true

theorem nonWs_of {s : List UInt8} (h : stripD s = s) : nonWs s := by
  intro x hx
  rw [← h] at hx
  simp only [stripD, List.mem_filter, Bool.not_eq_true'] at hx
  exact hx.2

theorem allWs_of {s : List UInt8} (h : stripD s = []) : allWs s := by
  intro x hx
  simp only [stripD, List.filter_eq_nil_iff] at h
  simpa using h x hx

theorem wordsGo_ws : ∀ {b : List UInt8} (s : List UInt8), allWs b → wordsGo [] (b ++ s) = wordsGo [] s
  | [], s, _ => rfl
  | x :: r, s, h => by
    have h1 := h x (by simp)
    simp only [List.cons_append, wordsGo, h1, if_true]
    exact wordsGo_ws s fun y hy => h y (by simp [hy])

theorem wordsGo_word : ∀ {w : List UInt8} (cur s : List UInt8), nonWs w → wordsGo cur (w ++ s) = wordsGo (cur ++ w) s
  | [], cur, s, _ => by simp
  | x :: r, cur, s, h => by
    have h1 := h x (by simp)
    simp only [List.cons_append, wordsGo, h1, Bool.false_eq_true, if_false]
    rw [wordsGo_word _ s fun y hy => h y (by simp [hy])]
    simp

theorem wordsGo_end {b cur s : List UInt8} (hc : cur ≠ []) (hb : b ≠ []) (hw : allWs b) : wordsGo cur (b ++ s) = cur :: wordsGo [] (b ++ s) := by
  cases b with
  | nil => exact absurd rfl hb
  | cons x r =>
    have h1 := hw x (by simp)
    simp only [List.cons_append, wordsGo, h1, if_true, if_neg hc]

/-- Words, each with white space ahead of it. -/
def spr (bl : List (List UInt8)) (k : Nat) (ws : List (List UInt8)) : List UInt8 := (ws.zipIdx k).flatMap fun p => bl.getD (p.2 % bl.length) [] ++ p.1

theorem spr_cons {bl : List (List UInt8)} {k : Nat} {w : List UInt8} {ws : List (List UInt8)} : spr bl k (w :: ws) = bl.getD (k % bl.length) [] ++ w ++ spr bl (k + 1) ws := by simp [spr, List.zipIdx_cons]
theorem spr_snoc {bl : List (List UInt8)} {w : List UInt8} {ws : List (List UInt8)} : spr bl 0 (ws ++ [w]) = spr bl 0 ws ++ bl.getD (ws.length % bl.length) [] ++ w := by
  simp [spr, List.zipIdx_append]

theorem getD_blank {bl : List (List UInt8)} (hb : bl ≠ []) {k : Nat} : bl.getD (k % bl.length) [] ∈ bl := by
  have hl : 0 < bl.length := List.length_pos_iff.2 hb
  have := Nat.mod_lt k hl
  rw [List.getD_eq_getElem?_getD, List.getElem?_eq_getElem this]; simp

theorem words_spr {bl : List (List UInt8)} (hb : bl ≠ []) (hbl : ∀ b ∈ bl, b ≠ [] ∧ allWs b) {t : List UInt8} (ht : t ≠ []) (htw : allWs t) : ∀ (ws : List (List UInt8)) (k : Nat), (∀ w ∈ ws, w ≠ [] ∧ nonWs w) →
    wordsGo [] (spr bl k ws ++ t) = ws
  | [], k, _ => by
    have := wordsGo_ws (b := t) [] htw
    simpa [spr, wordsGo] using this
  | w :: r, k, h => by
    have ih := words_spr hb hbl ht htw r (k + 1) (fun x hx => h x (by simp [hx]))
    have hbk := hbl _ (getD_blank hb (k := k))
    have hw := h w (by simp)
    rw [spr_cons, List.append_assoc, List.append_assoc, wordsGo_ws _ hbk.2, wordsGo_word _ _ hw.2, List.nil_append]
    have key : wordsGo w (spr bl (k + 1) r ++ t) = w :: wordsGo [] (spr bl (k + 1) r ++ t) := by
      cases r with
      | nil => simpa [spr] using wordsGo_end (s := []) hw.1 ht htw
      | cons w2 r2 =>
        have hb2 := hbl _ (getD_blank hb (k := k + 1))
        rw [spr_cons, List.append_assoc, List.append_assoc]
        exact wordsGo_end hw.1 hb2.1 hb2.2
    rw [key, ih]

theorem words_join {t : List UInt8} (ht : t ≠ []) (htw : allWs t) : ∀ (ws : List (List UInt8)), (∀ w ∈ ws, w ≠ [] ∧ nonWs w) → wordsGo [] (joinB ws ++ t) = ws
  | [], _ => by
    have := wordsGo_ws (b := t) [] htw
    simpa [joinB, wordsGo] using this
  | w :: r, h => by
    have ih := words_join ht htw r (fun x hx => h x (by simp [hx]))
    have hw := h w (by simp)
    rw [joinB_cons, List.append_assoc, wordsGo_word _ _ hw.2, List.nil_append]
    have key : wordsGo w (J2 r ++ t) = w :: wordsGo [] (joinB r ++ t) := by
      cases r with
      | nil => simpa [J2, joinB] using wordsGo_end (s := []) hw.1 ht htw
      | cons w2 r2 =>
        have hsp : allWs [32] := by intro x hx; simp at hx; subst hx; rfl
        have e1 : J2 (w2 :: r2) ++ t = [32] ++ (joinB (w2 :: r2) ++ t) := by simp [J2]
        rw [e1, wordsGo_end hw.1 (by simp) hsp, wordsGo_ws _ hsp]
    rw [key, ih]

theorem lowB_ws (b : UInt8) : isWs (lowB b).toNat = isWs b.toNat := by
  have h := lowB_toNat b
  unfold isWs
  apply decide_eq_decide.2
  rw [h]
  split <;> omega

theorem lowS_nonWs {s : List UInt8} (h : nonWs s) : nonWs (lowS s) := by
  intro x hx
  simp only [lowS, List.mem_map] at hx
  obtain ⟨y, hy, rfl⟩ := hx
  rw [lowB_ws]; exact h y hy

theorem lowS_allWs {s : List UInt8} (h : allWs s) : allWs (lowS s) := by
  intro x hx
  simp only [lowS, List.mem_map] at hx
  obtain ⟨y, hy, rfl⟩ := hx
  rw [lowB_ws]; exact h y hy

theorem trimS_word {n b : List UInt8} (hn : nonWs n) (hne : n ≠ []) (hb : allWs b) : trimS (n ++ b) = n := by
  have h1 : trimL (n ++ b) = n ++ b := by
    cases n with
    | nil => exact absurd rfl hne
    | cons x r => simp [trimL, hn x (by simp)]
  rw [trimS, h1, trimR, List.reverse_append, List.dropWhile_append_of_pos (by intro x hx; exact hb x (by simpa using hx))]
  have h2 : n.reverse.dropWhile (fun b => isWs b.toNat) = n.reverse := by
    cases hr : n.reverse with
    | nil => rfl
    | cons x r =>
      have : x ∈ n := by rw [← List.mem_reverse, hr]; simp
      simp [hn x this]
  rw [h2, List.reverse_reverse]

theorem lowB_low (b : UInt8) : lowB (lowB b) = lowB b := by
  have h := lowB_toNat b
  have h2 := lowB_toNat (lowB b)
  apply UInt8.toNat_inj.1
  have : ((lowB (lowB b)).toNat : Int) = (lowB b).toNat := by
    rw [h2]; split
    · rename_i hc; rw [h] at hc ⊢; split at hc <;> split <;> omega
    · rfl
  omega

theorem lowS_low (s : List UInt8) : lowS (lowS s) = lowS s := by simp [lowS, lowB_low]

theorem cutAt_noB {c : UInt8} {n r : List UInt8} (h : noB c.toNat n) : cutAt c.toNat (n ++ c :: r) = some (n, r) := by
  rw [cutAt_app _ _ _ h]; simp [cutAt]

theorem noB_low {n : List UInt8} (h : noB 58 n) : noB 58 (lowS n) := by
  intro x hx
  simp only [lowS, List.mem_map] at hx
  obtain ⟨y, hy, rfl⟩ := hx
  have := h y hy
  rw [lowB_toNat]; split <;> omega

theorem relaxedOf_cut {n r : List UInt8} (h : noB 58 n) : relaxedOf (n ++ 58 :: r) = trimS (lowS n) ++ 58 :: joinB (wordsOf r) ++ [13, 10] := by
  have := cutAt_noB (c := 58) (r := r) h
  have e : cutAt 58 (n ++ 58 :: r) = some (n, r) := this
  simp [relaxedOf, e]

theorem noB_ws {b : List UInt8} (h : allWs b) : noB 58 b := by
  intro x hx
  have := of_decide_eq_true (h x hx)
  omega

/-- What is asked of a name, words, white space. -/
structure CA (n : List UInt8) (ws bl : List (List UInt8)) : Prop where
  nne : n ≠ []
  nn : nonWs n
  nc : noB 58 n
  bne : bl ≠ []
  bl : ∀ b ∈ bl, b ≠ [] ∧ allWs b
  ws : ∀ w ∈ ws, w ≠ [] ∧ nonWs w

def wantOf (n : List UInt8) (ws : List (List UInt8)) : List UInt8 := lowS n ++ 58 :: joinB ws ++ [13, 10]

theorem crlf_ws : allWs [13, 10] := by intro x hx; simp at hx; rcases hx with rfl | rfl <;> rfl

theorem law_plain {n : List UInt8} {ws bl : List (List UInt8)} (h : CA n ws bl) : relaxedOf (n ++ 58 :: (joinB ws ++ [13, 10])) = wantOf n ws := by
  rw [relaxedOf_cut h.nc, show wordsOf (joinB ws ++ [13, 10]) = ws from words_join (by simp) crlf_ws ws h.ws]
  have := trimS_word (lowS_nonWs h.nn) (by simpa [lowS] using h.nne) (b := []) (by intro x hx; simp at hx)
  simp only [List.append_nil] at this
  rw [this, wantOf]

theorem law_again {n : List UInt8} {ws bl : List (List UInt8)} (h : CA n ws bl) : relaxedOf (wantOf n ws) = wantOf n ws := by
  have e : wantOf n ws = lowS n ++ 58 :: (joinB ws ++ [13, 10]) := by simp [wantOf]
  have h' : CA (lowS n) ws bl := ⟨by simpa [lowS] using h.nne, lowS_nonWs h.nn, noB_low h.nc, h.bne, h.bl, h.ws⟩
  conv => lhs; rw [e]
  rw [law_plain h', wantOf, wantOf, lowS_low]

theorem law_spread {n : List UInt8} {ws bl : List (List UInt8)} (h : CA n ws bl) : relaxedOf (n ++ bl.getD 0 [] ++ 58 :: (spr bl 0 ws ++ (bl.getD 0 [] ++ [13, 10]))) = wantOf n ws := by
  have h0 := h.bl _ (getD_blank h.bne (k := 0))
  rw [Nat.zero_mod] at h0
  have hc : noB 58 (n ++ bl.getD 0 []) := by
    intro x hx
    rcases List.mem_append.1 hx with hx | hx
    · exact h.nc x hx
    · exact noB_ws h0.2 x hx
  have ht : allWs (bl.getD 0 [] ++ [13, 10]) := by
    intro x hx
    rcases List.mem_append.1 hx with hx | hx
    · exact h0.2 x hx
    · exact crlf_ws x hx
  rw [relaxedOf_cut hc, show wordsOf (spr bl 0 ws ++ (bl.getD 0 [] ++ [13, 10])) = ws from words_spr h.bne h.bl (by simp) ht ws 0 h.ws, lowS_app,
    trimS_word (lowS_nonWs h.nn) (by simpa [lowS] using h.nne) (lowS_allWs h0.2), wantOf]
end Wax

/- FnDPicks (3): one pick. -/
namespace Wax
open Go (IntKind)

set_option maxRecDepth 100000 in
theorem ok_hpPick (Γ : Gam) (h17 : Γ.fn 17 = con_zzToLower) (h40 : Γ.fn 40 = con_parseHeaderField) (h41 : Γ.fn 41 = con_zzEqualFold) : ∀ args hp q, con_hpPick args hp = some q → runsS Γ c_dkim_headerPicker_Pick args hp (fun v => v = some q) := by
  intro args hp q h
  simp only [con_hpPick] at h
  split at h <;> (try simp at h; done)
  rename_i k u es
  split at h <;> (try simp at h; done)
  rename_i fs c hu hc
  obtain rfl := asCnt_spec hc
  obtain ⟨⟨hfl, hfs, hkl, hkp, hcl⟩, rfl⟩ := ite_some h
  clear h
  have k17 : con_zzToLower [.str k] = some (.str (lowS k)) := if_pos ⟨hkl, plain_ascii hkp⟩
  have hkeyl : (lowS k).length < mid := by simpa using hkl
  have hkeya : ascii (lowS k) = true := plain_lowS hkp
  have hkk : lowS (lowS k) = lowS k := lowS_low k
  have ew0 : IntKind.i64.wrap ((fs.length : Int) - 1) = (fs.length : Int) - 1 := wrap64 (by simp only [mid] at hfl; omega) (by simp only [mid] at hfl; omega)
  simp [-alen, c_dkim_headerPicker_Pick, acall, h17, k17, slf_map hu, slf_atom hu, slf_alen hu, look_mpA, ew0]
  clear k17 hkl hkp
  generalize lowS k = key at *
  refine awp_loop2 (σ := List (List UInt8) × Nat) (fun p => ⟨[(0, .ref 1000000 0), (1, .str key), (5, .int .i64 p.2), (6, .int .i64 ((p.1.length : Int) - 1))], [(1000000, .cells [u, .mref 1000001]), (1000001, .mp (mpA c))]⟩)
    (fun p => (∃ post, fs = p.1 ++ post) ∧ pk key fs.reverse (getC c key) = pk key p.1.reverse p.2 ∧ p.2 < mid) (fun p => p.1.length) (fs, getC c key) (by simp) ⟨⟨[], by simp⟩, rfl, hcl⟩ ?_
  rintro ⟨pre, n⟩ ⟨⟨post, hpost⟩, hpk, hn⟩ LQ hLQ
  simp only at hpost hpk hn
  rcases List.eq_nil_or_concat pre with rfl | ⟨init, f, rfl⟩
  · rw [hpk]
    simp [b_dkim_headerPicker_Pick_1, t_dkim_headerPicker_Pick_2, pk, pkRes, slf_map hu, slf_refs hu, reach_succ, slf_ref hu]
  · simp only [List.concat_eq_append] at *
    subst hpost
    obtain ⟨hf1, hf2⟩ := hfs f (by simp)
    have hu' := slf_ne hu (by simp)
    subst hu'
    have k40 : con_parseHeaderField [.str f] = some (.tup [.str (nameOf f), .str (trimS (match cutAt 58 f with | some p => p.2 | none => []))]) := if_pos ⟨hf1, hf2⟩
    have k41 : con_zzEqualFold [.str (nameOf f), .str key] = some (.bool (decide (lowS (nameOf f) = key))) := by
      have := nameOf_len f
      have e : decide (lowS (nameOf f) = lowS key) = decide (lowS (nameOf f) = key) := by rw [hkk]
      rw [← e]
      exact if_pos ⟨by omega, hkeyl, plain_ascii (nameOf_plain hf2), hkeya⟩
    simp only [mid] at hfl hn hcl
    simp at hfl
    have ew1 : IntKind.i64.wrap ((init.length : Int) - 1) = (init.length : Int) - 1 := wrap64 (by omega) (by omega)
    have ew2 : IntKind.i64.wrap ((getC c key : Int) + 1) = ((getC c key + 1 : Nat) : Int) := wrap64 (by omega) (by omega)
    have fin : ∀ n', pk key (f :: init.reverse) n = pk key init.reverse n' → n' ≤ n → ∀ st, norm [0, 1, 5, 6] st = ⟨[(0, .ref 1000000 0), (1, .str key), (5, .int .i64 n'), (6, .int .i64 ((init.length : Int) - 1))], [(1000000, .cells [.sl 1 (strsA (init ++ [f] ++ post)), .mref 1000001]), (1000001, .mp (mpA c))]⟩ → LQ st := by
      intro n' e he st hst
      refine hLQ (init, n') ⟨⟨f :: post, by simp⟩, ?_, by simp only [mid]; omega⟩ (by simp) st hst
      rw [hpk]; simpa using e
    have g : (strsA init ++ .str f :: strsA post)[init.length]? = some (.str f) := get_mid (by simp)
    by_cases hm : lowS (nameOf f) = key
    · cases n with
      | zero =>
        have ms := mset_mpA c key (getC c key + 1)
        rw [Int.natCast_add] at ms
        have hres : pk key (init ++ [f] ++ post).reverse (getC c key) = some f := by rw [hpk]; simp [pk, hm]
        rw [hres]
        simp [b_dkim_headerPicker_Pick_1, acall, h40, k40, h41, k41, hm, g, look_mpA, ew1, ew2, pkRes, reach_succ]
        exact ms
      | succ n =>
        have f1 := fin n (by simp [pk, hm]) (by omega)
        have ew3 : IntKind.i64.wrap (n : Int) = (n : Int) := wrap64 (by omega) (by omega)
        have hn0 : ¬ (n : Int) + 1 = 0 := by omega
        simp [b_dkim_headerPicker_Pick_1, acall, h40, k40, h41, k41, hm, g, ew1, ew3, hn0]
        exact f1 _ (by simp)
    · have f1 := fin n (by simp [pk, hm]) (by omega)
      simp [b_dkim_headerPicker_Pick_1, acall, h40, k40, h41, k41, hm, g, ew1]
      exact f1 _ (by simp)
end Wax

/- FnDPicks (4): all picks, one after another. -/
namespace Wax
open Go (IntKind)

def pickL (rev : List (List UInt8)) : List (List UInt8) → List (List UInt8 × Nat) → List (List UInt8)
  | [], _ => []
  | k :: ks, c => match pk (lowS k) rev (getC c (lowS k)) with
    | some f => f :: pickL rev ks (setC c (lowS k) (getC c (lowS k) + 1))
    | none => [] :: pickL rev ks c

def strV (l : List (List UInt8)) : AV := match l with | [] => .nilS | _ => .sl 1 (strsA l)
theorem slStrs_strV {l : List (List UInt8)} : slStrs (strV l) = some l := by
  cases l <;> simp [strV, slStrs, ← strsA_cons]

def con_Pick : List AV → Option AV
  | [u, v] => match slStrs u, slStrs v with
    | some fs, some ks => if fs.length < mid ∧ (∀ s ∈ fs, s.length < mid ∧ plain s = true) ∧ ks.length < mid ∧ (∀ s ∈ ks, s.length < mid ∧ plain s = true) then
        some (strV (pickL fs.reverse ks []))
      else none
    | _, _ => none
  | _ => none

set_option maxRecDepth 100000 in
theorem ok_Pick (Γ : Gam) (s38 : Γ.st 38 = con_newHeaderPicker) (s39 : Γ.st 39 = con_hpPick) : ∀ args r, con_Pick args = some r → runs Γ c_dkim_Pick args (fun v => v = r) := by
  intro args r h
  simp only [con_Pick] at h
  split at h <;> (try simp at h; done)
  rename_i u v
  split at h <;> (try simp at h; done)
  rename_i fs ks hu hv
  obtain ⟨⟨hfl, hfs, hkl, hks⟩, rfl⟩ := ite_some h
  clear h
  have k38 : con_newHeaderPicker [u] [] = some (.ref 0 0, [(0, .cells [u, .mref 1]), (1, .mp [])]) := by simp only [con_newHeaderPicker, hu]
  simp [-alen, c_dkim_Pick, acallS, s38, k38, slf_map hu, slf_kill hu, slf_kill hv, slf_refs hu, slf_alen hv]
  refine awp_loop2 (σ := List (List UInt8) × List (List UInt8) × List (List UInt8) × List (List UInt8 × Nat)) (fun p => ⟨[(5, .ref 10 0), (6, grV 22 1 p.2.2.1.length), (11, v), (12, .int .i64 ks.length), (13, .int .i64 p.1.length)], grH 22 p.2.2.1.length (strsA p.2.2.1) ++ [(10, .cells [u, .mref 100010]), (100010, .mp (mpA p.2.2.2))]⟩)
    (fun p => ks = p.1 ++ p.2.1 ∧ pickL fs.reverse ks [] = p.2.2.1 ++ pickL fs.reverse p.2.1 p.2.2.2 ∧ p.2.2.1.length = p.1.length ∧ ∀ j, getC p.2.2.2 j ≤ p.1.length) (fun p => p.2.1.length) ([], ks, [], []) (by simp [mpA]) ⟨by simp, by simp, rfl, fun j => Nat.le_refl _⟩ ?_
  rintro ⟨pre, post, outs, c⟩ ⟨hpost, hpk, hol, hgc⟩ LQ hLQ
  simp only at hpost hpk hol hgc
  subst hpost
  cases post with
  | nil =>
    simp only [pickL, List.append_nil] at hpk ⊢
    rw [hpk]
    cases outs with
    | nil =>
      have : pre = [] := List.eq_nil_of_length_eq_zero hol.symm
      subst this
      simp [b_dkim_Pick_1, t_dkim_Pick_2, strV]
    | cons o outs =>
      simp at hol
      simp [b_dkim_Pick_1, t_dkim_Pick_2, strV, ← hol, List.take_of_length_le]
  | cons k post =>
    have hv' := slf_ne hv (by simp)
    subst hv'
    obtain ⟨hk1, hk2⟩ := hks k (by simp)
    have k39 : con_hpPick [.ref 0 0, .str k] [(0, .cells [u, .mref 1]), (1, .mp (mpA c))] = some (pkRes u c (lowS k) (pk (lowS k) fs.reverse (getC c (lowS k)))) := by
      simp only [con_hpPick, hu, asCnt_mpA]
      exact if_pos ⟨hfl, hfs, hk1, hk2, by have := hgc (lowS k); simp at hkl; omega⟩
    simp only [mid] at hkl
    simp at hkl
    have g : (strsA pre ++ .str k :: strsA post)[pre.length]? = some (.str k) := get_mid (by simp)
    have ew : IntKind.i64.wrap ((pre.length : Int) + 1) = (pre.length : Int) + 1 := wrap64 (by omega) (by omega)
    have hlt : (pre.length : Int) < (pre.length : Int) + ((post.length : Int) + 1) := by omega
    have fin : ∀ (x : List UInt8) (c' : List (List UInt8 × Nat)), pickL fs.reverse (k :: post) c = x :: pickL fs.reverse post c' → (∀ j, getC c' j ≤ pre.length + 1) → ∀ st, norm [5, 6, 11, 12, 13] st = ⟨[(5, .ref 10 0), (6, .msl 22 1 0 (outs.length + 1)), (11, .sl 1 (strsA (pre ++ k :: post))), (12, .int .i64 ((pre.length : Int) + ((post.length : Int) + 1))), (13, .int .i64 ((pre.length : Int) + 1))], [(22, .cells (strsA outs ++ [.str x])), (10, .cells [u, .mref 100010]), (100010, .mp (mpA c'))]⟩ → LQ st := by
      intro x c' e hc st hst
      refine hLQ (pre ++ [k], post, outs ++ [x], c') ⟨by simp, ?_, by simp [hol], by simpa using hc⟩ (by simp) st ?_
      · rw [hpk, e]; simp
      · simpa using hst
    cases hpkv : pk (lowS k) fs.reverse (getC c (lowS k)) with
    | none =>
      rw [hpkv] at k39
      have f1 := fin [] c (by simp [pickL, hpkv]) (fun j => by have := hgc j; omega)
      cases outs with
      | nil =>
        simp [b_dkim_Pick_1, hlt, g, acallS, s39, k39, slf_map hu, slf_kill hu, slf_refs hu, reach_succ, pkRes, ew]
        exact f1 _ (by simp)
      | cons o outs =>
        simp at hol
        simp [b_dkim_Pick_1, hlt, g, acallS, s39, k39, slf_map hu, slf_kill hu, slf_refs hu, reach_succ, pkRes, ew]
        refine ⟨by omega, f1 _ (by simp)⟩
    | some f =>
      rw [hpkv] at k39
      have f1 := fin f (setC c (lowS k) (getC c (lowS k) + 1)) (by simp [pickL, hpkv]) (fun j => by rw [getC_setC]; have := hgc j; have := hgc (lowS k); split <;> omega)
      cases outs with
      | nil =>
        simp [b_dkim_Pick_1, hlt, g, acallS, s39, k39, slf_map hu, slf_kill hu, slf_refs hu, reach_succ, pkRes, ew]
        exact f1 _ (by simp)
      | cons o outs =>
        simp at hol
        simp [b_dkim_Pick_1, hlt, g, acallS, s39, k39, slf_map hu, slf_kill hu, slf_refs hu, reach_succ, pkRes, ew]
        refine ⟨by omega, f1 _ (by simp)⟩
end Wax

/- slices.Clone of texts, as the kit's shelf has it, for the engine. -/
namespace Wax
open Go Go.RowKit

/-- What the shelf says of slices.Clone at []string, in one piece. -/
def CloneSays (P : Program) (f : FuncId) : Prop :=
  ∃ e9 : TypeId,
  (∀ (n c : Nat) (w : World), Calls P f #[.slice none n c] w fun e w' => e = .returned (.slice none 0 0) ∧ w' = w) ∧
  (∀ (a : Addr) (c : Nat) (w : World), Calls P f #[.slice (some a) 0 c] w fun e w' => ∃ v', e = .returned v' ∧ w'.ownsRow w.heap.size e9 1 v' 0 [] ∧ v' ≠ .slice none 0 0 ∧ Below w.heap.size w w') ∧
  ∀ (b off n c : Nat) (zs : List ByteArray) (w : World), n ≤ zs.length → n * 16 ≤ 140737488355328 → (∀ j, j < zs.length → w.cell? ⟨b, off + j, none⟩ = some (.string (zs.getD j ByteArray.empty))) →
    Calls P f #[.slice (some ⟨b, off, none⟩) n c] w fun e w' => ∃ v', e = .returned v' ∧ w'.ownsRow w.heap.size e9 1 v' n ((zs.take n).map (Value.string)) ∧ v' ≠ .slice none 0 0 ∧ Below w.heap.size w w'

def con_Clone : List AV → Option AV
  | [u] => match slStrs u with
    | some l => if l.length < mid then some u else none
    | none => none
  | _ => none

theorem repSl_mk {T : Tab} {w : World} {F : Frz} {b : Nat} (hF : F b) : ∀ (l : List (List UInt8)) (o : Nat), (∀ (j : Nat) s, l[j]? = some s → w.cell? ⟨b, o + j, none⟩ = some (.string ⟨s.toArray⟩)) → RepSl T w F 1 b o (strsA l)
  | [], _, _ => trivial
  | x :: r, o, h => by
    simp only [strsA, List.map_cons, RepSl]
    refine ⟨trivial, ⟨hF, _, by simpa using h 0 x rfl, by simp [Rep]⟩, ?_⟩
    exact repSl_mk hF r (o + 1) fun j s hj => by
      rw [show o + 1 + j = o + (j + 1) by omega]
      exact h (j + 1) s (by simpa using hj)

theorem owned_strs {T : Tab} {w w' : World} {F : Frz} {e9 : TypeId} {v' : Value} {l : List (List UInt8)} (ho : w'.ownsRow w.heap.size e9 1 v' l.length (l.map fun s => Value.string ⟨s.toArray⟩)) (hn : v' ≠ .slice none 0 0) :
    Rep T w' (fun b => F b ∨ (w.heap.size ≤ b ∧ b < w'.heap.size)) noRho (.sl 1 (strsA l)) v' := by
  have ho' := ho
  obtain ⟨_, hx⟩ := ho
  rcases hx with ⟨he, _⟩ | ⟨g, cap, cur, rfl, hg, hh, hcap, _, _, _⟩
  · exact absurd he hn
  · simp only [Rep]
    refine ⟨g, 0, cap, by simp, by simpa using hcap, ?_⟩
    have hgl : g < w'.heap.size := by
      rcases Nat.lt_or_ge g w'.heap.size with h | h
      · exact h
      · rw [Array.getElem?_eq_none h] at hh; simp at hh
    refine repSl_mk (.inr ⟨hg, hgl⟩) l 0 fun j s hj => ?_
    have := ho'.cells (g := g) rfl j (.string ⟨s.toArray⟩) (by rw [List.getElem?_map, hj]; rfl)
    have e : ((⟨g, 0, none⟩ : Addr).add j) = ⟨g, 0 + j, none⟩ := by
      cases j <;> simp [Addr.add]
    rw [e] at this
    exact this

theorem ok_Clone {P : Program} {T : Tab} {f : FuncId} (H : CloneSays P f) : ∀ args r, con_Clone args = some r → OkCall P T f args r := by
  intro args r h w F vs hF hx
  obtain ⟨e9, H1, H2, H3⟩ := H
  simp only [con_Clone] at h
  split at h <;> (try simp at h; done)
  rename_i u
  split at h <;> (try simp at h; done)
  rename_i l hl
  obtain ⟨hlen, rfl⟩ := ite_some h
  clear h
  simp only [mid] at hlen
  match vs, hx with
  | [v], hx =>
    simp only [RepL, and_true] at hx
    rcases slStrs_cases hl with ⟨rfl, rfl⟩ | rfl
    · simp only [Rep] at hx
      subst hx
      refine (H1 0 0 w).mono ?_
      rintro e w' ⟨rfl, rfl⟩
      exact ⟨_, rfl, Below.refl _ _, by simp [Rep]⟩
    · simp only [Rep] at hx
      obtain ⟨b, o, cap, rfl, hcap, hsl⟩ := hx
      cases l with
      | nil =>
        refine (H2 _ cap w).mono ?_
        rintro e w' ⟨v', rfl, ho, hn, hbl⟩
        exact ⟨_, rfl, hbl, owned_strs (e9 := e9) (l := []) (by simpa using ho) hn⟩
      | cons x0 l =>
        have hc := repSl_strs (x0 :: l) o hsl
        have hH := H3 b o (x0 :: l).length cap ((x0 :: l).map fun s => (⟨s.toArray⟩ : ByteArray)) w (by simp) (by omega) (fun j hj => by
          have hj' : j < (x0 :: l).length := by simpa using hj
          have := (hc j _ (List.getElem?_eq_getElem hj')).2
          rw [this, List.getD_eq_getElem?_getD, List.getElem?_map, List.getElem?_eq_getElem hj']; rfl)
        have e2 : (strsA (x0 :: l)).length = (x0 :: l).length := by simp
        rw [e2]
        refine hH.mono ?_
        rintro e w' ⟨v', rfl, ho, hn, hbl⟩
        refine ⟨_, rfl, hbl, owned_strs (e9 := e9) (l := x0 :: l) ?_ hn⟩
        have e3 : ((x0 :: l).map fun s => (⟨s.toArray⟩ : ByteArray)).take (x0 :: l).length = (x0 :: l).map fun s => (⟨s.toArray⟩ : ByteArray) := List.take_of_length_le (by simp)
        rw [e3, List.map_map] at ho
        exact ho
end Wax

/- FnDPicks (5): the reference's picks. -/
namespace Wax
open Go (IntKind)

theorem ok_DPick (Γ : Gam) (h36 : Γ.fn 36 = con_Clone) (h37 : Γ.fn 37 = con_Pick) : ∀ args r, con_Pick args = some r → runs Γ c_impl_DPick args (fun v => v = r) := by
  intro args r h
  have h' := h
  simp only [con_Pick] at h
  split at h <;> (try simp at h; done)
  rename_i u v
  split at h <;> (try simp at h; done)
  rename_i fs ks hu hv
  obtain ⟨⟨hfl, hfs, hkl, hks⟩, rfl⟩ := ite_some h
  clear h
  have k36 : con_Clone [u] = some u := by simp only [con_Clone, hu]; exact if_pos hfl
  rw [show (pickL fs.reverse ks []) = pickL fs.reverse ks [] from rfl] at h'
  have hs := slf_snap (slStrs_strV (l := pickL fs.reverse ks [])) 3 []
  have hr := slf_ref (slStrs_strV (l := pickL fs.reverse ks []))
  simp [c_impl_DPick, acall, h36, h37, k36, h', slf_ref hu, slf_ref hv, slf_snap hu, slf_snap hv, hr]

/-- The last field of that name that is not taken yet; it is taken. -/
def uk (key : List UInt8) : List (List UInt8 × Bool) → Option (List UInt8 × List (List UInt8 × Bool))
  | [] => none
  | (f, b) :: r => if b = false ∧ lowS (nameOf f) = key then some (f, (f, true) :: r) else (uk key r).map fun q => (q.1, (f, b) :: q.2)

def flA (Z : List (List UInt8 × Bool)) : List AV := Z.map fun p => .bool p.2
@[simp] theorem flA_nil : flA [] = [] := rfl
@[simp] theorem flA_cons {x : List UInt8 × Bool} {l} : flA (x :: l) = .bool x.2 :: flA l := rfl
@[simp] theorem flA_app {l m} : flA (l ++ m) = flA l ++ flA m := by simp [flA]
@[simp] theorem flA_length {l} : (flA l).length = l.length := by simp [flA]
@[simp] theorem atoms_flA {l} : atoms (flA l) = true := by induction l <;> simp_all
@[simp] theorem killL_flA {d : Nat} {l} : killL d (flA l) = flA l := by induction l <;> simp_all

set_option maxRecDepth 100000 in
theorem dp_inner (Γ : Gam) (h28 : Γ.fn 28 = con_DName) (h4 : Γ.fn 4 = con_DLower) {Q : APost} {u : AV} {fs ks : List (List UInt8)} (hu : slStrs u = some fs) (hfl : fs.length < mid) (hfs : ∀ s ∈ fs, s.length < mid) (outs : List (List UInt8)) (i : Nat) (k : List UInt8) (hk : k.length < mid)
    (hki : ks[i]? = some k) (Z : List (List UInt8 × Bool)) (hZ : fs = Z.map (·.1))
    (hQ1 : uk (lowS k) Z.reverse = none → Q (.exit 2) ⟨[(0, u), (1, .sl 1 (strsA ks)), (5, .msl 12 1 0 fs.length), (6, grV 55 1 outs.length), (7, .int .i64 i), (8, .str []), (9, .int .i64 (-1)), (23, .bool false)], grH 55 outs.length (strsA outs) ++ [(12, .cells (flA Z))]⟩)
    (hQ2 : ∀ f L, uk (lowS k) Z.reverse = some (f, L) → Q (.exit 2) ⟨[(0, u), (1, .sl 1 (strsA ks)), (5, .msl 12 1 0 fs.length), (6, grV 55 1 outs.length), (7, .int .i64 i), (8, .str f)], grH 55 outs.length (strsA outs) ++ [(12, .cells (flA L.reverse))]⟩) :
    awp Γ (.loop [0, 1, 5, 6, 7, 8, 9] b_spec_DPicked_1) Q ⟨[(0, u), (1, .sl 1 (strsA ks)), (5, .msl 12 1 0 fs.length), (6, grV 55 1 outs.length), (7, .int .i64 i), (8, .str []), (9, .int .i64 ((fs.length : Int) - 1))], grH 55 outs.length (strsA outs) ++ [(12, .cells (flA Z))]⟩ := by
  refine awp_loop2 (σ := List (List UInt8 × Bool) × List (List UInt8 × Bool)) (fun p => ⟨[(0, u), (1, .sl 1 (strsA ks)), (5, .msl 12 1 0 fs.length), (6, grV 55 1 outs.length), (7, .int .i64 i), (8, .str []), (9, .int .i64 ((p.1.length : Int) - 1))], grH 55 outs.length (strsA outs) ++ [(12, .cells (flA Z))]⟩)
    (fun p => Z = p.1 ++ p.2 ∧ uk (lowS k) Z.reverse = (uk (lowS k) p.1.reverse).map fun q => (q.1, p.2.reverse ++ q.2)) (fun p => p.1.length) (Z, []) (by subst hZ; simp) ⟨by simp, by simp⟩ ?_
  rintro ⟨pre, post⟩ ⟨hz, hk2⟩ LQ hLQ
  simp only at hz hk2
  rcases List.eq_nil_or_concat pre with rfl | ⟨init, ⟨f, b⟩, rfl⟩
  · have e := hQ1 (by rw [hk2]; rfl)
    simp [b_spec_DPicked_1]
    exact e
  · simp only [List.concat_eq_append] at *
    have hfZ : fs = init.map (·.1) ++ f :: post.map (·.1) := by rw [hZ, hz]; simp
    have hne : fs ≠ [] := by rw [hfZ]; simp
    have hu' := slf_ne hu hne
    subst hu'
    have hf := hfs f (by rw [hfZ]; simp)
    have hlen : fs.length = init.length + (post.length + 1) := by rw [hfZ]; simp
    have hZl : flA Z = flA init ++ .bool b :: flA post := by rw [hz]; simp
    have g : (strsA fs)[init.length]? = some (.str f) := by rw [hfZ]; simp
    have gz : (flA init ++ .bool b :: flA post)[init.length]? = some (.bool b) := get_mid (by simp)
    have gs : (flA init ++ .bool b :: flA post).set init.length (.bool true) = flA init ++ .bool true :: flA post := set_mid (by simp)
    have k28 : con_DName [.str f] = some (.str (nameOf f)) := if_pos hf
    have k4 : con_DLower [.str (nameOf f)] = some (.str (lowS (nameOf f))) := by
      have := nameOf_len f
      exact if_pos (by simp only [mid, big] at *; omega)
    have k4' : con_DLower [.str k] = some (.str (lowS k)) := if_pos (by simp only [mid, big] at *; omega)
    simp only [mid] at hfl
    have ew1 : IntKind.i64.wrap ((init.length : Int) - 1) = (init.length : Int) - 1 := wrap64 (by omega) (by omega)
    have hlt : init.length < fs.length := by omega
    have g0 : fs[init.length]? = some f := by rw [hfZ]; exact get_mid (by simp)
    have g2 : fs[init.length]'hlt = f := by rw [List.getElem?_eq_getElem hlt] at g0; exact Option.some.inj g0
    by_cases hc : b = false ∧ lowS (nameOf f) = lowS k
    · obtain ⟨rfl, hm⟩ := hc
      have e := hQ2 f (post.reverse ++ (f, true) :: init.reverse) (by rw [hk2]; simp [uk, hm])
      have e2 : flA (post.reverse ++ (f, true) :: init.reverse).reverse = flA init ++ .bool true :: flA post := by simp
      rw [e2] at e
      rw [hZl]
      cases outs with
      | nil =>
        simp [b_spec_DPicked_1, gz, g2, gs, acall, h28, k28, h4, k4, k4', hki, hm, hlt]
        simpa using e
      | cons o outs =>
        simp [b_spec_DPicked_1, gz, g2, gs, acall, h28, k28, h4, k4, k4', hki, hm, hlt]
        simpa using e
    · have e : uk (lowS k) (init ++ [(f, b)]).reverse = (uk (lowS k) init.reverse).map fun q => (q.1, (f, b) :: q.2) := by simp [uk, hc]
      have f1 : ∀ st, norm [0, 1, 5, 6, 7, 8, 9] st = ⟨[(0, .sl 1 (strsA fs)), (1, .sl 1 (strsA ks)), (5, .msl 12 1 0 fs.length), (6, grV 55 1 outs.length), (7, .int .i64 i), (8, .str []), (9, .int .i64 ((init.length : Int) - 1))], grH 55 outs.length (strsA outs) ++ [(12, .cells (flA Z))]⟩ → LQ st := by
        intro st hst
        refine hLQ (init, (f, b) :: post) ⟨by rw [hz]; simp, ?_⟩ (by simp) st hst
        rw [hk2, e, Option.map_map]; simp [Function.comp_def]
      rw [hZl] at f1 ⊢
      cases b with
      | true =>
        cases outs with
        | nil =>
          simp [b_spec_DPicked_1, gz, acall, hlt, ew1]
          exact f1 _ (by simp)
        | cons o outs =>
          simp [b_spec_DPicked_1, gz, acall, hlt, ew1]
          exact f1 _ (by simp)
      | false =>
        have hm : ¬ lowS (nameOf f) = lowS k := fun h => hc ⟨rfl, h⟩
        cases outs with
        | nil =>
          simp [b_spec_DPicked_1, gz, g2, acall, h28, k28, h4, k4, k4', hki, hm, hlt, ew1]
          exact f1 _ (by simp)
        | cons o outs =>
          simp [b_spec_DPicked_1, gz, g2, acall, h28, k28, h4, k4, k4', hki, hm, hlt, ew1]
          exact f1 _ (by simp)
end Wax

/- FnDPicks (6): the reference's picks, all of them. -/
namespace Wax
open Go (IntKind)

def upL : List (List UInt8) → List (List UInt8 × Bool) → List (List UInt8)
  | [], _ => []
  | k :: ks, L => match uk (lowS k) L with
    | some q => q.1 :: upL ks q.2
    | none => [] :: upL ks L

def con_DPicked : List AV → Option AV
  | [u, v] => match slStrs u, slStrs v with
    | some fs, some ks => if fs.length < mid ∧ (∀ s ∈ fs, s.length < mid) ∧ ks.length < mid ∧ (∀ s ∈ ks, s.length < mid) then
        some (strV (upL ks (fs.map fun f => (f, false)).reverse))
      else none
    | _, _ => none
  | _ => none

theorem uk_map {key : List UInt8} : ∀ {L : List (List UInt8 × Bool)} {f L'}, uk key L = some (f, L') → L'.map (·.1) = L.map (·.1)
  | [], f, L', h => by simp [uk] at h
  | (g, b) :: r, f, L', h => by
    simp only [uk] at h
    split at h
    · simp at h; obtain ⟨rfl, rfl⟩ := h; rfl
    · cases hr : uk key r with
      | none => rw [hr] at h; simp at h
      | some q =>
        obtain ⟨f1, L1⟩ := q
        rw [hr] at h; simp at h; obtain ⟨rfl, rfl⟩ := h
        have := uk_map hr
        simpa using this

theorem flA_init (fs : List (List UInt8)) : flA (fs.map fun f => (f, false)) = List.replicate fs.length (.bool false) := by induction fs <;> simp_all [List.replicate_succ]

set_option maxRecDepth 100000 in
theorem ok_DPicked (Γ : Gam) (h28 : Γ.fn 28 = con_DName) (h4 : Γ.fn 4 = con_DLower) : ∀ args r, con_DPicked args = some r → runs Γ c_spec_DPicked args (fun v => v = r) := by
  intro args r h
  simp only [con_DPicked] at h
  split at h <;> (try simp at h; done)
  rename_i u v
  split at h <;> (try simp at h; done)
  rename_i fs ks hu hv
  obtain ⟨⟨hfl, hfs, hkl, hks⟩, rfl⟩ := ite_some h
  clear h
  have hfl' := hfl
  have hkl' := hkl
  simp only [mid] at hfl' hkl'
  have ew0 : IntKind.i64.wrap ((fs.length : Int) - 1) = (fs.length : Int) - 1 := wrap64 (by omega) (by omega)
  simp [-alen, c_spec_DPicked, slf_alen hu, slf_kill hu, slf_kill hv]
  refine ⟨by omega, ?_⟩
  refine awp_loop2 (σ := List (List UInt8) × List (List UInt8) × List (List UInt8) × List (List UInt8 × Bool)) (fun p => ⟨[(0, u), (1, v), (5, .msl 12 1 0 fs.length), (6, grV 55 1 p.2.2.1.length), (7, .int .i64 p.1.length)], grH 55 p.2.2.1.length (strsA p.2.2.1) ++ [(12, .cells (flA p.2.2.2))]⟩)
    (fun p => ks = p.1 ++ p.2.1 ∧ upL ks (fs.map fun f => (f, false)).reverse = p.2.2.1 ++ upL p.2.1 p.2.2.2.reverse ∧ p.2.2.1.length = p.1.length ∧ fs = p.2.2.2.map (·.1)) (fun p => p.2.1.length) ([], ks, [], fs.map fun f => (f, false)) (by simp [flA_init]) ⟨by simp, by simp, rfl, by simp [Function.comp_def]⟩ ?_
  rintro ⟨pre, post, outs, Z⟩ ⟨hpost, hup, hol, hZ⟩ LQ hLQ
  simp only at hpost hup hol hZ
  subst hpost
  cases post with
  | nil =>
    simp only [upL, List.append_nil] at hup ⊢
    rw [hup]
    cases outs with
    | nil =>
      have : pre = [] := List.eq_nil_of_length_eq_zero hol.symm
      subst this
      simp [-alen, slf_alen hv, b_spec_DPicked_4, t_spec_DPicked_5, strV]
    | cons o outs =>
      simp at hol hv
      simp [-alen, slf_alen hv, b_spec_DPicked_4, t_spec_DPicked_5, strV, ← hol, List.take_of_length_le]
  | cons k post =>
    have hv' := slf_ne hv (by simp)
    have hk1 := hks k (by simp)
    simp at hkl'
    have ew : IntKind.i64.wrap ((pre.length : Int) + 1) = (pre.length : Int) + 1 := wrap64 (by omega) (by omega)
    have hlt : (pre.length : Int) < (pre.length : Int) + ((post.length : Int) + 1) := by omega
    simp [-alen, slf_alen hu, slf_alen hv, b_spec_DPicked_4, ew0, hlt]
    have fin : ∀ (x : List UInt8) (Z' : List (List UInt8 × Bool)), upL (k :: post) Z.reverse = x :: upL post Z'.reverse → fs = Z'.map (·.1) → ∀ st, norm [0, 1, 5, 6, 7] st = ⟨[(0, u), (1, v), (5, .msl 12 1 0 fs.length), (6, .msl 55 1 0 (outs.length + 1)), (7, .int .i64 ((pre.length : Int) + 1))], [(55, .cells (strsA outs ++ [.str x])), (12, .cells (flA Z'))]⟩ → LQ st := by
      intro x Z' e hm st hst
      refine hLQ (pre ++ [k], post, outs ++ [x], Z') ⟨by simp, ?_, by simp [hol], hm⟩ (by simp) st ?_
      · rw [hup, e]; simp
      · simpa using hst
    subst hv'
    refine dp_inner Γ h28 h4 (ks := pre ++ k :: post) hu hfl hfs outs pre.length k hk1 (get_mid rfl) Z hZ ?_ ?_
    · intro hn
      have f1 := fin [] Z (by simp [upL, hn]) hZ
      cases outs with
      | nil =>
        simp [t_spec_DPicked_2, t_spec_DPicked_3, slf_kill hu, ew]
        exact f1 _ (by simp)
      | cons o outs =>
        simp at hol
        simp [t_spec_DPicked_2, t_spec_DPicked_3, slf_kill hu, ew]
        exact ⟨by omega, f1 _ (by simp)⟩
    · intro f L hn
      have f1 := fin f L.reverse (by simp [upL, hn]) (by have := uk_map hn; rw [List.map_reverse, this, hZ]; simp)
      cases outs with
      | nil =>
        simp [t_spec_DPicked_2, t_spec_DPicked_3, slf_kill hu, ew]
        exact f1 _ (by simp)
      | cons o outs =>
        simp at hol
        simp [t_spec_DPicked_2, t_spec_DPicked_3, slf_kill hu, ew]
        exact ⟨by omega, f1 _ (by simp)⟩
end Wax

/- FnDPicks (7): the plain law. -/
namespace Wax
open Go (IntKind)

/-- The fields that are taken are the last ones of each name, as many as were picked. -/
def Took : List (List UInt8 × Bool) → (List UInt8 → Nat) → Prop
  | [], _ => True
  | (f, b) :: r, g => if g (lowS (nameOf f)) = 0 then b = false ∧ Took r g else b = true ∧ Took r (fun j => if j = lowS (nameOf f) then g j - 1 else g j)

theorem took_step {key : List UInt8} : ∀ (L : List (List UInt8 × Bool)) (g : List UInt8 → Nat), Took L g →
    (∀ q, uk key L = some q → pk key (L.map (·.1)) (g key) = some q.1 ∧ Took q.2 (fun j => if j = key then g j + 1 else g j)) ∧ (uk key L = none → pk key (L.map (·.1)) (g key) = none)
  | [], g, _ => by simp [uk, pk]
  | (f, b) :: r, g, h => by
    simp only [Took] at h
    by_cases hk : lowS (nameOf f) = key
    · subst hk
      by_cases h0 : g (lowS (nameOf f)) = 0
      · rw [if_pos h0] at h
        obtain ⟨rfl, hr⟩ := h
        refine ⟨fun q hq => ?_, fun hn => by simp [uk] at hn⟩
        simp [uk] at hq
        subst hq
        refine ⟨by simp [pk, h0], ?_⟩
        simp only [Took, if_true]
        rw [if_neg (by omega)]
        refine ⟨trivial, ?_⟩
        have e : (fun j => if j = lowS (nameOf f) then (if j = lowS (nameOf f) then g j + 1 else g j) - 1 else if j = lowS (nameOf f) then g j + 1 else g j) = g := by
          funext j; by_cases hj : j = lowS (nameOf f) <;> simp [hj]
        rw [e]; exact hr
      · rw [if_neg h0] at h
        obtain ⟨rfl, hr⟩ := h
        have ih := took_step (key := lowS (nameOf f)) r _ hr
        simp only [if_true] at ih
        have hp : pk (lowS (nameOf f)) (f :: r.map (·.1)) (g (lowS (nameOf f))) = pk (lowS (nameOf f)) (r.map (·.1)) (g (lowS (nameOf f)) - 1) := by
          cases hg : g (lowS (nameOf f)) with
          | zero => exact absurd hg h0
          | succ n => simp [pk]
        have hu : uk (lowS (nameOf f)) ((f, true) :: r) = (uk (lowS (nameOf f)) r).map fun q => (q.1, (f, true) :: q.2) := by simp [uk]
        rw [hu]
        simp only [List.map_cons]
        rw [hp]
        refine ⟨fun q hq => ?_, fun hn => ?_⟩
        · cases hr2 : uk (lowS (nameOf f)) r with
          | none => rw [hr2] at hq; simp at hq
          | some q2 =>
            rw [hr2] at hq
            simp at hq; subst hq
            obtain ⟨i1, i2⟩ := ih.1 q2 hr2
            refine ⟨i1, ?_⟩
            simp only [Took, if_true]
            rw [if_neg (by omega)]
            refine ⟨trivial, ?_⟩
            have e : (fun j => if j = lowS (nameOf f) then (if j = lowS (nameOf f) then g j + 1 else g j) - 1 else if j = lowS (nameOf f) then g j + 1 else g j) = (fun j => if j = lowS (nameOf f) then (if j = lowS (nameOf f) then g j - 1 else g j) + 1 else if j = lowS (nameOf f) then g j - 1 else g j) := by
              funext j; by_cases hj : j = lowS (nameOf f)
              · subst hj; simp; omega
              · simp [hj]
            rw [e]; exact i2
        · cases hr2 : uk (lowS (nameOf f)) r with
          | none => exact ih.2 hr2
          | some q2 => rw [hr2] at hn; simp at hn
    · have hp : ∀ n, pk key (f :: r.map (·.1)) n = pk key (r.map (·.1)) n := fun n => by simp [pk, hk]
      have hu : uk key ((f, b) :: r) = (uk key r).map fun q => (q.1, (f, b) :: q.2) := by simp [uk, hk]
      have main : ∀ g' : List UInt8 → Nat, g' key = g key → Took r g' → (∀ q2, Took q2 (fun j => if j = key then g' j + 1 else g' j) → Took ((f, b) :: q2) (fun j => if j = key then g j + 1 else g j)) →
          (∀ q, uk key ((f, b) :: r) = some q → pk key (((f, b) :: r).map (·.1)) (g key) = some q.1 ∧ Took q.2 (fun j => if j = key then g j + 1 else g j)) ∧ (uk key ((f, b) :: r) = none → pk key (((f, b) :: r).map (·.1)) (g key) = none) := by
        intro g' hg hr back
        have ih := took_step (key := key) r g' hr
        rw [hu]
        simp only [List.map_cons]
        rw [hp, ← hg]
        refine ⟨fun q hq => ?_, fun hn => ?_⟩
        · cases hr2 : uk key r with
          | none => rw [hr2] at hq; simp at hq
          | some q2 =>
            rw [hr2] at hq
            simp at hq; subst hq
            obtain ⟨i1, i2⟩ := ih.1 q2 hr2
            exact ⟨i1, back _ i2⟩
        · cases hr2 : uk key r with
          | none => exact ih.2 hr2
          | some q2 => rw [hr2] at hn; simp at hn
      by_cases h0 : g (lowS (nameOf f)) = 0
      · rw [if_pos h0] at h
        obtain ⟨rfl, hr⟩ := h
        refine main g rfl hr fun q2 h2 => ?_
        simp only [Took, if_neg hk]
        rw [if_pos h0]
        exact ⟨trivial, h2⟩
      · rw [if_neg h0] at h
        obtain ⟨rfl, hr⟩ := h
        refine main _ (if_neg fun e : key = lowS (nameOf f) => hk e.symm) hr fun q2 h2 => ?_
        simp only [Took, if_neg hk]
        rw [if_neg h0]
        refine ⟨trivial, ?_⟩
        have e : (fun j => if j = key then (if j = lowS (nameOf f) then g j - 1 else g j) + 1 else if j = lowS (nameOf f) then g j - 1 else g j) = (fun j => if j = lowS (nameOf f) then (if j = key then g j + 1 else g j) - 1 else if j = key then g j + 1 else g j) := by
          funext j
          by_cases hj : j = key
          · have : ¬ key = lowS (nameOf f) := fun e => hk e.symm
            subst hj; simp [this]
          · simp [hj]
        rw [← e]; exact h2

theorem pick_same {rev : List (List UInt8)} : ∀ (ks : List (List UInt8)) (c : List (List UInt8 × Nat)) (L : List (List UInt8 × Bool)), L.map (·.1) = rev → Took L (getC c) → pickL rev ks c = upL ks L
  | [], _, _, _, _ => rfl
  | k :: ks, c, L, hL, ht => by
    have hs := took_step (key := lowS k) L (getC c) ht
    rw [hL] at hs
    cases hu : uk (lowS k) L with
    | none =>
      simp only [pickL, upL, hu, hs.2 hu]
      rw [pick_same ks c L hL ht]
    | some q =>
      obtain ⟨h1, h2⟩ := hs.1 q hu
      simp only [pickL, upL, hu, h1]
      obtain ⟨f, L'⟩ := q
      rw [pick_same ks _ L' (by rw [uk_map hu, hL])]
      have e : getC (setC c (lowS k) (getC c (lowS k) + 1)) = fun j => if j = lowS k then getC c j + 1 else getC c j := by
        funext j; rw [getC_setC]; by_cases hj : j = lowS k <;> simp [hj]
      rw [e]; exact h2

theorem took_none : ∀ fs : List (List UInt8), Took (fs.map fun f => (f, false)) (getC [])
  | [] => trivial
  | f :: r => by
    simp only [List.map_cons, Took]
    rw [if_pos (show getC [] (lowS (nameOf f)) = 0 from rfl)]
    exact ⟨trivial, took_none r⟩

theorem picks_law (fs ks : List (List UInt8)) : pickL fs.reverse ks [] = upL ks (fs.map fun f => (f, false)).reverse := by
  rw [← List.map_reverse]
  exact pick_same ks [] _ (by simp [Function.comp_def]) (took_none _)

theorem pickL_length {rev : List (List UInt8)} : ∀ (ks : List (List UInt8)) (c : List (List UInt8 × Nat)), (pickL rev ks c).length = ks.length
  | [], _ => rfl
  | k :: ks, c => by
    simp only [pickL]
    split <;> simp [pickL_length ks]
end Wax

/- FnDCanonAgain: its loops. -/
namespace Wax
open Go (IntKind)

def con_FnDCanonAgain : List AV → Option AV
  | [.str name, v, u] => match slStrs v, slStrs u with
    | some ws, some bl => if name.length < 9223372036854775808 ∧ (ws.length < 9223372036854775808 ∧ ∀ s ∈ ws, s.length < 9223372036854775808) ∧ (bl.length < 9223372036854775808 ∧ ∀ s ∈ bl, s.length < 9223372036854775808) then some (.bool true) else none
    | _, _ => none
  | _ => none

theorem plain_ap {s t : List UInt8} : plain (s ++ t) = (plain s && plain t) := by simp [plain]

def nameOk (x : UInt8) : Bool := !(decide ((x.toNat : Int) ≤ 32) || decide ((x.toNat : Int) = 58) || decide ((x.toNat : Int) = 127))

theorem dShort_all {m : Int} {l : List (List UInt8)} (h : dShort m l = true) : (∀ s ∈ l, plain s = true ∧ (s.length : Int) ≤ m) ∧ l.length ≤ 200 := by
  simp only [dShort, Bool.and_eq_true, List.all_eq_true, decide_eq_true_eq] at h
  refine ⟨fun s hs => ?_, by omega⟩
  have := h.1 s hs
  simpa only [dPlain, Bool.and_eq_true, decide_eq_true_eq, plain] using this

theorem joinB_length {m : Nat} : ∀ (ws : List (List UInt8)), (∀ w ∈ ws, w.length ≤ m) → (joinB ws).length ≤ ws.length * (m + 1)
  | [], _ => by simp [joinB]
  | w :: r, h => by
    have ih := joinB_length r (fun x hx => h x (by simp [hx]))
    have hw := h w (by simp)
    rw [joinB_cons]
    cases r with
    | nil => simp [J2]; omega
    | cons x y => rw [J2_ne (by simp)]; simp [Nat.add_mul] at ih ⊢; omega

theorem spr_length {m : Nat} {bl : List (List UInt8)} (hb : bl ≠ []) (hbl : ∀ b ∈ bl, b.length ≤ m) : ∀ (ws : List (List UInt8)) (k : Nat), (∀ w ∈ ws, w.length ≤ m) → (spr bl k ws).length ≤ ws.length * (2 * m)
  | [], k, _ => by simp [spr]
  | w :: r, k, h => by
    have ih := spr_length hb hbl r (k + 1) (fun x hx => h x (by simp [hx]))
    have hw := h w (by simp)
    have hk := hbl _ (getD_blank hb (k := k))
    rw [spr_cons]
    simp only [List.length_append, List.length_cons, Nat.add_mul]
    omega

theorem plain_joinB : ∀ (ws : List (List UInt8)), (∀ w ∈ ws, plain w = true) → plain (joinB ws) = true
  | [], _ => rfl
  | w :: r, h => by
    have ih := plain_joinB r (fun x hx => h x (by simp [hx]))
    rw [joinB_cons, plain_ap, h w (by simp)]
    cases r with
    | nil => rfl
    | cons x y =>
      rw [J2_ne (by simp)]
      have e : plain (32 :: joinB (x :: y)) = (plainB 32 && plain (joinB (x :: y))) := rfl
      have e2 : plainB 32 = true := plainB_true ⟨by decide, by decide, by decide⟩
      rw [e, ih, e2]; rfl

theorem plain_spr {bl : List (List UInt8)} (hb : bl ≠ []) (hbl : ∀ b ∈ bl, plain b = true) : ∀ (ws : List (List UInt8)) (k : Nat), (∀ w ∈ ws, plain w = true) → plain (spr bl k ws) = true
  | [], k, _ => rfl
  | w :: r, k, h => by
    have ih := plain_spr hb hbl r (k + 1) (fun x hx => h x (by simp [hx]))
    rw [spr_cons, plain_ap, plain_ap, h w (by simp), hbl _ (getD_blank hb (k := k)), ih]; rfl


theorem ca_loop1 (Γ : Gam) (h11 : Γ.fn 11 = con_dAwake) (Q : APost) {name : List UInt8} {V U : AV} (hV : hasRef V = false) (hU : hasRef U = false) (hn : name.length ≤ 2147483647) (hQr : Q .ret ⟨[(6, .bool true)], []⟩)
    (hQe : (∀ x ∈ name, nameOk x = true) → Q (.exit 0) ⟨[(0, .str name), (1, V), (2, U), (7, .int .i64 name.length), (60, .bool false)], []⟩) :
    awp Γ (.loop [0, 1, 2, 7] b_laws_FnDCanonAgain_1) Q ⟨[(0, .str name), (1, V), (2, U), (7, .int .i64 0)], []⟩ := by
  refine awp_loop2 (σ := List UInt8 × List UInt8) (fun p => ⟨[(0, .str name), (1, V), (2, U), (7, .int .i64 p.1.length)], []⟩) (fun p => name = p.1 ++ p.2 ∧ ∀ x ∈ p.1, nameOk x = true) (fun p => p.2.length) ([], name) (by simp) (by simp) ?_
  rintro ⟨pre, post⟩ ⟨hs1, hs2⟩ LQ hLQ
  simp only at hs1 hs2
  subst hs1
  cases post with
  | nil =>
    simp at hQe
    simp [b_laws_FnDCanonAgain_1]
    exact hQe hs2
  | cons x post =>
    simp at hn
    have ew : IntKind.i64.wrap ((pre.length : Int) + 1) = (pre.length : Int) + 1 := wrap64 (by omega) (by omega)
    have hlt : (pre.length : Int) < (pre.length : Int) + ((post.length : Int) + 1) := by omega
    by_cases c1 : (x.toNat : Int) ≤ 32
    · simp [b_laws_FnDCanonAgain_1, c1, acall, h11, con_dAwake]
      exact ⟨fun _ => hQr, fun _ => by omega⟩
    · by_cases c2 : (x.toNat : Int) = 58
      · simp [b_laws_FnDCanonAgain_1, c2, acall, h11, con_dAwake]
        exact ⟨fun _ => hQr, fun _ => by omega⟩
      · by_cases c3 : (x.toNat : Int) = 127
        · simp [b_laws_FnDCanonAgain_1, c3, acall, h11, con_dAwake]
          exact ⟨fun _ => hQr, fun _ => by omega⟩
        · have hok : nameOk x = true := by simp [nameOk, c1, c2, c3]
          simp [b_laws_FnDCanonAgain_1, c1, c2, c3, ew]
          refine ⟨fun _ => ?_, fun _ => by omega⟩
          refine hLQ (pre ++ [x], post) ⟨by simp, ?_⟩ (by simp) _ (by simp)
          intro y hy
          rcases List.mem_append.1 hy with hy | hy
          · exact hs2 y hy
          · simp at hy; subst hy; exact hok

theorem ca_loop2 (Γ : Gam) (h11 : Γ.fn 11 = con_dAwake) (h27 : Γ.fn 27 = con_DStrip) (Q : APost) {N U : AV} {ws : List (List UInt8)} (hws : ∀ w ∈ ws, w.length < mid) (hl : ws.length ≤ 2147483647) (hQr : Q .ret ⟨[(6, .bool true)], []⟩)
    (hQe : (∀ w ∈ ws, stripD w = w ∧ w ≠ []) → Q (.exit 2) ⟨[(0, N), (1, .sl 1 (strsA ws)), (2, U), (9, .int .i64 ws.length), (80, .bool false)], []⟩) :
    awp Γ (.loop [0, 1, 2, 9] b_laws_FnDCanonAgain_2) Q ⟨[(0, N), (1, .sl 1 (strsA ws)), (2, U), (9, .int .i64 0)], []⟩ := by
  refine awp_loop2 (σ := List (List UInt8) × List (List UInt8)) (fun p => ⟨[(0, N), (1, .sl 1 (strsA ws)), (2, U), (9, .int .i64 p.1.length)], []⟩) (fun p => ws = p.1 ++ p.2 ∧ ∀ w ∈ p.1, stripD w = w ∧ w ≠ []) (fun p => p.2.length) ([], ws) (by simp) (by simp) ?_
  rintro ⟨pre, post⟩ ⟨hs1, hs2⟩ LQ hLQ
  simp only at hs1 hs2
  subst hs1
  cases post with
  | nil =>
    simp at hQe
    simp [b_laws_FnDCanonAgain_2]
    exact hQe fun w hw => hs2 w hw
  | cons x post =>
    simp at hl
    have hx := hws x (by simp)
    have hk : con_DStrip [.str x] = some (.str (stripD x)) := if_pos hx
    have ew : IntKind.i64.wrap ((pre.length : Int) + 1) = (pre.length : Int) + 1 := wrap64 (by omega) (by omega)
    have hlt : (pre.length : Int) < (pre.length : Int) + ((post.length : Int) + 1) := by omega
    by_cases c1 : stripD x = x
    · by_cases c2 : x = []
      · subst c2
        simp [b_laws_FnDCanonAgain_2, acall, h27, hk, c1, h11, con_dAwake]
        exact ⟨fun _ => hQr, fun _ => by omega⟩
      · simp [b_laws_FnDCanonAgain_2, acall, h27, hk, c1, c2, ew]
        refine ⟨fun _ => ?_, fun _ => by omega⟩
        refine hLQ (pre ++ [x], post) ⟨by simp, ?_⟩ (by simp) _ (by simp)
        intro y hy
        rcases List.mem_append.1 hy with hy | hy
        · exact hs2 y hy
        · simp at hy; subst hy; exact ⟨c1, c2⟩
    · simp [b_laws_FnDCanonAgain_2, acall, h27, hk, c1, h11, con_dAwake]
      exact ⟨fun _ => hQr, fun _ => by omega⟩

theorem ca_loop3 (Γ : Gam) (h11 : Γ.fn 11 = con_dAwake) (h27 : Γ.fn 27 = con_DStrip) (Q : APost) {N U : AV} {ws : List (List UInt8)} (hws : ∀ w ∈ ws, w.length < mid) (hl : ws.length ≤ 2147483647) (hQr : Q .ret ⟨[(6, .bool true)], []⟩)
    (hQe : (∀ w ∈ ws, stripD w = [] ∧ w ≠ []) → Q (.exit 4) ⟨[(0, N), (1, U), (2, .sl 1 (strsA ws)), (10, .int .i64 ws.length), (104, .bool false)], []⟩) :
    awp Γ (.loop [0, 1, 2, 10] b_laws_FnDCanonAgain_3) Q ⟨[(0, N), (1, U), (2, .sl 1 (strsA ws)), (10, .int .i64 0)], []⟩ := by
  refine awp_loop2 (σ := List (List UInt8) × List (List UInt8)) (fun p => ⟨[(0, N), (1, U), (2, .sl 1 (strsA ws)), (10, .int .i64 p.1.length)], []⟩) (fun p => ws = p.1 ++ p.2 ∧ ∀ w ∈ p.1, stripD w = [] ∧ w ≠ []) (fun p => p.2.length) ([], ws) (by simp) (by simp) ?_
  rintro ⟨pre, post⟩ ⟨hs1, hs2⟩ LQ hLQ
  simp only at hs1 hs2
  subst hs1
  cases post with
  | nil =>
    simp at hQe
    simp [b_laws_FnDCanonAgain_3]
    exact hQe fun w hw => hs2 w hw
  | cons x post =>
    simp at hl
    have hx := hws x (by simp)
    have hk : con_DStrip [.str x] = some (.str (stripD x)) := if_pos hx
    have ew : IntKind.i64.wrap ((pre.length : Int) + 1) = (pre.length : Int) + 1 := wrap64 (by omega) (by omega)
    have hlt : (pre.length : Int) < (pre.length : Int) + ((post.length : Int) + 1) := by omega
    by_cases c1 : stripD x = []
    · by_cases c2 : x = []
      · subst c2
        simp [b_laws_FnDCanonAgain_3, acall, h27, hk, c1, h11, con_dAwake]
        exact ⟨fun _ => hQr, fun _ => by omega⟩
      · simp [b_laws_FnDCanonAgain_3, acall, h27, hk, c1, c2, ew]
        refine ⟨fun _ => ?_, fun _ => by omega⟩
        refine hLQ (pre ++ [x], post) ⟨by simp, ?_⟩ (by simp) _ (by simp)
        intro y hy
        rcases List.mem_append.1 hy with hy | hy
        · exact hs2 y hy
        · simp at hy; subst hy; exact ⟨c1, c2⟩
    · simp [b_laws_FnDCanonAgain_3, acall, h27, hk, c1, h11, con_dAwake]
      exact ⟨fun _ => hQr, fun _ => by omega⟩
end Wax

/- FnDPicks: its own text, by its callees' contracts. -/
namespace Wax
open Go (IntKind)

def con_FnDPicks : List AV → Option AV
  | [u, v] => match slStrs u, slStrs v with
    | some fs, some ks => if (fs.length < 9223372036854775808 ∧ ∀ s ∈ fs, s.length < 9223372036854775808) ∧ (ks.length < 9223372036854775808 ∧ ∀ s ∈ ks, s.length < 9223372036854775808) then some (.bool true) else none
    | _, _ => none
  | _ => none

set_option maxHeartbeats 1000000 in
set_option maxRecDepth 100000 in
theorem ok_FnDPicks (Γ : Gam) (h32 : Γ.fn 32 = con_zzFits7) (h10 : Γ.fn 10 = con_dShort) (h11 : Γ.fn 11 = con_dAwake) (h33 : Γ.fn 33 = con_Pick) (h34 : Γ.fn 34 = con_DPicked) (h35 : Γ.fn 35 = con_dSameTexts) :
    ∀ args r, con_FnDPicks args = some r → runs Γ c_laws_FnDPicks args (fun v => v = r) := by
  intro args r h
  simp only [con_FnDPicks] at h
  split at h <;> (try simp at h; done)
  rename_i u v
  split at h <;> (try simp at h; done)
  rename_i fs ks hu hv
  obtain ⟨⟨hfs, hks⟩, rfl⟩ := ite_some h
  clear h
  have cu : con_zzFits7 [u] = some (.bool (fitsB fs)) := by simp only [con_zzFits7, hu]; exact if_pos hfs
  have cv : con_zzFits7 [v] = some (.bool (fitsB ks)) := by simp only [con_zzFits7, hv]; exact if_pos hks
  cases hfu : fitsB fs with
  | false =>
    rw [hfu] at cu
    simp [c_laws_FnDPicks, acall, h32, cu, slf_ref hu, slf_snap hu]
  | true =>
    rw [hfu] at cu
    cases hfv : fitsB ks with
    | false =>
      rw [hfv] at cv
      simp [c_laws_FnDPicks, acall, h32, cu, cv, slf_ref hu, slf_snap hu, slf_ref hv, slf_snap hv]
    | true =>
      rw [hfv] at cv
      simp only [fitsB, Bool.and_eq_true, decide_eq_true_eq, List.all_eq_true] at hfu hfv
      have du : con_dShort [.int .i64 1000, u] = some (.bool (dShort 1000 fs)) := by
        simp only [con_dShort, hu]; exact if_pos ⟨by simp only [big]; omega, fun s hs => by have := hfu.2 s hs; simp only [big]; omega⟩
      have dv : con_dShort [.int .i64 1000, v] = some (.bool (dShort 1000 ks)) := by
        simp only [con_dShort, hv]; exact if_pos ⟨by simp only [big]; omega, fun s hs => by have := hfv.2 s hs; simp only [big]; omega⟩
      cases hA : dShort 1000 fs with
      | false =>
        rw [hA] at du
        simp [c_laws_FnDPicks, acall, h32, cu, cv, h10, du, h11, con_dAwake, slf_ref hu, slf_snap hu, slf_ref hv, slf_snap hv]
      | true =>
        rw [hA] at du
        cases hB : dShort 1000 ks with
        | false =>
          rw [hB] at dv
          simp [c_laws_FnDPicks, acall, h32, cu, cv, h10, du, dv, h11, con_dAwake, slf_ref hu, slf_snap hu, slf_ref hv, slf_snap hv]
        | true =>
          rw [hB] at dv
          by_cases hl1 : (50 : Int) < (fs.length : Int)
          · simp [-alen, c_laws_FnDPicks, acall, h32, cu, cv, h10, du, dv, h11, con_dAwake, slf_ref hu, slf_snap hu, slf_ref hv, slf_snap hv, slf_alen hu, hl1]
          · by_cases hl2 : (50 : Int) < (ks.length : Int)
            · simp [-alen, c_laws_FnDPicks, acall, h32, cu, cv, h10, du, dv, h11, con_dAwake, slf_ref hu, slf_snap hu, slf_ref hv, slf_snap hv, slf_alen hu, slf_alen hv, hl1, hl2]
            · obtain ⟨a1, a2⟩ := dShort_all hA
              obtain ⟨b1, b2⟩ := dShort_all hB
              have q1 : ∀ s ∈ fs, s.length < mid ∧ plain s = true := fun s hs => ⟨by have := (a1 s hs).2; simp only [mid]; omega, (a1 s hs).1⟩
              have q2 : ∀ s ∈ ks, s.length < mid ∧ plain s = true := fun s hs => ⟨by have := (b1 s hs).2; simp only [mid]; omega, (b1 s hs).1⟩
              have k33 : con_Pick [u, v] = some (strV (pickL fs.reverse ks [])) := by
                simp only [con_Pick, hu, hv]; exact if_pos ⟨by simp only [mid]; omega, q1, by simp only [mid]; omega, q2⟩
              have k34 : con_DPicked [u, v] = some (strV (pickL fs.reverse ks [])) := by
                simp only [con_DPicked, hu, hv, picks_law]; exact if_pos ⟨by simp only [mid]; omega, fun s hs => (q1 s hs).1, by simp only [mid]; omega, fun s hs => (q2 s hs).1⟩
              have hpl := pickL_length (rev := fs.reverse) ks []
              generalize pickL fs.reverse ks [] = pl at *
              have k35 : con_dSameTexts [strV pl, strV pl] = some (.bool true) := by
                simp only [con_dSameTexts, slStrs_strV]
                rw [if_pos ⟨by simp only [mid]; omega, by simp only [mid]; omega⟩]
                simp
              have k33b : ∃ x, con_Pick [.sl 1 [.str [65, 58, 32, 98, 13, 10]], .sl 1 [.str [97]]] = some (.sl 1 [.str x]) := by
                have e1 : slStrs (.sl 1 [.str [65, 58, 32, 98, 13, 10]]) = some [[65, 58, 32, 98, 13, 10]] := rfl
                have e2 : slStrs (.sl 1 [.str [97]]) = some [[97]] := rfl
                simp only [con_Pick, e1, e2]
                rw [if_pos ⟨by decide, by decide, by decide, by decide⟩]
                have hl := pickL_length (rev := [[65, 58, 32, 98, 13, 10]].reverse) [[97]] []
                revert hl
                generalize pickL [[65, 58, 32, 98, 13, 10]].reverse [[97]] [] = q
                intro hl
                match q, hl with
                | [x], _ => exact ⟨x, rfl⟩
              obtain ⟨x, k33b⟩ := k33b
              have hp1 := slf_ref (slStrs_strV (l := pl))
              have hp2 := slf_snap (slStrs_strV (l := pl))
              have hp3 := slf_kill (slStrs_strV (l := pl))
              have hx := slf_alen (show slStrs (.sl 1 [.str x]) = some [x] from rfl)
              simp [-alen, hx, c_laws_FnDPicks, acall, h32, cu, cv, h10, du, dv, slf_ref hu, slf_snap hu, slf_ref hv, slf_snap hv, slf_alen hu, slf_alen hv, hl1, hl2, h33, h34, h35, k33, k34, k35, k33b, hp1, hp2, hp3]
end Wax

/- Arguments as the rows hand them in. -/
namespace Wax
open Go Go.ChangeShapes Go.WideShapes Go.RowKit

section
variable {P : Program} {T : Tab} {w : World} {H : Type} {enc : TypeId × Value → H}

theorem has_block {a : Addr} {e : TypeId} {n : Nat} {r : Reach} {base : Nat} (h : w.has P r base a e n) : ∃ o, a = ⟨a.block, o, none⟩ ∧ a.block < w.heap.size := by
  obtain ⟨_, h2, row, cells, h3, _⟩ := h
  refine ⟨a.off, ?_, ?_⟩
  · cases a; simp at h2; simp [h2]
  · rcases Nat.lt_or_ge a.block w.heap.size with h | h
    · exact h
    · simp [World.shape?, Array.getElem?_eq_none h] at h3

/-- A slice's place, from its outer form. -/
theorem okWide_place {t e : TypeId} {r : Reach} {base : Nat} {a : Addr} {len cap : Nat} (ht : P.underlying t = some (.slice e)) (h : Value.okWide P w r base t (.slice (some a) len cap)) : ∃ b o, a = ⟨b, o, none⟩ ∧ b < w.heap.size := by
  simp only [Value.okWide, ht, Cell.okWide, Cell.ok] at h
  obtain ⟨o, h1, h2⟩ := has_block h.2.2
  exact ⟨a.block, o, h1, h2⟩

theorem repSl_of : ∀ (l : List (List UInt8)) (b o : Nat), b < w.heap.size → (∀ (j : Nat) s, l[j]? = some s → w.cell? ⟨b, o + j, none⟩ = some (.string ⟨s.toArray⟩)) → RepSl T w (fun k => k < w.heap.size) 1 b o (strsA l)
  | [], b, o, _, _ => by simp [strsA, RepSl]
  | s :: r, b, o, hb, h => by
    have ih := repSl_of r b (o + 1) hb (fun j s' hj => by
      have := h (j + 1) s' (by simpa using hj)
      rwa [show o + 1 + j = o + (j + 1) by omega])
    simp only [strsA, List.map_cons, RepSl]
    exact ⟨trivial, ⟨hb, .string ⟨s.toArray⟩, by simpa using h 0 s rfl, by simp [Rep]⟩, ih⟩

/-- A slice of texts that came in. -/
theorem open_strs {t e : TypeId} {base : Nat} {v : Value} {d : DataW H} {ps : List MemPlace} (ht : P.underlying t = some (.slice e)) (he : P.underlying e = some .string) (hc : P.cellsOf e = 1)
    (hval : Value.okWide P w .any base t v) (h : DataW.Trod enc P w 0 (fun _ => true) true t v d ps) :
    ∃ (x : AV) (l : List (List UInt8)), slStrs x = some l ∧ Rep T w (fun k => k < w.heap.size) noRho x v ∧ l.length < 9223372036854775808 ∧ ∀ s ∈ l, s.length < 9223372036854775808 := by
  obtain ⟨a0, len0, cap0, rfl⟩ := okWide_slice ht hval
  obtain ⟨fuel, hf⟩ := h
  rcases open_strings ht he hc hf with ⟨hcs, _⟩ | ⟨a, len, cap, ss, hcs, _, hl, hm, hsl, _, hcell, hsz⟩
  · simp [Value.cells] at hcs
    obtain ⟨rfl, rfl, rfl⟩ := hcs
    exact ⟨.nilS, [], rfl, by simp [Rep], by simp, by simp⟩
  · simp [Value.cells] at hcs
    obtain ⟨rfl, rfl, rfl⟩ := hcs
    obtain ⟨b, o, rfl, hb⟩ := okWide_place ht hval
    simp only [if_true] at hsl
    obtain ⟨l, hl'⟩ : ∃ l : List (List UInt8), l = (ss.take len0).map (·.data.toList) := ⟨_, rfl⟩
    have hll : l.length = len0 := by rw [hl', List.length_map, List.length_take]; omega
    refine ⟨.sl 1 (strsA l), l, ?_, ?_, ?_, ?_⟩
    · simp [slStrs]
    · simp only [Rep]
      refine ⟨b, o, cap0, ?_, ?_, ?_⟩
      · simp [hll]
      · simp [hll]; exact hl
      · refine repSl_of l b o hb ?_
        intro j s hj
        have hjl : j < l.length := by
          rcases Nat.lt_or_ge j l.length with h | h
          · exact h
          · simp [List.getElem?_eq_none h] at hj
        have hjs : j < ss.length := by omega
        have := hcell j hjs
        rw [addr_add] at this
        rw [this]
        rw [hl', List.getElem?_map, List.getElem?_take_of_lt (by omega), List.getElem?_eq_getElem hjs] at hj
        simp at hj
        rw [List.getD_eq_getElem?_getD, List.getElem?_eq_getElem hjs]
        simp [← hj]
    · have h1 : cap0 ≤ 9223372036854775807 := hm
      omega
    · intro s hs
      rw [hl'] at hs
      obtain ⟨q, hq, rfl⟩ := List.mem_map.1 hs
      have h1 : q.size ≤ 9223372036854775807 := hsz q (List.mem_of_mem_take hq)
      have h2 : q.data.toList.length = q.size := by simp
      omega
end
end Wax

