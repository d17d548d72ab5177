/- The machine by which the functions are read, and what is proved of them (part 5): no premise. -/
import Derived.Lib.Join
import Derived.Laws.OwnMore
import Derived.Lib.ParseIntBTie
import Derived.Lib.ConvBytes
import Derived.Test.YtflhiclingkonaaDoorWd
/- The program's own functions: lists of tags; runes of plain texts. -/
namespace Wax
open Go (IntKind)

theorem decA {x : UInt8} {r : List UInt8} (h : x.toNat < 128) : decR (x :: r) = (x.toNat, 1) := by
  have e : (⟨(x :: r).toArray⟩ : ByteArray).get! 0 = x := by
    show (x :: r).toArray[0]! = x
    simp
  simp [decR, Go.Utf8.decode, e, h]

theorem hvA {x : UInt8} (h : x.toNat < 128) : Go.Utf8.valid (x.toNat : Int) = true := by
    unfold Go.Utf8.valid
    have h1 : decide ((0:Int) ≤ x.toNat) = true := decide_eq_true (Int.natCast_nonneg _)
    have h2 : decide ((x.toNat : Int) < 0xD800) = true := decide_eq_true (by omega)
    rw [h1, h2]; rfl
theorem encA1 {x : UInt8} (h : x.toNat < 128) : Go.Utf8.encode (x.toNat : Int) = ⟨#[x]⟩ := by
  have hv := hvA h
  have e : UInt8.ofNat x.toNat = x := by simp
  have e2 : (if Go.Utf8.valid (x.toNat : Int) = true then (x.toNat : Int).toNat else Go.Utf8.runeError) = x.toNat := by rw [if_pos hv]; simp
  simp only [Go.Utf8.encode, e2, e, h, if_true]
theorem encA {x : UInt8} (h : x.toNat < 128) : encR (x.toNat : Int) = [x] := by
  rw [encR, encA1 h]

theorem ascii_lt {x : UInt8} {s : List UInt8} (h : ascii (x :: s) = true) : x.toNat < 128 ∧ ascii s = true := by
  rw [ascii_cons] at h; simpa using h

/-- A text without white space. -/
def stripS (s : List UInt8) : List UInt8 := s.filter fun b => !isSp b.toNat

def con_stripWhitespace : List AV → Option AV
  | [.str s] => if s.length < mid ∧ ascii s = true then some (.str (stripS s)) else none
  | _ => none

set_option maxRecDepth 100000 in
theorem ok_stripWhitespace (Γ : Gam) (h23 : Γ.fn 23 = con_zzIsSpace) : ∀ args r, con_stripWhitespace args = some r → runs Γ c_dkim_stripWhitespace args (fun v => v = r) := by
  intro args r h
  simp only [con_stripWhitespace] at h
  split at h <;> (try simp at h; done)
  rename_i s
  obtain ⟨⟨hs, ha⟩, rfl⟩ := ite_some h
  clear h
  simp only [mid] at hs
  simp [c_dkim_stripWhitespace]
  refine awp_loop2 (σ := List UInt8 × List UInt8) (fun p => ⟨[(3, outV 17 (stripS p.1)), (7, .ref 7 0)], outH 17 (stripS p.1) ++ [(7, .sit s p.1.length)]⟩)
    (fun p => s = p.1 ++ p.2) (fun p => p.2.length) ([], s) (by simp [stripS]) (by simp) ?_
  rintro ⟨pre, post⟩ hs1 LQ hLQ
  simp only at hs1
  subst hs1
  have hlen : (stripS pre).length ≤ pre.length := List.length_filter_le _ _
  cases post with
  | nil =>
    simp at hs
    by_cases ho : stripS pre = []
    · simp [b_dkim_stripWhitespace_1, t_dkim_stripWhitespace_2, ho]
    · simp [b_dkim_stripWhitespace_1, t_dkim_stripWhitespace_2, outV_ne ho, outH_ne ho, List.take_of_length_le]
  | cons x post =>
    have hx := (ascii_lt (by rw [ascii_app] at ha; simp only [Bool.and_eq_true] at ha; exact ha.2 : ascii (x :: post) = true)).1
    simp at hs
    have fin : ∀ st, norm [3, 7] st = ⟨[(3, outV 17 (stripS (pre ++ [x]))), (7, .ref 7 0)], outH 17 (stripS (pre ++ [x])) ++ [(7, .sit (pre ++ x :: post) (pre.length + 1))]⟩ → LQ st := by
      intro st hst
      exact hLQ (pre ++ [x], post) (by simp) (by simp) st (by simpa using hst)
    have hk : con_zzIsSpace [.int .i32 (x.toNat : Int)] = some (.bool (isSp x.toNat)) := by
      simp only [con_zzIsSpace]; exact if_pos (by omega)
    have e1 : (x.toNat : Int) < 128 := by omega
    cases hsp : isSp x.toNat with
    | true =>
      have e : stripS (pre ++ [x]) = stripS pre := by simp [stripS, hsp]
      rw [e] at fin
      by_cases ho : stripS pre = []
      · rw [ho] at fin
        simp [b_dkim_stripWhitespace_1, ho, decA hx, acall, h23, hk, hsp]
        exact fin _ (by simp)
      · rw [outV_ne ho, outH_ne ho] at fin
        simp [b_dkim_stripWhitespace_1, outV_ne ho, outH_ne ho, decA hx, acall, h23, hk, hsp]
        exact fin _ (by simp)
    | false =>
      have e : stripS (pre ++ [x]) = stripS pre ++ [x] := by simp [stripS, hsp]
      rw [e, outV_ne (by simp), outH_ne (by simp)] at fin
      by_cases ho : stripS pre = []
      · rw [ho] at fin
        simp [b_dkim_stripWhitespace_1, ho, decA hx, acall, h23, hk, hsp, encA hx]
        exact fin _ (by simp)
      · simp [b_dkim_stripWhitespace_1, outV_ne ho, outH_ne ho, decA hx, acall, h23, hk, hsp, encA hx]
        refine ⟨by omega, fin _ (by simp)⟩

/-- Texts between colons, without white space. -/
def tagL (s : List UInt8) : List (List UInt8) := (splitB 58 s).map stripS

def con_parseTagList : List AV → Option AV
  | [.str s] => if s.length < mid ∧ ascii s = true then some (.sl 1 (strsA (tagL s))) else none
  | _ => none

theorem splitB_ascii (b : UInt8) : ∀ (s p : List UInt8), ascii s = true → p ∈ splitB b s → ascii p = true
  | [], p, _, h => by simp [splitB] at h; subst h; rfl
  | x :: r, p, ha, h => by
    obtain ⟨hx, ha⟩ := ascii_lt ha
    have ih := splitB_ascii b r
    simp only [splitB] at h
    split at h
    · rcases List.mem_cons.1 h with e | h
      · subst e; rfl
      · exact ih p ha h
    · split at h
      · simp at h; subst h; simp [ascii_cons, hx]; rfl
      · rename_i hd t e
        rcases List.mem_cons.1 h with e' | h
        · subst e'
          rw [ascii_cons, ih hd ha (by rw [e]; simp)]; simp [hx]
        · exact ih p ha (by rw [e]; simp [h])

theorem ok_parseTagList (Γ : Gam) (s25 : Γ.st 25 = con_zzSplit) (h26 : Γ.fn 26 = con_stripWhitespace) : ∀ args r, con_parseTagList args = some r → runs Γ c_dkim_parseTagList args (fun v => v = r) := by
  intro args r h
  simp only [con_parseTagList] at h
  split at h <;> (try simp at h; done)
  rename_i s
  obtain ⟨⟨hs, ha⟩, rfl⟩ := ite_some h
  clear h
  have hsp : con_zzSplit [.str s, .str [58]] [] = some (.msl 0 1 0 (splitB 58 s).length, [(0, .cells (strsA (splitB 58 s)))]) := if_pos hs
  simp only [mid] at hs
  have hl := splitB_length 58 s
  simp [c_dkim_parseTagList, acallS, s25, hsp]
  refine awp_loop2 (σ := List (List UInt8) × List (List UInt8)) (fun p => ⟨[(3, .msl 7 1 0 (splitB 58 s).length), (8, .msl 7 1 0 (splitB 58 s).length), (9, .int .i64 (splitB 58 s).length), (10, .int .i64 p.1.length)], [(7, .cells (strsA (p.1.map stripS ++ p.2)))]⟩)
    (fun p => splitB 58 s = p.1 ++ p.2) (fun p => p.2.length) ([], splitB 58 s) (by simp) (by simp) ?_
  rintro ⟨pre, post⟩ hs1 LQ hLQ
  simp only at hs1
  cases post with
  | nil =>
    simp at hs1
    simp [b_dkim_parseTagList_1, t_dkim_parseTagList_2, hs1, tagL, snap, resolveA, List.take_of_length_le]
  | cons x post =>
    have hxl : x.length < 1099511627776 := by
      have := splitB_mem_length 58 s x (by rw [hs1]; simp)
      omega
    have hxa : ascii x = true := splitB_ascii 58 s x ha (by rw [hs1]; simp)
    have hk : con_stripWhitespace [.str x] = some (.str (stripS x)) := if_pos ⟨hxl, hxa⟩
    have hlen : (splitB 58 s).length = pre.length + post.length + 1 := by rw [hs1]; simp; omega
    simp (disch := first | omega | simp) [b_dkim_parseTagList_1, hlen, acall, h26, hk, wrap64, get_mid, set_mid]
    refine ⟨fun _ => ⟨by omega, ?_⟩, fun _ => by omega⟩
    refine hLQ (pre ++ [x], post) (by simp [hs1]) (by simp) _ ?_
    simp [hlen]

def con_TagList : List AV → Option AV := con_parseTagList
theorem ok_TagList (Γ : Gam) (h24 : Γ.fn 24 = con_parseTagList) : ∀ args r, con_TagList args = some r → runs Γ c_dkim_TagList args (fun v => v = r) := by
  intro args r h
  simp only [con_TagList] at h
  have h' := h
  simp only [con_parseTagList] at h
  split at h <;> (try simp at h; done)
  obtain ⟨_, rfl⟩ := ite_some h
  simp [c_dkim_TagList, acall, h24, h']

theorem ok_DList (Γ : Gam) (h14 : Γ.fn 14 = con_TagList) : ∀ args r, con_TagList args = some r → runs Γ c_impl_DList args (fun v => v = r) := by
  intro args r h
  have h' := h
  simp only [con_TagList, con_parseTagList] at h
  split at h <;> (try simp at h; done)
  obtain ⟨_, rfl⟩ := ite_some h
  simp [c_impl_DList, acall, h14, h']

theorem ok_dAwake (Γ : Gam) (h7 : Γ.fn 7 = con_TagList) (h8 : Γ.fn 8 = con_DCanonField) : ∀ args r, con_dAwake args = some r → runs Γ c_laws_dAwake args (fun v => v = r) := by
  intro args r h
  simp only [con_dAwake] at h
  split at h <;> (try simp at h; done)
  injection h with h; subst h
  have k7 : con_TagList [.str [97, 58, 98]] = some (.sl 1 (strsA [[97], [98]])) := by
    simp only [con_TagList, con_parseTagList]
    rw [if_pos ⟨by decide, by decide⟩]
    rfl
  have k8 : con_DCanonField [.str [114, 101, 108, 97, 120, 101, 100], .str [65, 58, 32, 66, 13, 10]] = some (.str [97, 58, 66, 13, 10]) := by
    simp only [con_DCanonField]
    rw [if_pos (relOk_of (by decide) (by decide))]
    rfl
  simp [c_laws_dAwake, acall, h7, h8, k7, k8]
end Wax

/- strings.FieldsFunc, of plain texts and of the program's own test of white space. -/
namespace Wax
open Go (IntKind)

def spA (l : List (Nat × Nat)) : List AV := l.flatMap fun p => [.int .i64 (p.1 : Int), .int .i64 (p.2 : Int)]
@[simp] theorem spA_nil : spA [] = [] := rfl
@[simp] theorem spA_cons {p : Nat × Nat} {l : List (Nat × Nat)} : spA (p :: l) = .int .i64 (p.1 : Int) :: .int .i64 (p.2 : Int) :: spA l := rfl
@[simp] theorem spA_app {l m : List (Nat × Nat)} : spA (l ++ m) = spA l ++ spA m := by simp [spA]
@[simp] theorem spA_length {l : List (Nat × Nat)} : (spA l).length = 2 * l.length := by induction l <;> simp_all; omega
@[simp] theorem atoms_spA {l : List (Nat × Nat)} : atoms (spA l) = true := by induction l <;> simp_all
@[simp] theorem take_spA {a b : AV} {l : List (Nat × Nat)} : List.take ((l.length + 1) * 2) (a :: b :: spA l) = a :: b :: spA l := List.take_of_length_le (by simp; omega)
@[simp] theorem killL_spA {d : Nat} {l : List (Nat × Nat)} : killL d (spA l) = spA l := by induction l <;> simp_all

def cutS (s : List UInt8) (p : Nat × Nat) : List UInt8 := (s.take p.2).drop p.1

theorem ff_loop2 (Γ : Gam) (Q : APost) (s : List UInt8) (sp : List (Nat × Nat)) (d : Nat) (hd : d ≠ 46 ∧ d ≠ 11) (hs : s.length < 1099511627776) (hl : sp.length < 2199023255552) (hsp : ∀ p ∈ sp, p.1 ≤ p.2 ∧ p.2 ≤ s.length)
    (hQ : Q (.exit 2) ⟨[(0, .str s), (9, .msl 46 1 0 sp.length), (47, .msl d 2 0 sp.length), (48, .int .i64 sp.length), (49, .int .i64 sp.length), (50, .bool false)], [(46, .cells (strsA (sp.map (cutS s)))), (d, .cells (spA sp))]⟩) :
    awp Γ (.loop [0, 9, 47, 48, 49] b_strings_FieldsFunc_2) Q ⟨[(0, .str s), (9, .msl 46 1 0 sp.length), (47, .msl d 2 0 sp.length), (48, .int .i64 sp.length), (49, .int .i64 0)], [(46, .cells (List.replicate sp.length (.str []))), (d, .cells (spA sp))]⟩ := by
  have hd1 : ¬ 46 = d := fun h => hd.1 h.symm
  have hd2 : ¬ 11 = d := fun h => hd.2 h.symm
  refine awp_loop2 (σ := List (Nat × Nat) × List (Nat × Nat)) (fun p => ⟨[(0, .str s), (9, .msl 46 1 0 sp.length), (47, .msl d 2 0 sp.length), (48, .int .i64 sp.length), (49, .int .i64 p.1.length)], [(46, .cells (strsA (p.1.map (cutS s)) ++ List.replicate p.2.length (.str []))), (d, .cells (spA sp))]⟩)
    (fun p => sp = p.1 ++ p.2) (fun p => p.2.length) ([], sp) (by simp) (by simp) ?_
  rintro ⟨pre, post⟩ hs1 LQ hLQ
  simp only at hs1
  subst hs1
  cases post with
  | nil =>
    simp at hQ
    simp [b_strings_FieldsFunc_2, hQ]
  | cons x post =>
    have hx := hsp x (by simp)
    simp at hl
    have e1 : List.drop (pre.length * 2) (spA pre ++ (AV.int .i64 (x.1 : Int) :: .int .i64 (x.2 : Int) :: spA post)) = .int .i64 (x.1 : Int) :: .int .i64 (x.2 : Int) :: spA post := by
      rw [List.drop_append_of_le_length (by simp; omega)]
      rw [List.drop_eq_nil_of_le (by simp; omega)]; rfl
    simp (disch := first | omega | simp) [b_strings_FieldsFunc_2, hd1, hd2, hd.1, hd.2, e1, loadC, wrap64, List.replicate_succ]
    refine ⟨fun _ => ⟨by omega, ?_⟩, fun _ => by omega⟩
    refine hLQ (pre ++ [x], post) (by simp) (by simp) _ ?_
    simp [cutS]

/-- The slice of the words' places, as it stands: first the one that was made, then one that grew. -/
def ffD (sp : List (Nat × Nat)) : Nat := match sp with | [] => 12 | _ => 29
def ffH (sp : List (Nat × Nat)) (o : AObj) : List (Nat × AObj) := match sp with | [] => [(14, o), (12, .cells [])] | _ => [(29, .cells (spA sp)), (14, o)]

structure FF (s pre post : List UInt8) (sp : List (Nat × Nat)) (cur : List UInt8) (v : Int) : Prop where
  cut : s = pre ++ post
  words : wordsOf s = sp.map (cutS s) ++ wordsGo cur post
  none : cur = [] → v < 0 ∧ -1099511627777 < v
  some : cur ≠ [] → ∃ p, pre = p ++ cur ∧ v = p.length
  ok : ∀ p ∈ sp, p.1 ≤ p.2 ∧ p.2 ≤ s.length
  len : sp.length ≤ pre.length

theorem FF.out {s pre post : List UInt8} {sp : List (Nat × Nat)} {cur : List UInt8} {v : Int} {x : UInt8} (h : FF s pre (x :: post) sp cur v) (hw : isWs x.toNat = true) (hc : cur = []) : FF s (pre ++ [x]) post sp [] v := by
  subst hc
  refine ⟨by rw [h.cut]; simp, ?_, fun _ => h.none rfl, fun hn => absurd rfl hn, h.ok, by have := h.len; simp; omega⟩
  have := h.words
  simpa [wordsGo, hw] using this

theorem FF.close {s pre post : List UInt8} {sp : List (Nat × Nat)} {cur : List UInt8} {v : Int} {x : UInt8} (h : FF s pre (x :: post) sp cur v) (hw : isWs x.toNat = true) (hc : cur ≠ []) (hs : s.length < 1099511627776) : FF s (pre ++ [x]) post (sp ++ [(v.toNat, pre.length)]) [] (-v - 1) := by
  obtain ⟨p, hp, hv⟩ := h.some hc
  subst hv
  have hl := congrArg List.length h.cut
  have hl2 := congrArg List.length hp
  simp at hl hl2
  refine ⟨by rw [h.cut]; simp, ?_, fun _ => ⟨by omega, by omega⟩, fun hn => absurd rfl hn, ?_, by have := h.len; simp; omega⟩
  · have := h.words
    simp only [wordsGo, hw, if_true, if_neg hc] at this
    rw [this]
    have e : cutS s ((p.length : Int).toNat, pre.length) = cur := by
      rw [cutS, h.cut, hp]
      simp only [Int.toNat_natCast, List.append_assoc]
      rw [show (p ++ cur).length = (p ++ cur).length + 0 by omega, ← List.append_assoc, List.take_length_add_append]; simp
    simp only [List.map_append, List.map_cons, List.map_nil, e, List.append_assoc, List.cons_append, List.nil_append]
  · intro q hq
    rcases List.mem_append.1 hq with hq | hq
    · exact h.ok q hq
    · simp at hq; subst hq; simp; omega

theorem FF.into {s pre post : List UInt8} {sp : List (Nat × Nat)} {cur : List UInt8} {v : Int} {x : UInt8} (h : FF s pre (x :: post) sp cur v) (hw : isWs x.toNat = false) (hc : cur = []) : FF s (pre ++ [x]) post sp [x] pre.length := by
  subst hc
  refine ⟨by rw [h.cut]; simp, ?_, fun hn => by simp at hn, fun _ => ⟨pre, rfl, rfl⟩, h.ok, by have := h.len; simp; omega⟩
  have := h.words
  simpa [wordsGo, hw] using this

theorem FF.on {s pre post : List UInt8} {sp : List (Nat × Nat)} {cur : List UInt8} {v : Int} {x : UInt8} (h : FF s pre (x :: post) sp cur v) (hw : isWs x.toNat = false) (hc : cur ≠ []) : FF s (pre ++ [x]) post sp (cur ++ [x]) v := by
  refine ⟨by rw [h.cut]; simp, ?_, fun hn => by simp at hn, fun _ => ?_, h.ok, by have := h.len; simp; omega⟩
  · have := h.words
    simpa [wordsGo, hw] using this
  · obtain ⟨p, hp, hv⟩ := h.some hc
    exact ⟨p, by rw [hp]; simp, hv⟩

theorem ffD_ne {sp : List (Nat × Nat)} (h : sp ≠ []) : ffD sp = 29 := by cases sp <;> first | exact absurd rfl h | rfl
theorem ffH_ne {sp : List (Nat × Nat)} {o : AObj} (h : sp ≠ []) : ffH sp o = [(29, .cells (spA sp)), (14, o)] := by cases sp <;> first | exact absurd rfl h | rfl

theorem ok_FieldsFunc (Γ : Gam) (h20 : Γ.fn 20 = con_closure) : ∀ args r, con_FieldsFunc args = some r → runs Γ c_strings_FieldsFunc args (fun v => v = r) := by
  intro args r h
  simp only [con_FieldsFunc] at h
  split at h <;> (try simp at h; done)
  rename_i s
  obtain ⟨⟨hs, ha⟩, rfl⟩ := ite_some h
  clear h
  simp only [mid] at hs
  simp [c_strings_FieldsFunc]
  refine awp_loop2 (σ := List UInt8 × List UInt8 × List (Nat × Nat) × List UInt8 × Int) (fun p => ⟨[(0, .str s), (1, .fn 20 []), (5, .msl (ffD p.2.2.1) 2 0 p.2.2.1.length), (6, .int .i64 p.2.2.2.2), (14, .ref 14 0)], ffH p.2.2.1 (.sit s p.1.length)⟩)
    (fun p => FF s p.1 p.2.1 p.2.2.1 p.2.2.2.1 p.2.2.2.2) (fun p => p.2.1.length) ([], s, [], [], -1) (by simp [ffD, ffH]) ⟨by simp, by simp [wordsOf], fun _ => ⟨by simp, by simp⟩, fun h => absurd rfl h, by simp, by simp⟩ ?_
  rintro ⟨pre, post, sp, cur, v⟩ hF LQ hLQ
  simp only at hF
  cases post with
  | nil =>
    have hcut := hF.cut
    simp at hcut
    subst hcut
    have fin : ∀ (d : Nat) (sp' : List (Nat × Nat)), d ≠ 46 ∧ d ≠ 11 → d = 12 ∨ d = 29 ∨ d = 43 → sp'.length ≤ s.length + 1 → (∀ p ∈ sp', p.1 ≤ p.2 ∧ p.2 ≤ s.length) → wordsOf s = sp'.map (cutS s) →
        awp Γ (SCode.loop [0, 9, 47, 48, 49] b_strings_FieldsFunc_2)
        (blockQ 2
          (thenQ (awp Γ t_strings_FieldsFunc_3 (finQ [.t 4] fun v => v = AV.sl 1 (strsA (wordsOf s))))
            (finQ [.t 4] fun v => v = AV.sl 1 (strsA (wordsOf s)))))
         ⟨[(0, .str s), (9, .msl 46 1 0 sp'.length), (47, .msl d 2 0 sp'.length), (48, .int .i64 sp'.length), (49, .int .i64 0)], [(46, .cells (List.replicate sp'.length (.str []))), (d, .cells (spA sp'))]⟩ := by
      intro d sp' hd hd3 hl hok hw
      refine ff_loop2 Γ _ s sp' d hd hs (by omega) hok ?_
      have hd1 : ¬ 46 = d := fun h => hd.1 h.symm
      rcases hd3 with rfl | rfl | rfl <;> simp [t_strings_FieldsFunc_3, snap, resolveA, hw, List.take_of_length_le]
    have hwd := hF.words
    have hlen := hF.len
    cases sp with
    | nil =>
      simp [b_strings_FieldsFunc_1, ffD, ffH, t_strings_FieldsFunc_4]
      refine ⟨fun h => ?_, fun h => ?_⟩
      · have hc : cur ≠ [] := fun hc => by have := (hF.none hc).1; omega
        obtain ⟨p, hp, hv⟩ := hF.some hc
        subst hv
        have hpl := congrArg List.length hp
        simp at hpl
        have := fin 43 [(p.length, s.length)] (by decide) (by simp) (by simp) (by simp; omega) (by
          rw [hwd]; simp [wordsGo, hc, cutS]; rw [hp]; simp)
        simpa using this
      · have hc : cur = [] := by
          apply Classical.byContradiction; intro hc
          obtain ⟨p, hp, hv⟩ := hF.some hc; omega
        subst hc
        have := fin 12 [] (by decide) (by simp) (by simp) (by simp) (by rw [hwd]; simp [wordsGo])
        simpa using this
    | cons y sp =>
      simp at hlen
      have e1 : ((sp.length : Int) + 1).toNat = sp.length + 1 := by omega
      have e2 : ((sp.length : Int) + 1 + 1).toNat = sp.length + 1 + 1 := by omega
      simp [b_strings_FieldsFunc_1, ffD, ffH, t_strings_FieldsFunc_4, e1, e2]
      refine ⟨fun h => ⟨⟨by omega, by omega⟩, by omega, ⟨by omega, by omega⟩, ?_⟩, fun h => ⟨by omega, ⟨by omega, by omega⟩, ?_⟩⟩
      · have hc : cur ≠ [] := fun hc => by have := (hF.none hc).1; omega
        obtain ⟨p, hp, hv⟩ := hF.some hc
        subst hv
        have hpl := congrArg List.length hp
        simp at hpl
        have := fin 43 (y :: sp ++ [(p.length, s.length)]) (by decide) (by simp) (by simp; omega) (by
          intro q hq
          rcases List.mem_append.1 hq with hq | hq
          · exact hF.ok q hq
          · simp at hq; subst hq; simp; omega) (by
          rw [hwd]; simp [wordsGo, hc, cutS]; rw [hp]; simp)
        simpa using this
      · have hc : cur = [] := by
          apply Classical.byContradiction; intro hc
          obtain ⟨p, hp, hv⟩ := hF.some hc; omega
        subst hc
        have := fin 29 (y :: sp) (by decide) (by simp) (by simp; omega) hF.ok (by rw [hwd]; simp [wordsGo])
        simpa using this
  | cons x post =>
    have hcut := hF.cut
    subst hcut
    have hx := (ascii_lt (by rw [ascii_app] at ha; simp only [Bool.and_eq_true] at ha; exact ha.2 : ascii (x :: post) = true)).1
    simp at hs
    have hlen := hF.len
    have hk : con_closure [.int .i32 (x.toNat : Int)] = some (.bool (isWs x.toNat)) := rfl
    have fin : ∀ sp' cur' v', FF (pre ++ x :: post) (pre ++ [x]) post sp' cur' v' → ∀ st, norm [0, 1, 5, 6, 14] st = ⟨[(0, .str (pre ++ x :: post)), (1, .fn 20 []), (5, .msl (ffD sp') 2 0 sp'.length), (6, .int .i64 v'), (14, .ref 14 0)], ffH sp' (.sit (pre ++ x :: post) (pre.length + 1))⟩ → LQ st := by
      intro sp' cur' v' h st hst
      exact hLQ (pre ++ [x], post, sp', cur', v') h (by simp) st (by simpa using hst)
    cases hw : isWs x.toNat with
    | true =>
      by_cases hc : cur = []
      · have f := fin _ _ _ (hF.out hw hc)
        have hv := (hF.none hc).1
        have hv' : ¬ 0 ≤ v := by omega
        cases sp with
        | nil =>
          simp [b_strings_FieldsFunc_1, ffD, ffH, decA hx, acall, h20, hk, hw, hv']
          exact f _ (by simp [ffD, ffH])
        | cons y sp =>
          simp [b_strings_FieldsFunc_1, ffD, ffH, decA hx, acall, h20, hk, hw, hv']
          exact f _ (by simp [ffD, ffH])
      · have f := fin _ _ _ (hF.close hw hc (by simp; omega))
        obtain ⟨p, hp, hv⟩ := hF.some hc
        subst hv
        have hl2 := congrArg List.length hp
        simp at hl2
        have ew : IntKind.i64.wrap (-(p.length : Int) - 1) = -(p.length : Int) - 1 := wrap64 (by omega) (by omega)
        cases sp with
        | nil =>
          simp [-aun, b_strings_FieldsFunc_1, ffD, ffH, decA hx, acall, h20, hk, hw, ew]
          exact f _ (by simp [ffD, ffH])
        | cons y sp =>
          simp at hlen
          simp [-aun, b_strings_FieldsFunc_1, ffD, ffH, decA hx, acall, h20, hk, hw, ew]
          refine ⟨⟨by omega, by omega⟩, f _ (by simp [ffD, ffH])⟩
    | false =>
      by_cases hc : cur = []
      · have f := fin _ _ _ (hF.into hw hc)
        have hv := (hF.none hc).1
        cases sp with
        | nil =>
          simp [b_strings_FieldsFunc_1, ffD, ffH, decA hx, acall, h20, hk, hw, hv]
          exact f _ (by simp [ffD, ffH])
        | cons y sp =>
          simp [b_strings_FieldsFunc_1, ffD, ffH, decA hx, acall, h20, hk, hw, hv]
          exact f _ (by simp [ffD, ffH])
      · have f := fin _ _ _ (hF.on hw hc)
        obtain ⟨p, hp, hv⟩ := hF.some hc
        have hv' : ¬ v < 0 := by omega
        cases sp with
        | nil =>
          simp [b_strings_FieldsFunc_1, ffD, ffH, decA hx, acall, h20, hk, hw, hv']
          exact f _ (by simp [ffD, ffH])
        | cons y sp =>
          simp [b_strings_FieldsFunc_1, ffD, ffH, decA hx, acall, h20, hk, hw, hv']
          exact f _ (by simp [ffD, ffH])
end Wax

/- The reference's text without white space; lists that are not too long. -/
namespace Wax
open Go (IntKind)

def stripD (s : List UInt8) : List UInt8 := s.filter fun b => !isWs b.toNat

def con_DStrip : List AV → Option AV
  | [.str s] => if s.length < mid then some (.str (stripD s)) else none
  | _ => none

theorem ok_DStrip (Γ : Gam) (h1 : Γ.fn 1 = con_dBlank) : ∀ args r, con_DStrip args = some r → runs Γ c_spec_DStrip args (fun v => v = r) := by
  intro args r h
  simp only [con_DStrip] at h
  split at h <;> (try simp at h; done)
  rename_i s
  obtain ⟨hs, rfl⟩ := ite_some h
  clear h
  simp only [mid] at hs
  simp [c_spec_DStrip]
  refine awp_loop2 (σ := List UInt8 × List UInt8) (fun p => ⟨[(0, .str s), (3, outV 21 (stripD p.1)), (4, .int .i64 p.1.length)], outH 21 (stripD p.1)⟩)
    (fun p => s = p.1 ++ p.2) (fun p => p.2.length) ([], s) (by simp [stripD]) (by simp) ?_
  rintro ⟨pre, post⟩ hs1 LQ hLQ
  simp only at hs1
  subst hs1
  have hlen : (stripD pre).length ≤ pre.length := List.length_filter_le _ _
  cases post with
  | nil =>
    simp at hs
    by_cases ho : stripD pre = []
    · simp [ho]
    · simp [outV_ne ho, outH_ne ho, List.take_of_length_le]
  | cons x post =>
    simp at hs
    have ew : IntKind.i64.wrap ((pre.length : Int) + 1) = (pre.length : Int) + 1 := wrap64 (by omega) (by omega)
    have fin : ∀ st, norm [0, 3, 4] st = ⟨[(0, .str (pre ++ x :: post)), (3, outV 21 (stripD (pre ++ [x]))), (4, .int .i64 ((pre.length : Int) + 1))], outH 21 (stripD (pre ++ [x]))⟩ → LQ st := by
      intro st hst
      exact hLQ (pre ++ [x], post) (by simp) (by simp) st (by simpa using hst)
    have hk : con_dBlank [.int .u8 (x.toNat : Int)] = some (.bool (isWs x.toNat)) := rfl
    have hlt : (pre.length : Int) < (pre.length : Int) + ((post.length : Int) + 1) := by omega
    cases hsp : isWs x.toNat with
    | true =>
      have e : stripD (pre ++ [x]) = stripD pre := by simp [stripD, hsp]
      rw [e] at fin
      by_cases ho : stripD pre = []
      · rw [ho] at fin
        simp [ho, acall, h1, hk, hsp, ew]
        exact ⟨fun _ => fin _ (by simp), fun h => by omega⟩
      · rw [outV_ne ho, outH_ne ho] at fin
        simp [outV_ne ho, outH_ne ho, acall, h1, hk, hsp, ew]
        exact ⟨fun _ => fin _ (by simp), fun h => by omega⟩
    | false =>
      have e : stripD (pre ++ [x]) = stripD pre ++ [x] := by simp [stripD, hsp]
      rw [e, outV_ne (by simp), outH_ne (by simp)] at fin
      by_cases ho : stripD pre = []
      · rw [ho] at fin
        simp [ho, acall, h1, hk, hsp, ew]
        exact ⟨fun _ => fin _ (by simp), fun h => by omega⟩
      · simp [outV_ne ho, outH_ne ho, acall, h1, hk, hsp, ew]
        refine ⟨fun _ => ⟨by omega, fin _ (by simp)⟩, fun h => by omega⟩

def fitsB (l : List (List UInt8)) : Bool := decide (l.length ≤ 2147483647) && l.all fun s => decide (s.length ≤ 2147483647)

def con_zzFits7 : List AV → Option AV
  | [v] => match slStrs v with
    | some l => if l.length < 9223372036854775808 ∧ ∀ s ∈ l, s.length < 9223372036854775808 then some (.bool (fitsB l)) else none
    | none => none
  | _ => none

theorem slStrs_cases {v : AV} {l : List (List UInt8)} (h : slStrs v = some l) : (v = .nilS ∧ l = []) ∨ v = .sl 1 (strsA l) := by
  cases v <;> simp [slStrs] at h
  · left; exact ⟨rfl, h⟩
  · right; obtain ⟨e, h⟩ := h; rw [asStrs_spec h, e]

theorem ok_zzFits7 (Γ : Gam) : ∀ args r, con_zzFits7 args = some r → runs Γ c_laws_zzFits7 args (fun v => v = r) := by
  intro args r h
  simp only [con_zzFits7] at h
  split at h <;> (try simp at h; done)
  rename_i v
  split at h <;> (try simp at h; done)
  rename_i l hl
  obtain ⟨⟨hlen, hall⟩, rfl⟩ := ite_some h
  clear h
  rcases slStrs_cases hl with ⟨rfl, rfl⟩ | rfl
  · simp [c_laws_zzFits7]
    refine awp_loop2 (σ := Unit) (fun p => ⟨[(8, .nilS), (9, .int .i64 0), (10, .int .i64 0)], []⟩) (fun _ => True) (fun _ => 0) () (by simp) (by simp) ?_
    intro _ _ LQ _
    simp [b_laws_zzFits7_1, t_laws_zzFits7_2, fitsB]
  · by_cases hbig : l.length ≤ 2147483647
    · have hng : ¬ (2147483647 : Int) < (l.length : Int) := by omega
      simp [c_laws_zzFits7, hng]
      refine awp_loop2 (σ := List (List UInt8) × List (List UInt8)) (fun p => ⟨[(8, .sl 1 (strsA l)), (9, .int .i64 l.length), (10, .int .i64 p.1.length)], []⟩) (fun p => l = p.1 ++ p.2 ∧ (p.1.all fun s => decide (s.length ≤ 2147483647)) = true) (fun p => p.2.length) ([], l) (by simp) (by simp) ?_
      rintro ⟨pre, post⟩ ⟨hs1, hs2⟩ LQ hLQ
      simp only at hs1 hs2
      subst hs1
      cases post with
      | nil =>
        simp at hs2 hbig
        simp [b_laws_zzFits7_1, t_laws_zzFits7_2, fitsB, hbig]
        exact fun x hx => hs2 x hx
      | cons x post =>
        simp at hbig
        have ew : IntKind.i64.wrap ((pre.length : Int) + 1) = (pre.length : Int) + 1 := wrap64 (by omega) (by omega)
        have hlt : (pre.length : Int) < (pre.length : Int) + ((post.length : Int) + 1) := by omega
        by_cases hx : x.length ≤ 2147483647
        · have hxn : ¬ (2147483647 : Int) < (x.length : Int) := by omega
          simp [b_laws_zzFits7_1, ew, hxn]
          refine ⟨fun _ => ?_, fun h => by omega⟩
          exact hLQ (pre ++ [x], post) ⟨by simp, by simp only [List.all_append, hs2, List.all_cons, hx]; rfl⟩ (by simp) _ (by simp)
        · have hxn : (2147483647 : Int) < (x.length : Int) := by omega
          have hf : fitsB (pre ++ x :: post) = false := by
            have e : decide (x.length ≤ 2147483647) = false := decide_eq_false hx
            simp only [fitsB, List.all_append, List.all_cons, e, Bool.false_and, Bool.and_false]
          rw [hf]
          simp [b_laws_zzFits7_1, hxn]
          omega
    · have hg : (2147483647 : Int) < (l.length : Int) := by omega
      simp [c_laws_zzFits7, hg, fitsB, hbig]
end Wax

/- zzTrimSpace: the inner loop does nothing on ASCII. (A slow text: two minutes.) -/
namespace Wax
open Go (IntKind)
set_option maxHeartbeats 1000000 in
theorem trim_inner (Γ : Gam) (Q : APost) (S : List UInt8) (x : UInt8) (i n : Nat) (f t : Int) (hn : S.length = n) (hi : S[i]? = some x) (hx : x.toNat < 128) (hb : n < 1099511627776) (hib : i < 1099511627776)
    (h : Q (.exit 4) ⟨[(0, .str S), (3, .int .i64 f), (4, .int .i64 t), (7, .int .i64 i), (8, .int .i64 1), (54, .bool false)], []⟩) :
    awp Γ b_dkim_zzTrimSpace_2 Q ⟨[(0, .str S), (3, .int .i64 f), (4, .int .i64 t), (7, .int .i64 i), (8, .int .i64 1)], []⟩ := by
  have e192 : ¬ (192 : Int) ≤ (x.toNat : Int) := by omega
  have ew : IntKind.i64.wrap ((i : Int) + 1) = (i : Int) + 1 := wrap64 (by omega) (by omega)
  simp only [b_dkim_zzTrimSpace_2, awp_seq]
  refine awp_region_to ⟨[(0, .str S), (3, .int .i64 f), (4, .int .i64 t), (7, .int .i64 i), (8, .int .i64 1), (54, .bool false)], []⟩ ?_ ?_
  · by_cases hlast : (i : Int) + 1 < (n : Int)
    · have h1 : ((i : Int) + 1 < (n : Int)) = True := eq_true hlast
      simp (maxSteps := 1000000) [ew, hn, hi, e192, h1]
    · have h1 : ((i : Int) + 1 < (n : Int)) = False := eq_false hlast
      simp (maxSteps := 1000000) [ew, hn, h1]
  · simpa using h
end Wax

/- The program's own functions (4): white space around a text, of plain texts. -/
namespace Wax
open Go (IntKind)

theorem decR_ascii {x : UInt8} {r : List UInt8} (h : x.toNat < 128) : decR (x :: r) = (x.toNat, 1) := by
  have e : (⟨(x :: r).toArray⟩ : ByteArray).get! 0 = x := by
    show (x :: r).toArray[0]! = x
    simp
  simp [decR, Go.Utf8.decode, e, h]

theorem plainB_lt {x : UInt8} (h : plainB x = true) : x.toNat < 128 := by
  have := of_decide_eq_true h
  omega

theorem isSp_ws {x : UInt8} (h : plainB x = true) : isSp x.toNat = isWs x.toNat := by
  have := of_decide_eq_true h
  unfold isSp isWs
  apply decide_eq_decide.2
  omega

theorem plain_app {s t : List UInt8} : plain (s ++ t) = (plain s && plain t) := by simp [plain]

theorem trimR_ws {c : List UInt8} {x : UInt8} (h : isWs x.toNat = true) : trimR (c ++ [x]) = trimR c := by simp [trimR, h]
theorem trimR_nw {c : List UInt8} {x : UInt8} (h : isWs x.toNat = false) : trimR (c ++ [x]) = c ++ [x] := by simp [trimR, h]

theorem trimR_prefix (c : List UInt8) : ∃ t, c = trimR c ++ t := by
  obtain ⟨t, ht⟩ := List.dropWhile_suffix (fun b : UInt8 => isWs b.toNat) (l := c.reverse)
  refine ⟨t.reverse, ?_⟩
  have := congrArg List.reverse ht
  simpa [trimR] using this.symm

theorem trimL_app {a b : List UInt8} (ha : ∀ x ∈ a, isWs x.toNat = true) : trimL (a ++ b) = trimL b := by
  induction a with
  | nil => rfl
  | cons x r ih =>
    have h1 := ha x (by simp)
    simp only [trimL, List.cons_append, List.dropWhile_cons, h1, if_true]
    exact ih fun y hy => ha y (by simp [hy])

theorem trimL_nw {b : List UInt8} (hb : ∀ x r, b = x :: r → isWs x.toNat = false) : trimL b = b := by
  cases b with
  | nil => rfl
  | cons x r => simp [trimL, hb x r rfl]

def toV (n : Nat) (a c : List UInt8) : Int := if c = [] then (n : Int) else (a.length : Int) + ((trimR c).length : Int)

theorem trim_loop2 (Γ : Gam) (h23 : Γ.fn 23 = con_zzIsSpace) (a b : List UInt8) (hp : plain (a ++ b) = true) (hs : (a ++ b).length < 1099511627776) (ha : ∀ x ∈ a, isWs x.toNat = true) (hb : ∀ x r, b = x :: r → isWs x.toNat = false) :
    awp Γ (.loop [0, 3, 4, 7] b_dkim_zzTrimSpace_4) (blockQ 2 (thenQ (awp Γ t_dkim_zzTrimSpace_5 (finQ [.t 2] fun v => v = .str (trimS (a ++ b)))) (finQ [.t 2] fun v => v = .str (trimS (a ++ b)))))
      ⟨[(0, .str (a ++ b)), (3, .int .i64 a.length), (4, .int .i64 (a ++ b).length), (7, .int .i64 a.length)], []⟩ := by
  have htrim : trimS (a ++ b) = trimR b := by rw [trimS, trimL_app ha, trimL_nw hb]
  rw [htrim]
  refine awp_loop (σ := List UInt8 × List UInt8) (fun p => ⟨[(0, .str (a ++ b)), (3, .int .i64 a.length), (4, .int .i64 (toV (a ++ b).length a p.1)), (7, .int .i64 (a.length + p.1.length))], []⟩)
    (fun p => b = p.1 ++ p.2) (fun p => p.2.length) ([], b) (by simp [toV]) (by simp) ?_
  rintro ⟨c, d⟩ hcd
  simp only at hcd
  subst hcd
  simp at hs
  cases d with
  | nil =>
    simp [b_dkim_zzTrimSpace_4, t_dkim_zzTrimSpace_5]
    refine ⟨fun h => ?_, fun h => ?_⟩
    · have : c = [] := List.length_eq_zero_iff.1 (by omega)
      subst this; simp [trimR]
    · have hc : c ≠ [] := by intro e; subst e; simp at h
      obtain ⟨t, ht⟩ := trimR_prefix c
      have hl : (trimR c).length ≤ c.length := trimR_length c
      have e1 : toV (a.length + c.length) a c = (a.length : Int) + ((trimR c).length : Int) := if_neg hc
      have e2 : ((a.length : Int) + ((trimR c).length : Int)).toNat = a.length + (trimR c).length := by omega
      rw [e1, e2]
      refine ⟨⟨by omega, by omega⟩, ?_⟩
      rw [List.take_length_add_append, List.drop_left]
      generalize trimR c = q at ht ⊢
      subst ht; simp
  | cons x d =>
    have hpx : plainB x = true := by
      have h1 : (plain a && (plain c && plain (x :: d))) = true := by rw [← plain_app, ← plain_app]; exact hp
      simp only [Bool.and_eq_true, plain, List.all_cons] at h1
      exact h1.2.2.1
    have hx := plainB_lt hpx
    have hx2 : (x.toNat : Int) < 128 := by omega
    have step : ∀ v : Int, v = toV (a ++ (c ++ x :: d)).length a (c ++ [x]) → loopQ [0, 3, 4, 7] (fun p : List UInt8 × List UInt8 => ⟨[(0, .str (a ++ (c ++ x :: d))), (3, .int .i64 a.length), (4, .int .i64 (toV (a ++ (c ++ x :: d)).length a p.1)), (7, .int .i64 (a.length + p.1.length))], []⟩)
        (fun p => c ++ x :: d = p.1 ++ p.2) (fun p => p.2.length) (c, x :: d)
        ⟨[(0, .str (a ++ (c ++ x :: d))), (3, .int .i64 a.length), (4, .int .i64 v), (7, .int .i64 (a.length + c.length + 1))], []⟩ := by
      intro v hv
      subst hv
      refine ⟨(c ++ [x], d), ?_, by simp, by simp⟩
      have : ((a.length : Int) + c.length + 1) = (a.length : Int) + ((c ++ [x]).length : Int) := by simp; omega
      rw [this]
      simp
    generalize hl : loopQ [0, 3, 4, 7] (fun p : List UInt8 × List UInt8 => (⟨[(0, .str (a ++ (c ++ x :: d))), (3, .int .i64 a.length), (4, .int .i64 (toV (a ++ (c ++ x :: d)).length a p.1)), (7, .int .i64 (a.length + p.1.length))], []⟩ : St))
        (fun p => c ++ x :: d = p.1 ++ p.2) (fun p => p.2.length) (c, x :: d) = LQ at step ⊢
    clear hl
    simp at hs
    have hget : (a ++ (c ++ x :: d))[a.length + c.length]? = some x := by
      rw [← List.append_assoc, List.getElem?_append_right (by simp)]; simp
    simp [b_dkim_zzTrimSpace_4]
    refine ⟨fun _ => ?_, fun h => by omega⟩
    refine awp_loop (σ := Unit) (fun _ => ⟨[(0, .str (a ++ (c ++ x :: d))), (3, .int .i64 a.length), (4, .int .i64 (toV (a.length + (c.length + (d.length + 1))) a c)), (7, .int .i64 (a.length + c.length)), (8, .int .i64 1)], []⟩) (fun _ => True) (fun _ => 0) () (by simp) trivial ?_
    intro _ _
    have en : ((a.length : Int) + (c.length : Int)) = ((a.length + c.length : Nat) : Int) := by omega
    have ew : IntKind.i64.wrap ((a.length : Int) + c.length + 1) = (a.length : Int) + c.length + 1 := wrap64 (by omega) (by omega)
    rw [en]
    refine trim_inner Γ _ (a ++ (c ++ x :: d)) x (a.length + c.length) (a.length + (c.length + (d.length + 1))) _ _ (by simp) hget hx (by omega) (by omega) ?_
    rw [← en]
    have en2 : ((a.length : Int) + (c.length : Int)).toNat = a.length + c.length := by omega
    have en3 : ((a.length : Int) + (c.length : Int) + 1).toNat = a.length + c.length + 1 := by omega
    have esl : List.drop (a.length + c.length) (List.take (a.length + c.length + 1) (a ++ (c ++ x :: d))) = [x] := by
      rw [← List.append_assoc, show a.length + c.length = (a ++ c).length by simp, List.take_length_add_append, List.drop_left]; rfl
    have erun : runesF 1 [x] = [x.toNat] := by simp [runesF, decR_ascii hx]
    simp [t_dkim_zzTrimSpace_3, ew, en2, en3, esl, erun, rcA, acall, h23, con_zzIsSpace, hx2]
    refine ⟨⟨by omega, by omega, by omega⟩, fun hw => step _ ?_, fun hw => step _ ?_⟩
    · rw [isSp_ws hpx] at hw
      simp [toV, trimR_nw hw]
      try omega
    · rw [isSp_ws hpx] at hw
      have hc : c ≠ [] := by
        intro e; subst e
        rw [hb x d rfl] at hw; simp at hw
      simp [toV, hc, trimR_ws hw]

theorem ok_zzTrimSpace (Γ : Gam) (h23 : Γ.fn 23 = con_zzIsSpace) : ∀ args r, con_zzTrimSpace args = some r → runs Γ c_dkim_zzTrimSpace args (fun v => v = r) := by
  intro args r h
  simp only [con_zzTrimSpace] at h
  split at h <;> (try simp at h; done)
  rename_i s
  obtain ⟨⟨hs, hp⟩, rfl⟩ := ite_some h
  clear h
  simp only [mid] at hs
  simp [c_dkim_zzTrimSpace]
  refine awp_loop (σ := List UInt8 × List UInt8) (fun p => ⟨[(0, .str s), (3, .int .i64 s.length), (4, .int .i64 s.length), (16, .ref 16 0)], [(16, .sit s p.1.length)]⟩)
    (fun p => s = p.1 ++ p.2 ∧ ∀ x ∈ p.1, isWs x.toNat = true) (fun p => p.2.length) ([], s) (by simp) (by simp) ?_
  rintro ⟨a, b⟩ ⟨hs1, ha⟩
  simp only at hs1 ha
  cases b with
  | nil =>
    simp at hs1
    subst hs1
    simp [b_dkim_zzTrimSpace_1, t_dkim_zzTrimSpace_6]
    have := trim_loop2 Γ h23 s [] (by simpa using hp) (by simpa using hs) ha (by simp)
    simpa using this
  | cons x b =>
    subst hs1
    have hpx : plainB x = true ∧ plain b = true := by
      have : (plain a && plain (x :: b)) = true := by rw [← plain_app]; exact hp
      simp only [Bool.and_eq_true] at this
      have h2 := this.2
      simp only [plain, List.all_cons, Bool.and_eq_true] at h2
      exact h2
    have e1 : List.drop a.length (a ++ x :: b) = x :: b := by simp
    have hx := plainB_lt hpx.1
    have hx2 : (x.toNat : Int) < 128 := by omega
    simp [b_dkim_zzTrimSpace_1, t_dkim_zzTrimSpace_6, e1, decR_ascii hx, acall, h23, con_zzIsSpace, hx2]
    refine ⟨fun hw => ?_, fun hw => ?_⟩
    · have := trim_loop2 Γ h23 a (x :: b) hp hs ha (fun y r e => by injection e with e1 e2; subst e1; rw [← isSp_ws hpx.1]; exact hw)
      simpa using this
    · refine ⟨(a ++ [x], b), by simp, ⟨by simp, ?_⟩, by simp⟩
      intro y hy
      simp at hy
      rcases hy with hy | rfl
      · exact ha y hy
      · rw [← isSp_ws hpx.1]; exact hw
end Wax

/- FnDPicks (1): lists of texts that are the same; names of fields; texts that are the same but for letters' case. -/
namespace Wax
open Go (IntKind)

def con_dSameTexts : List AV → Option AV
  | [u, v] => match slStrs u, slStrs v with
    | some l, some m => if l.length < mid ∧ m.length < mid then some (.bool (decide (l = m))) else none
    | _, _ => none
  | _ => none

theorem ok_dSameTexts (Γ : Gam) : ∀ args r, con_dSameTexts args = some r → runs Γ c_laws_dSameTexts args (fun v => v = r) := by
  intro args r h
  simp only [con_dSameTexts] at h
  split at h <;> (try simp at h; done)
  rename_i u v
  split at h <;> (try simp at h; done)
  rename_i l m hl hm
  obtain ⟨⟨h1, h2⟩, rfl⟩ := ite_some h
  clear h
  simp only [mid] at h1 h2
  by_cases hlen : l.length = m.length
  · have key : awp Γ (.loop [0, 1, 5] b_laws_dSameTexts_1) (blockQ 0 (thenQ (awp Γ t_laws_dSameTexts_2 (finQ [.t 4] fun v => v = .bool (decide (l = m)))) (finQ [.t 4] fun v => v = .bool (decide (l = m))))) ⟨[(0, u), (1, v), (5, .int .i64 0)], []⟩ := by
      refine awp_loop2 (σ := List (List UInt8) × List (List UInt8) × List (List UInt8)) (fun p => ⟨[(0, u), (1, v), (5, .int .i64 p.1.length)], []⟩)
        (fun p => l = p.1 ++ p.2.1 ∧ m = p.1 ++ p.2.2) (fun p => p.2.1.length) ([], l, m) (by simp) (by simp) ?_
      rintro ⟨pre, a, b⟩ ⟨e1, e2⟩ LQ hLQ
      simp only at e1 e2
      subst e1 e2
      cases a with
      | nil =>
        have hb : b = [] := by simpa using hlen
        subst hb
        rcases slStrs_cases hl with ⟨rfl, hp⟩ | rfl
        · simp at hp; subst hp
          simp [b_laws_dSameTexts_1, t_laws_dSameTexts_2]
        · simp [b_laws_dSameTexts_1, t_laws_dSameTexts_2]
      | cons x a =>
        cases b with
        | nil => simp at hlen
        | cons y b =>
          simp at h1 h2 hlen
          rcases slStrs_cases hl with ⟨rfl, hp⟩ | rfl
          · simp at hp
          rcases slStrs_cases hm with ⟨rfl, hp⟩ | rfl
          · simp at hp
          have ew : IntKind.i64.wrap ((pre.length : Int) + 1) = (pre.length : Int) + 1 := wrap64 (by omega) (by omega)
          have hlt : (pre.length : Int) < (pre.length : Int) + ((a.length : Int) + 1) := by omega
          by_cases hxy : x = y
          · subst hxy
            simp [b_laws_dSameTexts_1, ew]
            refine ⟨fun _ => ?_, fun h => by omega⟩
            exact hLQ (pre ++ [x], a, b) (by simp) (by simp) _ (by simp)
          · have : ¬ pre ++ x :: a = pre ++ y :: b := by simp [hxy]
            simp [b_laws_dSameTexts_1, ew, hxy]
            omega
    rcases slStrs_cases hl with ⟨rfl, rfl⟩ | rfl <;> rcases slStrs_cases hm with ⟨rfl, rfl⟩ | rfl
    · simp [c_laws_dSameTexts]; simpa using key
    · obtain rfl : m = [] := List.eq_nil_of_length_eq_zero hlen.symm
      simp [c_laws_dSameTexts]; simpa using key
    · simp at hlen
      subst hlen
      simp [c_laws_dSameTexts]; simpa using key
    · simp [c_laws_dSameTexts, hlen]; exact key
  · have hne : ¬ l = m := fun e => hlen (by rw [e])
    have hlen2 : ¬ (l.length : Int) = (m.length : Int) := by omega
    rcases slStrs_cases hl with ⟨rfl, rfl⟩ | rfl <;> rcases slStrs_cases hm with ⟨rfl, rfl⟩ | rfl
    · simp at hlen
    · have : ¬ m.length = 0 := by simpa using fun e => hlen (by rw [e])
      have h0' : ¬ (0 : Int) = (m.length : Int) := by omega
      simp [c_laws_dSameTexts, h0', hne]
    · have : ¬ l.length = 0 := by simpa using fun e => hlen (by rw [e])
      have h0 : ¬ (l.length : Int) = 0 := by omega
      simp [c_laws_dSameTexts, h0, hne]
    · simp [c_laws_dSameTexts, hlen, hlen2, hne]

/-- A field's name. -/
def nameOf (s : List UInt8) : List UInt8 := trimS (match cutAt 58 s with | some p => p.1 | none => s)

def con_DName : List AV → Option AV
  | [.str s] => if s.length < mid then some (.str (nameOf s)) else none
  | _ => none

theorem cutAt_le {c : Int} {s : List UInt8} {p : List UInt8 × List UInt8} (h : cutAt c s = some p) : p.1.length + p.2.length < s.length ∧ ∃ x, s = p.1 ++ x :: p.2 := by
  obtain ⟨a, b⟩ := p
  obtain ⟨x, hx1, hx2, _⟩ := cutAt_eq h
  subst hx2
  simp

theorem ok_DName (Γ : Gam) (h2 : Γ.fn 2 = con_dCut) (h3 : Γ.fn 3 = con_DTrim) : ∀ args r, con_DName args = some r → runs Γ c_spec_DName args (fun v => v = r) := by
  intro args r h
  simp only [con_DName] at h
  split at h <;> (try simp at h; done)
  rename_i s
  obtain ⟨hs, rfl⟩ := ite_some h
  clear h
  have k2 : con_dCut [.str s, .int .u8 58] = some (cutV 58 s) := by
    simp only [con_dCut]; exact if_pos (by simp only [mid] at hs; simp only [big]; omega)
  have k3 : ∀ t : List UInt8, t.length ≤ s.length → con_DTrim [.str t] = some (.str (trimS t)) := by
    intro t ht
    simp only [con_DTrim]; exact if_pos (by simp only [mid] at hs; simp only [big]; omega)
  cases hc : cutAt 58 s with
  | none =>
    have k := k3 s (Nat.le_refl _)
    simp [c_spec_DName, acall, h2, h3, k2, cutV, hc, k, nameOf]
  | some p =>
    have k := k3 p.1 (by have := (cutAt_le hc).1; omega)
    simp [c_spec_DName, acall, h2, h3, k2, cutV, hc, k, nameOf]

def con_parseHeaderField : List AV → Option AV
  | [.str s] => if s.length < mid ∧ plain s = true then some (.tup [.str (nameOf s), .str (trimS (match cutAt 58 s with | some p => p.2 | none => []))]) else none
  | _ => none

theorem ok_parseHeaderField (Γ : Gam) (h16 : Γ.fn 16 = con_zzCut) (h18 : Γ.fn 18 = con_zzTrimSpace) : ∀ args r, con_parseHeaderField args = some r → runs Γ c_dkim_parseHeaderField args (fun v => v = r) := by
  intro args r h
  simp only [con_parseHeaderField] at h
  split at h <;> (try simp at h; done)
  rename_i s
  obtain ⟨⟨hs, hp⟩, rfl⟩ := ite_some h
  clear h
  have k16 : con_zzCut [.str s, .str [58]] = some (cutV 58 s) := by
    simp only [con_zzCut]; exact if_pos (by simp only [mid] at hs; simp only [big]; omega)
  have k18 : ∀ t : List UInt8, t.length ≤ s.length → plain t = true → con_zzTrimSpace [.str t] = some (.str (trimS t)) := by
    intro t ht hpt
    simp only [con_zzTrimSpace]; exact if_pos ⟨by omega, hpt⟩
  have e0 : con_zzTrimSpace [.str []] = some (.str (trimS [])) := k18 [] (by simp) rfl
  cases hc : cutAt 58 s with
  | none =>
    have k := k18 s (Nat.le_refl _) hp
    simp [c_dkim_parseHeaderField, acall, h16, h18, k16, cutV, hc, k, nameOf, e0]
  | some p =>
    obtain ⟨hl, x, hx⟩ := cutAt_le hc
    have hp' := hp
    rw [hx, plain_app] at hp'
    simp only [Bool.and_eq_true] at hp'
    have hp2 : plain p.2 = true := by
      have := hp'.2
      simp only [plain, List.all_cons, Bool.and_eq_true] at this
      exact this.2
    have k := k18 p.1 (by omega) hp'.1
    have kk := k18 p.2 (by omega) hp2
    simp [c_dkim_parseHeaderField, acall, h16, h18, k16, cutV, hc, k, kk, nameOf]

/-- Letters as runes. -/
def rA (s : List UInt8) : List AV := s.map fun b => AV.int .i32 (b.toNat : Int)
@[simp] theorem rA_nil : rA [] = [] := rfl
@[simp] theorem rA_cons {x : UInt8} {l : List UInt8} : rA (x :: l) = .int .i32 (x.toNat : Int) :: rA l := rfl
@[simp] theorem rA_app {l m : List UInt8} : rA (l ++ m) = rA l ++ rA m := by simp [rA]
@[simp] theorem rA_length {l : List UInt8} : (rA l).length = l.length := by simp [rA]
@[simp] theorem atoms_rA {l : List UInt8} : atoms (rA l) = true := by induction l <;> simp_all
@[simp] theorem killL_rA {d : Nat} {l : List UInt8} : killL d (rA l) = rA l := by induction l <;> simp_all
@[simp] theorem snapWL_rA {g : AV → AV} {l : List UInt8} : snapWL g (rA l) = rA l := by induction l <;> simp_all
@[simp] theorem map_snapW_rA {g : AV → AV} {l : List UInt8} : (rA l).map (snapW g) = rA l := by induction l <;> simp_all
@[simp] theorem map_snap_rA {n : Nat} {hp : List (Nat × AObj)} {l : List UInt8} : (rA l).map (snap (n + 1) hp) = rA l := by induction l <;> simp_all
attribute [local simp] lowS_cons lowS_nil lowS_app
@[simp] theorem take_rA {l : List UInt8} : List.take l.length (rA (lowS l)) = rA (lowS l) := List.take_of_length_le (by simp [lowS])
@[simp] theorem lowS_len {l : List UInt8} : (lowS l).length = l.length := by simp [lowS]

def rV (s : List UInt8) : AV := match s with | [] => .nilS | _ => .sl 1 (rA s)

def con_zzEqualFold1 : List AV → Option AV
  | [.str s] => if s.length < mid ∧ ascii s = true then some (rV (lowS s)) else none
  | _ => none

set_option maxRecDepth 100000 in
theorem ok_zzEqualFold1 (Γ : Gam) : ∀ args r, con_zzEqualFold1 args = some r → runs Γ c_dkim_zzEqualFold_1 args (fun v => v = r) := by
  intro args r h
  simp only [con_zzEqualFold1] at h
  split at h <;> (try simp at h; done)
  rename_i s
  obtain ⟨⟨hs, ha⟩, rfl⟩ := ite_some h
  clear h
  simp only [mid] at hs
  simp [c_dkim_zzEqualFold_1]
  refine awp_loop2 (σ := List UInt8 × List UInt8) (fun p => ⟨[(3, grV 29 1 p.1.length), (7, .ref 7 0)], grH 29 p.1.length (rA (lowS p.1)) ++ [(7, .sit s p.1.length)]⟩)
    (fun p => s = p.1 ++ p.2) (fun p => p.2.length) ([], s) (by simp) (by simp) ?_
  rintro ⟨pre, post⟩ hs1 LQ hLQ
  simp only at hs1
  subst hs1
  cases post with
  | nil =>
    simp at hs
    cases pre with
    | nil => simp [b_dkim_zzEqualFold_1_1, t_dkim_zzEqualFold_1_2, rV]
    | cons y pre => simp [b_dkim_zzEqualFold_1_1, t_dkim_zzEqualFold_1_2, rV, List.take_of_length_le]
  | cons x post =>
    have hx := (ascii_lt (by rw [ascii_app] at ha; simp only [Bool.and_eq_true] at ha; exact ha.2 : ascii (x :: post) = true)).1
    simp at hs
    have fin : ∀ st, norm [3, 7] st = ⟨[(3, .msl 29 1 0 (pre.length + 1)), (7, .ref 7 0)], [(29, .cells (rA (lowS pre) ++ [.int .i32 ((lowB x).toNat : Int)])), (7, .sit (pre ++ x :: post) (pre.length + 1))]⟩ → LQ st := by
      intro st hst
      refine hLQ (pre ++ [x], post) (by simp) (by simp) st ?_
      simpa using hst
    have n1 : ¬ (x.toNat : Int) = 383 := by omega
    have n2 : ¬ (x.toNat : Int) = 8490 := by omega
    have lb := lowB_toNat x
    by_cases hu : 65 ≤ x.toNat ∧ x.toNat ≤ 90
    · have hu1 : (65 : Int) ≤ (x.toNat : Int) := by omega
      have hu2 : (x.toNat : Int) ≤ 90 := by omega
      have ew : IntKind.i32.wrap ((x.toNat : Int) + 32) = ((lowB x).toNat : Int) := by
        rw [lb]
        have : (65 : Int) ≤ (x.toNat : Int) ∧ (x.toNat : Int) ≤ 90 := ⟨hu1, hu2⟩
        simp only [IntKind.wrap_i32]
        split <;> omega
      cases pre with
      | nil => 
        simp [b_dkim_zzEqualFold_1_1, decA hx, n1, n2, hu1, hu2, ew]
        exact fin _ (by simp)
      | cons y pre =>
        simp at hs
        simp [b_dkim_zzEqualFold_1_1, decA hx, n1, n2, hu1, hu2, ew]
        refine ⟨by omega, fin _ (by simp)⟩
    · have ew : ((lowB x).toNat : Int) = (x.toNat : Int) := by
        rw [lb]; split <;> omega
      have fin' := fin
      rw [ew] at fin'
      have hor : ¬ (65 : Int) ≤ (x.toNat : Int) ∨ ¬ (x.toNat : Int) ≤ 90 := by omega
      rcases hor with hu1 | hu2
      · cases pre with
        | nil => 
          simp [b_dkim_zzEqualFold_1_1, decA hx, n1, n2, hu1]
          exact fin' _ (by simp)
        | cons y pre =>
          simp at hs
          simp [b_dkim_zzEqualFold_1_1, decA hx, n1, n2, hu1]
          refine ⟨by omega, fin' _ (by simp)⟩
      · have hu1 : (65 : Int) ≤ (x.toNat : Int) := by omega
        cases pre with
        | nil => 
          simp [b_dkim_zzEqualFold_1_1, decA hx, n1, n2, hu1, hu2]
          exact fin' _ (by simp)
        | cons y pre =>
          simp at hs
          simp [b_dkim_zzEqualFold_1_1, decA hx, n1, n2, hu1, hu2]
          refine ⟨by omega, fin' _ (by simp)⟩

def con_zzEqualFold : List AV → Option AV
  | [.str s, .str t] => if s.length < mid ∧ t.length < mid ∧ ascii s = true ∧ ascii t = true then some (.bool (decide (lowS s = lowS t))) else none
  | _ => none

set_option maxRecDepth 100000 in
theorem ok_zzEqualFold (Γ : Gam) (h42 : Γ.fn 42 = con_zzEqualFold1) : ∀ args r, con_zzEqualFold args = some r → runs Γ c_dkim_zzEqualFold args (fun v => v = r) := by
  intro args r h
  simp only [con_zzEqualFold] at h
  split at h <;> (try simp at h; done)
  rename_i s t
  obtain ⟨⟨hs, ht, has, hat⟩, rfl⟩ := ite_some h
  clear h
  have ks : con_zzEqualFold1 [.str s] = some (rV (lowS s)) := if_pos ⟨hs, has⟩
  have kt : con_zzEqualFold1 [.str t] = some (rV (lowS t)) := if_pos ⟨ht, hat⟩
  simp only [mid] at hs ht
  have hls : (lowS s).length < 1099511627776 := by simpa using hs
  have hlt : (lowS t).length < 1099511627776 := by simpa using ht
  simp [c_dkim_zzEqualFold, acall, h42, ks, kt]
  clear ks kt hs ht has hat
  generalize lowS s = l at *
  generalize lowS t = m at *
  by_cases hlen : l.length = m.length
  · have key : awp Γ (.loop [6, 7, 21, 22] b_dkim_zzEqualFold_1) (blockQ 0 (thenQ (awp Γ t_dkim_zzEqualFold_2 (finQ [.t 4] fun v => v = .bool (decide (l = m)))) (finQ [.t 4] fun v => v = .bool (decide (l = m))))) ⟨[(6, rV l), (7, rV m), (21, .int .i64 l.length), (22, .int .i64 0)], []⟩ := by
      refine awp_loop2 (σ := List UInt8 × List UInt8 × List UInt8) (fun p => ⟨[(6, rV l), (7, rV m), (21, .int .i64 l.length), (22, .int .i64 p.1.length)], []⟩)
        (fun p => l = p.1 ++ p.2.1 ∧ m = p.1 ++ p.2.2) (fun p => p.2.1.length) ([], l, m) (by simp) (by simp) ?_
      rintro ⟨pre, a, b⟩ ⟨e1, e2⟩ LQ hLQ
      simp only at e1 e2
      subst e1 e2
      cases a with
      | nil =>
        have hb : b = [] := by simpa using hlen
        subst hb
        simp [b_dkim_zzEqualFold_1, t_dkim_zzEqualFold_2]
      | cons x a =>
        cases b with
        | nil => simp at hlen
        | cons y b =>
          simp at hls hlt hlen
          have er1 : rV (pre ++ x :: a) = .sl 1 (rA pre ++ .int .i32 (x.toNat : Int) :: rA a) := by
            cases pre <;> simp [rV]
          have er2 : rV (pre ++ y :: b) = .sl 1 (rA pre ++ .int .i32 (y.toNat : Int) :: rA b) := by
            cases pre <;> simp [rV]
          have ew : IntKind.i64.wrap ((pre.length : Int) + 1) = (pre.length : Int) + 1 := wrap64 (by omega) (by omega)
          have g : ∀ (q : List UInt8) (v : AV), (rA pre ++ v :: rA q)[pre.length]? = some v := fun q v => get_mid (by simp)
          by_cases hxy : x = y
          · subst hxy
            simp [b_dkim_zzEqualFold_1, ew, er1, er2, g]
            refine ⟨fun _ => ?_, fun h => by omega⟩
            exact hLQ (pre ++ [x], a, b) (by simp) (by simp) _ (by simp [er1, er2])
          · have hn : ¬ (x.toNat : Int) = (y.toNat : Int) := fun e => hxy (UInt8.toNat_inj.1 (by omega))
            simp [b_dkim_zzEqualFold_1, ew, er1, er2, g, hn, hxy]
            omega
    cases l with
    | nil =>
      cases m with
      | nil => simp [rV] at key ⊢; exact key
      | cons => simp at hlen
    | cons x l =>
      cases m with
      | nil => simp at hlen
      | cons y m => simp at hlen; simp [rV, hlen] at key ⊢; exact key
  · have hne : ¬ l = m := fun e => hlen (by rw [e])
    have hlen2 : ¬ (l.length : Int) = (m.length : Int) := by omega
    cases l with
    | nil =>
      cases m with
      | nil => simp at hlen
      | cons y m => simp [rV]; omega
    | cons x l =>
      cases m with
      | nil => simp [rV]; omega
      | cons y m => simp at hlen hlen2; simp [rV, hlen, hlen2]; simp at hne; omega
end Wax

/- FnDPicks (2): the picker of header fields. -/
namespace Wax
open Go (IntKind)

/-- What an evaluation asks of a slice of texts. -/
theorem slf_alen {u : AV} {l : List (List UInt8)} (h : slStrs u = some l) (hp : List (Nat × AObj)) : alen hp 1 u = some l.length := by
  rcases slStrs_cases h with ⟨rfl, rfl⟩ | rfl <;> simp
theorem slf_kill {u : AV} {l : List (List UInt8)} (h : slStrs u = some l) (d : Nat) : kill d u = u := by
  rcases slStrs_cases h with ⟨rfl, rfl⟩ | rfl <;> simp
theorem slf_ref {u : AV} {l : List (List UInt8)} (h : slStrs u = some l) : hasRef u = false := by
  rcases slStrs_cases h with ⟨rfl, rfl⟩ | rfl <;> simp
theorem slf_refs {u : AV} {l : List (List UInt8)} (h : slStrs u = some l) : refs u = [] := by
  rcases slStrs_cases h with ⟨rfl, rfl⟩ | rfl <;> simp
theorem slf_map {u : AV} {l : List (List UInt8)} (h : slStrs u = some l) (g : Nat → Nat) : mapId g u = u := by
  rcases slStrs_cases h with ⟨rfl, rfl⟩ | rfl <;> simp
theorem slf_snap {u : AV} {l : List (List UInt8)} (h : slStrs u = some l) (n : Nat) (hp : List (Nat × AObj)) : snap (n + 1) hp u = u := by
  rcases slStrs_cases h with ⟨rfl, rfl⟩ | rfl <;> simp
theorem slf_snapW {u : AV} {l : List (List UInt8)} (h : slStrs u = some l) (g : AV → AV) : snapW g u = u := by
  rcases slStrs_cases h with ⟨rfl, rfl⟩ | rfl <;> simp
theorem slf_atom {u : AV} {l : List (List UInt8)} (h : slStrs u = some l) : atom u = true := by
  rcases slStrs_cases h with ⟨rfl, rfl⟩ | rfl <;> simp
theorem slf_cells {u : AV} {l : List (List UInt8)} (h : slStrs u = some l) : cells u = [u] := by
  rcases slStrs_cases h with ⟨rfl, rfl⟩ | rfl <;> simp
theorem slf_ne {u : AV} {l : List (List UInt8)} (h : slStrs u = some l) (hl : l ≠ []) : u = .sl 1 (strsA l) := by
  rcases slStrs_cases h with ⟨rfl, rfl⟩ | rfl
  · exact absurd rfl hl
  · rfl

def con_newHeaderPicker : List AV → List (Nat × AObj) → Option (AV × List (Nat × AObj))
  | [u], [] => match slStrs u with
    | some _ => some (.ref 0 0, [(0, .cells [u, .mref 1]), (1, .mp [])])
    | none => none
  | _, _ => none

theorem ok_newHeaderPicker (Γ : Gam) : ∀ args hp q, con_newHeaderPicker args hp = some q → runsS Γ c_dkim_newHeaderPicker args hp (fun v => v = some q) := by
  intro args hp q h
  simp only [con_newHeaderPicker] at h
  split at h <;> (try simp at h; done)
  rename_i u
  split at h <;> (try simp at h; done)
  rename_i l hl
  injection h with h; subst h
  rcases slStrs_cases hl with ⟨rfl, rfl⟩ | rfl <;> simp [c_dkim_newHeaderPicker, reach_succ]

def mpA (c : List (List UInt8 × Nat)) : List (List UInt8 × AV) := c.map fun p => (p.1, .int .i64 (p.2 : Int))
def asCnt : List (List UInt8 × AV) → Option (List (List UInt8 × Nat))
  | [] => some []
  | (k, .int .i64 n) :: r => if 0 ≤ n then (asCnt r).map ((k, n.toNat) :: ·) else none
  | _ :: _ => none
theorem asCnt_mpA : ∀ c, asCnt (mpA c) = some c
  | [] => rfl
  | (k, n) :: r => by
    have := asCnt_mpA r
    simp only [mpA, List.map_cons, asCnt] at this ⊢
    rw [this, if_pos (by omega)]; simp
theorem asCnt_spec : ∀ {es c}, asCnt es = some c → es = mpA c
  | [], c, h => by simp [asCnt] at h; subst h; rfl
  | (k, v) :: r, c, h => by
    cases v <;> (try (simp [asCnt] at h; done))
    rename_i t n
    cases t <;> (try (simp [asCnt] at h; done))
    simp only [asCnt] at h
    split at h
    · rename_i hn
      cases hr : asCnt r with
      | none => rw [hr] at h; simp at h
      | some c' =>
        rw [hr] at h; simp at h; subst h
        rw [asCnt_spec hr]
        simp [mpA]; omega
    · simp at h

def getC : List (List UInt8 × Nat) → List UInt8 → Nat
  | [], _ => 0
  | (i, n) :: r, k => if k = i then n else getC r k
def setC : List (List UInt8 × Nat) → List UInt8 → Nat → List (List UInt8 × Nat)
  | [], k, v => [(k, v)]
  | (i, n) :: r, k, v => if k = i then (k, v) :: r else (i, n) :: setC r k v
theorem look_mpA : ∀ (c : List (List UInt8 × Nat)) (k : List UInt8), lookA (mpA c) k (.int .i64 0) false = .int .i64 (getC c k : Int)
  | [], k => rfl
  | (i, n) :: r, k => by
    have := look_mpA r k
    by_cases h : k = i <;> simp [mpA, lookA, mfind, getC, h] at this ⊢
    exact this
theorem mset_mpA : ∀ (c : List (List UInt8 × Nat)) (k : List UInt8) (n : Nat), mset (mpA c) k (.int .i64 (n : Int)) = mpA (setC c k n)
  | [], k, n => rfl
  | (i, m) :: r, k, n => by
    have := mset_mpA r k n
    by_cases h : k = i <;> simp [mpA, mset, setC, h] at this ⊢
    exact this
theorem getC_setC : ∀ (c : List (List UInt8 × Nat)) (k : List UInt8) (n : Nat) (j : List UInt8), getC (setC c k n) j = if j = k then n else getC c j
  | [], k, n, j => rfl
  | (i, m) :: r, k, n, j => by
    have := getC_setC r k n j
    by_cases h : k = i
    · subst h; by_cases h2 : j = k <;> simp [setC, getC, h2]
    · by_cases h2 : j = i
      · subst h2; have : ¬ j = k := fun e => h e.symm
        simp [setC, getC, h, this]
      · simp [setC, getC, h, h2, this]

/-- The field of that name, so many times passed over. -/
def pk (key : List UInt8) : List (List UInt8) → Nat → Option (List UInt8)
  | [], _ => none
  | f :: r, n => if lowS (nameOf f) = key then (match n with | 0 => some f | n + 1 => pk key r n) else pk key r n

def pkRes (u : AV) (c : List (List UInt8 × Nat)) (key : List UInt8) : Option (List UInt8) → AV × List (Nat × AObj)
  | some f => (.str f, [(0, .cells [u, .mref 1]), (1, .mp (mpA (setC c key (getC c key + 1))))])
  | none => (.str [], [(0, .cells [u, .mref 1]), (1, .mp (mpA c))])

def con_hpPick : List AV → List (Nat × AObj) → Option (AV × List (Nat × AObj))
  | [.ref 0 0, .str k], [(0, .cells [u, .mref 1]), (1, .mp es)] => match slStrs u, asCnt es with
    | some fs, some c => if fs.length < mid ∧ (∀ s ∈ fs, s.length < mid ∧ plain s = true) ∧ k.length < mid ∧ plain k = true ∧ getC c (lowS k) < mid then
        some (pkRes u c (lowS k) (pk (lowS k) fs.reverse (getC c (lowS k))))
      else none
    | _, _ => none
  | _, _ => none

theorem nameOf_len (s : List UInt8) : (nameOf s).length ≤ s.length := by
  have ht : ∀ t : List UInt8, (trimS t).length ≤ t.length := by
    intro t
    have h1 : (trimL t).length ≤ t.length := (List.dropWhile_suffix _).length_le
    have h2 : (trimR (trimL t)).length ≤ (trimL t).length := by
      simp only [trimR, List.length_reverse]
      have := (List.dropWhile_suffix (fun b : UInt8 => isWs b.toNat) (l := (trimL t).reverse)).length_le
      simpa using this
    exact Nat.le_trans h2 h1
  simp only [nameOf]
  cases hc : cutAt 58 s with
  | none => exact ht s
  | some p => have := (cutAt_le hc).1; have := ht p.1; simp only; omega

theorem plain_sub {s t : List UInt8} (h : ∀ x ∈ t, x ∈ s) (hs : plain s = true) : plain t = true := by
  simp only [plain, List.all_eq_true] at hs ⊢
  exact fun x hx => hs x (h x hx)

theorem trimS_sub {t : List UInt8} : ∀ x ∈ trimS t, x ∈ t := by
  intro x hx
  simp only [trimS, trimR, trimL, List.mem_reverse] at hx
  have := (List.dropWhile_suffix _).mem hx
  rw [List.mem_reverse] at this
  exact (List.dropWhile_suffix _).mem this

theorem nameOf_plain {s : List UInt8} (h : plain s = true) : plain (nameOf s) = true := by
  simp only [nameOf]
  refine plain_sub (fun x hx => trimS_sub x hx) ?_
  cases hc : cutAt 58 s with
  | none => exact h
  | some p =>
    obtain ⟨_, y, hy⟩ := cutAt_le hc
    refine plain_sub (fun x hx => ?_) h
    rw [hy]; simp [show x ∈ p.1 from hx]
theorem plain_lowS {s : List UInt8} (h : plain s = true) : ascii (lowS s) = true := by
  have := plain_ascii h
  simp only [ascii, lowS, List.all_map, List.all_eq_true] at this ⊢
  intro x hx
  have h1 := of_decide_eq_true (this x hx)
  have lb := lowB_toNat x
  refine decide_eq_true ?_
  split at lb <;> omega
end Wax

/- FnDParams (1): splitting at a byte; pairs. -/
namespace Wax
open Go (IntKind)

def con_DSplit : List AV → Option AV
  | [.str s, .int .u8 n] => if s.length < mid ∧ 0 ≤ n ∧ n < 256 then some (.sl 1 (strsA (splitB (UInt8.ofNat n.toNat) s))) else none
  | _ => none

theorem ok_DSplit (Γ : Gam) (h2 : Γ.fn 2 = con_dCut) : ∀ args r, con_DSplit args = some r → runs Γ c_spec_DSplit args (fun v => v = r) := by
  intro args r h
  simp only [con_DSplit] at h
  split at h <;> (try simp at h; done)
  rename_i s n
  obtain ⟨⟨hs, hn0, hn⟩, rfl⟩ := ite_some h
  clear h
  obtain ⟨b, rfl⟩ : ∃ b : UInt8, n = (b.toNat : Int) := ⟨UInt8.ofNat n.toNat, by
    have : (UInt8.ofNat n.toNat).toNat = n.toNat := by simp; omega
    rw [this]; omega⟩
  have eb : UInt8.ofNat (b.toNat : Int).toNat = b := by simp
  rw [eb]
  have k2 : ∀ t : List UInt8, t.length ≤ s.length → con_dCut [.str t, .int .u8 b.toNat] = some (cutV b.toNat t) := by
    intro t ht
    simp only [con_dCut]; exact if_pos (by simp only [mid] at hs; simp only [big]; omega)
  simp only [mid] at hs
  simp [c_spec_DSplit]
  refine awp_loop2 (σ := List (List UInt8) × List UInt8) (fun p => ⟨[(0, .str p.2), (1, .int .u8 b.toNat), (5, grV 19 1 p.1.length)], grH 19 p.1.length (strsA p.1)⟩)
    (fun p => splitB b s = p.1 ++ splitB b p.2 ∧ p.2.length + p.1.length ≤ s.length) (fun p => p.2.length) ([], s) (by simp) (by simp) ?_
  rintro ⟨outs, t⟩ ⟨hsp, htl⟩ LQ hLQ
  simp only at hsp htl
  have k := k2 t (by omega)
  rw [splitB_cut b t] at hsp
  cases hc : cutAt b.toNat t with
  | none =>
    simp only [hc] at hsp
    rw [hsp]
    cases outs with
    | nil => simp [b_spec_DSplit_1, acall, h2, k, cutV, hc]
    | cons o outs =>
      simp at htl
      simp [b_spec_DSplit_1, acall, h2, k, cutV, hc, List.take_of_length_le]
      omega
  | some p =>
    simp only [hc] at hsp
    obtain ⟨hpl, _⟩ := cutAt_le hc
    have fin : ∀ st, norm [0, 1, 5] st = ⟨[(0, .str p.2), (1, .int .u8 b.toNat), (5, .msl 19 1 0 (outs.length + 1))], [(19, .cells (strsA outs ++ [.str p.1]))]⟩ → LQ st := by
      intro st hst
      refine hLQ (outs ++ [p.1], p.2) ⟨by rw [hsp]; simp, by simp; omega⟩ (by simp only; omega) st (by simpa using hst)
    cases outs with
    | nil =>
      simp [b_spec_DSplit_1, acall, h2, k, cutV, hc]
      exact fin _ (by simp)
    | cons o outs =>
      simp at htl
      simp [b_spec_DSplit_1, acall, h2, k, cutV, hc]
      exact ⟨by omega, fin _ (by simp)⟩

/-- Pairs of texts, as elements of two cells. -/
def pr2 (l : List (List UInt8 × List UInt8)) : List AV := l.map fun p => .agg [.str p.1, .str p.2]
/-- .. as cells. -/
def pc2 (l : List (List UInt8 × List UInt8)) : List AV := l.flatMap fun p => [.str p.1, .str p.2]
@[simp] theorem pr2_nil : pr2 [] = [] := rfl
@[simp] theorem pr2_cons {x l} : pr2 (x :: l) = .agg [.str x.1, .str x.2] :: pr2 l := rfl
@[simp] theorem pr2_app {l m} : pr2 (l ++ m) = pr2 l ++ pr2 m := by simp [pr2]
@[simp] theorem pr2_length {l} : (pr2 l).length = l.length := by simp [pr2]
@[simp] theorem pc2_nil : pc2 [] = [] := rfl
@[simp] theorem pc2_cons {x : List UInt8 × List UInt8} {l} : pc2 (x :: l) = .str x.1 :: .str x.2 :: pc2 l := rfl
@[simp] theorem pc2_app {l m} : pc2 (l ++ m) = pc2 l ++ pc2 m := by simp [pc2]
@[simp] theorem pc2_length {l : List (List UInt8 × List UInt8)} : (pc2 l).length = l.length * 2 := by induction l <;> simp_all; omega
@[simp] theorem atoms_pc2 {l} : atoms (pc2 l) = true := by induction l <;> simp_all
@[simp] theorem killL_pc2 {d l} : killL d (pc2 l) = pc2 l := by induction l <;> simp_all
@[simp] theorem map_snap_pc2 {n : Nat} {hp : List (Nat × AObj)} {l} : (pc2 l).map (snap (n + 1) hp) = pc2 l := by induction l <;> simp_all
@[simp] theorem snapWL_pc2 {g : AV → AV} {l} : snapWL g (pc2 l) = pc2 l := by induction l <;> simp_all
@[simp] theorem group_pc2 : ∀ {l : List (List UInt8 × List UInt8)}, group 2 l.length (pc2 l) = pr2 l
  | [] => rfl
  | x :: l => by simp [group, group_pc2 (l := l)]

def pairV (l : List (List UInt8 × List UInt8)) : AV := match l with | [] => .nilS | _ => .sl 2 (pr2 l)
def asPairs : List AV → Option (List (List UInt8 × List UInt8))
  | [] => some []
  | .agg [.str a, .str b] :: r => (asPairs r).map ((a, b) :: ·)
  | _ :: _ => none
def slPairs : AV → Option (List (List UInt8 × List UInt8))
  | .nilS => some []
  | .sl es xs => if es = 2 then asPairs xs else none
  | _ => none
theorem asPairs_pr2 : ∀ l, asPairs (pr2 l) = some l
  | [] => rfl
  | x :: l => by simp [asPairs, asPairs_pr2 l]
theorem asPairs_spec : ∀ {xs l}, asPairs xs = some l → xs = pr2 l
  | [], l, h => by simp [asPairs] at h; subst h; rfl
  | v :: r, l, h => by
    unfold asPairs at h
    split at h
    · simp at h; rename_i e; simp at e
    · rename_i a b r' e
      simp at e; obtain ⟨rfl, rfl⟩ := e
      cases hr : asPairs r with
      | none => rw [hr] at h; simp at h
      | some l' => rw [hr] at h; simp at h; subst h; rw [asPairs_spec hr]; rfl
    · simp at h
theorem slPairs_cases {v : AV} {l} (h : slPairs v = some l) : (v = .nilS ∧ l = []) ∨ v = .sl 2 (pr2 l) := by
  cases v <;> simp [slPairs] at h
  · left; exact ⟨rfl, h⟩
  · right; obtain ⟨e, h⟩ := h; rw [asPairs_spec h, e]
theorem slPairs_pairV {l} : slPairs (pairV l) = some l := by
  cases l <;> simp [pairV, slPairs, ← pr2_cons, asPairs_pr2, -pr2_cons]
end Wax

/- FnDParams (2): lists of pairs; a text's tags, as the program reads them. -/
namespace Wax
open Go (IntKind)

def con_dSamePairs : List AV → Option AV
  | [u, v] => match slPairs u, slPairs v with
    | some l, some m => if l.length < mid ∧ m.length < mid then some (.bool (decide (l = m))) else none
    | _, _ => none
  | _ => none

theorem slp_alen {u : AV} {l} (h : slPairs u = some l) (hp : List (Nat × AObj)) : alen hp 1 u = some l.length := by
  rcases slPairs_cases h with ⟨rfl, rfl⟩ | rfl <;> simp
theorem slp_ne {u : AV} {l} (h : slPairs u = some l) (hl : l ≠ []) : u = .sl 2 (pr2 l) := by
  rcases slPairs_cases h with ⟨rfl, rfl⟩ | rfl
  · exact absurd rfl hl
  · rfl
@[simp] theorem pr2_get {l : List (List UInt8 × List UInt8)} {i : Nat} : (pr2 l)[i]? = l[i]?.map fun p => AV.agg [.str p.1, .str p.2] := by simp [pr2]

theorem ok_dSamePairs (Γ : Gam) : ∀ args r, con_dSamePairs args = some r → runs Γ c_laws_dSamePairs args (fun v => v = r) := by
  intro args r h
  simp only [con_dSamePairs] at h
  split at h <;> (try simp at h; done)
  rename_i u v
  split at h <;> (try simp at h; done)
  rename_i l m hl hm
  obtain ⟨⟨h1, h2⟩, rfl⟩ := ite_some h
  clear h
  simp only [mid] at h1 h2
  by_cases hlen : l.length = m.length
  · have hlen2 : (l.length : Int) = (m.length : Int) := by omega
    simp [-alen, c_laws_dSamePairs, slp_alen hl, slp_alen hm, hlen2, hlen]
    refine awp_loop2 (σ := List (List UInt8 × List UInt8) × List (List UInt8 × List UInt8) × List (List UInt8 × List UInt8)) (fun p => ⟨[(0, u), (1, v), (5, .int .i64 p.1.length)], []⟩)
      (fun p => l = p.1 ++ p.2.1 ∧ m = p.1 ++ p.2.2) (fun p => p.2.1.length) ([], l, m) (by simp) (by simp) ?_
    rintro ⟨pre, a, b⟩ ⟨e1, e2⟩ LQ hLQ
    simp only at e1 e2
    subst e1 e2
    cases a with
    | nil =>
      have hb : b = [] := by simpa using hlen
      subst hb
      simp [-alen, slp_alen hl, b_laws_dSamePairs_1, t_laws_dSamePairs_2]
    | cons x a =>
      cases b with
      | nil => simp at hlen
      | cons y b =>
        obtain ⟨x1, x2⟩ := x
        obtain ⟨y1, y2⟩ := y
        simp at h1 h2 hlen
        have hu := slp_ne hl (by simp)
        have hv := slp_ne hm (by simp)
        subst hu hv
        have ew : IntKind.i64.wrap ((pre.length : Int) + 1) = (pre.length : Int) + 1 := wrap64 (by omega) (by omega)
        have hlt : (pre.length : Int) < (pre.length : Int) + ((a.length : Int) + 1) := by omega
        have g : ∀ (q : List (List UInt8 × List UInt8)) (z : List UInt8 × List UInt8), (pre ++ z :: q)[pre.length]? = some z := fun q z => get_mid rfl
        have g2 : ∀ (q : List AV) (z : AV), (pr2 pre ++ z :: q)[pre.length]? = some z := fun q z => get_mid (by simp)
        by_cases hxy : x1 = y1 ∧ x2 = y2
        · obtain ⟨rfl, rfl⟩ := hxy
          simp [b_laws_dSamePairs_1, ew, g, g2, hlt]
          exact hLQ (pre ++ [(x1, x2)], a, b) (by simp) (by simp) _ (by simp)
        · have hb : (decide (x1 = y1) && decide (x2 = y2)) = false := by
            rw [Bool.and_eq_false_iff]; simp only [decide_eq_false_iff_not]
            by_cases hx : x1 = y1
            · right; exact fun e => hxy ⟨hx, e⟩
            · left; exact hx
          have hne : ¬ ((x1, x2) = (y1, y2)) := by simpa using fun a b => hxy ⟨a, b⟩
          simp [b_laws_dSamePairs_1, ew, g, g2, hlt, hb]
  · have hne : ¬ l = m := fun e => hlen (by rw [e])
    have hlen2 : ¬ (l.length : Int) = (m.length : Int) := by omega
    simp [-alen, c_laws_dSamePairs, slp_alen hl, slp_alen hm, hlen2, hne]

def half : Nat := 549755813888

def con_pairsOf : List AV → Option AV
  | [u] => match slPairs u with
    | some l => if l.length < half then some (pairV l) else none
    | none => none
  | _ => none

theorem ok_pairsOf (Γ : Gam) : ∀ args r, con_pairsOf args = some r → runs Γ c_impl_pairsOf args (fun v => v = r) := by
  intro args r h
  simp only [con_pairsOf] at h
  split at h <;> (try simp at h; done)
  rename_i u
  split at h <;> (try simp at h; done)
  rename_i l hl
  obtain ⟨h1, rfl⟩ := ite_some h
  clear h
  simp only [half] at h1
  simp [-alen, c_impl_pairsOf, slp_alen hl]
  refine awp_loop2 (σ := List (List UInt8 × List UInt8) × List (List UInt8 × List UInt8)) (fun p => ⟨[(3, grV 19 2 p.1.length), (6, u), (7, .int .i64 l.length), (8, .int .i64 p.1.length)], grH 19 p.1.length (pc2 p.1)⟩)
    (fun p => l = p.1 ++ p.2) (fun p => p.2.length) ([], l) (by simp) (by simp) ?_
  rintro ⟨pre, post⟩ hs LQ hLQ
  simp only at hs
  subst hs
  cases post with
  | nil =>
    cases pre with
    | nil => simp [b_impl_pairsOf_1, t_impl_pairsOf_2, pairV]
    | cons x pre =>
      simp at h1 hl
      have hg := group_pc2 (l := x :: pre)
      simp at hg
      simp [b_impl_pairsOf_1, t_impl_pairsOf_2, pairV, hg]
      omega
  | cons x post =>
    have hu := slp_ne hl (by simp)
    subst hu
    obtain ⟨x1, x2⟩ := x
    simp at h1
    have ew : IntKind.i64.wrap ((pre.length : Int) + 1) = (pre.length : Int) + 1 := wrap64 (by omega) (by omega)
    have hlt : (pre.length : Int) < (pre.length : Int) + ((post.length : Int) + 1) := by omega
    have g2 : ∀ (q : List AV) (z : AV), (pr2 pre ++ z :: q)[pre.length]? = some z := fun q z => get_mid (by simp)
    have fin : ∀ st, norm [3, 6, 7, 8] st = ⟨[(3, .msl 19 2 0 (pre.length + 1)), (6, .sl 2 (pr2 (pre ++ (x1, x2) :: post))), (7, .int .i64 ((pre.length : Int) + ((post.length : Int) + 1))), (8, .int .i64 ((pre.length : Int) + 1))], [(19, .cells (pc2 pre ++ [.str x1, .str x2]))]⟩ → LQ st := by
      intro st hst
      exact hLQ (pre ++ [(x1, x2)], post) (by simp) (by simp) st (by simpa using hst)
    cases pre with
    | nil =>
      have ew0 : IntKind.i64.wrap 1 = 1 := rfl
      simp [b_impl_pairsOf_1, ew0, g2, hlt]
      exact fin _ (by simp)
    | cons y pre =>
      simp at h1
      have ew1 : IntKind.i64.wrap ((pre.length : Int) + 1 + 1) = (pre.length : Int) + 1 + 1 := wrap64 (by omega) (by omega)
      have tk : List.take ((pre.length + 1) * 2) (AV.str y.1 :: AV.str y.2 :: pc2 pre) = AV.str y.1 :: AV.str y.2 :: pc2 pre := List.take_of_length_le (by simp; omega)
      simp [b_impl_pairsOf_1, ew1, g2, tk]
      refine ⟨fun _ => ⟨by omega, ⟨by omega, by omega⟩, fin _ (by simp; omega)⟩, fun h => by omega⟩
end Wax

/- FnDParams (3): a text's tags, as the program reads them. -/
namespace Wax
open Go (IntKind)

def con_errorsNew : List AV → Option AV
  | [.str s] => some (.ifc 3 (.ptr [.str s]))
  | _ => none

theorem ok_errorsNew (Γ : Gam) : ∀ args r, con_errorsNew args = some r → runs Γ c_errors_New args (fun v => v = r) := by
  intro args r h
  simp only [con_errorsNew] at h
  split at h <;> (try simp at h; done)
  injection h with h; subst h
  simp [c_errors_New]

def msgBad : List UInt8 := [100, 107, 105, 109, 58, 32, 109, 97, 108, 102, 111, 114, 109, 101, 100, 32, 104, 101, 97, 100, 101, 114, 32, 112, 97, 114, 97, 109, 115]
def msgTwice : List UInt8 := [100, 107, 105, 109, 58, 32, 100, 117, 112, 108, 105, 99, 97, 116, 101, 32, 116, 97, 103, 32, 110, 97, 109, 101]

/-- A map of texts, as it was written. -/
def pmA (l : List (List UInt8 × List UInt8)) : List (List UInt8 × AV) := l.map fun p => (p.1, .str p.2)
def hasK (k : List UInt8) (l : List (List UInt8 × List UInt8)) : Bool := l.any fun p => decide (k = p.1)
theorem mfind_pmA_none {k : List UInt8} : ∀ {l : List (List UInt8 × List UInt8)}, hasK k l = false → mfind (pmA l) k = none ∧ ∀ v, mset (pmA l) k (.str v) = pmA (l ++ [(k, v)])
  | [], _ => ⟨rfl, fun _ => rfl⟩
  | (i, u) :: r, h => by
    simp only [hasK, List.any_cons, Bool.or_eq_false_iff, decide_eq_false_iff_not] at h
    have ih := mfind_pmA_none (k := k) (l := r) h.2
    refine ⟨by simp only [pmA, List.map_cons, mfind, if_neg h.1]; exact ih.1, fun v => ?_⟩
    have := ih.2 v
    simp only [pmA, List.map_cons, mset, if_neg h.1, List.cons_append] at this ⊢
    rw [this]
theorem mfind_pmA_some {k : List UInt8} : ∀ {l : List (List UInt8 × List UInt8)}, hasK k l = true → ∃ v, mfind (pmA l) k = some (.str v)
  | [], h => by simp [hasK] at h
  | (i, u) :: r, h => by
    by_cases hk : k = i
    · exact ⟨u, by simp [pmA, mfind, hk]⟩
    · have : hasK k r = true := by simpa [hasK, hk] using h
      obtain ⟨v, hv⟩ := mfind_pmA_some this
      exact ⟨v, by simp only [pmA, List.map_cons, mfind, if_neg hk]; exact hv⟩

def prm : List (List UInt8) → List (List UInt8 × List UInt8) → List (List UInt8 × List UInt8) × Option (List UInt8)
  | [], acc => (acc, none)
  | p :: r, acc => match cutAt 61 p with
    | none => if trimS p = [] then prm r acc else (acc, some msgBad)
    | some q => if hasK (trimS q.1) acc = true then (acc, some msgTwice) else prm r (acc ++ [(trimS q.1, trimS q.2)])

def prmV (x : List (List UInt8 × List UInt8) × Option (List UInt8)) : AV := .tup [.mp (pmA x.1), match x.2 with | none => .nilI | some m => .ifc 3 (.ptr [.str m])]

def con_parseHeaderParams : List AV → Option AV
  | [.str s] => if s.length < mid ∧ plain s = true then some (prmV (prm (splitB 59 s) [])) else none
  | _ => none

theorem splitB_sub (b : UInt8) : ∀ (s p : List UInt8), p ∈ splitB b s → ∀ y ∈ p, y ∈ s
  | [], p, h, y, hy => by simp [splitB] at h; subst h; exact hy
  | x :: r, p, h, y, hy => by
    have ih := splitB_sub b r
    simp only [splitB] at h
    split at h
    · rcases List.mem_cons.1 h with e | h
      · subst e; simp at hy
      · exact List.mem_cons_of_mem _ (ih p h y hy)
    · split at h
      · simp at h; subst h; simp at hy; subst hy; simp
      · rename_i hd t e
        rcases List.mem_cons.1 h with e' | h
        · subst e'
          rcases List.mem_cons.1 hy with e2 | hy
          · subst e2; simp
          · exact List.mem_cons_of_mem _ (ih hd (by rw [e]; simp) y hy)
        · exact List.mem_cons_of_mem _ (ih p (by rw [e]; simp [h]) y hy)
theorem splitB_plain (b : UInt8) (s p : List UInt8) (hs : plain s = true) (h : p ∈ splitB b s) : plain p = true := plain_sub (splitB_sub b s p h) hs

set_option maxRecDepth 100000 in
theorem ok_parseHeaderParams (Γ : Gam) (s25 : Γ.st 25 = con_zzSplit) (h16 : Γ.fn 16 = con_zzCut) (h18 : Γ.fn 18 = con_zzTrimSpace) (h50 : Γ.fn 50 = con_errorsNew) : ∀ args r, con_parseHeaderParams args = some r → runs Γ c_dkim_parseHeaderParams args (fun v => v = r) := by
  intro args r h
  simp only [con_parseHeaderParams] at h
  split at h <;> (try simp at h; done)
  rename_i s
  obtain ⟨⟨hs, hp⟩, rfl⟩ := ite_some h
  clear h
  have hsp : con_zzSplit [.str s, .str [59]] [] = some (.msl 0 1 0 (splitB 59 s).length, [(0, .cells (strsA (splitB 59 s)))]) := if_pos hs
  have hl := splitB_length 59 s
  have hml := splitB_mem_length 59 s
  have hmp := fun p => splitB_plain 59 s p hp
  simp [c_dkim_parseHeaderParams, acallS, s25, hsp]
  clear hsp
  generalize splitB 59 s = L at *
  have hs' := hs
  simp only [mid] at hs'
  refine awp_loop2 (σ := List (List UInt8) × List (List UInt8) × List (List UInt8 × List UInt8)) (fun p => ⟨[(5, .mref 16), (17, .msl 15 1 0 L.length), (18, .int .i64 L.length), (19, .int .i64 p.1.length)], [(16, .mp (pmA p.2.2)), (15, .cells (strsA L))]⟩)
    (fun p => L = p.1 ++ p.2.1 ∧ prm L [] = prm p.2.1 p.2.2) (fun p => p.2.1.length) ([], L, []) (by simp [pmA]) (by simp) ?_
  rintro ⟨pre, post, acc⟩ ⟨e1, e2⟩ LQ hLQ
  simp only at e1 e2
  cases post with
  | nil =>
    simp at e1
    rw [e2]
    simp [b_dkim_parseHeaderParams_1, t_dkim_parseHeaderParams_2, e1, prm, prmV]
  | cons x post =>
    have hxm : x ∈ L := by rw [e1]; simp
    have hxl := hml x hxm
    have hxp := hmp x hxm
    have hlen : L.length = pre.length + post.length + 1 := by rw [e1]; simp; omega
    have hlt : pre.length < L.length := by omega
    have g2 : List.drop pre.length L = x :: post := by rw [e1]; simp
    have ew : IntKind.i64.wrap ((pre.length : Int) + 1) = (pre.length : Int) + 1 := wrap64 (by omega) (by omega)
    have hlt' : (pre.length : Int) < (L.length : Int) := by omega
    have k16 : con_zzCut [.str x, .str [61]] = some (cutV 61 x) := by
      simp only [con_zzCut]; exact if_pos (by simp only [big]; omega)
    have k18 : ∀ t : List UInt8, t.length ≤ s.length → plain t = true → con_zzTrimSpace [.str t] = some (.str (trimS t)) := by
      intro t ht hpt
      simp only [con_zzTrimSpace]; exact if_pos ⟨by omega, hpt⟩
    have fin : ∀ acc', prm (x :: post) acc = prm post acc' → ∀ st, norm [5, 17, 18, 19] st = ⟨[(5, .mref 16), (17, .msl 15 1 0 L.length), (18, .int .i64 L.length), (19, .int .i64 ((pre.length : Int) + 1))], [(16, .mp (pmA acc')), (15, .cells (strsA L))]⟩ → LQ st := by
      intro acc' he st hst
      exact hLQ (pre ++ [x], post, acc') ⟨by rw [e1]; simp, by rw [e2, he]⟩ (by simp) st (by simpa using hst)
    cases hc : cutAt 61 x with
    | none =>
      have kx := k18 x hxl hxp
      by_cases ht : trimS x = []
      · have f1 := fin acc (by simp [prm, hc, ht])
        simp [b_dkim_parseHeaderParams_1, hlt, g2, acall, h16, k16, cutV, hc, h18, kx, ht, ew]
        exact f1 _ (by simp)
      · rw [e2]
        simp [b_dkim_parseHeaderParams_1, hlt, g2, acall, h16, k16, cutV, hc, h18, kx, ht, h50, con_errorsNew, prm, prmV, msgBad]
    | some q =>
      obtain ⟨hql, y, hy⟩ := cutAt_le hc
      have hxp' := hxp
      rw [hy, plain_app] at hxp'
      simp only [Bool.and_eq_true] at hxp'
      have hp2 : plain q.2 = true := by
        have := hxp'.2
        simp only [plain, List.all_cons, Bool.and_eq_true] at this
        exact this.2
      have kk := k18 q.1 (by omega) hxp'.1
      have kv := k18 q.2 (by omega) hp2
      cases hh : hasK (trimS q.1) acc with
      | true =>
        obtain ⟨v, hv⟩ := mfind_pmA_some hh
        rw [e2]
        simp [b_dkim_parseHeaderParams_1, hlt, g2, acall, h16, k16, cutV, hc, h18, kk, h50, con_errorsNew, prm, prmV, hh, hv, lookA, msgTwice]
      | false =>
        obtain ⟨hv, hm⟩ := mfind_pmA_none hh
        have f1 := fin (acc ++ [(trimS q.1, trimS q.2)]) (by simp [prm, hc, hh])
        simp [b_dkim_parseHeaderParams_1, hlt, g2, acall, h16, k16, cutV, hc, h18, kk, kv, hh, hv, hm, lookA, ew]
        exact f1 _ (by simp)
end Wax

/- FnDCanonAgain: the plain law of words and white space; its own text. -/
namespace Wax
open Go (IntKind)

def nonWs (s : List UInt8) : Prop := ∀ x ∈ s, isWs x.toNat = false
def allWs (s : List UInt8) : Prop := ∀ x ∈ s, isWs x.toNat = true

theorem nonWs_of {s : List UInt8} (h : stripD s = s) : nonWs s := by
  intro x hx
  rw [← h] at hx
  simp only [stripD, List.mem_filter, Bool.not_eq_true'] at hx
  exact hx.2

theorem allWs_of {s : List UInt8} (h : stripD s = []) : allWs s := by
  intro x hx
  simp only [stripD, List.filter_eq_nil_iff] at h
  simpa using h x hx

theorem wordsGo_ws : ∀ {b : List UInt8} (s : List UInt8), allWs b → wordsGo [] (b ++ s) = wordsGo [] s
  | [], s, _ => rfl
  | x :: r, s, h => by
    have h1 := h x (by simp)
    simp only [List.cons_append, wordsGo, h1, if_true]
    exact wordsGo_ws s fun y hy => h y (by simp [hy])

theorem wordsGo_word : ∀ {w : List UInt8} (cur s : List UInt8), nonWs w → wordsGo cur (w ++ s) = wordsGo (cur ++ w) s
  | [], cur, s, _ => by simp
  | x :: r, cur, s, h => by
    have h1 := h x (by simp)
    simp only [List.cons_append, wordsGo, h1, Bool.false_eq_true, if_false]
    rw [wordsGo_word _ s fun y hy => h y (by simp [hy])]
    simp

theorem wordsGo_end {b cur s : List UInt8} (hc : cur ≠ []) (hb : b ≠ []) (hw : allWs b) : wordsGo cur (b ++ s) = cur :: wordsGo [] (b ++ s) := by
  cases b with
  | nil => exact absurd rfl hb
  | cons x r =>
    have h1 := hw x (by simp)
    simp only [List.cons_append, wordsGo, h1, if_true, if_neg hc]

/-- Words, each with white space ahead of it. -/
def spr (bl : List (List UInt8)) (k : Nat) (ws : List (List UInt8)) : List UInt8 := (ws.zipIdx k).flatMap fun p => bl.getD (p.2 % bl.length) [] ++ p.1

theorem spr_cons {bl : List (List UInt8)} {k : Nat} {w : List UInt8} {ws : List (List UInt8)} : spr bl k (w :: ws) = bl.getD (k % bl.length) [] ++ w ++ spr bl (k + 1) ws := by simp [spr, List.zipIdx_cons]
theorem spr_snoc {bl : List (List UInt8)} {w : List UInt8} {ws : List (List UInt8)} : spr bl 0 (ws ++ [w]) = spr bl 0 ws ++ bl.getD (ws.length % bl.length) [] ++ w := by
  simp [spr, List.zipIdx_append]

theorem getD_blank {bl : List (List UInt8)} (hb : bl ≠ []) {k : Nat} : bl.getD (k % bl.length) [] ∈ bl := by
  have hl : 0 < bl.length := List.length_pos_iff.2 hb
  have := Nat.mod_lt k hl
  rw [List.getD_eq_getElem?_getD, List.getElem?_eq_getElem this]; simp

theorem words_spr {bl : List (List UInt8)} (hb : bl ≠ []) (hbl : ∀ b ∈ bl, b ≠ [] ∧ allWs b) {t : List UInt8} (ht : t ≠ []) (htw : allWs t) : ∀ (ws : List (List UInt8)) (k : Nat), (∀ w ∈ ws, w ≠ [] ∧ nonWs w) →
    wordsGo [] (spr bl k ws ++ t) = ws
  | [], k, _ => by
    have := wordsGo_ws (b := t) [] htw
    simpa [spr, wordsGo] using this
  | w :: r, k, h => by
    have ih := words_spr hb hbl ht htw r (k + 1) (fun x hx => h x (by simp [hx]))
    have hbk := hbl _ (getD_blank hb (k := k))
    have hw := h w (by simp)
    rw [spr_cons, List.append_assoc, List.append_assoc, wordsGo_ws _ hbk.2, wordsGo_word _ _ hw.2, List.nil_append]
    have key : wordsGo w (spr bl (k + 1) r ++ t) = w :: wordsGo [] (spr bl (k + 1) r ++ t) := by
      cases r with
      | nil => simpa [spr] using wordsGo_end (s := []) hw.1 ht htw
      | cons w2 r2 =>
        have hb2 := hbl _ (getD_blank hb (k := k + 1))
        rw [spr_cons, List.append_assoc, List.append_assoc]
        exact wordsGo_end hw.1 hb2.1 hb2.2
    rw [key, ih]

theorem words_join {t : List UInt8} (ht : t ≠ []) (htw : allWs t) : ∀ (ws : List (List UInt8)), (∀ w ∈ ws, w ≠ [] ∧ nonWs w) → wordsGo [] (joinB ws ++ t) = ws
  | [], _ => by
    have := wordsGo_ws (b := t) [] htw
    simpa [joinB, wordsGo] using this
  | w :: r, h => by
    have ih := words_join ht htw r (fun x hx => h x (by simp [hx]))
    have hw := h w (by simp)
    rw [joinB_cons, List.append_assoc, wordsGo_word _ _ hw.2, List.nil_append]
    have key : wordsGo w (J2 r ++ t) = w :: wordsGo [] (joinB r ++ t) := by
      cases r with
      | nil => simpa [J2, joinB] using wordsGo_end (s := []) hw.1 ht htw
      | cons w2 r2 =>
        have hsp : allWs [32] := by intro x hx; simp at hx; subst hx; rfl
        have e1 : J2 (w2 :: r2) ++ t = [32] ++ (joinB (w2 :: r2) ++ t) := by simp [J2]
        rw [e1, wordsGo_end hw.1 (by simp) hsp, wordsGo_ws _ hsp]
    rw [key, ih]

theorem lowB_ws (b : UInt8) : isWs (lowB b).toNat = isWs b.toNat := by
  have h := lowB_toNat b
  unfold isWs
  apply decide_eq_decide.2
  rw [h]
  split <;> omega

theorem lowS_nonWs {s : List UInt8} (h : nonWs s) : nonWs (lowS s) := by
  intro x hx
  simp only [lowS, List.mem_map] at hx
  obtain ⟨y, hy, rfl⟩ := hx
  rw [lowB_ws]; exact h y hy

theorem lowS_allWs {s : List UInt8} (h : allWs s) : allWs (lowS s) := by
  intro x hx
  simp only [lowS, List.mem_map] at hx
  obtain ⟨y, hy, rfl⟩ := hx
  rw [lowB_ws]; exact h y hy

theorem trimS_word {n b : List UInt8} (hn : nonWs n) (hne : n ≠ []) (hb : allWs b) : trimS (n ++ b) = n := by
  have h1 : trimL (n ++ b) = n ++ b := by
    cases n with
    | nil => exact absurd rfl hne
    | cons x r => simp [trimL, hn x (by simp)]
  rw [trimS, h1, trimR, List.reverse_append, List.dropWhile_append_of_pos (by intro x hx; exact hb x (by simpa using hx))]
  have h2 : n.reverse.dropWhile (fun b => isWs b.toNat) = n.reverse := by
    cases hr : n.reverse with
    | nil => rfl
    | cons x r =>
      have : x ∈ n := by rw [← List.mem_reverse, hr]; simp
      simp [hn x this]
  rw [h2, List.reverse_reverse]

theorem lowB_low (b : UInt8) : lowB (lowB b) = lowB b := by
  have h := lowB_toNat b
  have h2 := lowB_toNat (lowB b)
  apply UInt8.toNat_inj.1
  have : ((lowB (lowB b)).toNat : Int) = (lowB b).toNat := by
    rw [h2]; split
    · rename_i hc; rw [h] at hc ⊢; split at hc <;> split <;> omega
    · rfl
  omega

theorem lowS_low (s : List UInt8) : lowS (lowS s) = lowS s := by simp [lowS, lowB_low]

theorem cutAt_noB {c : UInt8} {n r : List UInt8} (h : noB c.toNat n) : cutAt c.toNat (n ++ c :: r) = some (n, r) := by
  rw [cutAt_app _ _ _ h]; simp [cutAt]

theorem noB_low {n : List UInt8} (h : noB 58 n) : noB 58 (lowS n) := by
  intro x hx
  simp only [lowS, List.mem_map] at hx
  obtain ⟨y, hy, rfl⟩ := hx
  have := h y hy
  rw [lowB_toNat]; split <;> omega

theorem relaxedOf_cut {n r : List UInt8} (h : noB 58 n) : relaxedOf (n ++ 58 :: r) = trimS (lowS n) ++ 58 :: joinB (wordsOf r) ++ [13, 10] := by
  have := cutAt_noB (c := 58) (r := r) h
  have e : cutAt 58 (n ++ 58 :: r) = some (n, r) := this
  simp [relaxedOf, e]

theorem noB_ws {b : List UInt8} (h : allWs b) : noB 58 b := by
  intro x hx
  have := of_decide_eq_true (h x hx)
  omega

/-- What is asked of a name, words, white space. -/
structure CA (n : List UInt8) (ws bl : List (List UInt8)) : Prop where
  nne : n ≠ []
  nn : nonWs n
  nc : noB 58 n
  bne : bl ≠ []
  bl : ∀ b ∈ bl, b ≠ [] ∧ allWs b
  ws : ∀ w ∈ ws, w ≠ [] ∧ nonWs w

def wantOf (n : List UInt8) (ws : List (List UInt8)) : List UInt8 := lowS n ++ 58 :: joinB ws ++ [13, 10]

theorem crlf_ws : allWs [13, 10] := by intro x hx; simp at hx; rcases hx with rfl | rfl <;> rfl

theorem law_plain {n : List UInt8} {ws bl : List (List UInt8)} (h : CA n ws bl) : relaxedOf (n ++ 58 :: (joinB ws ++ [13, 10])) = wantOf n ws := by
  rw [relaxedOf_cut h.nc, show wordsOf (joinB ws ++ [13, 10]) = ws from words_join (by simp) crlf_ws ws h.ws]
  have := trimS_word (lowS_nonWs h.nn) (by simpa [lowS] using h.nne) (b := []) (by intro x hx; simp at hx)
  simp only [List.append_nil] at this
  rw [this, wantOf]

theorem law_again {n : List UInt8} {ws bl : List (List UInt8)} (h : CA n ws bl) : relaxedOf (wantOf n ws) = wantOf n ws := by
  have e : wantOf n ws = lowS n ++ 58 :: (joinB ws ++ [13, 10]) := by simp [wantOf]
  have h' : CA (lowS n) ws bl := ⟨by simpa [lowS] using h.nne, lowS_nonWs h.nn, noB_low h.nc, h.bne, h.bl, h.ws⟩
  conv => lhs; rw [e]
  rw [law_plain h', wantOf, wantOf, lowS_low]

theorem law_spread {n : List UInt8} {ws bl : List (List UInt8)} (h : CA n ws bl) : relaxedOf (n ++ bl.getD 0 [] ++ 58 :: (spr bl 0 ws ++ (bl.getD 0 [] ++ [13, 10]))) = wantOf n ws := by
  have h0 := h.bl _ (getD_blank h.bne (k := 0))
  rw [Nat.zero_mod] at h0
  have hc : noB 58 (n ++ bl.getD 0 []) := by
    intro x hx
    rcases List.mem_append.1 hx with hx | hx
    · exact h.nc x hx
    · exact noB_ws h0.2 x hx
  have ht : allWs (bl.getD 0 [] ++ [13, 10]) := by
    intro x hx
    rcases List.mem_append.1 hx with hx | hx
    · exact h0.2 x hx
    · exact crlf_ws x hx
  rw [relaxedOf_cut hc, show wordsOf (spr bl 0 ws ++ (bl.getD 0 [] ++ [13, 10])) = ws from words_spr h.bne h.bl (by simp) ht ws 0 h.ws, lowS_app,
    trimS_word (lowS_nonWs h.nn) (by simpa [lowS] using h.nne) (lowS_allWs h0.2), wantOf]
end Wax

/- FnDPicks (3): one pick. -/
namespace Wax
open Go (IntKind)

set_option maxRecDepth 100000 in
theorem ok_hpPick (Γ : Gam) (h17 : Γ.fn 17 = con_zzToLower) (h40 : Γ.fn 40 = con_parseHeaderField) (h41 : Γ.fn 41 = con_zzEqualFold) : ∀ args hp q, con_hpPick args hp = some q → runsS Γ c_dkim_headerPicker_Pick args hp (fun v => v = some q) := by
  intro args hp q h
  simp only [con_hpPick] at h
  split at h <;> (try simp at h; done)
  rename_i k u es
  split at h <;> (try simp at h; done)
  rename_i fs c hu hc
  obtain rfl := asCnt_spec hc
  obtain ⟨⟨hfl, hfs, hkl, hkp, hcl⟩, rfl⟩ := ite_some h
  clear h
  have k17 : con_zzToLower [.str k] = some (.str (lowS k)) := if_pos ⟨hkl, plain_ascii hkp⟩
  have hkeyl : (lowS k).length < mid := by simpa using hkl
  have hkeya : ascii (lowS k) = true := plain_lowS hkp
  have hkk : lowS (lowS k) = lowS k := lowS_low k
  have ew0 : IntKind.i64.wrap ((fs.length : Int) - 1) = (fs.length : Int) - 1 := wrap64 (by simp only [mid] at hfl; omega) (by simp only [mid] at hfl; omega)
  simp [-alen, c_dkim_headerPicker_Pick, acall, h17, k17, slf_map hu, slf_atom hu, slf_alen hu, look_mpA, ew0]
  clear k17 hkl hkp
  generalize lowS k = key at *
  refine awp_loop2 (σ := List (List UInt8) × Nat) (fun p => ⟨[(0, .ref 1000000 0), (1, .str key), (5, .int .i64 p.2), (6, .int .i64 ((p.1.length : Int) - 1))], [(1000000, .cells [u, .mref 1000001]), (1000001, .mp (mpA c))]⟩)
    (fun p => (∃ post, fs = p.1 ++ post) ∧ pk key fs.reverse (getC c key) = pk key p.1.reverse p.2 ∧ p.2 < mid) (fun p => p.1.length) (fs, getC c key) (by simp) ⟨⟨[], by simp⟩, rfl, hcl⟩ ?_
  rintro ⟨pre, n⟩ ⟨⟨post, hpost⟩, hpk, hn⟩ LQ hLQ
  simp only at hpost hpk hn
  rcases List.eq_nil_or_concat pre with rfl | ⟨init, f, rfl⟩
  · rw [hpk]
    simp [b_dkim_headerPicker_Pick_1, t_dkim_headerPicker_Pick_2, pk, pkRes, slf_map hu, slf_refs hu, reach_succ, slf_ref hu]
  · simp only [List.concat_eq_append] at *
    subst hpost
    obtain ⟨hf1, hf2⟩ := hfs f (by simp)
    have hu' := slf_ne hu (by simp)
    subst hu'
    have k40 : con_parseHeaderField [.str f] = some (.tup [.str (nameOf f), .str (trimS (match cutAt 58 f with | some p => p.2 | none => []))]) := if_pos ⟨hf1, hf2⟩
    have k41 : con_zzEqualFold [.str (nameOf f), .str key] = some (.bool (decide (lowS (nameOf f) = key))) := by
      have := nameOf_len f
      have e : decide (lowS (nameOf f) = lowS key) = decide (lowS (nameOf f) = key) := by rw [hkk]
      rw [← e]
      exact if_pos ⟨by omega, hkeyl, plain_ascii (nameOf_plain hf2), hkeya⟩
    simp only [mid] at hfl hn hcl
    simp at hfl
    have ew1 : IntKind.i64.wrap ((init.length : Int) - 1) = (init.length : Int) - 1 := wrap64 (by omega) (by omega)
    have ew2 : IntKind.i64.wrap ((getC c key : Int) + 1) = ((getC c key + 1 : Nat) : Int) := wrap64 (by omega) (by omega)
    have fin : ∀ n', pk key (f :: init.reverse) n = pk key init.reverse n' → n' ≤ n → ∀ st, norm [0, 1, 5, 6] st = ⟨[(0, .ref 1000000 0), (1, .str key), (5, .int .i64 n'), (6, .int .i64 ((init.length : Int) - 1))], [(1000000, .cells [.sl 1 (strsA (init ++ [f] ++ post)), .mref 1000001]), (1000001, .mp (mpA c))]⟩ → LQ st := by
      intro n' e he st hst
      refine hLQ (init, n') ⟨⟨f :: post, by simp⟩, ?_, by simp only [mid]; omega⟩ (by simp) st hst
      rw [hpk]; simpa using e
    have g : (strsA init ++ .str f :: strsA post)[init.length]? = some (.str f) := get_mid (by simp)
    by_cases hm : lowS (nameOf f) = key
    · cases n with
      | zero =>
        have ms := mset_mpA c key (getC c key + 1)
        rw [Int.natCast_add] at ms
        have hres : pk key (init ++ [f] ++ post).reverse (getC c key) = some f := by rw [hpk]; simp [pk, hm]
        rw [hres]
        simp [b_dkim_headerPicker_Pick_1, acall, h40, k40, h41, k41, hm, g, look_mpA, ew1, ew2, pkRes, reach_succ]
        exact ms
      | succ n =>
        have f1 := fin n (by simp [pk, hm]) (by omega)
        have ew3 : IntKind.i64.wrap (n : Int) = (n : Int) := wrap64 (by omega) (by omega)
        have hn0 : ¬ (n : Int) + 1 = 0 := by omega
        simp [b_dkim_headerPicker_Pick_1, acall, h40, k40, h41, k41, hm, g, ew1, ew3, hn0]
        exact f1 _ (by simp)
    · have f1 := fin n (by simp [pk, hm]) (by omega)
      simp [b_dkim_headerPicker_Pick_1, acall, h40, k40, h41, k41, hm, g, ew1]
      exact f1 _ (by simp)
end Wax

/- FnDPicks (4): all picks, one after another. -/
namespace Wax
open Go (IntKind)

def pickL (rev : List (List UInt8)) : List (List UInt8) → List (List UInt8 × Nat) → List (List UInt8)
  | [], _ => []
  | k :: ks, c => match pk (lowS k) rev (getC c (lowS k)) with
    | some f => f :: pickL rev ks (setC c (lowS k) (getC c (lowS k) + 1))
    | none => [] :: pickL rev ks c

def strV (l : List (List UInt8)) : AV := match l with | [] => .nilS | _ => .sl 1 (strsA l)
theorem slStrs_strV {l : List (List UInt8)} : slStrs (strV l) = some l := by
  cases l <;> simp [strV, slStrs, ← strsA_cons]

def con_Pick : List AV → Option AV
  | [u, v] => match slStrs u, slStrs v with
    | some fs, some ks => if fs.length < mid ∧ (∀ s ∈ fs, s.length < mid ∧ plain s = true) ∧ ks.length < mid ∧ (∀ s ∈ ks, s.length < mid ∧ plain s = true) then
        some (strV (pickL fs.reverse ks []))
      else none
    | _, _ => none
  | _ => none

set_option maxRecDepth 100000 in
theorem ok_Pick (Γ : Gam) (s38 : Γ.st 38 = con_newHeaderPicker) (s39 : Γ.st 39 = con_hpPick) : ∀ args r, con_Pick args = some r → runs Γ c_dkim_Pick args (fun v => v = r) := by
  intro args r h
  simp only [con_Pick] at h
  split at h <;> (try simp at h; done)
  rename_i u v
  split at h <;> (try simp at h; done)
  rename_i fs ks hu hv
  obtain ⟨⟨hfl, hfs, hkl, hks⟩, rfl⟩ := ite_some h
  clear h
  have k38 : con_newHeaderPicker [u] [] = some (.ref 0 0, [(0, .cells [u, .mref 1]), (1, .mp [])]) := by simp only [con_newHeaderPicker, hu]
  simp [-alen, c_dkim_Pick, acallS, s38, k38, slf_map hu, slf_kill hu, slf_kill hv, slf_refs hu, slf_alen hv]
  refine awp_loop2 (σ := List (List UInt8) × List (List UInt8) × List (List UInt8) × List (List UInt8 × Nat)) (fun p => ⟨[(5, .ref 10 0), (6, grV 22 1 p.2.2.1.length), (11, v), (12, .int .i64 ks.length), (13, .int .i64 p.1.length)], grH 22 p.2.2.1.length (strsA p.2.2.1) ++ [(10, .cells [u, .mref 100010]), (100010, .mp (mpA p.2.2.2))]⟩)
    (fun p => ks = p.1 ++ p.2.1 ∧ pickL fs.reverse ks [] = p.2.2.1 ++ pickL fs.reverse p.2.1 p.2.2.2 ∧ p.2.2.1.length = p.1.length ∧ ∀ j, getC p.2.2.2 j ≤ p.1.length) (fun p => p.2.1.length) ([], ks, [], []) (by simp [mpA]) ⟨by simp, by simp, rfl, fun j => Nat.le_refl _⟩ ?_
  rintro ⟨pre, post, outs, c⟩ ⟨hpost, hpk, hol, hgc⟩ LQ hLQ
  simp only at hpost hpk hol hgc
  subst hpost
  cases post with
  | nil =>
    simp only [pickL, List.append_nil] at hpk ⊢
    rw [hpk]
    cases outs with
    | nil =>
      have : pre = [] := List.eq_nil_of_length_eq_zero hol.symm
      subst this
      simp [b_dkim_Pick_1, t_dkim_Pick_2, strV]
    | cons o outs =>
      simp at hol
      simp [b_dkim_Pick_1, t_dkim_Pick_2, strV, ← hol, List.take_of_length_le]
  | cons k post =>
    have hv' := slf_ne hv (by simp)
    subst hv'
    obtain ⟨hk1, hk2⟩ := hks k (by simp)
    have k39 : con_hpPick [.ref 0 0, .str k] [(0, .cells [u, .mref 1]), (1, .mp (mpA c))] = some (pkRes u c (lowS k) (pk (lowS k) fs.reverse (getC c (lowS k)))) := by
      simp only [con_hpPick, hu, asCnt_mpA]
      exact if_pos ⟨hfl, hfs, hk1, hk2, by have := hgc (lowS k); simp at hkl; omega⟩
    simp only [mid] at hkl
    simp at hkl
    have g : (strsA pre ++ .str k :: strsA post)[pre.length]? = some (.str k) := get_mid (by simp)
    have ew : IntKind.i64.wrap ((pre.length : Int) + 1) = (pre.length : Int) + 1 := wrap64 (by omega) (by omega)
    have hlt : (pre.length : Int) < (pre.length : Int) + ((post.length : Int) + 1) := by omega
    have fin : ∀ (x : List UInt8) (c' : List (List UInt8 × Nat)), pickL fs.reverse (k :: post) c = x :: pickL fs.reverse post c' → (∀ j, getC c' j ≤ pre.length + 1) → ∀ st, norm [5, 6, 11, 12, 13] st = ⟨[(5, .ref 10 0), (6, .msl 22 1 0 (outs.length + 1)), (11, .sl 1 (strsA (pre ++ k :: post))), (12, .int .i64 ((pre.length : Int) + ((post.length : Int) + 1))), (13, .int .i64 ((pre.length : Int) + 1))], [(22, .cells (strsA outs ++ [.str x])), (10, .cells [u, .mref 100010]), (100010, .mp (mpA c'))]⟩ → LQ st := by
      intro x c' e hc st hst
      refine hLQ (pre ++ [k], post, outs ++ [x], c') ⟨by simp, ?_, by simp [hol], by simpa using hc⟩ (by simp) st ?_
      · rw [hpk, e]; simp
      · simpa using hst
    cases hpkv : pk (lowS k) fs.reverse (getC c (lowS k)) with
    | none =>
      rw [hpkv] at k39
      have f1 := fin [] c (by simp [pickL, hpkv]) (fun j => by have := hgc j; omega)
      cases outs with
      | nil =>
        simp [b_dkim_Pick_1, hlt, g, acallS, s39, k39, slf_map hu, slf_kill hu, slf_refs hu, reach_succ, pkRes, ew]
        exact f1 _ (by simp)
      | cons o outs =>
        simp at hol
        simp [b_dkim_Pick_1, hlt, g, acallS, s39, k39, slf_map hu, slf_kill hu, slf_refs hu, reach_succ, pkRes, ew]
        refine ⟨by omega, f1 _ (by simp)⟩
    | some f =>
      rw [hpkv] at k39
      have f1 := fin f (setC c (lowS k) (getC c (lowS k) + 1)) (by simp [pickL, hpkv]) (fun j => by rw [getC_setC]; have := hgc j; have := hgc (lowS k); split <;> omega)
      cases outs with
      | nil =>
        simp [b_dkim_Pick_1, hlt, g, acallS, s39, k39, slf_map hu, slf_kill hu, slf_refs hu, reach_succ, pkRes, ew]
        exact f1 _ (by simp)
      | cons o outs =>
        simp at hol
        simp [b_dkim_Pick_1, hlt, g, acallS, s39, k39, slf_map hu, slf_kill hu, slf_refs hu, reach_succ, pkRes, ew]
        refine ⟨by omega, f1 _ (by simp)⟩
end Wax

/- Functions as the abstract machine has them. -/
namespace Wax
open Go (IntKind)

/- maps.Keys[map[string]string,string,string] -/
def c_maps_Keys : SFn := ⟨1,
    (.seq
      (.region [
        ⟨some 1, .boxF (.t 0), none⟩,
        ⟨some 2, .mv (.k .nilF), none⟩] [1] [] [[0]])
      (.seq
        (.region [
          ⟨some 3, .mkFn 55 [(.t 1)], none⟩,
          ⟨some 2, .mv (.t 3), none⟩] [2] [] [[1]])
        .ret)),
  [.t 2]⟩

def l_maps_Keys : Lay := { rg := [(0, ([1], [])), (1, ([2], []))], dd := [(0, [[0]]), (1, [[1]])], fz := [1] }

end Wax

/- FnDParams (4): the tags in ascending order. -/
namespace Wax
open Go (IntKind)

def sortB (l : List (List UInt8)) : List (List UInt8) := l.mergeSort (fun x y => decide (x ≤ y))

def con_Keys : List AV → Option AV
  | [.mp es] => some (.fn 55 [.bx [.mp es]])
  | _ => none

theorem ok_Keys (Γ : Gam) : ∀ args r, con_Keys args = some r → runs Γ c_maps_Keys args (fun v => v = r) := by
  intro args r h
  simp only [con_Keys] at h
  split at h <;> (try simp at h; done)
  injection h with h; subst h
  simp [c_maps_Keys]

/-- slices.Sorted of a map's keys. -/
def con_Sorted : List AV → Option AV
  | [.fn 55 [.bx [.mp es]]] => if es.length < half ∧ (∀ q ∈ es, q.1.length < half) then some (strV (sortB (es.map (·.1)))) else none
  | _ => none

def lookP : List (List UInt8 × List UInt8) → List UInt8 → List UInt8
  | [], _ => []
  | (i, v) :: r, k => if k = i then v else lookP r k
theorem lookA_pmA : ∀ (l : List (List UInt8 × List UInt8)) (k : List UInt8), lookA (pmA l) k (.str []) false = .str (lookP l k)
  | [], k => rfl
  | (i, v) :: r, k => by
    have := lookA_pmA r k
    by_cases h : k = i <;> simp [pmA, lookA, mfind, lookP, h] at this ⊢
    exact this

def sortP (acc : List (List UInt8 × List UInt8)) : List (List UInt8 × List UInt8) := (sortB (acc.map (·.1))).map fun k => (k, lookP acc k)

def dpV (x : List (List UInt8 × List UInt8) × Option (List UInt8)) : AV := match x.2 with
  | none => .tup [pairV (sortP x.1), .nilI]
  | some m => .tup [.nilS, .ifc 3 (.ptr [.str m])]

def con_dkimParams : List AV → Option AV
  | [.str s] => if s.length + 1 < half ∧ plain s = true then some (dpV (prm (splitB 59 s) [])) else none
  | _ => none

theorem prm_length : ∀ (L : List (List UInt8)) (acc : List (List UInt8 × List UInt8)), (prm L acc).1.length ≤ acc.length + L.length
  | [], acc => by simp [prm]
  | p :: r, acc => by
    simp only [prm]
    split
    · split
      · have := prm_length r acc; simp; omega
      · simp
    · split
      · simp
      · rename_i q _ _
        have := prm_length r (acc ++ [(trimS q.1, trimS q.2)])
        simp at this ⊢; omega

theorem prm_keys (n : Nat) : ∀ (L : List (List UInt8)) (acc : List (List UInt8 × List UInt8)), (∀ p ∈ L, p.length ≤ n) → (∀ q ∈ acc, q.1.length ≤ n) → ∀ q ∈ (prm L acc).1, q.1.length ≤ n
  | [], acc, _, h2 => h2
  | p :: r, acc, h1, h2 => by
    have hr : ∀ p ∈ r, p.length ≤ n := fun p hp => h1 p (by simp [hp])
    simp only [prm]
    cases hc : cutAt 61 p with
    | none =>
      simp only
      by_cases ht : trimS p = []
      · simp only [ht, if_true]; exact prm_keys n r acc hr h2
      · simp only [ht, if_false]; exact h2
    | some q =>
      simp only
      split
      · exact h2
      · refine prm_keys n r _ hr fun z hz => ?_
        rcases List.mem_append.1 hz with hz | hz
        · exact h2 z hz
        · simp only [List.mem_singleton] at hz
          subst hz
          have t1 := trimS_length q.1
          have t2 := (cutAt_le hc).1
          have t3 := h1 p (by simp)
          simp only
          omega

set_option maxRecDepth 100000 in
theorem ok_dkimParams (Γ : Gam) (h47 : Γ.fn 47 = con_parseHeaderParams) (h48 : Γ.fn 48 = con_Keys) (h49 : Γ.fn 49 = con_Sorted) : ∀ args r, con_dkimParams args = some r → runs Γ c_dkim_Params args (fun v => v = r) := by
  intro args r h
  simp only [con_dkimParams] at h
  split at h <;> (try simp at h; done)
  rename_i s
  obtain ⟨⟨hs, hp⟩, rfl⟩ := ite_some h
  clear h
  have k47 : con_parseHeaderParams [.str s] = some (prmV (prm (splitB 59 s) [])) := if_pos ⟨by simp only [half, mid] at *; omega, hp⟩
  have hl := prm_length (splitB 59 s) []
  have hl2 := splitB_length 59 s
  have hkl := prm_keys s.length (splitB 59 s) [] (splitB_mem_length 59 s) (by simp)
  generalize prm (splitB 59 s) [] = q at *
  obtain ⟨acc, e⟩ := q
  cases e with
  | some m => simp [c_dkim_Params, acall, h47, k47, prmV, dpV]
  | none =>
    simp at hl
    have hacc : acc.length < half := by omega
    have k49 : con_Sorted [.fn 55 [.bx [.mp (pmA acc)]]] = some (strV (sortB (acc.map (·.1)))) := by
      have e1 : (pmA acc).map (·.1) = acc.map (·.1) := by simp [pmA, Function.comp_def]
      simp only [con_Sorted, e1]
      refine if_pos ⟨by simpa [pmA] using hacc, fun q hq => ?_⟩
      simp only [pmA, List.mem_map] at hq
      obtain ⟨z, hz, rfl⟩ := hq
      have := hkl z hz
      simp only [half] at *
      omega
    have hsl : (sortB (acc.map (·.1))).length < half := by simpa [sortB] using hacc
    have hsl' := hsl
    simp only [half] at hsl'
    have hp1 := slf_ref (slStrs_strV (l := sortB (acc.map (·.1))))
    have hp2 := slf_alen (slStrs_strV (l := sortB (acc.map (·.1))))
    have hsv := slStrs_strV (l := sortB (acc.map (·.1)))
    simp [-alen, c_dkim_Params, acall, h47, k47, prmV, dpV, h48, con_Keys, h49, k49, hp1, hp2]
    rw [sortP]
    generalize sortB (acc.map (·.1)) = ks at *
    refine awp_loop2 (σ := List (List UInt8) × List (List UInt8)) (fun p => ⟨[(4, .mp (pmA acc)), (6, grV 32 2 p.1.length), (19, strV ks), (20, .int .i64 ks.length), (21, .int .i64 p.1.length)], grH 32 p.1.length (pc2 (p.1.map fun k => (k, lookP acc k)))⟩)
      (fun p => ks = p.1 ++ p.2) (fun p => p.2.length) ([], ks) (by simp) (by simp) ?_
    rintro ⟨pre, post⟩ hs1 LQ hLQ
    simp only at hs1
    subst hs1
    cases post with
    | nil =>
      cases pre with
      | nil => simp [b_dkim_Params_1, t_dkim_Params_2, pairV]
      | cons x pre =>
        have hg := group_pc2 (l := (x :: pre).map fun k => (k, lookP acc k))
        simp at hg
        simp [b_dkim_Params_1, t_dkim_Params_2, pairV, hg]
        omega
    | cons x post =>
      have hu := slf_ne hsv (by simp)
      rw [hu] at hLQ ⊢
      simp at hsl'
      have hlt : (pre.length : Int) < (pre.length : Int) + ((post.length : Int) + 1) := by omega
      have g2 : ∀ (q : List AV) (z : AV), (strsA pre ++ z :: q)[pre.length]? = some z := fun q z => get_mid (by simp)
      have fin : ∀ st, norm [4, 6, 19, 20, 21] st = ⟨[(4, .mp (pmA acc)), (6, .msl 32 2 0 (pre.length + 1)), (19, .sl 1 (strsA (pre ++ x :: post))), (20, .int .i64 ((pre.length : Int) + ((post.length : Int) + 1))), (21, .int .i64 ((pre.length : Int) + 1))], [(32, .cells (pc2 (pre.map fun k => (k, lookP acc k)) ++ [.str x, .str (lookP acc x)]))]⟩ → LQ st := by
        intro st hst
        exact hLQ (pre ++ [x], post) (by simp) (by simp) st (by simpa using hst)
      cases pre with
      | nil =>
        have ew0 : IntKind.i64.wrap 1 = 1 := rfl
        simp [b_dkim_Params_1, ew0, g2, lookA_pmA]
        exact fin _ (by simp)
      | cons y pre =>
        simp at hsl'
        have ew1 : IntKind.i64.wrap ((pre.length : Int) + 1 + 1) = (pre.length : Int) + 1 + 1 := wrap64 (by omega) (by omega)
        have tk : List.take ((pre.length + 1) * 2) (AV.str y :: AV.str (lookP acc y) :: pc2 (pre.map fun k => (k, lookP acc k))) = AV.str y :: AV.str (lookP acc y) :: pc2 (pre.map fun k => (k, lookP acc k)) := List.take_of_length_le (by simp; omega)
        simp [b_dkim_Params_1, ew1, g2, tk, lookA_pmA]
        refine ⟨fun _ => ⟨by omega, ⟨by omega, by omega⟩, fin _ (by simp; omega)⟩, fun h => by omega⟩

def con_DParams : List AV → Option AV
  | [.str s] => if s.length + 1 < half ∧ plain s = true then some (match prm (splitB 59 s) [] with | (acc, none) => .tup [pairV (sortP acc), .bool true] | (_, some _) => .tup [.nilS, .bool false]) else none
  | _ => none

theorem ok_DParams (Γ : Gam) (h45 : Γ.fn 45 = con_dkimParams) (h46 : Γ.fn 46 = con_pairsOf) : ∀ args r, con_DParams args = some r → runs Γ c_impl_DParams args (fun v => v = r) := by
  intro args r h
  simp only [con_DParams] at h
  split at h <;> (try simp at h; done)
  rename_i s
  obtain ⟨⟨hs, hp⟩, rfl⟩ := ite_some h
  clear h
  have k45 : con_dkimParams [.str s] = some (dpV (prm (splitB 59 s) [])) := if_pos ⟨hs, hp⟩
  have hl := prm_length (splitB 59 s) []
  have hl2 := splitB_length 59 s
  generalize prm (splitB 59 s) [] = q at *
  obtain ⟨acc, e⟩ := q
  cases e with
  | some m => simp [c_impl_DParams, acall, h45, k45, dpV]
  | none =>
    have k46 : con_pairsOf [pairV (sortP acc)] = some (pairV (sortP acc)) := by
      simp only [con_pairsOf, slPairs_pairV]
      exact if_pos (by simp [sortP, sortB]; simp at hl; omega)
    have hr : hasRef (pairV (sortP acc)) = false := by cases sortP acc <;> rfl
    simp [c_impl_DParams, acall, h45, k45, dpV, h46, k46, hr]
end Wax

/- FnDParams (5): the plain law: both readings are the same. -/
namespace Wax

theorem lexLt_eq : ∀ x y : List UInt8, lexLt x y = decide (x < y)
  | [], [] => by simp [lexLt, Go.Op.bytesLess]
  | _ :: _, [] => by simp [lexLt, Go.Op.bytesLess]
  | [], _ :: _ => by simp [lexLt, Go.Op.bytesLess]
  | a :: x, b :: y => by
    have ih := lexLt_eq x y
    simp only [lexLt] at ih
    simp only [lexLt, Go.Op.bytesLess, ih, List.cons_lt_cons_iff, Bool.decide_or, Bool.decide_and]
    congr 2

abbrev KV := List UInt8 × List UInt8

/-- A pair goes to its place; none: there is one of that name. -/
def insP (x : KV) : List KV → Option (List KV)
  | [] => some [x]
  | y :: r => if lexLt y.1 x.1 = true then (insP x r).map (y :: ·) else if y.1 = x.1 then none else some (x :: y :: r)

def tgL : List (List UInt8) → List KV → Option (List KV)
  | [], out => some out
  | p :: r, out => match cutAt 61 p with
    | none => if trimS p = [] then tgL r out else none
    | some q => match insP (trimS q.1, trimS q.2) out with
      | none => none
      | some out' => tgL r out'

def Asc (l : List KV) : Prop := l.Pairwise fun a b => a.1 < b.1

theorem lt_asymm' {a b : List UInt8} (h : a < b) : ¬ b < a := List.lt_asymm h
theorem lt_tri {a b : List UInt8} (h : ¬ a < b) (hn : ¬ a = b) : b < a := by
  rcases Std.lt_trichotomy a b with h1 | h1 | h1
  · exact absurd h1 h
  · exact absurd h1 hn
  · exact h1

theorem insP_spec (x : KV) : ∀ (out : List KV), Asc out → (hasK x.1 out = true → insP x out = none) ∧ (hasK x.1 out = false → ∃ o, insP x out = some o ∧ Asc o ∧ o.Perm (out ++ [x]))
  | [], _ => ⟨fun h => by simp [hasK] at h, fun _ => ⟨[x], rfl, by simp [Asc], by simp⟩⟩
  | y :: r, h => by
    have h' := List.pairwise_cons.1 h
    have ih := insP_spec x r h'.2
    by_cases hlt : y.1 < x.1
    · have hl : lexLt y.1 x.1 = true := by rw [lexLt_eq]; exact decide_eq_true hlt
      have hne : ¬ x.1 = y.1 := fun e => by rw [e] at hlt; exact List.lt_irrefl _ hlt
      have hk : hasK x.1 (y :: r) = hasK x.1 r := by simp [hasK, hne]
      rw [hk]
      refine ⟨fun hh => by simp [insP, hl, ih.1 hh], fun hh => ?_⟩
      obtain ⟨o, h1, h2, h3⟩ := ih.2 hh
      refine ⟨y :: o, by simp [insP, hl, h1], ?_, ?_⟩
      · refine List.pairwise_cons.2 ⟨fun z hz => ?_, h2⟩
        rcases List.mem_append.1 (h3.mem_iff.1 hz) with hz | hz
        · exact h'.1 z hz
        · simp at hz; subst hz; exact hlt
      · simpa using h3
    · have hl : lexLt y.1 x.1 = false := by rw [lexLt_eq]; exact decide_eq_false hlt
      by_cases he : y.1 = x.1
      · rw [he] at hl
        refine ⟨fun _ => by simp [insP, hl, he], fun hh => ?_⟩
        simp [hasK, he] at hh
      · have hgt : x.1 < y.1 := lt_tri hlt he
        have hnk : hasK x.1 (y :: r) = false := by
          simp only [hasK, List.any_cons, Bool.or_eq_false_iff, decide_eq_false_iff_not, List.any_eq_false]
          refine ⟨fun e => he e.symm, fun z hz => ?_⟩
          have := h'.1 z hz
          intro e
          have e := of_decide_eq_true e
          rw [← e] at this
          exact lt_asymm' hgt this
        refine ⟨fun hh => by rw [hnk] at hh; simp at hh, fun _ => ⟨x :: y :: r, by simp [insP, hl, he], ?_, ?_⟩⟩
        · refine List.pairwise_cons.2 ⟨fun z hz => ?_, h⟩
          rcases List.mem_cons.1 hz with rfl | hz
          · exact hgt
          · exact List.lt_trans hgt (h'.1 z hz)
        · exact (List.perm_append_comm (l₁ := [x]) (l₂ := y :: r))

theorem lookP_mem : ∀ {l : List KV} {k v}, (l.map (·.1)).Nodup → (k, v) ∈ l → lookP l k = v
  | [], k, v, _, h => by simp at h
  | (i, u) :: r, k, v, hn, h => by
    simp only [List.map_cons, List.nodup_cons] at hn
    rcases List.mem_cons.1 h with h | h
    · simp at h; obtain ⟨rfl, rfl⟩ := h; simp [lookP]
    · have : ¬ k = i := fun e => hn.1 (by rw [← e]; exact List.mem_map.2 ⟨_, h, rfl⟩)
      simp only [lookP, if_neg this]
      exact lookP_mem hn.2 h

theorem asc_sortP {out acc : List KV} (h : Asc out) (hp : out.Perm acc) : out = sortP acc := by
  have hk : (out.map (·.1)).Pairwise (· < ·) := List.pairwise_map.2 h
  have hnd : (out.map (·.1)).Nodup := hk.imp fun hab e => by rw [e] at hab; exact List.lt_irrefl _ hab
  have hnd2 : (acc.map (·.1)).Nodup := (hp.map (·.1)).nodup_iff.1 hnd
  have hs : out.map (·.1) = sortB (acc.map (·.1)) := by
    have p1 : (out.map (·.1)).Perm (sortB (acc.map (·.1))) := (hp.map _).trans (List.mergeSort_perm _ _).symm
    refine p1.eq_of_pairwise (le := fun a b => a ≤ b) ?_ ?_ ?_
    · intro a b _ _ h1 h2; exact List.le_antisymm h1 h2
    · exact hk.imp fun hab => List.le_of_lt hab
    · have := List.pairwise_mergeSort (le := fun x y : List UInt8 => decide (x ≤ y)) (fun a b c h1 h2 => by
        simp only [decide_eq_true_eq] at *; exact List.le_trans h1 h2) (fun a b => by
        simp only [Bool.or_eq_true, decide_eq_true_eq]; exact List.le_total a b) (acc.map (·.1))
      exact this.imp fun h => of_decide_eq_true h
  rw [sortP, ← hs, List.map_map]
  have : ∀ p ∈ out, (((fun k => (k, lookP acc k)) ∘ fun x : KV => x.1) p) = p := by
    intro p hpm
    have := lookP_mem (k := p.1) (v := p.2) hnd2 (hp.mem_iff.1 hpm)
    simp [this]
  exact (List.map_congr_left this).symm ▸ (List.map_id out).symm

theorem params_law : ∀ (L : List (List UInt8)) (acc out : List KV), Asc out → out.Perm acc → match prm L acc with
    | (a, none) => tgL L out = some (sortP a)
    | (_, some _) => tgL L out = none
  | [], acc, out, h, hp => by simp only [prm, tgL]; rw [asc_sortP h hp]
  | p :: r, acc, out, h, hp => by
    simp only [prm, tgL]
    cases hc : cutAt 61 p with
    | none =>
      simp only
      by_cases ht : trimS p = []
      · simp only [ht, if_true]; exact params_law r acc out h hp
      · simp only [ht, if_false]
    | some q =>
      simp only
      have hk : hasK (trimS q.1) acc = hasK (trimS q.1) out := by
        simp only [hasK]
        exact (hp.any_eq).symm
      have hi := insP_spec (trimS q.1, trimS q.2) out h
      cases hh : hasK (trimS q.1) out with
      | true => rw [hk, hh]; simp only [if_true]; rw [hi.1 hh]
      | false =>
        rw [hk, hh]
        obtain ⟨o, h1, h2, h3⟩ := hi.2 hh
        simp only [Bool.false_eq_true, if_false, h1]
        exact params_law r _ o h2 (h3.trans (hp.append_right _))
end Wax

/- FnDParams (7): the reference's tags, each put to its place. -/
namespace Wax
open Go (IntKind)

theorem insP_pre (x : KV) : ∀ (pre post : List KV), (∀ y ∈ pre, lexLt y.1 x.1 = true) → insP x (pre ++ post) = (insP x post).map (pre ++ ·)
  | [], post, _ => by simp
  | y :: r, post, h => by
    have ih := insP_pre x r post (fun z hz => h z (by simp [hz]))
    simp only [List.cons_append, insP, h y (by simp), if_true, ih, Option.map_map]
    rfl

theorem cells_pr2 : ∀ l : List KV, (pr2 l).flatMap cells = pc2 l
  | [] => rfl
  | x :: l => by simp [cells_pr2 l]

@[simp] theorem gO_just {hp : List (Nat × AObj)} {v : AV} {k : Out → Prop} : gO (just hp v) k = k (o1 hp v) := by simp [just, o1]
@[simp] theorem just_map {α : Type} {hp : List (Nat × AObj)} {v : AV} {f : Out → α} : (just hp v).map f = some (f (o1 hp v)) := rfl
theorem take_pr2 (l : List KV) : List.take l.length (pr2 l) = pr2 l := List.take_of_length_le (by simp)
theorem take_pr2_app (l : List KV) (x : List AV) : List.take l.length (pr2 l ++ x) = pr2 l := List.take_left' (by simp)
theorem drop_pr2_app (l : List KV) (x : List AV) : List.drop l.length (pr2 l ++ x) = x := List.drop_left' (by simp)
theorem drop_pr2 (l : List KV) : List.drop l.length (pr2 l) = [] := List.drop_of_length_le (by simp)
theorem take_pc2 (l : List KV) (a b : AV) : List.take ((l.length + 1) * 2) (a :: b :: pc2 l) = a :: b :: pc2 l := List.take_of_length_le (by simp; omega)
theorem take_pc2' (l : List KV) (a b c d : AV) : List.take ((l.length + 1 + 1) * 2) (a :: b :: (pc2 l ++ [c, d])) = a :: b :: (pc2 l ++ [c, d]) := List.take_of_length_le (by simp; omega)
@[simp] theorem hasRefL_pc2 : ∀ (l : List KV), hasRefL (pc2 l) = false
  | [] => rfl
  | x :: l => by simp [hasRefL_pc2 l]
theorem group_one (k v : AV) : group 2 1 [k, v] = [.agg [k, v]] := rfl

/-- From the place on: one of that name, or the new pair is put there. -/
def insRes (x : KV) (pre post : List KV) : Option (List KV) := match post with
  | [] => some (pre ++ [x])
  | y :: r => if y.1 = x.1 then none else some (pre ++ x :: y :: r)

/-- The slots when the place is found. -/
def dtSt (out : List KV) (x : KV) (i : Nat) (L : AV) (m j : Int) (ext : List (Nat × AV)) : St := ⟨(4, pairV out) :: (10, .ptr [.str x.1, .str x.2]) :: (11, .int .i64 i) :: (13, L) :: (14, .int .i64 m) :: (15, .int .i64 j) :: ext, []⟩

set_option maxRecDepth 100000 in
set_option maxHeartbeats 4000000 in
theorem dt_insert {Γ : Gam} {Q : APost} (pre post : List KV) (x : KV) (L : List (List UInt8)) (m j : Int) (ext : List (Nat × AV)) (h1 : pre.length + post.length < half)
    (hno : insRes x pre post = none → Q .ret ⟨[(2, .nilS), (3, .bool false)], []⟩)
    (hyes : ∀ o, insRes x pre post = some o → Q .normal ⟨[(4, pairV o), (13, .sl 1 (strsA L)), (14, .int .i64 m), (15, .int .i64 j)], []⟩) :
    awp Γ t_spec_DTags_2 Q (dtSt (pre ++ post) x pre.length (.sl 1 (strsA L)) m j ext) := by
  obtain ⟨k, v⟩ := x
  simp only [half] at h1
  have fin : ∀ (o : List KV) (n q : Nat) (cs : List AV), insRes (k, v) pre post = some o → o ≠ [] → n = o.length → cs = pc2 o → n * 2 ≤ q →
      Q .normal ⟨[(4, if n * 2 ≤ q then .sl 2 (group 2 n cs) else .junk), (13, .sl 1 (strsA L)), (14, .int .i64 m), (15, .int .i64 j)], []⟩ := by
    intro o n q cs h2 h3 h4 h5 h6
    have := hyes o h2
    subst h4 h5
    rw [if_pos h6, group_pc2]
    cases o with
    | nil => exact absurd rfl h3
    | cons _ _ => exact this
  cases post with
  | nil =>
    have hy := hyes _ rfl
    cases pre with
    | nil =>
      simp [t_spec_DTags_2, dtSt, pairV, group_one]
      simpa [pairV] using hy
    | cons a pre =>
      simp at h1
      simp [t_spec_DTags_2, dtSt, pairV, take_pr2, cells_pr2, group_one, take_pr2_app, drop_pr2_app, drop_pr2, take_pc2, take_pc2']
      exact ⟨by omega, by omega, by omega, by omega, fin (a :: pre ++ [(k, v)]) _ _ _ rfl (by simp) (by simp) (by simp) (by omega)⟩
  | cons y post =>
    by_cases hy : y.1 = k
    · have hn := hno (by simp [insRes, hy])
      cases pre with
      | nil =>
        simp at h1
        simp [t_spec_DTags_2, dtSt, pairV, take_pr2, cells_pr2, group_one, take_pr2_app, drop_pr2_app, drop_pr2, take_pc2, take_pc2', hy, hn]
      | cons a pre =>
        simp at h1
        have g2 : ∀ (q : List AV) (z : AV), (pr2 pre ++ z :: q)[pre.length]? = some z := fun q z => get_mid (by simp)
        simp [t_spec_DTags_2, dtSt, pairV, take_pr2, cells_pr2, group_one, take_pr2_app, drop_pr2_app, drop_pr2, take_pc2, take_pc2', hy, hn]
        omega
    · have hr : ∀ (q : List KV), insRes (k, v) q (y :: post) = some (q ++ (k, v) :: y :: post) := by intro q; simp [insRes, hy]
      cases pre with
      | nil =>
        simp at h1
        simp [t_spec_DTags_2, dtSt, pairV, take_pr2, cells_pr2, group_one, take_pr2_app, drop_pr2_app, drop_pr2, take_pc2, take_pc2', hy]
        exact ⟨by omega, by omega, fin _ _ _ _ (hr _) (by simp) (by simp; omega) (by simp) (by omega)⟩
      | cons a pre =>
        simp at h1
        simp [t_spec_DTags_2, dtSt, pairV, take_pr2, cells_pr2, group_one, take_pr2_app, drop_pr2_app, drop_pr2, take_pc2, take_pc2', hy]
        exact ⟨fun _ => ⟨by omega, by omega, by omega, by omega, by omega, by omega, fin _ _ _ _ (hr _) (by simp) (by simp; omega) (by simp) (by omega)⟩, fun _ => by omega⟩
end Wax

/- FnDCanonAgain: its loops. -/
namespace Wax
open Go (IntKind)

def con_FnDCanonAgain : List AV → Option AV
  | [.str name, v, u] => match slStrs v, slStrs u with
    | some ws, some bl => if name.length < 9223372036854775808 ∧ (ws.length < 9223372036854775808 ∧ ∀ s ∈ ws, s.length < 9223372036854775808) ∧ (bl.length < 9223372036854775808 ∧ ∀ s ∈ bl, s.length < 9223372036854775808) then some (.bool true) else none
    | _, _ => none
  | _ => none

theorem plain_ap {s t : List UInt8} : plain (s ++ t) = (plain s && plain t) := by simp [plain]

def nameOk (x : UInt8) : Bool := !(decide ((x.toNat : Int) ≤ 32) || decide ((x.toNat : Int) = 58) || decide ((x.toNat : Int) = 127))

theorem dShort_all {m : Int} {l : List (List UInt8)} (h : dShort m l = true) : (∀ s ∈ l, plain s = true ∧ (s.length : Int) ≤ m) ∧ l.length ≤ 200 := by
  simp only [dShort, Bool.and_eq_true, List.all_eq_true, decide_eq_true_eq] at h
  refine ⟨fun s hs => ?_, by omega⟩
  have := h.1 s hs
  simpa only [dPlain, Bool.and_eq_true, decide_eq_true_eq, plain] using this

theorem joinB_length {m : Nat} : ∀ (ws : List (List UInt8)), (∀ w ∈ ws, w.length ≤ m) → (joinB ws).length ≤ ws.length * (m + 1)
  | [], _ => by simp [joinB]
  | w :: r, h => by
    have ih := joinB_length r (fun x hx => h x (by simp [hx]))
    have hw := h w (by simp)
    rw [joinB_cons]
    cases r with
    | nil => simp [J2]; omega
    | cons x y => rw [J2_ne (by simp)]; simp [Nat.add_mul] at ih ⊢; omega

theorem spr_length {m : Nat} {bl : List (List UInt8)} (hb : bl ≠ []) (hbl : ∀ b ∈ bl, b.length ≤ m) : ∀ (ws : List (List UInt8)) (k : Nat), (∀ w ∈ ws, w.length ≤ m) → (spr bl k ws).length ≤ ws.length * (2 * m)
  | [], k, _ => by simp [spr]
  | w :: r, k, h => by
    have ih := spr_length hb hbl r (k + 1) (fun x hx => h x (by simp [hx]))
    have hw := h w (by simp)
    have hk := hbl _ (getD_blank hb (k := k))
    rw [spr_cons]
    simp only [List.length_append, List.length_cons, Nat.add_mul]
    omega

theorem plain_joinB : ∀ (ws : List (List UInt8)), (∀ w ∈ ws, plain w = true) → plain (joinB ws) = true
  | [], _ => rfl
  | w :: r, h => by
    have ih := plain_joinB r (fun x hx => h x (by simp [hx]))
    rw [joinB_cons, plain_ap, h w (by simp)]
    cases r with
    | nil => rfl
    | cons x y =>
      rw [J2_ne (by simp)]
      have e : plain (32 :: joinB (x :: y)) = (plainB 32 && plain (joinB (x :: y))) := rfl
      have e2 : plainB 32 = true := plainB_true ⟨by decide, by decide, by decide⟩
      rw [e, ih, e2]; rfl

theorem plain_spr {bl : List (List UInt8)} (hb : bl ≠ []) (hbl : ∀ b ∈ bl, plain b = true) : ∀ (ws : List (List UInt8)) (k : Nat), (∀ w ∈ ws, plain w = true) → plain (spr bl k ws) = true
  | [], k, _ => rfl
  | w :: r, k, h => by
    have ih := plain_spr hb hbl r (k + 1) (fun x hx => h x (by simp [hx]))
    rw [spr_cons, plain_ap, plain_ap, h w (by simp), hbl _ (getD_blank hb (k := k)), ih]; rfl


theorem ca_loop1 (Γ : Gam) (h11 : Γ.fn 11 = con_dAwake) (Q : APost) {name : List UInt8} {V U : AV} (hV : hasRef V = false) (hU : hasRef U = false) (hn : name.length ≤ 2147483647) (hQr : Q .ret ⟨[(6, .bool true)], []⟩)
    (hQe : (∀ x ∈ name, nameOk x = true) → Q (.exit 0) ⟨[(0, .str name), (1, V), (2, U), (7, .int .i64 name.length), (60, .bool false)], []⟩) :
    awp Γ (.loop [0, 1, 2, 7] b_laws_FnDCanonAgain_1) Q ⟨[(0, .str name), (1, V), (2, U), (7, .int .i64 0)], []⟩ := by
  refine awp_loop2 (σ := List UInt8 × List UInt8) (fun p => ⟨[(0, .str name), (1, V), (2, U), (7, .int .i64 p.1.length)], []⟩) (fun p => name = p.1 ++ p.2 ∧ ∀ x ∈ p.1, nameOk x = true) (fun p => p.2.length) ([], name) (by simp) (by simp) ?_
  rintro ⟨pre, post⟩ ⟨hs1, hs2⟩ LQ hLQ
  simp only at hs1 hs2
  subst hs1
  cases post with
  | nil =>
    simp at hQe
    simp [b_laws_FnDCanonAgain_1]
    exact hQe hs2
  | cons x post =>
    simp at hn
    have ew : IntKind.i64.wrap ((pre.length : Int) + 1) = (pre.length : Int) + 1 := wrap64 (by omega) (by omega)
    have hlt : (pre.length : Int) < (pre.length : Int) + ((post.length : Int) + 1) := by omega
    by_cases c1 : (x.toNat : Int) ≤ 32
    · simp [b_laws_FnDCanonAgain_1, c1, acall, h11, con_dAwake]
      exact ⟨fun _ => hQr, fun _ => by omega⟩
    · by_cases c2 : (x.toNat : Int) = 58
      · simp [b_laws_FnDCanonAgain_1, c2, acall, h11, con_dAwake]
        exact ⟨fun _ => hQr, fun _ => by omega⟩
      · by_cases c3 : (x.toNat : Int) = 127
        · simp [b_laws_FnDCanonAgain_1, c3, acall, h11, con_dAwake]
          exact ⟨fun _ => hQr, fun _ => by omega⟩
        · have hok : nameOk x = true := by simp [nameOk, c1, c2, c3]
          simp [b_laws_FnDCanonAgain_1, c1, c2, c3, ew]
          refine ⟨fun _ => ?_, fun _ => by omega⟩
          refine hLQ (pre ++ [x], post) ⟨by simp, ?_⟩ (by simp) _ (by simp)
          intro y hy
          rcases List.mem_append.1 hy with hy | hy
          · exact hs2 y hy
          · simp at hy; subst hy; exact hok

theorem ca_loop2 (Γ : Gam) (h11 : Γ.fn 11 = con_dAwake) (h27 : Γ.fn 27 = con_DStrip) (Q : APost) {N U : AV} {ws : List (List UInt8)} (hws : ∀ w ∈ ws, w.length < mid) (hl : ws.length ≤ 2147483647) (hQr : Q .ret ⟨[(6, .bool true)], []⟩)
    (hQe : (∀ w ∈ ws, stripD w = w ∧ w ≠ []) → Q (.exit 2) ⟨[(0, N), (1, .sl 1 (strsA ws)), (2, U), (9, .int .i64 ws.length), (80, .bool false)], []⟩) :
    awp Γ (.loop [0, 1, 2, 9] b_laws_FnDCanonAgain_2) Q ⟨[(0, N), (1, .sl 1 (strsA ws)), (2, U), (9, .int .i64 0)], []⟩ := by
  refine awp_loop2 (σ := List (List UInt8) × List (List UInt8)) (fun p => ⟨[(0, N), (1, .sl 1 (strsA ws)), (2, U), (9, .int .i64 p.1.length)], []⟩) (fun p => ws = p.1 ++ p.2 ∧ ∀ w ∈ p.1, stripD w = w ∧ w ≠ []) (fun p => p.2.length) ([], ws) (by simp) (by simp) ?_
  rintro ⟨pre, post⟩ ⟨hs1, hs2⟩ LQ hLQ
  simp only at hs1 hs2
  subst hs1
  cases post with
  | nil =>
    simp at hQe
    simp [b_laws_FnDCanonAgain_2]
    exact hQe fun w hw => hs2 w hw
  | cons x post =>
    simp at hl
    have hx := hws x (by simp)
    have hk : con_DStrip [.str x] = some (.str (stripD x)) := if_pos hx
    have ew : IntKind.i64.wrap ((pre.length : Int) + 1) = (pre.length : Int) + 1 := wrap64 (by omega) (by omega)
    have hlt : (pre.length : Int) < (pre.length : Int) + ((post.length : Int) + 1) := by omega
    by_cases c1 : stripD x = x
    · by_cases c2 : x = []
      · subst c2
        simp [b_laws_FnDCanonAgain_2, acall, h27, hk, c1, h11, con_dAwake]
        exact ⟨fun _ => hQr, fun _ => by omega⟩
      · simp [b_laws_FnDCanonAgain_2, acall, h27, hk, c1, c2, ew]
        refine ⟨fun _ => ?_, fun _ => by omega⟩
        refine hLQ (pre ++ [x], post) ⟨by simp, ?_⟩ (by simp) _ (by simp)
        intro y hy
        rcases List.mem_append.1 hy with hy | hy
        · exact hs2 y hy
        · simp at hy; subst hy; exact ⟨c1, c2⟩
    · simp [b_laws_FnDCanonAgain_2, acall, h27, hk, c1, h11, con_dAwake]
      exact ⟨fun _ => hQr, fun _ => by omega⟩

theorem ca_loop3 (Γ : Gam) (h11 : Γ.fn 11 = con_dAwake) (h27 : Γ.fn 27 = con_DStrip) (Q : APost) {N U : AV} {ws : List (List UInt8)} (hws : ∀ w ∈ ws, w.length < mid) (hl : ws.length ≤ 2147483647) (hQr : Q .ret ⟨[(6, .bool true)], []⟩)
    (hQe : (∀ w ∈ ws, stripD w = [] ∧ w ≠ []) → Q (.exit 4) ⟨[(0, N), (1, U), (2, .sl 1 (strsA ws)), (10, .int .i64 ws.length), (104, .bool false)], []⟩) :
    awp Γ (.loop [0, 1, 2, 10] b_laws_FnDCanonAgain_3) Q ⟨[(0, N), (1, U), (2, .sl 1 (strsA ws)), (10, .int .i64 0)], []⟩ := by
  refine awp_loop2 (σ := List (List UInt8) × List (List UInt8)) (fun p => ⟨[(0, N), (1, U), (2, .sl 1 (strsA ws)), (10, .int .i64 p.1.length)], []⟩) (fun p => ws = p.1 ++ p.2 ∧ ∀ w ∈ p.1, stripD w = [] ∧ w ≠ []) (fun p => p.2.length) ([], ws) (by simp) (by simp) ?_
  rintro ⟨pre, post⟩ ⟨hs1, hs2⟩ LQ hLQ
  simp only at hs1 hs2
  subst hs1
  cases post with
  | nil =>
    simp at hQe
    simp [b_laws_FnDCanonAgain_3]
    exact hQe fun w hw => hs2 w hw
  | cons x post =>
    simp at hl
    have hx := hws x (by simp)
    have hk : con_DStrip [.str x] = some (.str (stripD x)) := if_pos hx
    have ew : IntKind.i64.wrap ((pre.length : Int) + 1) = (pre.length : Int) + 1 := wrap64 (by omega) (by omega)
    have hlt : (pre.length : Int) < (pre.length : Int) + ((post.length : Int) + 1) := by omega
    by_cases c1 : stripD x = []
    · by_cases c2 : x = []
      · subst c2
        simp [b_laws_FnDCanonAgain_3, acall, h27, hk, c1, h11, con_dAwake]
        exact ⟨fun _ => hQr, fun _ => by omega⟩
      · simp [b_laws_FnDCanonAgain_3, acall, h27, hk, c1, c2, ew]
        refine ⟨fun _ => ?_, fun _ => by omega⟩
        refine hLQ (pre ++ [x], post) ⟨by simp, ?_⟩ (by simp) _ (by simp)
        intro y hy
        rcases List.mem_append.1 hy with hy | hy
        · exact hs2 y hy
        · simp at hy; subst hy; exact ⟨c1, c2⟩
    · simp [b_laws_FnDCanonAgain_3, acall, h27, hk, c1, h11, con_dAwake]
      exact ⟨fun _ => hQr, fun _ => by omega⟩
end Wax

/- FnDParams: its own text, by its callees' contracts. -/
namespace Wax
open Go (IntKind)

def con_DTags : List AV → Option AV
  | [.str s] => if s.length + 1 < half then some (match tgL (splitB 59 s) [] with | some o => .tup [pairV o, .bool true] | none => .tup [.nilS, .bool false]) else none
  | _ => none

def con_FnDParams : List AV → Option AV
  | [.str s] => if s.length < 9223372036854775808 then some (.bool true) else none
  | _ => none

theorem slp_ref {u : AV} {l} (h : slPairs u = some l) : hasRef u = false := by
  rcases slPairs_cases h with ⟨rfl, rfl⟩ | rfl <;> simp
theorem slp_snap {u : AV} {l} (h : slPairs u = some l) (n : Nat) (hp : List (Nat × AObj)) : snap (n + 1) hp u = u := by
  rcases slPairs_cases h with ⟨rfl, rfl⟩ | rfl <;> simp

set_option maxHeartbeats 1000000 in
set_option maxRecDepth 100000 in
theorem ok_FnDParams (Γ : Gam) (h10 : Γ.fn 10 = con_dShort) (h11 : Γ.fn 11 = con_dAwake) (h51 : Γ.fn 51 = con_DParams) (h52 : Γ.fn 52 = con_DTags) (h53 : Γ.fn 53 = con_dSamePairs) :
    ∀ args r, con_FnDParams args = some r → runs Γ c_laws_FnDParams args (fun v => v = r) := by
  intro args r h
  simp only [con_FnDParams] at h
  split at h <;> (try simp at h; done)
  rename_i s
  obtain ⟨hs, rfl⟩ := ite_some h
  clear h
  by_cases hl : (2147483647 : Int) < (s.length : Int)
  · simp [c_laws_FnDParams, hl]
  have ds : con_dShort [.int .i64 2000, .sl 1 [.str s]] = some (.bool (dShort 2000 [s])) := by
    have : slStrs (.sl 1 [.str s]) = some [s] := by simp [slStrs, asStrs]
    simp only [con_dShort, this]
    exact if_pos ⟨by simp [big], by simp [big]; omega⟩
  cases hA : dShort 2000 [s] with
  | false =>
    rw [hA] at ds
    simp [c_laws_FnDParams, hl, acall, h10, ds, h11, con_dAwake]
  | true =>
    rw [hA] at ds
    obtain ⟨a1, _⟩ := dShort_all hA
    obtain ⟨a2, a3⟩ := a1 s (by simp)
    have hh : s.length + 1 < half := by simp only [half]; omega
    have k51 : con_DParams [.str s] = some (match prm (splitB 59 s) [] with | (acc, none) => .tup [pairV (sortP acc), .bool true] | (_, some _) => .tup [.nilS, .bool false]) := if_pos ⟨hh, a2⟩
    have k52 : con_DTags [.str s] = some (match tgL (splitB 59 s) [] with | some o => .tup [pairV o, .bool true] | none => .tup [.nilS, .bool false]) := if_pos hh
    have law := params_law (splitB 59 s) [] [] (by simp [Asc]) (List.Perm.refl _)
    have hpl := prm_length (splitB 59 s) []
    have hsl := splitB_length 59 s
    have k51b : ∃ x y, con_DParams [.str [97, 61, 98, 59, 32, 99, 61, 100, 59]] = some (.tup [.sl 2 (pr2 [x, y]), .bool true]) := by
      have e : prm (splitB 59 [97, 61, 98, 59, 32, 99, 61, 100, 59]) [] = ([([97], [98]), ([99], [100])], none) := by decide
      simp only [con_DParams, e]
      rw [if_pos ⟨by decide, by decide⟩]
      have hlen : (sortP [([97], [98]), ([99], [100])]).length = 2 := by simp [sortP, sortB]
      revert hlen
      generalize sortP [([97], [98]), ([99], [100])] = z
      intro hlen
      match z, hlen with
      | [x, y], _ => exact ⟨x, y, rfl⟩
    obtain ⟨x, y, k51b⟩ := k51b
    have hs0 : ∀ hp, alen hp 0 (.str s) = some s.length := fun _ => rfl
    have hxy := slp_alen (show slPairs (.sl 2 (pr2 [x, y])) = some [x, y] by simp [slPairs, asPairs])
    simp only [pr2_cons, pr2_nil] at hxy k51b
    generalize prm (splitB 59 s) [] = q at *
    obtain ⟨acc, e⟩ := q
    cases e with
    | some m =>
      simp only at law
      rw [law] at k52
      simp [-alen, hs0, hxy, c_laws_FnDParams, hl, acall, h10, ds, h51, h52, k51, k52, k51b]
    | none =>
      simp only at law
      rw [law] at k52
      simp only at hpl
      have k53 : con_dSamePairs [pairV (sortP acc), pairV (sortP acc)] = some (.bool true) := by
        simp only [con_dSamePairs, slPairs_pairV]
        rw [if_pos ⟨by simp [sortP, sortB, mid]; simp at hpl; omega, by simp [sortP, sortB, mid]; simp at hpl; omega⟩]
        simp
      have hr := slp_ref (slPairs_pairV (l := sortP acc))
      have hsn := slp_snap (slPairs_pairV (l := sortP acc))
      simp [-alen, hs0, hxy, c_laws_FnDParams, hl, acall, h10, ds, h51, h52, k51, k52, k51b, h53, k53, hr, hsn]
end Wax

/- FnDParams (8): the reference's tags, the whole function. -/
namespace Wax
open Go (IntKind)

@[simp] theorem kill_pairV {d : Nat} (l : List KV) : kill d (pairV l) = pairV l := by cases l <;> rfl
@[simp] theorem snapW_pairV {g : AV → AV} (l : List KV) : snapW g (pairV l) = pairV l := by cases l <;> rfl
theorem pairV_ref (l : List KV) : hasRef (pairV l) = false := slp_ref slPairs_pairV
theorem pairV_cons (x : KV) (l : List KV) : pairV (x :: l) = .sl 2 (pr2 (x :: l)) := rfl
theorem pairV_alen (l : List KV) (hp : List (Nat × AObj)) : alen hp 1 (pairV l) = some l.length := slp_alen slPairs_pairV hp

theorem insRes_spec (x : KV) (pre post : List KV) (h1 : ∀ y ∈ pre, lexLt y.1 x.1 = true) (h2 : ∀ y r, post = y :: r → lexLt y.1 x.1 = false) : insP x (pre ++ post) = insRes x pre post := by
  rw [insP_pre x pre post h1]
  cases post with
  | nil => simp [insP, insRes]
  | cons y r =>
    have := h2 y r rfl
    simp only [insP, insRes, this]
    by_cases hy : y.1 = x.1
    · simp [hy]
    · simp [hy]

theorem insRes_length {x : KV} {pre post o : List KV} (h : insRes x pre post = some o) : o.length = pre.length + post.length + 1 := by
  cases post with
  | nil => simp [insRes] at h; subst h; simp
  | cons y r =>
    simp only [insRes] at h
    split at h
    · simp at h
    · simp only [Option.some.injEq] at h; subst h; simp; omega

theorem dt_insert_mk {Γ : Gam} {Q : APost} {out pre post : List KV} {k v : List UInt8} (e : out = pre ++ post) (L : List (List UInt8)) (m j : Int) (ext : List (Nat × AV)) (h1 : pre.length + post.length < half)
    (hno : insRes (k, v) pre post = none → Q .ret ⟨[(2, .nilS), (3, .bool false)], []⟩)
    (hyes : ∀ o, insRes (k, v) pre post = some o → Q .normal ⟨[(4, pairV o), (13, .sl 1 (strsA L)), (14, .int .i64 m), (15, .int .i64 j)], []⟩) :
    awp Γ t_spec_DTags_2 Q ⟨(4, pairV out) :: (10, .ptr [.str k, .str v]) :: (11, .int .i64 pre.length) :: (13, .sl 1 (strsA L)) :: (14, .int .i64 m) :: (15, .int .i64 j) :: ext, []⟩ := by
  subst e
  exact dt_insert pre post (k, v) L m j ext h1 hno hyes

set_option maxRecDepth 100000 in
set_option maxHeartbeats 4000000 in
theorem ok_DTags (Γ : Gam) (h2 : Γ.fn 2 = con_dCut) (h3 : Γ.fn 3 = con_DTrim) (h54 : Γ.fn 54 = con_DSplit) : ∀ args r, con_DTags args = some r → runs Γ c_spec_DTags args (fun v => v = r) := by
  intro args r h
  simp only [con_DTags] at h
  split at h <;> (try simp at h; done)
  rename_i s
  obtain ⟨hs, rfl⟩ := ite_some h
  clear h
  simp only [half] at hs
  have k54 : con_DSplit [.str s, .int .u8 59] = some (.sl 1 (strsA (splitB 59 s))) := if_pos ⟨by simp only [mid]; omega, by omega, by omega⟩
  have hl := splitB_length 59 s
  have hm := splitB_mem_length 59 s
  generalize splitB 59 s = L at *
  have k2 : ∀ t ∈ L, con_dCut [.str t, .int .u8 61] = some (cutV 61 t) := by
    intro t ht
    have := hm t ht
    simp only [con_dCut]; exact if_pos (by simp only [big]; omega)
  have k3 : ∀ t : List UInt8, t.length ≤ s.length → con_DTrim [.str t] = some (.str (trimS t)) := by
    intro t ht
    simp only [con_DTrim]; exact if_pos (by simp only [big]; omega)
  simp [c_spec_DTags, acall, h54, k54]
  refine awp_loop2 (σ := List (List UInt8) × List (List UInt8) × List KV) (fun p => ⟨[(4, pairV p.2.2), (13, .sl 1 (strsA L)), (14, .int .i64 L.length), (15, .int .i64 p.1.length)], []⟩)
    (fun p => L = p.1 ++ p.2.1 ∧ tgL L [] = tgL p.2.1 p.2.2 ∧ p.2.2.length ≤ p.1.length) (fun p => p.2.1.length) ([], L, []) (by simp [pairV]) (by simp) ?_
  rintro ⟨pre, post, out⟩ ⟨hs1, hs2, hs3⟩ LQ hLQ
  simp only at hs1 hs2 hs3
  cases post with
  | nil =>
    simp only [tgL] at hs2
    rw [hs2]
    simp only [List.append_nil] at hs1
    subst hs1
    simp [b_spec_DTags_4, t_spec_DTags_5, pairV_ref]
  | cons p post =>
    have hpL : p ∈ L := by rw [hs1]; simp
    have hlen : L.length = pre.length + (post.length + 1) := by rw [hs1]; simp
    have hlt : (pre.length : Int) < L.length := by omega
    have g0 : L[pre.length]? = some p := by rw [hs1]; exact get_mid rfl
    have ew : IntKind.i64.wrap ((pre.length : Int) + 1) = (pre.length : Int) + 1 := wrap64 (by omega) (by omega)
    have hpl := hm p hpL
    simp only [tgL] at hs2
    cases hc : cutAt 61 p with
    | none =>
      simp only [hc] at hs2
      by_cases ht : trimS p = []
      · simp only [ht, if_true] at hs2
        simp [b_spec_DTags_4, t_spec_DTags_3, hlt, g0, acall, h2, k2 p hpL, cutV, hc, h3, k3 p hpl, ht, ew]
        exact hLQ (pre ++ [p], post, out) ⟨by simp [hs1], hs2, by simp; omega⟩ (by simp) _ (by simp)
      · simp only [ht, if_false] at hs2
        rw [hs2]
        simp [b_spec_DTags_4, t_spec_DTags_3, hlt, g0, acall, h2, k2 p hpL, cutV, hc, h3, k3 p hpl, ht, ew]
    | some q =>
      simp only [hc] at hs2
      obtain ⟨hq1, _⟩ := cutAt_le hc
      simp [b_spec_DTags_4, hlt, g0, acall, h2, k2 p hpL, cutV, hc, h3, k3 q.1 (by omega), k3 q.2 (by omega)]
      have hk1 := trimS_length q.1
      have hk2 := trimS_length q.2
      generalize trimS q.1 = k at *
      generalize trimS q.2 = v at *
      refine awp_loop2 (σ := List KV × List KV) (fun p => dtSt out (k, v) p.1.length (.sl 1 (strsA L)) L.length pre.length [])
        (fun p => out = p.1 ++ p.2 ∧ ∀ y ∈ p.1, lexLt y.1 k = true) (fun p => p.2.length) ([], out) (by simp [dtSt]) (by simp) ?_
      rintro ⟨pre2, post2⟩ ⟨e1, e2⟩ LQ2 hLQ2
      simp only at e1 e2
      have hol : out.length = pre2.length + post2.length := by rw [e1]; simp
      have hno : ∀ h2 : ∀ y r, post2 = y :: r → lexLt y.1 k = false, insRes (k, v) pre2 post2 = none → tgL L [] = none := by
        intro h2 h
        rw [hs2, e1, insRes_spec (k, v) pre2 post2 e2 h2, h]
      have hyes : ∀ h2 : ∀ y r, post2 = y :: r → lexLt y.1 k = false, ∀ o, insRes (k, v) pre2 post2 = some o → tgL L [] = tgL post o ∧ o.length ≤ pre.length + 1 := by
        intro h2 o h
        refine ⟨by rw [hs2, e1, insRes_spec (k, v) pre2 post2 e2 h2, h], ?_⟩
        rw [insRes_length h]; omega
      cases post2 with
      | nil =>
        simp [b_spec_DTags_1, dtSt, pairV_alen, hol, -alen]
        refine dt_insert_mk e1 L _ _ _ (by simp only [half]; omega) ?_ ?_
        · intro h
          simp [hno (by simp) h]
        · intro o h
          obtain ⟨f1, f2⟩ := hyes (by simp) o h
          simp [t_spec_DTags_3, ew]
          exact hLQ (pre ++ [p], post, o) ⟨by simp [hs1], f1, by simpa using f2⟩ (by simp) _ (by simp)
      | cons y post2 =>
        have ew2 : IntKind.i64.wrap ((pre2.length : Int) + 1) = (pre2.length : Int) + 1 := wrap64 (by simp at hol; omega) (by simp at hol; omega)
        have hlt2 : (pre2.length : Int) < (pre2.length : Int) + ((post2.length : Int) + 1) := by omega
        have hpv : pairV out = .sl 2 (pr2 out) := by rw [e1]; cases pre2 <;> rfl
        have g2 : (pr2 out)[pre2.length]? = some (.agg [.str y.1, .str y.2]) := by rw [e1]; simp
        have g3 : out[pre2.length]? = some y := by rw [e1]; exact get_mid rfl
        have hol' : (out.length : Int) = (pre2.length : Int) + ((post2.length : Int) + 1) := by simp at hol; omega
        by_cases hlx : lexLt y.1 k = true
        · simp [b_spec_DTags_1, dtSt, hpv, hol', hlt2, g3, hlx, ew2]
          exact hLQ2 (pre2 ++ [y], post2) ⟨by simp [e1], by intro z hz; rcases List.mem_append.1 hz with hz | hz; exact e2 z hz; simp at hz; subst hz; exact hlx⟩ (by simp) _ (by simp [dtSt, hpv])
        · have hlx' : lexLt y.1 k = false := by simpa using hlx
          have hh : ∀ z r, y :: post2 = z :: r → lexLt z.1 k = false := by intro z r h; simp at h; rw [← h.1]; exact hlx'
          simp [b_spec_DTags_1, dtSt, hpv, hol', hlt2, g3, hlx']
          rw [← hpv]
          refine dt_insert_mk e1 L _ _ _ (by simp only [half]; omega) ?_ ?_
          · intro h
            simp [hno hh h]
          · intro o h
            obtain ⟨f1, f2⟩ := hyes hh o h
            simp [t_spec_DTags_3, ew]
            exact hLQ (pre ++ [p], post, o) ⟨by simp [hs1], f1, by simpa using f2⟩ (by simp) _ (by simp)
end Wax

/- FnDWords (1): forms and parts. -/
namespace Wax
open Go (IntKind)

def cut2 (c : Int) (s : List UInt8) : List (List UInt8) := match cutAt c s with | none => [s] | some p => [p.1, p.2]

def con_zzCut2 : List AV → Option AV
  | [.str s, .int .u8 c] => if s.length < mid then some (.sl 1 (strsA (cut2 c s))) else none
  | _ => none

theorem ok_zzCut2 (Γ : Gam) : ∀ args r, con_zzCut2 args = some r → runs Γ c_dkim_zzCut2 args (fun v => v = r) := by
  intro args r h
  simp only [con_zzCut2] at h
  split at h <;> (try simp at h; done)
  rename_i s c
  obtain ⟨hs, rfl⟩ := ite_some h
  clear h
  simp only [mid] at hs
  simp -implicitDefEqProofs [c_dkim_zzCut2]
  refine awp_loop2 (σ := List UInt8 × List UInt8) (fun p => ⟨[(0, .str s), (1, .int .u8 c), (5, .int .i64 p.1.length)], []⟩) (fun p => s = p.1 ++ p.2 ∧ noB c p.1) (fun p => p.2.length) ([], s) (by simp) (by simp [noB]) ?_
  rintro ⟨pre, post⟩ ⟨hs1, hs2⟩ LQ hLQ
  simp only at hs1 hs2
  subst hs1
  cases post with
  | nil =>
    have e : cutAt c pre = none := by have := cutAt_app c pre [] hs2; simpa [cutAt] using this
    simp -implicitDefEqProofs [b_dkim_zzCut2_1, t_dkim_zzCut2_2, cut2, e]
  | cons x post =>
    simp at hs
    have ew : IntKind.i64.wrap ((pre.length : Int) + 1) = (pre.length : Int) + 1 := wrap64 (by omega) (by omega)
    have hlt : (pre.length : Int) < (pre.length : Int) + ((post.length : Int) + 1) := by omega
    by_cases he : (x.toNat : Int) = c
    · have e1 : (0 : Int) ≤ (pre.length : Int) + 1 ∧ (pre.length : Int) + 1 ≤ (pre.length : Int) + ((post.length : Int) + 1) := by omega
      have e2 : ((pre.length : Int) + 1).toNat = pre.length + 1 := by omega
      simp -implicitDefEqProofs [b_dkim_zzCut2_1, ew, cut2, cutAt_app _ _ _ hs2, cutAt, e1, e2, he]
      omega
    · simp -implicitDefEqProofs [b_dkim_zzCut2_1, ew, he, hlt]
      refine hLQ (pre ++ [x], post) ⟨by simp, ?_⟩ (by simp) _ (by simp)
      intro y hy
      simp at hy
      rcases hy with hy | rfl
      · exact hs2 y hy
      · exact he

/-- What forms a value says. -/
def pcan (t : List UInt8) : List UInt8 × List UInt8 := match cutAt 47 t with
  | none => (if t = [] then simpleB else t, simpleB)
  | some p => (if p.1 = [] then simpleB else p.1, p.2)

def con_parseCan : List AV → Option AV
  | [.str s] => if s.length < mid ∧ ascii s = true then some (.tup [.str (pcan (stripS s)).1, .str (pcan (stripS s)).2]) else none
  | _ => none

theorem stripS_length (s : List UInt8) : (stripS s).length ≤ s.length := List.length_filter_le _ _
theorem stripD_length (s : List UInt8) : (stripD s).length ≤ s.length := List.length_filter_le _ _

theorem litS : ([115, 105, 109, 112, 108, 101] : List UInt8) = simpleB := rfl
theorem litR : ([114, 101, 108, 97, 120, 101, 100] : List UInt8) = relaxedB := rfl

theorem ok_parseCan (Γ : Gam) (h26 : Γ.fn 26 = con_stripWhitespace) (h57 : Γ.fn 57 = con_zzCut2) : ∀ args r, con_parseCan args = some r → runs Γ c_dkim_parseCanonicalization args (fun v => v = r) := by
  intro args r h
  simp only [con_parseCan] at h
  split at h <;> (try simp at h; done)
  rename_i s
  obtain ⟨⟨hs, ha⟩, rfl⟩ := ite_some h
  clear h
  have k26 : con_stripWhitespace [.str s] = some (.str (stripS s)) := if_pos ⟨hs, ha⟩
  have hl := stripS_length s
  have k57 : con_zzCut2 [.str (stripS s), .int .u8 47] = some (.sl 1 (strsA (cut2 47 (stripS s)))) := if_pos (by omega)
  generalize stripS s = t at *
  cases hc : cutAt 47 t with
  | none =>
    by_cases ht : t = []
    · subst ht
      simp -implicitDefEqProofs [c_dkim_parseCanonicalization, acall, h26, k26, h57, k57, cut2, hc, pcan, litS]
    · simp -implicitDefEqProofs [c_dkim_parseCanonicalization, acall, h26, k26, h57, k57, cut2, hc, pcan, ht, litS]
  | some p =>
    obtain ⟨a, b⟩ := p
    by_cases ht : a = []
    · subst ht
      simp -implicitDefEqProofs [c_dkim_parseCanonicalization, acall, h26, k26, h57, k57, cut2, hc, pcan, litS]
    · simp -implicitDefEqProofs [c_dkim_parseCanonicalization, acall, h26, k26, h57, k57, cut2, hc, pcan, ht, litS]

theorem ok_Forms (Γ : Gam) (h58 : Γ.fn 58 = con_parseCan) : ∀ args r, con_parseCan args = some r → runs Γ c_dkim_Forms args (fun v => v = r) := by
  intro args r h
  have h' := h
  simp only [con_parseCan] at h
  split at h <;> (try simp at h; done)
  obtain ⟨_, rfl⟩ := ite_some h
  simp -implicitDefEqProofs [c_dkim_Forms, acall, h58, h']

def known (x : List UInt8) : Bool := decide (x = simpleB) || decide (x = relaxedB)
def formsV (p : List UInt8 × List UInt8) : AV := .tup [.str p.1, .str p.2, .bool (known p.1 && known p.2)]

theorem canonV_nil (f : List UInt8) : ∃ t, canonV f [] = .tup [.str t, .bool (known f)] := by
  by_cases f1 : f = simpleB
  · subst f1; exact ⟨[], by simp [canonV, known]⟩
  · by_cases f2 : f = relaxedB
    · subst f2; exact ⟨relaxedOf [], by simp [canonV, known, rel_ne]⟩
    · exact ⟨[], by simp [canonV, known, f1, f2]⟩

def con_DForms : List AV → Option AV
  | [.str s] => if s.length < mid ∧ ascii s = true then some (formsV (pcan (stripS s))) else none
  | _ => none

theorem ok_DForms (Γ : Gam) (h13 : Γ.fn 13 = con_CanonicalHeader) (h59 : Γ.fn 59 = con_parseCan) : ∀ args r, con_DForms args = some r → runs Γ c_impl_DForms args (fun v => v = r) := by
  intro args r h
  simp only [con_DForms] at h
  split at h <;> (try simp at h; done)
  rename_i s
  obtain ⟨hh, rfl⟩ := ite_some h
  clear h
  have k59 : con_parseCan [.str s] = some (.tup [.str (pcan (stripS s)).1, .str (pcan (stripS s)).2]) := if_pos hh
  generalize pcan (stripS s) = p at *
  obtain ⟨a, b⟩ := p
  have kr : relOk [] := ⟨by simp [mid], by simp [plain], by simp [cutAt]⟩
  have ka := con_CanonicalHeader_eq (form := a) kr
  have kb := con_CanonicalHeader_eq (form := b) kr
  obtain ⟨ta, ea⟩ := canonV_nil a
  obtain ⟨tb, eb⟩ := canonV_nil b
  rw [ea] at ka
  rw [eb] at kb
  cases hka : known a <;> rw [hka] at ka <;> simp -implicitDefEqProofs [c_impl_DForms, acall, h59, k59, h13, ka, kb, formsV, hka]

def con_known : List AV → Option AV
  | [.str s] => some (.bool (known s))
  | _ => none

theorem ok_known (Γ : Gam) : ∀ args r, con_known args = some r → runs Γ c_spec_DFormsOf_1 args (fun v => v = r) := by
  intro args r h
  simp only [con_known] at h
  split at h <;> (try simp at h; done)
  rename_i s
  simp at h
  subst h
  by_cases h1 : s = simpleB
  · subst h1; simp -implicitDefEqProofs [c_spec_DFormsOf_1, known, litS, litR]
  · simp -implicitDefEqProofs [c_spec_DFormsOf_1, known, litS, litR, h1]

def con_DFormsOf : List AV → Option AV
  | [.str s] => if s.length < mid then some (formsV (pcan (stripD s))) else none
  | _ => none

theorem ok_DFormsOf (Γ : Gam) (h2 : Γ.fn 2 = con_dCut) (h27 : Γ.fn 27 = con_DStrip) (h60 : Γ.fn 60 = con_known) : ∀ args r, con_DFormsOf args = some r → runs Γ c_spec_DFormsOf args (fun v => v = r) := by
  intro args r h
  simp only [con_DFormsOf] at h
  split at h <;> (try simp at h; done)
  rename_i s
  obtain ⟨hs, rfl⟩ := ite_some h
  clear h
  have k27 : con_DStrip [.str s] = some (.str (stripD s)) := if_pos hs
  have hl := stripD_length s
  have k2 : con_dCut [.str (stripD s), .int .u8 47] = some (cutV 47 (stripD s)) := if_pos (by simp only [mid] at hs; simp only [big]; omega)
  generalize stripD s = t at *
  have k60 : ∀ x, con_known [.str x] = some (.bool (known x)) := fun x => rfl
  have ks : known simpleB = true := by simp [known]
  cases hc : cutAt 47 t with
  | none =>
    by_cases ht : t = []
    · subst ht
      simp -implicitDefEqProofs [c_spec_DFormsOf, acall, h27, k27, h2, k2, cutV, hc, pcan, formsV, h60, k60, ks, litS]
    · cases hk : known t <;> simp -implicitDefEqProofs [c_spec_DFormsOf, acall, h27, k27, h2, k2, cutV, hc, pcan, ht, formsV, h60, k60, ks, hk, litS]
  | some p =>
    obtain ⟨a, b⟩ := p
    by_cases ht : a = []
    · subst ht
      simp -implicitDefEqProofs [c_spec_DFormsOf, acall, h27, k27, h2, k2, cutV, hc, pcan, formsV, h60, k60, ks, litS]
    · cases hk : known a <;> simp -implicitDefEqProofs [c_spec_DFormsOf, acall, h27, k27, h2, k2, cutV, hc, pcan, ht, formsV, h60, k60, ks, hk, litS]

def con_DParts : List AV → Option AV
  | [.str s] => if s.length < mid then some (.sl 1 (strsA (splitB 58 (stripD s)))) else none
  | _ => none

theorem ok_DParts (Γ : Gam) (h27 : Γ.fn 27 = con_DStrip) (h54 : Γ.fn 54 = con_DSplit) : ∀ args r, con_DParts args = some r → runs Γ c_spec_DParts args (fun v => v = r) := by
  intro args r h
  simp only [con_DParts] at h
  split at h <;> (try simp at h; done)
  rename_i s
  obtain ⟨hs, rfl⟩ := ite_some h
  clear h
  have k27 : con_DStrip [.str s] = some (.str (stripD s)) := if_pos hs
  have hl := stripD_length s
  have k54 : con_DSplit [.str (stripD s), .int .u8 58] = some (.sl 1 (strsA (splitB 58 (stripD s)))) := if_pos ⟨by omega, by omega, by omega⟩
  simp -implicitDefEqProofs [c_spec_DParts, acall, h27, k27, h54, k54]
end Wax

/- base64: two ways to read it are one. -/
namespace Wax
open Go (IntKind)

def d64 : List UInt8 := [65, 66, 67, 68, 69, 70, 71, 72, 73, 74, 75, 76, 77, 78, 79, 80, 81, 82, 83, 84, 85, 86, 87, 88, 89, 90, 97, 98, 99, 100, 101, 102, 103, 104, 105, 106, 107, 108, 109, 110, 111, 112, 113, 114, 115, 116, 117, 118, 119, 120, 121, 122, 48, 49, 50, 51, 52, 53, 54, 55, 56, 57, 43, 47]
theorem d64_len : d64.length = 64 := rfl

def scanV (c : UInt8) : List UInt8 → Int → Int → Int
  | [], _, v => v
  | x :: r, k, v => scanV c r (k + 1) (if x = c then k else v)

theorem scanV_bound (c : UInt8) : ∀ (l : List UInt8) (k v : Int), -1 ≤ v → v < k → -1 ≤ scanV c l k v ∧ scanV c l k v < k + l.length
  | [], k, v, h1, h2 => by simp [scanV]; exact ⟨h1, h2⟩
  | x :: r, k, v, h1, h2 => by
    have := scanV_bound c r (k + 1) (if x = c then k else v) (by split <;> omega) (by split <;> omega)
    simp only [scanV, List.length_cons]
    omega

/-- The sign's number; -1: it is none. -/
def v64 (c : UInt8) : Int := scanV c d64 0 (-1)
theorem v64_ge (c : UInt8) : -1 ≤ v64 c := (scanV_bound c d64 0 (-1) (by omega) (by omega)).1
theorem v64_lt (c : UInt8) : v64 c < 64 := by have := (scanV_bound c d64 0 (-1) (by omega) (by omega)).2; rw [d64_len] at this; simp only [v64]; omega
theorem v64_eq : v64 61 = -1 := by decide

def stI (last : Bool) (dn : UInt8) (i : Nat) (c : UInt8) (p : Nat × Nat) : Option (Nat × Nat) :=
  if v64 c < 0 then (if c ≠ 61 ∨ i < 2 ∨ last = false ∨ (i = 2 ∧ dn ≠ 61) then none else some (p.1 * 64, if i < p.2 then i else p.2))
  else if p.2 < 4 then none else some (p.1 * 64 + (v64 c).toNat, p.2)

def stS (last : Bool) (k : Nat) (c : UInt8) (p : Nat × Nat) : Option (Nat × Nat) :=
  if c = 61 ∧ 1 < k ∧ last = true then some (p.1 * 64, p.2 + 1)
  else if v64 c < 0 ∨ 0 < p.2 then none else some (p.1 * 64 + (v64 c).toNat, p.2)

def runI (last : Bool) (dn : UInt8) : Nat → List UInt8 → Nat × Nat → Option (Nat × Nat)
  | _, [], p => some p
  | i, c :: r, p => match stI last dn i c p with
    | none => none
    | some q => runI last dn (i + 1) r q

def runS64 (last : Bool) : Nat → List UInt8 → Nat × Nat → Option (Nat × Nat)
  | _, [], p => some p
  | k, c :: r, p => match stS last k c p with
    | none => none
    | some q => runS64 last (k + 1) r q

def bytes3 (n : Nat) : List UInt8 := [UInt8.ofNat (n / 65536), UInt8.ofNat (n / 256), UInt8.ofNat n]

def quadI (last : Bool) (a b c d : UInt8) : Option (List UInt8) := (runI last d 0 [a, b, c, d] (0, 4)).map fun p => (bytes3 p.1).take (p.2 - 1)
def quadS (last : Bool) (a b c d : UInt8) : Option (List UInt8) := (runS64 last 0 [a, b, c, d] (0, 0)).map fun p => (bytes3 p.1).take (3 - p.2)

theorem quad_law (last : Bool) (a b c d : UInt8) : quadI last a b c d = quadS last a b c d := by
  simp only [quadI, quadS, runI, runS64]
  by_cases ha : v64 a < 0
  · simp [stI, stS, ha]
  by_cases hb : v64 b < 0
  · simp [stI, stS, ha, hb]
  by_cases hc : v64 c < 0
  · by_cases ec : c = 61
    · subst ec
      cases last with
      | false => simp [stI, stS, ha, hb, v64_eq]
      | true =>
        by_cases hd : v64 d < 0
        · by_cases ed : d = 61
          · subst ed; simp [stI, stS, ha, hb, v64_eq]
          · simp [stI, stS, ha, hb, v64_eq, hd, ed]
        · have ed : ¬ d = 61 := fun e => by subst e; rw [v64_eq] at hd; omega
          simp [stI, stS, ha, hb, v64_eq, hd, ed]
    · simp [stI, stS, ha, hb, hc, ec]
  · have ec : ¬ c = 61 := fun e => by subst e; rw [v64_eq] at hc; omega
    by_cases hd : v64 d < 0
    · by_cases ed : d = 61
      · subst ed
        cases last with
        | false => simp [stI, stS, ha, hb, hc, ec, v64_eq]
        | true => simp [stI, stS, ha, hb, hc, ec, v64_eq]
      · simp [stI, stS, ha, hb, hc, ec, hd, ed]
    · have ed : ¬ d = 61 := fun e => by subst e; rw [v64_eq] at hd; omega
      simp [stI, stS, ha, hb, hc, ec, hd, ed]

def dec64 (f : Bool → UInt8 → UInt8 → UInt8 → UInt8 → Option (List UInt8)) : List UInt8 → Option (List UInt8)
  | [] => some []
  | a :: b :: c :: d :: r => match f r.isEmpty a b c d with
    | none => none
    | some x => (dec64 f r).map (x ++ ·)
  | _ => none

theorem dec_law : dec64 quadI = dec64 quadS := by
  have : quadI = quadS := by funext l a b c d; exact quad_law l a b c d
  rw [this]

theorem dec64_mod {f} : ∀ {s o : List UInt8}, dec64 f s = some o → s.length % 4 = 0
  | [], _, _ => rfl
  | [_], _, h => by simp [dec64] at h
  | [_, _], _, h => by simp [dec64] at h
  | [_, _, _], _, h => by simp [dec64] at h
  | a :: b :: c :: d :: r, o, h => by
    simp only [dec64] at h
    split at h
    · simp at h
    · cases hr : dec64 f r with
      | none => simp [hr] at h
      | some o' => have := dec64_mod hr; simp only [List.length_cons]; omega

theorem stI_le {last dn i c p q} (h : stI last dn i c p = some q) : q.1 ≤ p.1 * 64 + 63 := by
  simp only [stI] at h
  have := v64_lt c
  split at h
  · split at h
    · simp at h
    · simp only [Option.some.injEq] at h; subst h; simp only; omega
  · split at h
    · simp at h
    · simp only [Option.some.injEq] at h; subst h; simp only; omega

theorem stS_le {last k c p q} (h : stS last k c p = some q) : q.1 ≤ p.1 * 64 + 63 := by
  simp only [stS] at h
  have := v64_lt c
  split at h
  · simp only [Option.some.injEq] at h; subst h; simp only; omega
  · split at h
    · simp at h
    · simp only [Option.some.injEq] at h; subst h; simp only; omega

theorem or64 {n v : Nat} (h : v < 64) (hn : n < 1048576) : IntKind.u64.wrap ((BitVec.ofInt 64 ((n : Int) * 64) ||| BitVec.ofInt 64 (v : Int)).toNat : Int) = ((n * 64 + v : Nat) : Int) := by
  have e1 : BitVec.ofInt 64 ((n : Int) * 64) = BitVec.ofNat 64 (n * 64) := by
    rw [show ((n : Int) * 64) = ((n * 64 : Nat) : Int) by omega]; exact BitVec.ofInt_natCast 64 (n * 64)
  have e2 : BitVec.ofInt 64 (v : Int) = BitVec.ofNat 64 v := BitVec.ofInt_natCast 64 v
  rw [e1, e2]
  have e3 : (BitVec.ofNat 64 (n * 64) ||| BitVec.ofNat 64 v).toNat = n * 64 + v := by
    rw [BitVec.toNat_or, BitVec.toNat_ofNat, BitVec.toNat_ofNat, Nat.mod_eq_of_lt (by omega), Nat.mod_eq_of_lt (by omega)]
    have := Nat.two_pow_add_eq_or_of_lt (i := 6) (b := v) (by omega) n
    rw [show n * 64 = 2 ^ 6 * n by omega]
    omega
  rw [e3]
  simp [IntKind.wrap, IntKind.bits, IntKind.signed]
  omega
end Wax

/- FnDRecords (1): base64, as the program reads it. -/
namespace Wax
open Go (IntKind)

theorem lit64 : ([65, 66, 67, 68, 69, 70, 71, 72, 73, 74, 75, 76, 77, 78, 79, 80, 81, 82, 83, 84, 85, 86, 87, 88, 89, 90, 97, 98, 99, 100, 101, 102, 103, 104, 105, 106, 107, 108, 109, 110, 111, 112, 113, 114, 115, 116, 117, 118, 119, 120, 121, 122, 48, 49, 50, 51, 52, 53, 54, 55, 56, 57, 43, 47] : List UInt8) = d64 := rfl

def msg64 : List UInt8 := [105, 108, 108, 101, 103, 97, 108, 32, 98, 97, 115, 101, 54, 52, 32, 100, 97, 116, 97]
def cleanS (s : List UInt8) : List UInt8 := s.filter fun b => !decide (b.toNat = 13 ∨ b.toNat = 10)

def decV : Option (List UInt8) → AV
  | some o => .tup [.sl 1 (bcA o), .nilI]
  | none => .tup [.nilS, .ifc 3 (.ptr [.str msg64])]

def con_zzDecode : List AV → Option AV
  | [.str s] => if s.length < mid then some (decV (dec64 quadI (cleanS s))) else none
  | _ => none

/-- The sign's number is looked for. -/
theorem scan_zz {Γ : Gam} {Q : APost} (e : AV) (rest : List UInt8) (o8 o9 : AV) (o7 : AV) (i : Nat) (c : UInt8) (hp : List (Nat × AObj)) (hc : rest[i]? = some c)
    (h : Q (.exit 6) ⟨[(4, e), (5, .sl 1 (bcA rest)), (7, o7), (8, o8), (9, o9), (10, .int .i64 i), (11, .int .i64 (v64 c)), (12, .int .i64 64), (50, .bool false)], hp⟩) :
    awp Γ (.loop [4, 5, 7, 8, 9, 10, 11, 12] b_dkim_zzDecode_2) Q ⟨[(4, e), (5, .sl 1 (bcA rest)), (7, o7), (8, o8), (9, o9), (10, .int .i64 i), (11, .int .i64 (-1)), (12, .int .i64 0)], hp⟩ := by
  refine awp_loop2 (σ := List UInt8 × List UInt8 × Int) (fun p => ⟨[(4, e), (5, .sl 1 (bcA rest)), (7, o7), (8, o8), (9, o9), (10, .int .i64 i), (11, .int .i64 p.2.2), (12, .int .i64 p.1.length)], hp⟩)
    (fun p => d64 = p.1 ++ p.2.1 ∧ v64 c = scanV c p.2.1 p.1.length p.2.2) (fun p => p.2.1.length) ([], d64, -1) (by simp) (by simp [v64]) ?_
  rintro ⟨pre, post, v⟩ ⟨e1, e2⟩ LQ hLQ
  simp only at e1 e2
  have hl : pre.length + post.length = 64 := by have := congrArg List.length e1; rw [d64_len] at this; simp at this; omega
  cases post with
  | nil =>
    simp only [scanV] at e2
    have h64 : pre.length = 64 := by simpa using hl
    subst e2
    simp -implicitDefEqProofs [b_dkim_zzDecode_2, h64]
    exact h
  | cons x post =>
    simp only [scanV] at e2
    simp at hl
    have hlt : (pre.length : Int) < 64 := by omega
    have g : d64[pre.length]? = some x := by rw [e1]; exact get_mid rfl
    have ew : IntKind.i64.wrap ((pre.length : Int) + 1) = (pre.length : Int) + 1 := wrap64 (by omega) (by omega)
    have hb : (bcA rest)[i]? = some (.int .u8 (c.toNat : Int)) := by simp [bcA, hc]
    by_cases hx : x = c
    · subst hx
      simp only [if_true] at e2
      simp -implicitDefEqProofs [b_dkim_zzDecode_2, lit64, hlt, g, ew, hb, hc]
      exact hLQ (pre ++ [x], post, pre.length) ⟨by simp [e1], by rw [e2]; simp⟩ (by simp) _ (by simp)
    · rw [if_neg hx] at e2
      have hn : ¬ ((x.toNat : Int) = (c.toNat : Int)) := fun h => hx (UInt8.toNat_inj.1 (by omega))
      simp -implicitDefEqProofs [b_dkim_zzDecode_2, lit64, hlt, g, ew, hb, hc, hn]
      exact hLQ (pre ++ [x], post, v) ⟨by simp [e1], by rw [e2]; simp⟩ (by simp) _ (by simp)
def bnd (i n : Nat) : Prop := (i = 0 ∧ n = 0) ∨ (i = 1 ∧ n < 64) ∨ (i = 2 ∧ n < 4096) ∨ (i = 3 ∧ n < 262144) ∨ (i = 4 ∧ n < 16777216)

theorem bnd_step {i n m : Nat} (h : bnd i n) (hi : i < 4) (hm : m ≤ n * 64 + 63) : bnd (i + 1) m := by
  simp only [bnd] at *; omega

theorem or64' {n v : Nat} (h : v < 64) (hn : n < 262144) : IntKind.u64.wrap (((IntKind.u64.wrap ((n : Int) * 2 ^ min 6 IntKind.u64.bits) % 2 ^ IntKind.u64.bits).toNat ||| (IntKind.u64.wrap (v : Int) % 2 ^ IntKind.u64.bits).toNat : Nat) : Int) = ((n * 64 + v : Nat) : Int) := by
  have e1 : IntKind.u64.wrap ((n : Int) * 2 ^ min 6 IntKind.u64.bits) = ((n * 64 : Nat) : Int) := by
    simp [IntKind.wrap, IntKind.bits, IntKind.signed]; omega
  have e2 : IntKind.u64.wrap (v : Int) = v := by simp [IntKind.wrap, IntKind.bits, IntKind.signed]; omega
  rw [e1, e2]
  have e3 : (((n * 64 : Nat) : Int) % 2 ^ IntKind.u64.bits).toNat = 2 ^ 6 * n := by simp [IntKind.bits]; omega
  have e4 : ((v : Int) % 2 ^ IntKind.u64.bits).toNat = v := by simp [IntKind.bits]; omega
  rw [e3, e4, ← Nat.two_pow_add_eq_or_of_lt (i := 6) (b := v) (by omega) n]
  simp [IntKind.wrap, IntKind.bits, IntKind.signed]
  omega

theorem or64z {n : Nat} (hn : n < 262144) : IntKind.u64.wrap (((IntKind.u64.wrap ((n : Int) * 2 ^ min 6 IntKind.u64.bits) % 2 ^ IntKind.u64.bits).toNat ||| (IntKind.u64.wrap 0 % 2 ^ IntKind.u64.bits).toNat : Nat) : Int) = ((n * 64 : Nat) : Int) := by
  have := or64' (n := n) (v := 0) (by omega) hn
  simpa using this

def errB : AV := .ifc 3 (.ptr [.str msg64])
@[simp] theorem kill_errB {d : Nat} : kill d errB = errB := rfl
@[simp] theorem snapW_errB {g : AV → AV} : snapW g errB = errB := rfl
@[simp] theorem mapId_errB {g : Nat → Nat} : mapId g errB = errB := rfl
@[simp] theorem hasRef_errB : hasRef errB = false := rfl

set_option maxHeartbeats 4000000 in
set_option maxRecDepth 100000 in
/-- Four signs. -/
theorem quad_zz {Γ : Gam} {Q : APost} (a b c d : UInt8) (r out : List UInt8) (o7 : AV) (hr : r.length < 1099511627776)
    (hno : runI r.isEmpty d 0 [a, b, c, d] (0, 4) = none → Q .ret ⟨[(2, .nilS), (3, errB)], [(112, .cells (bcA out))]⟩)
    (hyes : ∀ n dg, runI r.isEmpty d 0 [a, b, c, d] (0, 4) = some (n, dg) → n < 16777216 → 2 ≤ dg → dg ≤ 4 → Q (.exit 4) ⟨[(4, errB), (5, .sl 1 (bcA (a :: b :: c :: d :: r))), (7, o7), (8, .int .u64 n), (9, .int .i64 dg), (10, .int .i64 4), (46, .bool false)], [(112, .cells (bcA out))]⟩) :
    awp Γ (.loop [4, 5, 7, 8, 9, 10] b_dkim_zzDecode_5) Q ⟨[(4, errB), (5, .sl 1 (bcA (a :: b :: c :: d :: r))), (7, o7), (8, .int .u64 0), (9, .int .i64 4), (10, .int .i64 0)], [(112, .cells (bcA out))]⟩ := by
  obtain ⟨L, hL⟩ : ∃ L, L = a :: b :: c :: d :: r := ⟨_, rfl⟩
  rw [← hL] at hyes ⊢
  have hLl : L.length = r.length + 4 := by rw [hL]; simp
  have hL3 : L[3]? = some d := by rw [hL]; rfl
  obtain ⟨R, hR⟩ : ∃ R, R = runI r.isEmpty d 0 [a, b, c, d] (0, 4) := ⟨_, rfl⟩
  rw [← hR] at hno hyes
  refine awp_loop2 (σ := List UInt8 × List UInt8 × Nat × Nat) (fun p => ⟨[(4, errB), (5, .sl 1 (bcA L)), (7, o7), (8, .int .u64 p.2.2.1), (9, .int .i64 p.2.2.2), (10, .int .i64 p.1.length)], [(112, .cells (bcA out))]⟩)
    (fun p => [a, b, c, d] = p.1 ++ p.2.1 ∧ R = runI r.isEmpty d p.1.length p.2.1 (p.2.2.1, p.2.2.2) ∧ bnd p.1.length p.2.2.1 ∧ 2 ≤ p.2.2.2 ∧ p.2.2.2 ≤ 4) (fun p => p.2.1.length) ([], [a, b, c, d], 0, 4) (by simp) ⟨by simp, hR, by simp [bnd], by simp, by simp⟩ ?_
  rintro ⟨pre, post, n, dg⟩ ⟨e1, e2, e3, e4, e5⟩ LQ hLQ
  simp only at e1 e2 e3 e4 e5
  have hl : pre.length + post.length = 4 := by have := congrArg List.length e1; simp at this; omega
  cases post with
  | nil =>
    have h4 : pre.length = 4 := by simpa using hl
    simp only [runI] at e2
    have hn : n < 16777216 := by simp only [bnd] at e3; omega
    have hq := hyes n dg e2 hn e4 e5
    simp -implicitDefEqProofs [b_dkim_zzDecode_5, h4]
    exact hq
  | cons x post =>
    simp at hl
    have hi4 : pre.length < 4 := by omega
    have hlt : (pre.length : Int) < 4 := by omega
    have hx : L[pre.length]? = some x := by
      have : L = (pre ++ x :: post) ++ r := by rw [hL, ← e1]; rfl
      rw [this, List.append_assoc]
      exact get_mid rfl
    have ew : IntKind.i64.wrap ((pre.length : Int) + 1) = (pre.length : Int) + 1 := wrap64 (by omega) (by omega)
    simp only [runI] at e2
    have hn2 : n < 262144 := by simp only [bnd] at e3; omega
    have eshl : IntKind.u64.wrap ((n : Int) * 2 ^ 6) = (n : Int) * 64 := by
      simp [IntKind.wrap, IntKind.bits, IntKind.signed]; omega
    have bad : stI r.isEmpty d pre.length x (n, dg) = none → Q .ret ⟨[(2, .nilS), (3, errB)], [(112, .cells (bcA out))]⟩ := by
      intro h; rw [h] at e2; exact hno e2
    have good : ∀ m dg', stI r.isEmpty d pre.length x (n, dg) = some (m, dg') → 2 ≤ dg' → dg' ≤ 4 → ∀ st, norm [4, 5, 7, 8, 9, 10] st = ⟨[(4, errB), (5, .sl 1 (bcA L)), (7, o7), (8, .int .u64 m), (9, .int .i64 dg'), (10, .int .i64 ((pre.length : Int) + 1))], [(112, .cells (bcA out))]⟩ → LQ st := by
      intro m dg' h h2 h3 st hst
      have hm := stI_le h
      rw [h] at e2
      refine hLQ (pre ++ [x], post, m, dg') ⟨by simp [e1], by simpa using e2, ?_, h2, h3⟩ (by simp) st (by simpa using hst)
      have := bnd_step e3 hi4 hm
      simpa using this
    simp -implicitDefEqProofs [b_dkim_zzDecode_5, hlt]
    refine scan_zz _ _ _ _ _ pre.length x _ hx ?_
    by_cases hv : v64 x < 0
    · have hv1 : v64 x = -1 := by have := v64_ge x; omega
      by_cases hc1 : x = 61
      · have hc1' : (x.toNat : Int) = 61 := by rw [hc1]; rfl
        by_cases hi2 : pre.length < 2
        · have hi2' : (pre.length : Int) < 2 := by omega
          have hb := bad (by simp [stI, hv, hc1, hi2, v64_eq])
          simp -implicitDefEqProofs [t_dkim_zzDecode_3, hv1, hx, hc1', hi2', errB]
          exact hb
        · have hi2' : ¬ (pre.length : Int) < 2 := by omega
          cases hre : r.isEmpty with
          | false =>
            have hb := bad (by simp [stI, hv, hc1, hre, v64_eq])
            have h4l : (4 : Int) < L.length := by cases r with | nil => simp at hre | cons _ _ => simp at hLl; omega
            simp -implicitDefEqProofs [t_dkim_zzDecode_3, hv1, hx, hc1', hi2', h4l, errB]
            exact hb
          | true =>
            have hr0 : r = [] := by simpa using hre
            have h4l : ¬ (4 : Int) < L.length := by rw [hr0] at hLl; simp at hLl; omega
            by_cases hi22 : pre.length = 2
            · have hi22' : (pre.length : Int) = 2 := by omega
              have hx2 : L[2]? = some x := by rw [← hi22]; exact hx
              by_cases hd : d = 61
              · have hd' : (d.toNat : Int) = 61 := by rw [hd]; rfl
                have hmin : (if (pre.length : Int) < (dg : Int) then (pre.length : Int) else (dg : Int)) = ((if pre.length < dg then pre.length else dg : Nat) : Int) := by split <;> split <;> omega
                have hg := good (n * 64) (if pre.length < dg then pre.length else dg) (by simp [stI, hv, hc1, hre, v64_eq, hi2, hd]) (by split <;> omega) (by split <;> omega)
                simp -implicitDefEqProofs [t_dkim_zzDecode_3, t_dkim_zzDecode_4, hv1, hx, hc1', hi2', h4l, hi22', hx2, hL3, hd', errB, ew]
                rw [or64z hn2]
                refine hg _ ?_
                simp [errB, hi22', hi22]
                exact ⟨by split <;> split <;> omega, rfl⟩
              · have hd' : ¬ (d.toNat : Int) = 61 := fun h => hd (UInt8.toNat_inj.1 (by show d.toNat = 61; omega))
                have hb := bad (by simp [stI, hv, hc1, hre, v64_eq, hi2, hi22, hd])
                simp -implicitDefEqProofs [t_dkim_zzDecode_3, hv1, hx, hc1', hi2', h4l, hi22', hx2, hL3, hd', errB]
                exact hb
            · have hi22' : ¬ (pre.length : Int) = 2 := by omega
              have hg := good (n * 64) (if pre.length < dg then pre.length else dg) (by simp [stI, hv, hc1, hre, v64_eq, hi2, hi22]) (by split <;> omega) (by split <;> omega)
              simp -implicitDefEqProofs [t_dkim_zzDecode_3, t_dkim_zzDecode_4, hv1, hx, hc1', hi2', h4l, hi22', errB, ew]
              rw [or64z hn2]
              refine hg _ ?_
              simp [errB]
              split <;> rfl
      · have hc1' : ¬ (x.toNat : Int) = 61 := fun h => hc1 (UInt8.toNat_inj.1 (by show x.toNat = 61; omega))
        have hb := bad (by simp [stI, hv, hc1])
        simp -implicitDefEqProofs [t_dkim_zzDecode_3, hv1, hx, hc1', errB]
        exact hb
    · have hv2 := v64_lt x
      obtain ⟨v, hvv⟩ : ∃ v : Nat, v64 x = (v : Int) := ⟨(v64 x).toNat, by omega⟩
      have hvn : ¬ ((v : Int) < 0) := by omega
      by_cases h4 : dg < 4
      · have hb := bad (by simp [stI, hv, h4])
        have h4' : (dg : Int) < 4 := by omega
        simp -implicitDefEqProofs [t_dkim_zzDecode_3, hvv, hvn, h4', errB]
        exact hb
      · have h4' : ¬ (dg : Int) < 4 := by omega
        have hg := good (n * 64 + v) dg (by simp [stI, hvv, hvn, h4]) e4 e5
        simp -implicitDefEqProofs [t_dkim_zzDecode_3, t_dkim_zzDecode_4, hvv, hvn, h4', errB, ew]
        rw [or64' (by omega) hn2]
        exact hg _ (by simp [errB])
theorem byte_of (n : Nat) : IntKind.u8.wrap (n : Int) = ((UInt8.ofNat n).toNat : Int) := by
  simp [IntKind.wrap, IntKind.bits, IntKind.signed]
theorem shr_of (n k : Nat) : ((n : Int)).fdiv (2 ^ k) = ((n / 2 ^ k : Nat) : Int) := by
  rw [Int.fdiv_eq_ediv_of_nonneg _ (by exact Int.le_of_lt (Int.pow_pos (by omega)))]
  norm_cast

theorem dec64_len {f : Bool → UInt8 → UInt8 → UInt8 → UInt8 → Option (List UInt8)} (hf : ∀ l a b c d x, f l a b c d = some x → x.length ≤ 3) : ∀ {s o : List UInt8}, dec64 f s = some o → o.length ≤ s.length
  | [], o, h => by simp [dec64] at h; subst h; simp
  | [_], _, h => by simp [dec64] at h
  | [_, _], _, h => by simp [dec64] at h
  | [_, _, _], _, h => by simp [dec64] at h
  | a :: b :: c :: d :: r, o, h => by
    simp only [dec64] at h
    split at h
    · simp at h
    · rename_i x hx
      cases hr : dec64 f r with
      | none => simp [hr] at h
      | some o' =>
        simp only [hr, Option.map_some, Option.some.injEq] at h
        subst h
        have h1 := dec64_len hf hr
        have h2 := hf _ _ _ _ _ _ hx
        simp only [List.length_append, List.length_cons]; omega

theorem quadI_len (l : Bool) (a b c d : UInt8) (x : List UInt8) (h : quadI l a b c d = some x) : x.length ≤ 3 := by
  simp only [quadI] at h
  cases hr : runI l d 0 [a, b, c, d] (0, 4) with
  | none => simp [hr] at h
  | some p => simp only [hr, Option.map_some, Option.some.injEq] at h; subst h; simp [bytes3]; omega

set_option maxHeartbeats 4000000 in
set_option maxRecDepth 100000 in
/-- The quads, one behind the other. -/
theorem quads_zz {Γ : Gam} {Q : APost} (L : List UInt8) (u0 : AV) (hu0 : u0 = .sl 1 (bcA L) ∨ (u0 = .nilS ∧ L = [])) (hm : L.length % 4 = 0) (hL : L.length < 1099511627776)
    (hno : dec64 quadI L = none → ∀ out : List UInt8, Q .ret ⟨[(2, .nilS), (3, errB)], [(112, .cells (bcA out))]⟩)
    (hyes : ∀ o, dec64 quadI L = some o → ∀ u, Q (.exit 2) ⟨[(4, errB), (5, u), (7, .msl 112 1 0 o.length), (44, .bool false)], [(112, .cells (bcA o))]⟩) :
    awp Γ (.loop [4, 5, 7] b_dkim_zzDecode_7) Q ⟨[(4, errB), (5, u0), (7, .msl 112 1 0 0)], [(112, .cells [])]⟩ := by
  refine awp_loop2 (σ := List UInt8 × List UInt8 × AV) (fun p => ⟨[(4, errB), (5, p.2.2), (7, .msl 112 1 0 p.1.length)], [(112, .cells (bcA p.1))]⟩)
    (fun p => (p.2.2 = .sl 1 (bcA p.2.1) ∨ (p.2.2 = .nilS ∧ p.2.1 = [])) ∧ dec64 quadI L = (dec64 quadI p.2.1).map (p.1 ++ ·) ∧ p.2.1.length % 4 = 0 ∧ p.1.length + p.2.1.length ≤ L.length) (fun p => p.2.1.length) ([], L, u0) (by simp [bcA]) ⟨hu0, by simp, hm, by simp⟩ ?_
  rintro ⟨out, rest, u⟩ ⟨h1, h2, h3, h4⟩ LQ hLQ
  simp only at h1 h2 h3 h4
  match rest, h1, h2, h3, h4, hLQ with
  | [], h1, h2, _, _, hLQ =>
    have hy := hyes out (by rw [h2]; simp [dec64]) u
    rcases h1 with rfl | ⟨rfl, _⟩
    · simp -implicitDefEqProofs [b_dkim_zzDecode_7, bcA]
      simpa [bcA] using hy
    · simp -implicitDefEqProofs [b_dkim_zzDecode_7]
      exact hy
  | [_], _, _, h3, _, _ => simp at h3
  | [_, _], _, _, h3, _, _ => simp at h3
  | [_, _, _], _, _, h3, _, _ => simp at h3
  | a :: b :: c :: d :: r, h1, h2, h3, h4, hLQ =>
    have hu : u = .sl 1 (bcA (a :: b :: c :: d :: r)) := by
      rcases h1 with h | ⟨_, h⟩
      · exact h
      · simp at h
    subst hu
    simp only [dec64] at h2
    simp only [List.length_cons] at h3 h4
    have hlen : (bcA (a :: b :: c :: d :: r)).length = r.length + 4 := by simp [bcA]
    have hpos : (0 : Int) < (r.length : Int) + 4 := by omega
    have ha5 : ∀ hp, alen hp 1 (.sl 1 (bcA (a :: b :: c :: d :: r))) = some (r.length + 4) := by intro hp; simp [bcA]
    generalize hB : bcA (a :: b :: c :: d :: r) = B at *
    simp -implicitDefEqProofs [-alen, ha5, b_dkim_zzDecode_7, hpos]
    subst hB
    refine quad_zz a b c d r out _ (by omega) ?_ ?_
    · intro hr
      have : quadI r.isEmpty a b c d = none := by simp [quadI, hr]
      rw [this] at h2
      have := hno h2 out
      simpa using this
    · intro n dg hr hn hd2 hd4
      have hq : quadI r.isEmpty a b c d = some ((bytes3 n).take (dg - 1)) := by simp [quadI, hr]
      rw [hq] at h2
      simp only at h2
      have e16 : IntKind.u8.wrap ((n : Int).fdiv (2 ^ min 16 IntKind.u64.bits)) = ((UInt8.ofNat (n / 65536)).toNat : Int) := by
        have : ((n : Int)).fdiv (2 ^ min 16 IntKind.u64.bits) = ((n / 65536 : Nat) : Int) := by simpa [IntKind.bits] using shr_of n 16
        rw [this]; exact byte_of _
      have e8 : IntKind.u8.wrap ((n : Int).fdiv (2 ^ min 8 IntKind.u64.bits)) = ((UInt8.ofNat (n / 256)).toNat : Int) := by
        have : ((n : Int)).fdiv (2 ^ min 8 IntKind.u64.bits) = ((n / 256 : Nat) : Int) := by simpa [IntKind.bits] using shr_of n 8
        rw [this]; exact byte_of _
      have e0 : IntKind.u8.wrap (n : Int) = ((UInt8.ofNat n).toNat : Int) := byte_of n
      have fin : ∀ x : List UInt8, x = (bytes3 n).take (dg - 1) → x.length ≤ 3 → ∀ st, norm [4, 5, 7] st = ⟨[(4, errB), (5, .sl 1 (bcA r)), (7, .msl 112 1 0 (out.length + x.length))], [(112, .cells (bcA out ++ bcA x))]⟩ → LQ st := by
        intro x hx hxl st hst
        refine hLQ (out ++ x, r, .sl 1 (bcA r)) ⟨.inl rfl, ?_, by simp only; omega, by simp; omega⟩ (by simp; omega) st (by simpa [bcA] using hst)
        rw [h2, hx, Option.map_map]
        congr 1
        funext z; simp
      rcases (by omega : dg = 2 ∨ dg = 3 ∨ dg = 4) with rfl | rfl | rfl
      · have w1 : IntKind.i64.wrap 1 = 1 := rfl
        simp -implicitDefEqProofs [t_dkim_zzDecode_6, e16, e8, e0, errB, w1]
        exact ⟨by omega, by omega, fin _ rfl (by simp [bytes3]) _ (by simp [errB, bytes3, bcA])⟩
      · have w1 : IntKind.i64.wrap 2 = 2 := rfl
        simp -implicitDefEqProofs [t_dkim_zzDecode_6, e16, e8, e0, errB, w1]
        exact ⟨by omega, by omega, fin _ rfl (by simp [bytes3]) _ (by simp [errB, bytes3, bcA])⟩
      · have w1 : IntKind.i64.wrap 3 = 3 := rfl
        simp -implicitDefEqProofs [t_dkim_zzDecode_6, e16, e8, e0, errB, w1]
        exact ⟨by omega, by omega, fin _ rfl (by simp [bytes3]) _ (by simp [errB, bytes3, bcA])⟩

theorem cleanS_snoc (pre : List UInt8) (x : UInt8) : cleanS (pre ++ [x]) = if x.toNat = 13 ∨ x.toNat = 10 then cleanS pre else cleanS pre ++ [x] := by
  simp only [cleanS, List.filter_append]
  by_cases h : x.toNat = 13 ∨ x.toNat = 10
  · rw [if_pos h]; simp; omega
  · rw [if_neg h]; simp; omega

set_option maxHeartbeats 4000000 in
set_option maxRecDepth 100000 in
theorem ok_zzDecode (Γ : Gam) (h50 : Γ.fn 50 = con_errorsNew) : ∀ args r, con_zzDecode args = some r → runs Γ c_dkim_zzDecode args (fun v => v = r) := by
  intro args r h
  simp only [con_zzDecode] at h
  split at h <;> (try simp at h; done)
  rename_i s
  obtain ⟨hs, rfl⟩ := ite_some h
  clear h
  simp only [mid] at hs
  have litm : ([105, 108, 108, 101, 103, 97, 108, 32, 98, 97, 115, 101, 54, 52, 32, 100, 97, 116, 97] : List UInt8) = msg64 := rfl
  simp -implicitDefEqProofs [c_dkim_zzDecode, acall, h50, con_errorsNew, litm]
  refine awp_loop2 (σ := List UInt8 × List UInt8) (fun p => ⟨[(0, .str s), (4, errB), (5, grV 35 1 (cleanS p.1).length), (6, .int .i64 p.1.length)], grH 35 (cleanS p.1).length (bcA (cleanS p.1))⟩)
    (fun p => s = p.1 ++ p.2) (fun p => p.2.length) ([], s) (by simp [cleanS, errB]) (by simp) ?_
  rintro ⟨pre, post⟩ hs1 LQ hLQ
  simp only at hs1
  have hle : (cleanS pre).length ≤ pre.length := List.length_filter_le _ _
  cases post with
  | nil =>
    simp only [List.append_nil] at hs1
    subst hs1
    have after : ∀ (u : AV), (u = .sl 1 (bcA (cleanS s)) ∨ (u = .nilS ∧ cleanS s = [])) → (cleanS s).length % 4 = 0 →
        awp Γ (.loop [4, 5, 7] b_dkim_zzDecode_7) (blockQ 2 (thenQ (awp Γ t_dkim_zzDecode_8 (finQ [.t 2, .t 3] fun v => v = decV (dec64 quadI (cleanS s)))) (finQ [.t 2, .t 3] fun v => v = decV (dec64 quadI (cleanS s))))) ⟨[(4, errB), (5, u), (7, .msl 112 1 0 0)], [(112, .cells [])]⟩ := by
      intro u hu hm
      refine quads_zz (cleanS s) u hu hm (by omega) ?_ ?_
      · intro hn out
        simp [hn, decV, errB]
      · intro o ho u'
        have hol := dec64_len quadI_len ho
        have hob : (bcA o).length = o.length := by simp [bcA]
        have htk : List.take o.length (bcA o) = bcA o := List.take_of_length_le (by omega)
        simp -implicitDefEqProofs [t_dkim_zzDecode_8, ho, decV, hob, htk]
    have bad : ¬ (cleanS s).length % 4 = 0 → dec64 quadI (cleanS s) = none := by
      intro h
      cases hd : dec64 quadI (cleanS s) with
      | none => rfl
      | some o => exact absurd (dec64_mod hd) h
    generalize hC : cleanS s = C at *
    cases C with
    | nil =>
      simp -implicitDefEqProofs [b_dkim_zzDecode_1, t_dkim_zzDecode_9, bcA]
      simpa using after .nilS (.inr ⟨rfl, rfl⟩) (by simp)
    | cons y C =>
      have hlb : (bcA (y :: C)).length = C.length + 1 := by simp [bcA]
      have htk : List.take (C.length + 1) (bcA (y :: C)) = bcA (y :: C) := List.take_of_length_le (by omega)
      have hat : atoms (bcA (y :: C)) = true := by simp
      have hrf : hasRefL (bcA (y :: C)) = false := by simp
      simp only [List.length_cons] at *
      by_cases hm : (C.length + 1) % 4 = 0
      · have hm' : ((C.length : Int) + 1).tmod 4 = 0 := by rw [Int.tmod_eq_emod_of_nonneg (by omega)]; omega
        have ha := after (.sl 1 (bcA (y :: C))) (.inl rfl) hm
        generalize bcA (y :: C) = B at *
        simp -implicitDefEqProofs [b_dkim_zzDecode_1, t_dkim_zzDecode_9, hlb, htk, hm', hat, hrf]
        exact ha
      · have hm' : ¬ ((C.length : Int) + 1).tmod 4 = 0 := by rw [Int.tmod_eq_emod_of_nonneg (by omega)]; omega
        have hb := bad hm
        generalize bcA (y :: C) = B at *
        simp -implicitDefEqProofs [b_dkim_zzDecode_1, t_dkim_zzDecode_9, hlb, htk, hm', hb, decV, hat, hrf]
        rfl
  | cons x post =>
    have hlen : s.length = pre.length + (post.length + 1) := by rw [hs1]; simp
    have hlt : (pre.length : Int) < s.length := by omega
    have g : s[pre.length]? = some x := by rw [hs1]; exact get_mid rfl
    have ew : IntKind.i64.wrap ((pre.length : Int) + 1) = (pre.length : Int) + 1 := wrap64 (by omega) (by omega)
    by_cases hx : x.toNat = 13 ∨ x.toNat = 10
    · have e := cleanS_snoc pre x
      rw [if_pos hx] at e
      have fin : ∀ st, norm [0, 4, 5, 6] st = ⟨[(0, .str s), (4, errB), (5, grV 35 1 (cleanS pre).length), (6, .int .i64 ((pre.length : Int) + 1))], grH 35 (cleanS pre).length (bcA (cleanS pre))⟩ → LQ st := by
        intro st hst
        exact hLQ (pre ++ [x], post) (by simp [hs1]) (by simp) st (by rw [e]; simpa using hst)
      by_cases h13 : x.toNat = 13
      · have h13' : (x.toNat : Int) = 13 := by omega
        simp -implicitDefEqProofs [b_dkim_zzDecode_1, hlt, g, ew, h13']
        exact fin _ (by simp)
      · have h13' : ¬ (x.toNat : Int) = 13 := by omega
        have h10' : (x.toNat : Int) = 10 := by omega
        simp -implicitDefEqProofs [b_dkim_zzDecode_1, hlt, g, ew, h13', h10']
        exact fin _ (by simp)
    · have e := cleanS_snoc pre x
      rw [if_neg hx] at e
      have h13' : ¬ (x.toNat : Int) = 13 := by omega
      have h10' : ¬ (x.toNat : Int) = 10 := by omega
      have fin : ∀ st, norm [0, 4, 5, 6] st = ⟨[(0, .str s), (4, errB), (5, .msl 35 1 0 ((cleanS pre).length + 1)), (6, .int .i64 ((pre.length : Int) + 1))], [(35, .cells (bcA (cleanS pre) ++ [.int .u8 (x.toNat : Int)]))]⟩ → LQ st := by
        intro st hst
        exact hLQ (pre ++ [x], post) (by simp [hs1]) (by simp) st (by rw [e]; simpa [bcA] using hst)
      generalize hC : cleanS pre = C at *
      cases C with
      | nil =>
        simp -implicitDefEqProofs [b_dkim_zzDecode_1, hlt, g, ew, h13', h10', bcA]
        exact fin _ (by simp [bcA])
      | cons y C =>
        have hlb : (bcA (y :: C)).length = C.length + 1 := by simp [bcA]
        have htk : List.take (C.length + 1) (bcA (y :: C)) = bcA (y :: C) := List.take_of_length_le (by omega)
        have hat : atoms (bcA (y :: C)) = true := by simp
        have hk : ∀ d, killL d (bcA (y :: C)) = bcA (y :: C) := by intro d; simp
        simp only [List.length_cons] at *
        generalize bcA (y :: C) = B at *
        simp -implicitDefEqProofs [b_dkim_zzDecode_1, hlt, g, ew, h13', h10', hlb, htk, hk, hat]
        exact ⟨by omega, fin _ (by simp)⟩
end Wax

/- FnDRecords (2): base64, as the reference reads it; signs that are left out. -/
namespace Wax
open Go (IntKind)

/-- A text without blanks. -/
def noBlank (s : List UInt8) : List UInt8 := s.filter fun b => !decide (b.toNat = 32)
def bareS (s : List UInt8) : List UInt8 := s.filter fun b => !decide (b.toNat = 32 ∨ b.toNat = 13 ∨ b.toNat = 10)

theorem bare_clean (s : List UInt8) : cleanS (noBlank s) = bareS s := by
  simp only [cleanS, noBlank, bareS, List.filter_filter]
  congr 1
  funext b
  by_cases h1 : b.toNat = 32 <;> by_cases h2 : b.toNat = 13 <;> by_cases h3 : b.toNat = 10 <;> simp [h1, h2, h3]

def con_dBare : List AV → Option AV
  | [.str s] => if s.length < mid then some (.str (bareS s)) else none
  | _ => none

theorem bareS_snoc (pre : List UInt8) (x : UInt8) : bareS (pre ++ [x]) = if x.toNat = 32 ∨ x.toNat = 13 ∨ x.toNat = 10 then bareS pre else bareS pre ++ [x] := by
  simp only [bareS, List.filter_append]
  by_cases h : x.toNat = 32 ∨ x.toNat = 13 ∨ x.toNat = 10
  · rw [if_pos h]; simp; omega
  · rw [if_neg h]; simp; omega

theorem ok_dBare (Γ : Gam) : ∀ args r, con_dBare args = some r → runs Γ c_spec_dBare args (fun v => v = r) := by
  intro args r h
  simp only [con_dBare] at h
  split at h <;> (try simp at h; done)
  rename_i s
  obtain ⟨hs, rfl⟩ := ite_some h
  clear h
  simp only [mid] at hs
  simp -implicitDefEqProofs [c_spec_dBare]
  refine awp_loop2 (σ := List UInt8 × List UInt8) (fun p => ⟨[(0, .str s), (3, outV 32 (bareS p.1)), (4, .int .i64 p.1.length)], outH 32 (bareS p.1)⟩)
    (fun p => s = p.1 ++ p.2) (fun p => p.2.length) ([], s) (by simp [bareS]) (by simp) ?_
  rintro ⟨pre, post⟩ hs1 LQ hLQ
  simp only at hs1
  have hlen : (bareS pre).length ≤ pre.length := List.length_filter_le _ _
  cases post with
  | nil =>
    simp only [List.append_nil] at hs1
    subst hs1
    by_cases ho : bareS s = []
    · simp -implicitDefEqProofs [b_spec_dBare_1, t_spec_dBare_2, ho]
    · simp -implicitDefEqProofs [b_spec_dBare_1, t_spec_dBare_2, outV_ne ho, outH_ne ho, List.take_of_length_le]
  | cons x post =>
    have hlen2 : s.length = pre.length + (post.length + 1) := by rw [hs1]; simp
    have hlt : (pre.length : Int) < s.length := by omega
    have g : s[pre.length]? = some x := by rw [hs1]; exact get_mid rfl
    have ew : IntKind.i64.wrap ((pre.length : Int) + 1) = (pre.length : Int) + 1 := wrap64 (by omega) (by omega)
    have fin : ∀ st, norm [0, 3, 4] st = ⟨[(0, .str s), (3, outV 32 (bareS (pre ++ [x]))), (4, .int .i64 ((pre.length : Int) + 1))], outH 32 (bareS (pre ++ [x]))⟩ → LQ st := by
      intro st hst
      exact hLQ (pre ++ [x], post) (by simp [hs1]) (by simp) st (by simpa using hst)
    have e := bareS_snoc pre x
    by_cases hx : x.toNat = 32 ∨ x.toNat = 13 ∨ x.toNat = 10
    · rw [if_pos hx] at e
      rw [e] at fin
      have fin2 : ∀ st, norm [0, 3, 4] st = ⟨[(0, .str s), (3, outV 32 (bareS pre)), (4, .int .i64 ((pre.length : Int) + 1))], outH 32 (bareS pre)⟩ → LQ st := fin
      generalize hV : outV 32 (bareS pre) = V at *
      generalize outH 32 (bareS pre) = H at *
      rcases hx with hx | hx | hx
      · have hx' : (x.toNat : Int) = 32 := by omega
        simp -implicitDefEqProofs [b_spec_dBare_1, hlt, g, ew, hx']
        exact fin2 _ (by simp)
      · have hx' : (x.toNat : Int) = 13 := by omega
        simp -implicitDefEqProofs [b_spec_dBare_1, hlt, g, ew, hx']
        exact fin2 _ (by simp)
      · have hx' : (x.toNat : Int) = 10 := by omega
        simp -implicitDefEqProofs [b_spec_dBare_1, hlt, g, ew, hx']
        exact fin2 _ (by simp)
    · rw [if_neg hx] at e
      rw [e, outV_ne (by simp), outH_ne (by simp)] at fin
      have h1 : ¬ (x.toNat : Int) = 32 := by omega
      have h2 : ¬ (x.toNat : Int) = 13 := by omega
      have h3 : ¬ (x.toNat : Int) = 10 := by omega
      by_cases ho : bareS pre = []
      · rw [ho] at fin
        simp -implicitDefEqProofs [b_spec_dBare_1, hlt, g, ew, h1, h2, h3, ho]
        exact fin _ (by simp)
      · simp -implicitDefEqProofs [b_spec_dBare_1, hlt, g, ew, h1, h2, h3, outV_ne ho, outH_ne ho]
        exact ⟨by omega, fin _ (by simp)⟩
end Wax

/- FnDRecords (3): base64, as the reference reads it. -/
namespace Wax
open Go (IntKind)

def decS : Option (List UInt8) → AV
  | some o => .tup [.str o, .bool true]
  | none => .tup [.str [], .bool false]

def con_dBytes64 : List AV → Option AV
  | [.str s] => if s.length < mid then some (decS (dec64 quadS s)) else none
  | _ => none

theorem scan_sp {Γ : Gam} {Q : APost} (s : List UInt8) (o4 o5 o6 o7 o8 : AV) (c : UInt8) (hp : List (Nat × AObj))
    (h : Q (.exit 4) ⟨[(0, .str s), (4, o4), (5, o5), (6, o6), (7, o7), (8, o8), (9, .int .u8 (c.toNat : Int)), (10, .int .i64 (v64 c)), (11, .int .i64 64), (32, .bool false)], hp⟩) :
    awp Γ (.loop [0, 4, 5, 6, 7, 8, 9, 10, 11] b_spec_dBytes64_1) Q ⟨[(0, .str s), (4, o4), (5, o5), (6, o6), (7, o7), (8, o8), (9, .int .u8 (c.toNat : Int)), (10, .int .i64 (-1)), (11, .int .i64 0)], hp⟩ := by
  refine awp_loop2 (σ := List UInt8 × List UInt8 × Int) (fun p => ⟨[(0, .str s), (4, o4), (5, o5), (6, o6), (7, o7), (8, o8), (9, .int .u8 (c.toNat : Int)), (10, .int .i64 p.2.2), (11, .int .i64 p.1.length)], hp⟩)
    (fun p => d64 = p.1 ++ p.2.1 ∧ v64 c = scanV c p.2.1 p.1.length p.2.2) (fun p => p.2.1.length) ([], d64, -1) (by simp) (by simp [v64]) ?_
  rintro ⟨pre, post, v⟩ ⟨e1, e2⟩ LQ hLQ
  simp only at e1 e2
  have hl : pre.length + post.length = 64 := by have := congrArg List.length e1; rw [d64_len] at this; simp at this; omega
  cases post with
  | nil =>
    simp only [scanV] at e2
    have h64 : pre.length = 64 := by simpa using hl
    subst e2
    simp -implicitDefEqProofs [b_spec_dBytes64_1, h64]
    exact h
  | cons x post =>
    simp only [scanV] at e2
    simp at hl
    have hlt : (pre.length : Int) < 64 := by omega
    have g : d64[pre.length]? = some x := by rw [e1]; exact get_mid rfl
    have ew : IntKind.i64.wrap ((pre.length : Int) + 1) = (pre.length : Int) + 1 := wrap64 (by omega) (by omega)
    by_cases hx : x = c
    · subst hx
      simp only [if_true] at e2
      simp -implicitDefEqProofs [b_spec_dBytes64_1, lit64, hlt, g, ew]
      exact hLQ (pre ++ [x], post, pre.length) ⟨by simp [e1], by rw [e2]; simp⟩ (by simp) _ (by simp)
    · rw [if_neg hx] at e2
      have hn : ¬ ((x.toNat : Int) = (c.toNat : Int)) := fun h => hx (UInt8.toNat_inj.1 (by omega))
      simp -implicitDefEqProofs [b_spec_dBytes64_1, lit64, hlt, g, ew, hn]
      exact hLQ (pre ++ [x], post, v) ⟨by simp [e1], by rw [e2]; simp⟩ (by simp) _ (by simp)

set_option maxHeartbeats 4000000 in
set_option maxRecDepth 100000 in
theorem quad_sp {Γ : Gam} {Q : APost} (s pr : List UInt8) (a b c d : UInt8) (r out : List UInt8) (hs : s = pr ++ a :: b :: c :: d :: r) (hl0 : s.length < 1099511627776)
    (hno : runS64 r.isEmpty 0 [a, b, c, d] (0, 0) = none → Q .ret ⟨[(2, .str []), (3, .bool false)], []⟩)
    (hyes : ∀ n en, runS64 r.isEmpty 0 [a, b, c, d] (0, 0) = some (n, en) → n < 16777216 → en ≤ 2 → Q (.exit 2) ⟨[(0, .str s), (4, grV 78 1 out.length), (5, .int .i64 pr.length), (6, .int .i64 n), (7, .int .i64 en), (8, .int .i64 4), (23, .bool false)], grH 78 out.length (bcA out)⟩) :
    awp Γ (.loop [0, 4, 5, 6, 7, 8] b_spec_dBytes64_4) Q ⟨[(0, .str s), (4, grV 78 1 out.length), (5, .int .i64 pr.length), (6, .int .i64 0), (7, .int .i64 0), (8, .int .i64 0)], grH 78 out.length (bcA out)⟩ := by
  obtain ⟨R, hR⟩ : ∃ R, R = runS64 r.isEmpty 0 [a, b, c, d] (0, 0) := ⟨_, rfl⟩
  rw [← hR] at hno hyes
  have hsl : s.length = pr.length + 4 + r.length := by rw [hs]; simp; omega
  have hH : killH 78 (grH 78 out.length (bcA out)) = [] := by cases out <;> simp
  generalize grH 78 out.length (bcA out) = H at *
  generalize grV 78 1 out.length = V at *
  refine awp_loop2 (σ := List UInt8 × List UInt8 × Nat × Nat) (fun p => ⟨[(0, .str s), (4, V), (5, .int .i64 pr.length), (6, .int .i64 p.2.2.1), (7, .int .i64 p.2.2.2), (8, .int .i64 p.1.length)], H⟩)
    (fun p => [a, b, c, d] = p.1 ++ p.2.1 ∧ R = runS64 r.isEmpty p.1.length p.2.1 (p.2.2.1, p.2.2.2) ∧ bnd p.1.length p.2.2.1 ∧ p.2.2.2 + 2 ≤ max 2 p.1.length) (fun p => p.2.1.length) ([], [a, b, c, d], 0, 0) (by simp) ⟨by simp, hR, by simp [bnd], by simp⟩ ?_
  rintro ⟨pre, post, n, en⟩ ⟨e1, e2, e3, e4⟩ LQ hLQ
  simp only at e1 e2 e3 e4
  have hl : pre.length + post.length = 4 := by have := congrArg List.length e1; simp at this; omega
  cases post with
  | nil =>
    have h4 : pre.length = 4 := by simpa using hl
    simp only [runS64] at e2
    have hn : n < 16777216 := by simp only [bnd] at e3; omega
    have hq := hyes n en e2 hn (by omega)
    simp -implicitDefEqProofs [b_spec_dBytes64_4, h4]
    exact hq
  | cons x post =>
    simp at hl
    have hi4 : pre.length < 4 := by omega
    have hlt : (pre.length : Int) < 4 := by omega
    have hx : s[pr.length + pre.length]? = some x := by
      have : s = (pr ++ pre) ++ x :: (post ++ r) := by
        rw [hs, List.append_assoc]
        congr 1
        have : a :: b :: c :: d :: r = [a, b, c, d] ++ r := rfl
        rw [this, e1]; simp
      rw [this]
      exact get_mid (by simp)
    have ew : IntKind.i64.wrap ((pre.length : Int) + 1) = (pre.length : Int) + 1 := wrap64 (by omega) (by omega)
    have ea : IntKind.i64.wrap ((pr.length : Int) + (pre.length : Int)) = ((pr.length + pre.length : Nat) : Int) := by rw [wrap64 (by omega) (by omega)]; omega
    simp only [runS64] at e2
    have hn2 : n < 262144 := by simp only [bnd] at e3; omega
    have bad : stS r.isEmpty pre.length x (n, en) = none → Q .ret ⟨[(2, .str []), (3, .bool false)], []⟩ := by
      intro h; rw [h] at e2; exact hno e2
    have good : ∀ m en', stS r.isEmpty pre.length x (n, en) = some (m, en') → en' + 2 ≤ max 2 (pre.length + 1) → ∀ st, norm [0, 4, 5, 6, 7, 8] st = ⟨[(0, .str s), (4, V), (5, .int .i64 pr.length), (6, .int .i64 m), (7, .int .i64 en'), (8, .int .i64 ((pre.length : Int) + 1))], H⟩ → LQ st := by
      intro m en' h h2 st hst
      have hm := stS_le h
      rw [h] at e2
      refine hLQ (pre ++ [x], post, m, en') ⟨by simp [e1], by simpa using e2, ?_, by simpa using h2⟩ (by simp) st (by simpa using hst)
      have := bnd_step e3 hi4 hm
      simpa using this
    have hge : (0 : Int) ≤ (pr.length : Int) + (pre.length : Int) := by omega
    have het : ((pr.length : Int) + (pre.length : Int)).toNat = pr.length + pre.length := by omega
    have em : ∀ v : Nat, v < 64 → IntKind.i64.wrap (IntKind.i64.wrap ((n : Int) * 64) + (v : Int)) = ((n * 64 + v : Nat) : Int) := by
      intro v hv
      rw [wrap64 (x := (n : Int) * 64) (by omega) (by omega), wrap64 (by omega) (by omega)]; omega
    have em0 : IntKind.i64.wrap (IntKind.i64.wrap ((n : Int) * 64)) = ((n * 64 : Nat) : Int) := by
      rw [wrap64 (x := (n : Int) * 64) (by omega) (by omega), wrap64 (by omega) (by omega)]; omega
    have e54 : IntKind.i64.wrap ((pr.length : Int) + 4) = (pr.length : Int) + 4 := wrap64 (by omega) (by omega)
    simp -implicitDefEqProofs [b_spec_dBytes64_4, hlt, ea, hx, hge, het]
    refine scan_sp s _ _ _ _ _ x _ ?_
    by_cases hc : x = 61 ∧ 1 < pre.length ∧ r.isEmpty = true
    · obtain ⟨hc1, hc2, hc3⟩ := hc
      have hc1' : (x.toNat : Int) = 61 := by rw [hc1]; rfl
      have hc2' : (1 : Int) < pre.length := by omega
      have hr0 : r = [] := by simpa using hc3
      have hc3' : (pr.length : Int) + 4 = (s.length : Int) := by rw [hr0] at hsl; simp at hsl; omega
      have ews : IntKind.i64.wrap (s.length : Int) = (s.length : Int) := wrap64 (by omega) (by omega)
      have eh : IntKind.i64.wrap ((en : Int) + 1) = (en : Int) + 1 := wrap64 (by omega) (by omega)
      have hg := good (n * 64) (en + 1) (by simp [stS, hc1, hc2, hc3]) (by omega)
      simp -implicitDefEqProofs [t_spec_dBytes64_2, t_spec_dBytes64_3, hc1', hc2', hc3', e54, eh, em0, ew, ews]
      exact hg _ (by simp)
    · have hst : stS r.isEmpty pre.length x (n, en) = if v64 x < 0 ∨ 0 < en then none else some (n * 64 + (v64 x).toNat, en) := by simp only [stS, if_neg hc]
      have hv2 := v64_lt x
      by_cases hv : v64 x < 0 ∨ 0 < en
      · have hb := bad (by rw [hst, if_pos hv])
        by_cases hc1 : x = 61
        · have hc1' : (x.toNat : Int) = 61 := by rw [hc1]; rfl
          have hv1 : v64 x = -1 := by rw [hc1]; exact v64_eq
          by_cases hc2 : 1 < pre.length
          · have hc2' : (1 : Int) < pre.length := by omega
            have hc3' : ¬ (pr.length : Int) + 4 = (s.length : Int) := by
              intro h
              refine hc ⟨hc1, hc2, ?_⟩
              have : r.length = 0 := by omega
              simpa using this
            simp -implicitDefEqProofs [t_spec_dBytes64_2, hc1', hc2', hc3', e54, hv1, hH]
            exact hb
          · have hc2' : ¬ (1 : Int) < pre.length := by omega
            simp -implicitDefEqProofs [t_spec_dBytes64_2, hc1', hc2', hv1, hH]
            exact hb
        · have hc1' : ¬ (x.toNat : Int) = 61 := fun h => hc1 (UInt8.toNat_inj.1 (by show x.toNat = 61; omega))
          by_cases hv0 : v64 x < 0
          · have hv1 : v64 x = -1 := by have := v64_ge x; omega
            simp -implicitDefEqProofs [t_spec_dBytes64_2, hc1', hv1, hH]
            exact hb
          · have hen : (0 : Int) < (en : Int) := by omega
            have henn : 0 < en := by omega
            simp -implicitDefEqProofs [t_spec_dBytes64_2, hc1', hv0, hen, hH]
            exact ⟨fun _ => hb, fun h => by omega⟩
      · have hv0 : ¬ v64 x < 0 := fun h => hv (.inl h)
        have hen : ¬ ((0 : Int) < (en : Int)) := fun h => hv (.inr (by omega))
        obtain ⟨v, hvv⟩ : ∃ v : Nat, v64 x = (v : Int) := ⟨(v64 x).toNat, by omega⟩
        have hvn : ¬ ((v : Int) < 0) := by omega
        have hg := good (n * 64 + v) en (by rw [hst, if_neg hv, hvv]; simp) (by omega)
        have hc1 : ¬ x = 61 := fun e => by rw [e, v64_eq] at hv0; omega
        have hc1' : ¬ (x.toNat : Int) = 61 := fun h => hc1 (UInt8.toNat_inj.1 (by show x.toNat = 61; omega))
        have emv := em v (by omega)
        simp -implicitDefEqProofs [t_spec_dBytes64_2, t_spec_dBytes64_3, hc1', hvv, hvn, hen, emv, ew]
        exact ⟨fun h => absurd (by omega) hen, fun _ => hg _ (by simp)⟩
theorem quadS_len (l : Bool) (a b c d : UInt8) (x : List UInt8) (h : quadS l a b c d = some x) : x.length ≤ 3 := by
  simp only [quadS] at h
  cases hr : runS64 l 0 [a, b, c, d] (0, 0) with
  | none => simp [hr] at h
  | some p => simp only [hr, Option.map_some, Option.some.injEq] at h; subst h; simp [bytes3]

set_option maxHeartbeats 4000000 in
set_option maxRecDepth 100000 in
theorem ok_dBytes64 (Γ : Gam) : ∀ args r, con_dBytes64 args = some r → runs Γ c_spec_dBytes64 args (fun v => v = r) := by
  intro args r h
  simp only [con_dBytes64] at h
  split at h <;> (try simp at h; done)
  rename_i s
  obtain ⟨hs, rfl⟩ := ite_some h
  clear h
  simp only [mid] at hs
  by_cases hm : s.length % 4 = 0
  · have hm' : (s.length : Int).tmod 4 = 0 := by rw [Int.tmod_eq_emod_of_nonneg (by omega)]; omega
    simp -implicitDefEqProofs [c_spec_dBytes64, hm']
    refine awp_loop2 (σ := List UInt8 × List UInt8 × List UInt8) (fun p => ⟨[(0, .str s), (4, grV 78 1 p.2.2.length), (5, .int .i64 p.1.length)], grH 78 p.2.2.length (bcA p.2.2)⟩)
      (fun p => s = p.1 ++ p.2.1 ∧ dec64 quadS s = (dec64 quadS p.2.1).map (p.2.2 ++ ·) ∧ p.2.1.length % 4 = 0 ∧ p.2.2.length ≤ p.1.length) (fun p => p.2.1.length) ([], s, []) (by simp) (by simp [hm]) ?_
    rintro ⟨pre, post, out⟩ ⟨h1, h2, h3, h4⟩ LQ hLQ
    simp only at h1 h2 h3 h4
    match post, h1, h2, h3, hLQ with
    | [], h1, h2, _, hLQ =>
      simp only [List.append_nil] at h1
      subst h1
      have hd : dec64 quadS s = some out := by rw [h2]; simp [dec64]
      cases out with
      | nil => simp -implicitDefEqProofs [b_spec_dBytes64_7, t_spec_dBytes64_8, hd, decS]
      | cons y o =>
        have hlb : (bcA (y :: o)).length = o.length + 1 := by simp [bcA]
        have htk : List.take (o.length + 1) (bcA (y :: o)) = bcA (y :: o) := List.take_of_length_le (by omega)
        have htb : toBytes (bcA (y :: o)) = some (y :: o) := toBytes_bcA
        generalize bcA (y :: o) = B at *
        simp -implicitDefEqProofs [b_spec_dBytes64_7, t_spec_dBytes64_8, hd, decS, hlb, htk, htb]
    | [_], _, _, h3, _ => simp at h3
    | [_, _], _, _, h3, _ => simp at h3
    | [_, _, _], _, _, h3, _ => simp at h3
    | a :: b :: c :: d :: r, h1, h2, h3, hLQ =>
      have hsl : s.length = pre.length + 4 + r.length := by rw [h1]; simp; omega
      have hlt : (pre.length : Int) < s.length := by omega
      simp only [dec64] at h2
      simp -implicitDefEqProofs [b_spec_dBytes64_7, hlt]
      refine quad_sp s pre a b c d r out h1 hs ?_ ?_
      · intro hr
        have : quadS r.isEmpty a b c d = none := by simp [quadS, hr]
        rw [this] at h2
        simp [h2, decS]
      · intro n en hr hn hen
        have hq : quadS r.isEmpty a b c d = some ((bytes3 n).take (3 - en)) := by simp [quadS, hr]
        rw [hq] at h2
        simp only at h2
        have e16 : IntKind.u8.wrap ((n : Int).fdiv (2 ^ min 16 IntKind.i64.bits)) = ((UInt8.ofNat (n / 65536)).toNat : Int) := by
          have : ((n : Int)).fdiv (2 ^ min 16 IntKind.i64.bits) = ((n / 65536 : Nat) : Int) := by simpa [IntKind.bits] using shr_of n 16
          rw [this]; exact byte_of _
        have e8 : IntKind.u8.wrap ((n : Int).fdiv (2 ^ min 8 IntKind.i64.bits)) = ((UInt8.ofNat (n / 256)).toNat : Int) := by
          have : ((n : Int)).fdiv (2 ^ min 8 IntKind.i64.bits) = ((n / 256 : Nat) : Int) := by simpa [IntKind.bits] using shr_of n 8
          rw [this]; exact byte_of _
        have e0 : IntKind.u8.wrap (n : Int) = ((UInt8.ofNat n).toNat : Int) := byte_of n
        have e54 : IntKind.i64.wrap ((pre.length : Int) + 4) = (pre.length : Int) + 4 := wrap64 (by omega) (by omega)
        have fin : ∀ x : List UInt8, x = (bytes3 n).take (3 - en) → x.length ≤ 3 → ∀ st, norm [0, 4, 5] st = ⟨[(0, .str s), (4, grV 78 1 (out.length + x.length)), (5, .int .i64 ((pre.length : Int) + 4))], grH 78 (out.length + x.length) (bcA out ++ bcA x)⟩ → LQ st := by
          intro x hx hxl st hst
          refine hLQ (pre ++ [a, b, c, d], r, out ++ x) ⟨by simp [h1], ?_, by simp only [List.length_cons] at h3; simp only; omega, by simp; omega⟩ (by simp; omega) st (by simpa [bcA] using hst)
          rw [h2, hx, Option.map_map]
          congr 1
          funext z; simp
        have one : ∀ x : List UInt8, x = (bytes3 n).take (3 - en) → x.length ≤ 3 → x ≠ [] → True := fun _ _ _ _ => trivial
        cases out with
        | nil =>
          rcases (by omega : en = 0 ∨ en = 1 ∨ en = 2) with rfl | rfl | rfl
          · have w1 : IntKind.i64.wrap 3 = 3 := rfl
            simp -implicitDefEqProofs [t_spec_dBytes64_5, t_spec_dBytes64_6, e16, e8, e0, w1, e54]
            exact fin _ rfl (by simp [bytes3]) _ (by simp [bytes3, bcA])
          · have w1 : IntKind.i64.wrap 2 = 2 := rfl
            simp -implicitDefEqProofs [t_spec_dBytes64_5, t_spec_dBytes64_6, e16, e8, e0, w1, e54]
            exact fin _ rfl (by simp [bytes3]) _ (by simp [bytes3, bcA])
          · have w1 : IntKind.i64.wrap 1 = 1 := rfl
            simp -implicitDefEqProofs [t_spec_dBytes64_5, t_spec_dBytes64_6, e16, e8, e0, w1, e54]
            exact fin _ rfl (by simp [bytes3]) _ (by simp [bytes3, bcA])
        | cons y o =>
          have hlb : (bcA (y :: o)).length = o.length + 1 := by simp [bcA]
          have htk : List.take (o.length + 1) (bcA (y :: o)) = bcA (y :: o) := List.take_of_length_le (by omega)
          have hat : atoms (bcA (y :: o)) = true := by simp
          have hk : ∀ d, killL d (bcA (y :: o)) = bcA (y :: o) := by intro d; simp
          simp only [List.length_cons] at *
          generalize bcA (y :: o) = B at *
          rcases (by omega : en = 0 ∨ en = 1 ∨ en = 2) with rfl | rfl | rfl
          · have w1 : IntKind.i64.wrap 3 = 3 := rfl
            simp -implicitDefEqProofs [t_spec_dBytes64_5, t_spec_dBytes64_6, e16, e8, e0, w1, e54, hlb, htk, hat, hk]
            exact ⟨by omega, fin _ rfl (by simp [bytes3]) _ (by simp [bytes3, bcA])⟩
          · have w1 : IntKind.i64.wrap 2 = 2 := rfl
            simp -implicitDefEqProofs [t_spec_dBytes64_5, t_spec_dBytes64_6, e16, e8, e0, w1, e54, hlb, htk, hat, hk]
            exact ⟨by omega, fin _ rfl (by simp [bytes3]) _ (by simp [bytes3, bcA])⟩
          · have w1 : IntKind.i64.wrap 1 = 1 := rfl
            simp -implicitDefEqProofs [t_spec_dBytes64_5, t_spec_dBytes64_6, e16, e8, e0, w1, e54, hlb, htk, hat, hk]
            exact ⟨by omega, fin _ rfl (by simp [bytes3]) _ (by simp [bytes3, bcA])⟩
  · have hm' : ¬ (s.length : Int).tmod 4 = 0 := by rw [Int.tmod_eq_emod_of_nonneg (by omega)]; omega
    have hd : dec64 quadS s = none := by
      cases hd : dec64 quadS s with
      | none => rfl
      | some o => exact absurd (dec64_mod hd) hm
    simp -implicitDefEqProofs [c_spec_dBytes64, hm', hd, decS]
end Wax

/- FnDRecords (4): blanks left out; small functions. -/
namespace Wax
open Go (IntKind)

def con_ReplaceAll : List AV → Option AV
  | [.str s, .str [32], .str []] => if s.length < mid then some (.str (noBlank s)) else none
  | _ => none

theorem noBlank_id {a : List UInt8} (h : noB 32 a) : noBlank a = a := by
  simp only [noBlank]
  apply List.filter_eq_self.2
  intro x hx
  have := h x hx
  have : ¬ x.toNat = 32 := by omega
  simp [this]

theorem cutAt_no (n : Int) : ∀ {s : List UInt8}, cutAt n s = none → noB n s
  | [], _ => by simp [noB]
  | y :: s, h => by
    simp only [cutAt] at h
    split at h
    · simp at h
    · rename_i hy
      cases hc : cutAt n s with
      | none =>
        intro x hx
        rcases List.mem_cons.1 hx with rfl | hx
        · exact hy
        · exact cutAt_no n hc x hx
      | some p => simp [hc] at h

theorem noBlank_app (a b : List UInt8) : noBlank (a ++ b) = noBlank a ++ noBlank b := by simp [noBlank]
theorem noBlank_len (a : List UInt8) : (noBlank a).length ≤ a.length := List.length_filter_le _ _

set_option maxHeartbeats 1000000 in
theorem ok_zzReplaceAll (Γ : Gam) (h22 : Γ.fn 22 = con_zzIndex) : ∀ args r, con_ReplaceAll args = some r → runs Γ c_dkim_zzReplaceAll args (fun v => v = r) := by
  intro args r h
  simp only [con_ReplaceAll] at h
  split at h <;> (try simp at h; done)
  rename_i s
  obtain ⟨hs, rfl⟩ := ite_some h
  clear h
  simp only [mid] at hs
  have h1 : 1 < big := by decide
  simp -implicitDefEqProofs [c_dkim_zzReplaceAll, t_dkim_zzReplaceAll_4]
  refine awp_loop2 (σ := List UInt8 × List UInt8) (fun p => ⟨[(0, .str p.2), (1, .str [32]), (2, .str []), (7, outV 58 p.1)], outH 58 p.1⟩)
    (fun p => noBlank s = p.1 ++ noBlank p.2 ∧ p.1.length + p.2.length ≤ s.length) (fun p => p.2.length) ([], s) (by simp) (by simp) ?_
  rintro ⟨done, cur⟩ ⟨hs1, hs2⟩ LQ hLQ
  simp only at hs1 hs2
  have hcb : cur.length < big := by simp only [big]; omega
  simp -implicitDefEqProofs [b_dkim_zzReplaceAll_3, acall, h22, con_zzIndex, hcb, h1]
  simp only [idxV, findAt_one]
  cases hc : cutAt ((32 : UInt8).toNat : Int) cur with
  | none =>
    have e32 := noBlank_id (cutAt_no _ hc)
    rw [e32] at hs1
    rw [hs1]
    by_cases hd : done = []
    · subst hd
      by_cases hcu : cur = []
      · subst hcu; simp [just]
      · simp [List.length_eq_zero_iff, hcu]
        simp at hs2
        omega
    · have h0 : ¬ done.length = 0 := by simpa using hd
      by_cases hcu : cur = []
      · subst hcu; simp [just, outV_ne hd, outH_ne hd, List.take_of_length_le]
      · have h0 : ¬ cur.length = 0 := by simpa using hcu
        have hb : toBytes (bcA done ++ bcA cur) = some (done ++ cur) := by
          rw [← bcA_app]; exact toBytes_bcA
        simp [outV_ne hd, outH_ne hd, List.take_of_length_le, hcu, h0, hb]
        omega
  | some p =>
    obtain ⟨a, c⟩ := p
    obtain ⟨x, hx1, hx2, hx3⟩ := cutAt_eq hc
    subst hx2
    simp at hs2
    have hx4 : x.toNat = 32 := by simp at hx1; omega
    have en : noBlank (a ++ x :: c) = a ++ noBlank c := by
      rw [noBlank_app, noBlank_id hx3]; simp [noBlank, hx4]
    rw [en] at hs1
    have fin : ∀ st, norm [0, 1, 2, 7] st = ⟨[(0, .str c), (1, .str [32]), (2, .str []), (7, outV 58 (done ++ a))], outH 58 (done ++ a)⟩ → LQ st := by
      intro st hst
      exact hLQ (done ++ a, c) ⟨by simpa using hs1, by simp; omega⟩ (by simp; omega) st hst
    have e2 : ((a.length : Int) + 1).toNat = a.length + 1 := by omega
    have hng : ¬ ((a.length : Int) < 0) := by omega
    by_cases ha : a = []
    · subst ha
      by_cases hd : done = []
      · subst hd
        simp (disch := omega) [just, wrap64]
        refine ⟨by omega, by omega, fin _ ?_⟩
        simp
      · simp (disch := omega) [just, wrap64, outV_ne hd, outH_ne hd]
        refine ⟨by omega, by omega, fin _ ?_⟩
        simp [outV_ne hd, outH_ne hd]
    · have h0 : ¬ a.length = 0 := by simpa using ha
      by_cases hd : done = []
      · subst hd
        simp (disch := omega) [just, wrap64, h0, hng]
        refine ⟨by omega, by omega, by omega, fin _ ?_⟩
        simp [outV_ne ha, outH_ne ha]
      · have hda : done ++ a ≠ [] := by simp [hd]
        simp (disch := omega) [just, wrap64, h0, hng, outV_ne hd, outH_ne hd]
        refine ⟨by omega, by omega, by omega, fin _ ?_⟩
        simp [outV_ne hda, outH_ne hda]
end Wax

/- FnDRecords (5): small functions. -/
namespace Wax
open Go (IntKind)

def con_errString : List AV → Option AV
  | [.ptr [.str m]] => some (.str m)
  | _ => none
theorem ok_errString (Γ : Gam) : ∀ args r, con_errString args = some r → runs Γ c_errors_errorString_Error args (fun v => v = r) := by
  intro args r h
  simp only [con_errString] at h
  split at h <;> (try simp at h; done)
  injection h with h; subst h
  simp -implicitDefEqProofs [c_errors_errorString_Error]

def con_sizeOf : List AV → Option AV
  | [.str k, .sl 1 cs] => if cs.length < mid then some (.int .i64 (if k = [101, 100, 50, 53, 53, 49, 57] then 256 else 8 * (cs.length : Int))) else none
  | _ => none
theorem ok_sizeOf (Γ : Gam) : ∀ args r, con_sizeOf args = some r → runs Γ c_impl_sizeOf args (fun v => v = r) := by
  intro args r h
  simp only [con_sizeOf] at h
  split at h <;> (try simp at h; done)
  rename_i k cs
  obtain ⟨hs, rfl⟩ := ite_some h
  clear h
  simp only [mid] at hs
  by_cases hk : k = [101, 100, 50, 53, 53, 49, 57]
  · simp -implicitDefEqProofs [c_impl_sizeOf, hk]
  · have ew : IntKind.i64.wrap (8 * (cs.length : Int)) = 8 * (cs.length : Int) := wrap64 (by omega) (by omega)
    simp -implicitDefEqProofs [c_impl_sizeOf, hk, ew]

def con_IsPermFail : List AV → Option AV
  | [.ifc 5 (.str _)] => some (.bool true)
  | _ => none
theorem ok_IsPermFail (Γ : Gam) : ∀ args r, con_IsPermFail args = some r → runs Γ c_dkim_IsPermFail args (fun v => v = r) := by
  intro args r h
  simp only [con_IsPermFail] at h
  split at h <;> (try simp at h; done)
  injection h with h; subst h
  simp -implicitDefEqProofs [c_dkim_IsPermFail]

def con_codeOf : List AV → Option AV
  | [.ifc 5 (.str _)] => some (.int .i64 2)
  | _ => none
theorem ok_codeOf (Γ : Gam) (h78 : Γ.fn 78 = con_IsPermFail) : ∀ args r, con_codeOf args = some r → runs Γ c_impl_codeOf args (fun v => v = r) := by
  intro args r h
  simp only [con_codeOf] at h
  split at h <;> (try simp at h; done)
  injection h with h; subst h
  simp -implicitDefEqProofs [c_impl_codeOf, acall, h78, con_IsPermFail]

/-- The value of a tag. -/
def findP : List (List UInt8 × List UInt8) → List UInt8 → Option (List UInt8)
  | [], _ => none
  | (i, v) :: r, k => if i = k then some v else findP r k

def valV : Option (List UInt8) → AV
  | some v => .tup [.str v, .bool true]
  | none => .tup [.str [], .bool false]

def con_DValue : List AV → Option AV
  | [u, .str k] => match slPairs u with
    | some l => if l.length < mid then some (valV (findP l k)) else none
    | none => none
  | _ => none

theorem ok_DValue (Γ : Gam) : ∀ args r, con_DValue args = some r → runs Γ c_spec_DValue args (fun v => v = r) := by
  intro args r h
  simp only [con_DValue] at h
  split at h <;> (try simp at h; done)
  rename_i u k
  split at h <;> (try simp at h; done)
  rename_i l hl
  obtain ⟨h1, rfl⟩ := ite_some h
  clear h
  simp only [mid] at h1
  simp -implicitDefEqProofs [-alen, c_spec_DValue]
  refine awp_loop2 (σ := List (List UInt8 × List UInt8) × List (List UInt8 × List UInt8)) (fun p => ⟨[(0, u), (1, .str k), (6, .int .i64 p.1.length)], []⟩)
    (fun p => l = p.1 ++ p.2 ∧ findP l k = findP p.2 k) (fun p => p.2.length) ([], l) (by simp) (by simp) ?_
  rintro ⟨pre, a⟩ ⟨e1, e2⟩ LQ hLQ
  simp only at e1 e2
  rw [e2]
  cases a with
  | nil =>
    have hll : l.length = pre.length := by rw [e1]; simp
    simp -implicitDefEqProofs [-alen, slp_alen hl, hll, b_spec_DValue_1, t_spec_DValue_2, findP, valV]
  | cons x a =>
    obtain ⟨x1, x2⟩ := x
    subst e1
    simp at h1
    have hu := slp_ne hl (by simp)
    subst hu
    have ew : IntKind.i64.wrap ((pre.length : Int) + 1) = (pre.length : Int) + 1 := wrap64 (by omega) (by omega)
    have hlt : (pre.length : Int) < (pre.length : Int) + ((a.length : Int) + 1) := by omega
    have g : (pre ++ (x1, x2) :: a)[pre.length]? = some (x1, x2) := get_mid rfl
    have g2 : ∀ (q : List AV) (z : AV), (pr2 pre ++ z :: q)[pre.length]? = some z := fun q z => get_mid (by simp)
    by_cases hx : x1 = k
    · simp -implicitDefEqProofs [b_spec_DValue_1, ew, g, g2, hlt, hx, findP, valV]
    · simp -implicitDefEqProofs [b_spec_DValue_1, ew, g, g2, hlt, hx]
      exact hLQ (pre ++ [(x1, x2)], a) (by simp only [List.append_assoc, List.cons_append, List.nil_append, true_and]; rw [e2]; simp [findP, hx]) (by simp) _ (by simp)

def con_dAmong : List AV → Option AV
  | [.str k, u] => match slStrs u with
    | some l => if l.length < mid then some (.bool (decide (k ∈ l))) else none
    | none => none
  | _ => none

theorem ok_dAmong (Γ : Gam) : ∀ args r, con_dAmong args = some r → runs Γ c_spec_dAmong args (fun v => v = r) := by
  intro args r h
  simp only [con_dAmong] at h
  split at h <;> (try simp at h; done)
  rename_i k u
  split at h <;> (try simp at h; done)
  rename_i l hl
  obtain ⟨h1, rfl⟩ := ite_some h
  clear h
  simp only [mid] at h1
  simp -implicitDefEqProofs [-alen, c_spec_dAmong]
  refine awp_loop2 (σ := List (List UInt8) × List (List UInt8)) (fun p => ⟨[(0, .str k), (1, u), (5, .int .i64 p.1.length)], []⟩)
    (fun p => l = p.1 ++ p.2 ∧ k ∉ p.1) (fun p => p.2.length) ([], l) (by simp) (by simp) ?_
  rintro ⟨pre, a⟩ ⟨e1, e2⟩ LQ hLQ
  simp only at e1 e2
  cases a with
  | nil =>
    have hll : l.length = pre.length := by rw [e1]; simp
    have hn : ¬ k ∈ l := by rw [e1]; simpa using e2
    simp -implicitDefEqProofs [-alen, slf_alen hl, hll, b_spec_dAmong_1, t_spec_dAmong_2, hn]
  | cons x a =>
    subst e1
    simp at h1
    have hu := slf_ne hl (by simp)
    subst hu
    have ew : IntKind.i64.wrap ((pre.length : Int) + 1) = (pre.length : Int) + 1 := wrap64 (by omega) (by omega)
    have hlt : (pre.length : Int) < (pre.length : Int) + ((a.length : Int) + 1) := by omega
    have g2 : ∀ (q : List AV) (z : AV), (strsA pre ++ z :: q)[pre.length]? = some z := fun q z => get_mid (by simp)
    by_cases hx : x = k
    · subst hx
      simp -implicitDefEqProofs [b_spec_dAmong_1, ew, g2, hlt]
    · simp -implicitDefEqProofs [b_spec_dAmong_1, ew, g2, hlt, hx]
      exact hLQ (pre ++ [x], a) (by simp [e2, Ne.symm hx]) (by simp) _ (by simp)
end Wax

/- FnDRecords (6): a slice of bytes is cloned; the callback of DRecord. -/
namespace Wax
open Go (IntKind)

def bytesOf : List AV → Option (List UInt8)
  | [] => some []
  | .int .u8 n :: r => if 0 ≤ n ∧ n < 256 then (bytesOf r).map (UInt8.ofNat n.toNat :: ·) else none
  | _ :: _ => none

theorem bytesOf_eq : ∀ {cs : List AV} {o : List UInt8}, bytesOf cs = some o → cs = bcA o
  | [], o, h => by simp [bytesOf] at h; subst h; rfl
  | x :: r, o, h => by
    unfold bytesOf at h
    split at h
    · rename_i heq; simp at heq
    · rename_i n r' heq
      simp only [List.cons.injEq] at heq
      obtain ⟨rfl, rfl⟩ := heq
      split at h
      · rename_i hn
        cases hr : bytesOf r with
        | none => simp [hr] at h
        | some o' =>
          simp [hr] at h
          subst h
          rw [bytesOf_eq hr]
          have h2 : n.toNat % 256 = n.toNat := Nat.mod_eq_of_lt (by omega)
          simp [h2]
          omega
      · simp at h
    · simp at h

@[simp] theorem bytesOf_bcA {o : List UInt8} : bytesOf (bcA o) = some o := by
  induction o with
  | nil => rfl
  | cons b r ih =>
    have := b.toNat_lt
    have h1 : 0 ≤ (b.toNat : Int) ∧ (b.toNat : Int) < 256 := by omega
    simp [bytesOf, ih, h1]

theorem flat_bcA {o : List UInt8} : (bcA o).flatMap cells = bcA o := by induction o <;> simp_all

def con_CloneB : List AV → Option AV
  | [.sl 1 cs] => match bytesOf cs with
    | some o => if o.length < mid then some (.sl 1 (bcA o)) else none
    | none => none
  | _ => none

theorem ok_CloneB (Γ : Gam) : ∀ args r, con_CloneB args = some r → runs Γ c_slices_Clone args (fun v => v = r) := by
  intro args r h
  simp only [con_CloneB] at h
  split at h <;> (try simp at h; done)
  rename_i cs
  split at h <;> (try simp at h; done)
  rename_i o ho
  obtain ⟨hs, rfl⟩ := ite_some h
  clear h
  have := bytesOf_eq ho
  subst this
  simp only [mid] at hs
  by_cases h0 : o = []
  · subst h0
    simp -implicitDefEqProofs [c_slices_Clone, just]
  · have h0' : ¬ o.length = 0 := by simpa using h0
    simp -implicitDefEqProofs [c_slices_Clone, h0, h0', flat_bcA, List.take_of_length_le]
    omega

def szOf (k o : List UInt8) : Int := if k = [101, 100, 50, 53, 53, 49, 57] then 256 else 8 * (o.length : Int)

def con_DRecord1 : List AV → List (Nat × AObj) → Option (AV × List (Nat × AObj))
  | [.str k, .sl 1 cs, .ref 0 0], [(0, .cells [.str [], .nilS, .int .i64 0, .nilS, .nilS, .nilS, .str [], .bool false, .bool false])] => match bytesOf cs with
    | some o => if o.length < mid then some (.tup [.ifc 6 (.agg [.str k, .sl 1 (bcA o)]), .int .i64 (szOf k o), .nilI], [(0, .cells [.str [], .sl 1 (bcA o), .int .i64 (szOf k o), .nilS, .nilS, .nilS, .str [], .bool false, .bool false])]) else none
    | none => none
  | _, _ => none

theorem ok_DRecord1 (Γ : Gam) (h76 : Γ.fn 76 = con_CloneB) (h77 : Γ.fn 77 = con_sizeOf) : ∀ args hp q, con_DRecord1 args hp = some q → runsS Γ c_impl_DRecord_1 args hp (fun v => v = some q) := by
  intro args hp q h
  unfold con_DRecord1 at h
  split at h <;> (try simp at h; done)
  rename_i k cs
  split at h <;> (try simp at h; done)
  rename_i o ho
  obtain ⟨hs, rfl⟩ := ite_some h
  clear h
  have := bytesOf_eq ho
  subst this
  have k76 : con_CloneB [.sl 1 (bcA o)] = some (.sl 1 (bcA o)) := by simp [con_CloneB, hs]
  have k77 : con_sizeOf [.str k, .sl 1 (bcA o)] = some (.int .i64 (szOf k o)) := by simp [con_sizeOf, hs, szOf]
  simp -implicitDefEqProofs [c_impl_DRecord_1, acall, h76, h77, k76, k77, reach_succ]
end Wax

/- FnDRecords (7): dkim.parsePublicKey. -/
namespace Wax
open Go (IntKind)

theorem lookA_true : ∀ (l : List (List UInt8 × List UInt8)) (k : List UInt8), lookA (pmA l) k (.str []) true = valV (findP l k)
  | [], k => rfl
  | (i, v) :: r, k => by
    have ih := lookA_true r k
    by_cases h : k = i
    · simp [pmA, lookA, mfind, findP, h, valV]
    · have h' : ¬ i = k := fun e => h e.symm
      simp only [pmA, List.map_cons, lookA, mfind, findP, if_neg h, if_neg h'] at ih ⊢
      exact ih

/-- The list that a tag's value says. -/
def tagVal (x : Option (List UInt8)) : AV := match x with
  | none => .nilS
  | some s => .sl 1 (strsA (tagL s))
def servVal (x : Option (List UInt8)) : AV := match x with
  | none => .nilS
  | some s => if [42] ∈ tagL s then .nilS else .sl 1 (strsA (tagL s))
def noteVal (x : Option (List UInt8)) : AV := .str (x.getD [])

/-- What was made of the callback's argument. -/
def kcells (k b : List UInt8) : List AV := [.str [], .sl 1 (bcA b), .int .i64 (szOf k b), .nilS, .nilS, .nilS, .str [], .bool false, .bool false]
def rcells (k b : List UInt8) (h n s t : AV) : List AV := [.ifc 6 (.agg [.str k, .sl 1 (bcA b)]), .str k, h, n, s, t]

def tagOk (x : Option (List UInt8)) : Prop := ∀ s, x = some s → s.length < mid ∧ ascii s = true

set_option maxHeartbeats 1000000 in
theorem pk_54 {Γ : Gam} {Q : APost} (h24 : Γ.fn 24 = con_parseTagList) (acc : List (List UInt8 × List UInt8)) (k b : List UInt8) (h s : AV) (n : List UInt8) (hh : hasRef h = false) (hs : hasRef s = false) (hT : tagOk (findP acc [116]))
    (hQ : Q .ret ⟨[(4, .ptr (rcells k b h (.str n) s (tagVal (findP acc [116])))), (5, .nilI)], [(1000000, .cells (kcells k b))]⟩) :
    ∀ ex, awp Γ f_dkim_parsePublicKey_3 Q ⟨(6, .mp (pmA acc)) :: (8, .ref 43 0) :: ex, [(1000000, .cells (kcells k b)), (43, .cells (rcells k b h (.str n) s .nilS))]⟩ := by
  intro ex
  cases ht : findP acc [116] with
  | none =>
    rw [ht] at hQ
    simp -implicitDefEqProofs [f_dkim_parsePublicKey_3, lookA_true, ht, valV, rcells, kcells, hh, hs]
    exact hQ
  | some v =>
    rw [ht] at hQ
    have k24 : con_parseTagList [.str v] = some (.sl 1 (strsA (tagL v))) := if_pos (hT v ht)
    simp -implicitDefEqProofs [f_dkim_parsePublicKey_3, lookA_true, ht, valV, rcells, kcells, acall, h24, k24, hh, hs]
    exact hQ

set_option maxHeartbeats 1000000 in
theorem pk_42 {Γ : Gam} {Q : APost} (h24 : Γ.fn 24 = con_parseTagList) (acc : List (List UInt8 × List UInt8)) (k b : List UInt8) (h : AV) (n : List UInt8) (hh : hasRef h = false) (hT : tagOk (findP acc [116])) (hS : tagOk (findP acc [115]))
    (hQ : Q .ret ⟨[(4, .ptr (rcells k b h (.str n) (servVal (findP acc [115])) (tagVal (findP acc [116])))), (5, .nilI)], [(1000000, .cells (kcells k b))]⟩) :
    ∀ ex, awp Γ f_dkim_parsePublicKey_4 Q ⟨(6, .mp (pmA acc)) :: (8, .ref 43 0) :: ex, [(1000000, .cells (kcells k b)), (43, .cells (rcells k b h (.str n) .nilS .nilS))]⟩ := by
  intro ex
  cases ht : findP acc [115] with
  | none =>
    rw [ht] at hQ
    simp -implicitDefEqProofs [f_dkim_parsePublicKey_4, lookA_true, ht, valV]
    exact pk_54 h24 acc k b h .nilS n hh (by simp) hT hQ _
  | some v =>
    rw [ht] at hQ
    have k24 : con_parseTagList [.str v] = some (.sl 1 (strsA (tagL v))) := if_pos (hS v ht)
    have hv := (hS v ht).1
    have htl : (tagL v).length ≤ v.length + 1 := by simp only [tagL, List.length_map]; exact splitB_length 58 v
    simp only [mid] at hv
    simp -implicitDefEqProofs [f_dkim_parsePublicKey_4, lookA_true, ht, valV, acall, h24, k24]
    refine awp_loop2 (σ := List (List UInt8) × List (List UInt8)) (fun p => ⟨[(6, .mp (pmA acc)), (8, .ref 43 0), (26, .sl 1 (strsA (tagL v))), (27, .bool false), (172, .sl 1 (strsA (tagL v))), (173, .int .i64 (tagL v).length), (174, .int .i64 p.1.length)], [(1000000, .cells (kcells k b)), (43, .cells (rcells k b h (.str n) .nilS .nilS))]⟩)
      (fun p => tagL v = p.1 ++ p.2 ∧ [42] ∉ p.1) (fun p => p.2.length) ([], tagL v) (by simp) (by simp) ?_
    rintro ⟨pre, post⟩ ⟨e1, e2⟩ LQ hLQ
    simp only at e1 e2
    have hlen : (tagL v).length = pre.length + post.length := by rw [e1]; simp
    cases post with
    | nil =>
      have hn : ¬ [42] ∈ tagL v := by rw [e1]; simpa using e2
      have hlen' : (tagL v).length = pre.length := by simpa using hlen
      simp only [servVal, if_neg hn] at hQ
      simp -implicitDefEqProofs [b_dkim_parsePublicKey_1, t_dkim_parsePublicKey_2, hlen', rcells]
      exact pk_54 h24 acc k b h _ n hh (by simp) hT hQ _
    | cons x post =>
      simp at hlen
      have ew : IntKind.i64.wrap ((pre.length : Int) + 1) = (pre.length : Int) + 1 := wrap64 (by omega) (by omega)
      have hlt : (pre.length : Int) < ((tagL v).length : Int) := by omega
      have g2 : (tagL v)[pre.length]? = some x := by rw [e1]; exact get_mid rfl
      by_cases hx : x = [42]
      · have hn : [42] ∈ tagL v := by rw [e1]; simp [hx]
        simp only [servVal, if_pos hn] at hQ
        simp -implicitDefEqProofs [b_dkim_parsePublicKey_1, t_dkim_parsePublicKey_2, hlt, g2, hx]
        exact pk_54 h24 acc k b h _ n hh (by simp) hT hQ _
      · simp -implicitDefEqProofs [b_dkim_parsePublicKey_1, hlt, g2, hx, ew]
        exact hLQ (pre ++ [x], post) ⟨by simp [e1], by simp [e2, Ne.symm hx]⟩ (by simp) _ (by simp)

set_option maxHeartbeats 1000000 in
theorem pk_39 {Γ : Gam} {Q : APost} (h24 : Γ.fn 24 = con_parseTagList) (acc : List (List UInt8 × List UInt8)) (k b : List UInt8) (h : AV) (hh : hasRef h = false) (hT : tagOk (findP acc [116])) (hS : tagOk (findP acc [115]))
    (hQ : Q .ret ⟨[(4, .ptr (rcells k b h (noteVal (findP acc [110])) (servVal (findP acc [115])) (tagVal (findP acc [116])))), (5, .nilI)], [(1000000, .cells (kcells k b))]⟩) :
    ∀ ex, awp Γ f_dkim_parsePublicKey_5 Q ⟨(6, .mp (pmA acc)) :: (8, .ref 43 0) :: ex, [(1000000, .cells (kcells k b)), (43, .cells (rcells k b h (.str []) .nilS .nilS))]⟩ := by
  intro ex
  cases ht : findP acc [110] with
  | none =>
    rw [ht] at hQ
    simp -implicitDefEqProofs [f_dkim_parsePublicKey_5, lookA_true, ht, valV]
    exact pk_42 h24 acc k b h [] hh hT hS hQ _
  | some v =>
    rw [ht] at hQ
    simp -implicitDefEqProofs [f_dkim_parsePublicKey_5, lookA_true, ht, valV, rcells]
    exact pk_42 h24 acc k b h v hh hT hS hQ _

set_option maxHeartbeats 1000000 in
theorem pk_36 {Γ : Gam} {Q : APost} (h24 : Γ.fn 24 = con_parseTagList) (acc : List (List UInt8 × List UInt8)) (k b : List UInt8) (hT : tagOk (findP acc [116])) (hS : tagOk (findP acc [115])) (hH : tagOk (findP acc [104]))
    (hQ : Q .ret ⟨[(4, .ptr (rcells k b (tagVal (findP acc [104])) (noteVal (findP acc [110])) (servVal (findP acc [115])) (tagVal (findP acc [116])))), (5, .nilI)], [(1000000, .cells (kcells k b))]⟩) :
    ∀ ex, awp Γ f_dkim_parsePublicKey_6 Q ⟨(6, .mp (pmA acc)) :: (8, .ref 43 0) :: ex, [(1000000, .cells (kcells k b)), (43, .cells (rcells k b .nilS (.str []) .nilS .nilS))]⟩ := by
  intro ex
  cases ht : findP acc [104] with
  | none =>
    rw [ht] at hQ
    simp -implicitDefEqProofs [f_dkim_parsePublicKey_6, lookA_true, ht, valV]
    exact pk_39 h24 acc k b .nilS (by simp) hT hS hQ _
  | some v =>
    rw [ht] at hQ
    have k24 : con_parseTagList [.str v] = some (.sl 1 (strsA (tagL v))) := if_pos (hH v ht)
    simp -implicitDefEqProofs [f_dkim_parsePublicKey_6, lookA_true, ht, valV, rcells, acall, h24, k24]
    exact pk_39 h24 acc k b (.sl 1 (strsA (tagL v))) (by simp) hT hS hQ _
end Wax

/- strings.Join, as the kit's shelf has it, for the engine. -/
namespace Wax
open Go Go.RowKit

theorem repSl_strs {T : Tab} {w : World} {F : Frz} {b : Nat} : ∀ (l : List (List UInt8)) (o : Nat), RepSl T w F 1 b o (strsA l) → ∀ (j : Nat) (s : List UInt8), l[j]? = some s → F b ∧ w.cell? ⟨b, o + j, none⟩ = some (.string ⟨s.toArray⟩)
  | [], _, _, j, s, h => by simp at h
  | x :: r, o, h, j, s, hj => by
    simp only [strsA, List.map_cons, RepSl] at h
    cases j with
    | zero =>
      simp at hj; subst hj
      obtain ⟨_, ⟨hF, v, hv, hr⟩, _⟩ := h
      simp only [Rep] at hr
      subst hr
      exact ⟨hF, by simpa using hv⟩
    | succ j =>
      have := repSl_strs r (o + 1) h.2.2 j s (by simpa using hj)
      rw [show o + (j + 1) = o + 1 + j by omega]
      exact this

theorem joinB_lib : ∀ (l : List (List UInt8)), joinB l = Go.Lib.join l [32]
  | [] => rfl
  | x :: r => by
    rw [joinB_cons, Go.Lib.join_cons]
    congr 1
    cases r with
    | nil => rfl
    | cons y r =>
      have := joinB_lib (y :: r)
      rw [Go.Lib.join_cons] at this
      simp only [J2, Go.Lib.joinTail, List.map_cons, List.flatten_cons] at this ⊢
      simp [this]

/-- What the shelf says of strings.Join, in one piece. -/
def JoinSays (P : Program) (f : FuncId) : Prop :=
  (∀ (a : Option Addr) (c : Nat) (sep : ByteArray) (w : World), Calls P f #[.slice a 0 c, .string sep] w fun e w' => e = .returned (.string ⟨#[]⟩) ∧ w' = w) ∧
  ∀ (bk o c : Nat) (xs : List ByteArray) (sep : ByteArray) (w : World), (∀ (j : Nat) x, xs[j]? = some x → w.cell? ⟨bk, o + j, none⟩ = some (.string x)) → bk < w.heap.size → xs.length ≤ 140737488355328 → xs.length ≤ c →
    (Go.Lib.join (xs.map (·.data.toList)) sep.data.toList).length ≤ 140737488355328 →
    Calls P f #[.slice (some ⟨bk, o, none⟩) xs.length c, .string sep] w fun e w' => e = .returned (.string ⟨(Go.Lib.join (xs.map (·.data.toList)) sep.data.toList).toArray⟩) ∧ Below w.heap.size w w'

theorem joinTail_length (r : List (List UInt8)) : r.length ≤ (Go.Lib.joinTail [32] r).length := by
  induction r with
  | nil => simp [Go.Lib.joinTail]
  | cons x r ih => simp only [Go.Lib.joinTail, List.map_cons, List.flatten_cons, List.length_append, List.length_cons] at ih ⊢; omega

theorem ok_Join {P : Program} {T : Tab} {f : FuncId} (H : JoinSays P f) : ∀ args r, con_Join args = some r → OkCall P T f args r := by
  intro args r h w F vs hF _ hx
  simp only [con_Join] at h
  split at h <;> (try simp at h; done)
  rename_i v
  split at h <;> (try simp at h; done)
  rename_i l hl
  obtain ⟨hlen, rfl⟩ := ite_some h
  clear h
  match vs, hx with
  | [u, u'], hx =>
    simp only [RepL, and_true] at hx
    obtain ⟨h1, h2⟩ := hx
    simp only [Rep] at h2
    subst h2
    cases v <;> simp [slStrs] at hl
    · subst hl
      simp only [Rep] at h1
      subst h1
      refine (H.1 none 0 _ w).mono ?_
      rintro e w' ⟨rfl, rfl⟩
      exact ⟨_, rfl, Below.refl _ _, by simp [Rep, joinB]⟩
    · rename_i es xs
      obtain ⟨rfl, hl⟩ := hl
      have := asStrs_spec hl
      subst this
      simp only [Rep] at h1
      obtain ⟨b, o, cap, rfl, hcap, hsl⟩ := h1
      cases l with
      | nil =>
        refine (H.1 _ cap _ w).mono ?_
        rintro e w' ⟨rfl, rfl⟩
        exact ⟨_, rfl, Below.refl _ _, by simp [Rep, joinB]⟩
      | cons x0 l =>
        have hc := repSl_strs (x0 :: l) o hsl
        have hb : b < w.heap.size := hF b (hc 0 x0 rfl).1
        have hn : (x0 :: l).length ≤ (joinB (x0 :: l)).length + 1 := by
          rw [joinB_lib, Go.Lib.join_cons]
          have := joinTail_length l
          simp; omega
        simp only [mid] at hlen
        have e1 : ((x0 :: l).map fun s => (⟨s.toArray⟩ : ByteArray)).map (·.data.toList) = x0 :: l := by
          have : ((fun x : ByteArray => x.data.toList) ∘ fun s : List UInt8 => (⟨s.toArray⟩ : ByteArray)) = id := by funext s; simp
          rw [List.map_map, this, List.map_id]
        have := H.2 b o cap ((x0 :: l).map fun s => (⟨s.toArray⟩ : ByteArray)) ⟨#[32]⟩ w (fun j x hj => by
          rw [List.getElem?_map] at hj
          cases hq : (x0 :: l)[j]? with
          | none => rw [hq] at hj; simp at hj
          | some s => rw [hq] at hj; simp at hj; subst hj; exact (hc j s hq).2) hb (by simp only [List.length_map]; omega) (by simpa using hcap) (by rw [e1]; show (Go.Lib.join (x0 :: l) [32]).length ≤ _; rw [← joinB_lib]; omega)
        rw [e1] at this
        have e2 : ((x0 :: l).map fun s => (⟨s.toArray⟩ : ByteArray)).length = (strsA (x0 :: l)).length := by simp
        rw [e2] at this
        refine this.mono ?_
        rintro e w' ⟨rfl, hbl⟩
        refine ⟨_, rfl, hbl, ?_⟩
        simp only [Rep]
        rw [joinB_lib]
end Wax

/- slices.Clone of texts, as the kit's shelf has it, for the engine. -/
namespace Wax
open Go Go.RowKit

/-- What the shelf says of slices.Clone at []string, in one piece. -/
def CloneSays (P : Program) (f : FuncId) : Prop :=
  ∃ e9 : TypeId,
  (∀ (n c : Nat) (w : World), Calls P f #[.slice none n c] w fun e w' => e = .returned (.slice none 0 0) ∧ w' = w) ∧
  (∀ (a : Addr) (c : Nat) (w : World), Calls P f #[.slice (some a) 0 c] w fun e w' => ∃ v', e = .returned v' ∧ w'.ownsRow w.heap.size e9 1 v' 0 [] ∧ v' ≠ .slice none 0 0 ∧ Below w.heap.size w w') ∧
  ∀ (b off n c : Nat) (zs : List ByteArray) (w : World), n ≤ zs.length → n * 16 ≤ 140737488355328 → (∀ j, j < zs.length → w.cell? ⟨b, off + j, none⟩ = some (.string (zs.getD j ByteArray.empty))) →
    Calls P f #[.slice (some ⟨b, off, none⟩) n c] w fun e w' => ∃ v', e = .returned v' ∧ w'.ownsRow w.heap.size e9 1 v' n ((zs.take n).map (Value.string)) ∧ v' ≠ .slice none 0 0 ∧ Below w.heap.size w w'

def con_Clone : List AV → Option AV
  | [u] => match slStrs u with
    | some l => if l.length < mid then some u else none
    | none => none
  | _ => none

theorem repSl_mk {T : Tab} {w : World} {F : Frz} {b : Nat} (hF : F b) : ∀ (l : List (List UInt8)) (o : Nat), (∀ (j : Nat) s, l[j]? = some s → w.cell? ⟨b, o + j, none⟩ = some (.string ⟨s.toArray⟩)) → RepSl T w F 1 b o (strsA l)
  | [], _, _ => trivial
  | x :: r, o, h => by
    simp only [strsA, List.map_cons, RepSl]
    refine ⟨trivial, ⟨hF, _, by simpa using h 0 x rfl, by simp [Rep]⟩, ?_⟩
    exact repSl_mk hF r (o + 1) fun j s hj => by
      rw [show o + 1 + j = o + (j + 1) by omega]
      exact h (j + 1) s (by simpa using hj)

theorem owned_strs {T : Tab} {w w' : World} {F : Frz} {e9 : TypeId} {v' : Value} {l : List (List UInt8)} (ho : w'.ownsRow w.heap.size e9 1 v' l.length (l.map fun s => Value.string ⟨s.toArray⟩)) (hn : v' ≠ .slice none 0 0) :
    Rep T w' (fun b => F b ∨ (w.heap.size ≤ b ∧ b < w'.heap.size)) noRho (.sl 1 (strsA l)) v' := by
  have ho' := ho
  obtain ⟨_, hx⟩ := ho
  rcases hx with ⟨he, _⟩ | ⟨g, cap, cur, rfl, hg, hh, hcap, _, _, _⟩
  · exact absurd he hn
  · simp only [Rep]
    refine ⟨g, 0, cap, by simp, by simpa using hcap, ?_⟩
    have hgl : g < w'.heap.size := by
      rcases Nat.lt_or_ge g w'.heap.size with h | h
      · exact h
      · rw [Array.getElem?_eq_none h] at hh; simp at hh
    refine repSl_mk (.inr ⟨hg, hgl⟩) l 0 fun j s hj => ?_
    have := ho'.cells (g := g) rfl j (.string ⟨s.toArray⟩) (by rw [List.getElem?_map, hj]; rfl)
    have e : ((⟨g, 0, none⟩ : Addr).add j) = ⟨g, 0 + j, none⟩ := by
      cases j <;> simp [Addr.add]
    rw [e] at this
    exact this

theorem ok_Clone {P : Program} {T : Tab} {f : FuncId} (H : CloneSays P f) : ∀ args r, con_Clone args = some r → OkCall P T f args r := by
  intro args r h w F vs hF _ hx
  obtain ⟨e9, H1, H2, H3⟩ := H
  simp only [con_Clone] at h
  split at h <;> (try simp at h; done)
  rename_i u
  split at h <;> (try simp at h; done)
  rename_i l hl
  obtain ⟨hlen, rfl⟩ := ite_some h
  clear h
  simp only [mid] at hlen
  match vs, hx with
  | [v], hx =>
    simp only [RepL, and_true] at hx
    rcases slStrs_cases hl with ⟨rfl, rfl⟩ | rfl
    · simp only [Rep] at hx
      subst hx
      refine (H1 0 0 w).mono ?_
      rintro e w' ⟨rfl, rfl⟩
      exact ⟨_, rfl, Below.refl _ _, by simp [Rep]⟩
    · simp only [Rep] at hx
      obtain ⟨b, o, cap, rfl, hcap, hsl⟩ := hx
      cases l with
      | nil =>
        refine (H2 _ cap w).mono ?_
        rintro e w' ⟨v', rfl, ho, hn, hbl⟩
        exact ⟨_, rfl, hbl, owned_strs (e9 := e9) (l := []) (by simpa using ho) hn⟩
      | cons x0 l =>
        have hc := repSl_strs (x0 :: l) o hsl
        have hH := H3 b o (x0 :: l).length cap ((x0 :: l).map fun s => (⟨s.toArray⟩ : ByteArray)) w (by simp) (by omega) (fun j hj => by
          have hj' : j < (x0 :: l).length := by simpa using hj
          have := (hc j _ (List.getElem?_eq_getElem hj')).2
          rw [this, List.getD_eq_getElem?_getD, List.getElem?_map, List.getElem?_eq_getElem hj']; rfl)
        have e2 : (strsA (x0 :: l)).length = (x0 :: l).length := by simp
        rw [e2]
        refine hH.mono ?_
        rintro e w' ⟨v', rfl, ho, hn, hbl⟩
        refine ⟨_, rfl, hbl, owned_strs (e9 := e9) (l := x0 :: l) ?_ hn⟩
        have e3 : ((x0 :: l).map fun s => (⟨s.toArray⟩ : ByteArray)).take (x0 :: l).length = (x0 :: l).map fun s => (⟨s.toArray⟩ : ByteArray) := List.take_of_length_le (by simp)
        rw [e3, List.map_map] at ho
        exact ho
end Wax

/- strconv.ParseInt, as the kit's shelf has it, for the engine. -/
namespace Wax
open Go Go.RowKit

/-- Neither a number nor one that is too great. -/
def badEnd (x : Lib.NumEnd Int) : Prop := (∀ v, x ≠ .ok v) ∧ x ≠ .range

/-- What the shelf says of strconv.ParseInt(s, 10, 64), in one piece; the two package variables that it reads bear interface values. -/
def ParseIntSays (P : Program) (T : Tab) (f : FuncId) : Prop :=
  ∃ (e5 tE : TypeId) (gS gR : Nat), lkN T.tys tE = some 4 ∧ lkGl T.gl gS = some [.ifc 3 .junk] ∧ lkGl T.gl gR = some [.ifc 3 .junk] ∧
  (∀ (s : ByteArray) (_ : s.size ≤ 9223372036854775806) (v : Int) (_ : Lib.parseIntB 64 s.data.toList = .ok v) (w : World),
    Calls P f #[.string s, .int .i64 10, .int .i64 64] w fun e w' => e = .returned (.tuple #[.int .i64 v, .nilIface]) ∧ (w' = w ∨ ∃ t, w' = Lib.bytesWorld w e5 t)) ∧
  (∀ (s : ByteArray) (_ : s.size ≤ 281474976710656) (_ : badEnd (Lib.parseIntB 64 s.data.toList)) (ev : Value) (w : World) (_ : w.cell? ⟨gS, 0, none⟩ = some ev) (_ : ev = .nilIface ∨ ∃ te pe, ev = .iface te pe),
    Calls P f #[.string s, .int .i64 10, .int .i64 64] w fun e w' => ∃ x y, e = .returned (.tuple #[x, .iface tE y]) ∧ Below w.heap.size w w') ∧
  (∀ (s : ByteArray) (_ : s.size ≤ 281474976710656) (_ : Lib.parseIntB 64 s.data.toList = .range) (ev : Value) (w : World) (_ : w.cell? ⟨gR, 0, none⟩ = some ev) (_ : ev = .nilIface ∨ ∃ te pe, ev = .iface te pe),
    Calls P f #[.string s, .int .i64 10, .int .i64 64] w fun e w' => ∃ x y, e = .returned (.tuple #[x, .iface tE y]) ∧ Below w.heap.size w w')

def numV : Lib.NumEnd Int → AV
  | .ok v => .tup [.int .i64 v, .nilI]
  | _ => .tup [.junk, .ifc 4 .junk]

def con_ParseInt : List AV → Option AV
  | [.str s, .int .i64 n, .int .i64 m] => if s.length < mid ∧ n = 10 ∧ m = 64 then some (numV (Lib.atoiAll s)) else none
  | _ => none

theorem globErr {T : Tab} {w : World} {F : Frz} {g : Nat} (hgl : GlobOk T w F) (hg : lkGl T.gl g = some [.ifc 3 .junk]) : ∃ ev, w.cell? ⟨g, 0, none⟩ = some ev ∧ (ev = .nilIface ∨ ∃ te pe, ev = .iface te pe) := by
  have h := (hgl g _ hg).1
  simp only [RepAt, Rep, and_true] at h
  obtain ⟨_, x, hx, t, y, rfl, _⟩ := h
  exact ⟨_, hx, .inr ⟨t, y, rfl⟩⟩

theorem below_bytesW (w : World) (e : TypeId) (s : ByteArray) : Below w.heap.size w (Lib.bytesWorld w e s) :=
  ⟨rfl, rfl, rfl, by rw [Lib.bytesWorld_size]; omega, fun j hj => Lib.bytesWorld_at_old w e s j hj⟩

theorem ok_ParseInt {P : Program} {T : Tab} {f : FuncId} (H : ParseIntSays P T f) : ∀ args r, con_ParseInt args = some r → OkCall P T f args r := by
  intro args r h w F vs hF hgl hx
  obtain ⟨e5, tE, gS, gR, ht, hgS, hgR, H1, H2, H3⟩ := H
  simp only [con_ParseInt] at h
  split at h <;> (try simp at h; done)
  rename_i s n m
  obtain ⟨⟨hlen, rfl, rfl⟩, rfl⟩ := ite_some h
  clear h
  simp only [mid] at hlen
  match vs, hx with
  | [v1, v2, v3], hx =>
    simp only [RepL, and_true, Rep] at hx
    obtain ⟨rfl, rfl, rfl⟩ := hx
    have hsz : (⟨s.toArray⟩ : ByteArray).size = s.length := by show s.toArray.size = _; simp
    have he : Lib.parseIntB 64 (⟨s.toArray⟩ : ByteArray).data.toList = Lib.atoiAll s := by rw [Lib.parseIntB_64]
    have bad : ∀ e w', (∃ x y, e = Ending.returned (.tuple #[x, .iface tE y]) ∧ Below w.heap.size w w') → ∃ v, e = .returned v ∧ Below w.heap.size w w' ∧ Rep T w' (fun b => F b ∨ (w.heap.size ≤ b ∧ b < w'.heap.size)) noRho (.tup [.junk, .ifc 4 .junk]) v := by
      rintro e w' ⟨x, y, rfl, hb⟩
      refine ⟨_, rfl, hb, _, rfl, ?_⟩
      simp only [RepL, Rep, and_true, true_and]
      exact ⟨tE, y, rfl, ht⟩
    cases hq : Lib.atoiAll s with
    | ok v =>
      refine (H1 _ (by omega) v (by rw [he, hq]) w).mono ?_
      rintro e w' ⟨rfl, hw⟩
      refine ⟨_, rfl, ?_, ?_⟩
      · rcases hw with rfl | ⟨t, rfl⟩
        · exact Below.refl _ _
        · exact below_bytesW _ _ _
      · exact ⟨_, rfl, by simp [RepL, Rep]⟩
    | range =>
      obtain ⟨ev, h1, h2⟩ := globErr hgl hgR
      exact (H3 _ (by omega) (by rw [he, hq]) ev w h1 h2).mono (bad · ·)
    | _ =>
      obtain ⟨ev, h1, h2⟩ := globErr hgl hgS
      exact (H2 _ (by omega) (by rw [he, hq]; exact ⟨fun v h => (by cases h), fun h => (by cases h)⟩) ev w h1 h2).mono (bad ·  ·)
/-- .. is the third one. -/
theorem badEnd_eq {x y : Lib.NumEnd Int} (h : badEnd x) (hy : badEnd y := by exact ⟨fun v h => (by cases h), fun h => (by cases h)⟩) : x = y := by
  cases x <;> cases y <;> first | rfl | exact absurd rfl (h.1 _) | exact absurd rfl h.2 | exact absurd rfl (hy.1 _) | exact absurd rfl hy.2
end Wax

