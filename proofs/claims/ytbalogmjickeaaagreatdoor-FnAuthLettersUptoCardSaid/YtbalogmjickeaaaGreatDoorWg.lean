/- The machine by which the functions are read, and what is proved of them (part 7): no premise. -/
import Derived.WideShapes
import Derived.SliceStrings
import Derived.OpenShut
import Derived.Lib.LaidTab
import Derived.Deep.SlicePairs
import Derived.ChangeArms
import Derived.Lib.SmallJoins
import Derived.Laws.OwnMore
import Derived.Maps.Own
import Derived.Sort.KeysCollected
import Derived.Test.YtbalogmjickeaaaGreatDoorWf
set_option linter.all false
namespace Wax
open Go (IntKind)

def arSame (a b : AR) : Bool := decide (a.norm = b.norm)
theorem arSame_iff {a b : AR} : arSame a b = true ↔ a.norm = b.norm := by simp [arSame]
theorem norm_eq_iff {a b : AR} : a.norm = b.norm ↔ ((a.ps.getD [] = b.ps.getD []) ∧ a.kind = b.kind ∧ a.method = b.method ∧ a.value = b.value ∧ a.reason = b.reason ∧ a.domain = b.domain ∧ a.ident = b.ident ∧ a.fr = b.fr ∧ a.sender = b.sender ∧ a.ip = b.ip ∧ a.helo = b.helo ∧ a.auth = b.auth ∧ a.hkey = b.hkey ∧ a.hval = b.hval ∧ a.remote = b.remote ∧ a.oldest = b.oldest) := by
  have hn : nilO (a.ps.getD []) = nilO (b.ps.getD []) ↔ a.ps.getD [] = b.ps.getD [] := by
    constructor
    · intro h
      have := congrArg (fun x => x.getD []) h
      simpa [nilO_getD] using this
    · intro h; rw [h]
  simp only [AR.norm, AR.mk.injEq, hn]
  constructor
  · rintro ⟨h0, h1, h2, h3, h4, h5, h6, h7, h8, h9, h10, h11, h12, h13, h14, z⟩
    exact ⟨z, h0, h1, h2, h3, h4, h5, h6, h7, h8, h9, h10, h11, h12, h13, h14⟩
  · rintro ⟨z, h0, h1, h2, h3, h4, h5, h6, h7, h8, h9, h10, h11, h12, h13, h14⟩
    exact ⟨h0, h1, h2, h3, h4, h5, h6, h7, h8, h9, h10, h11, h12, h13, h14, z⟩
def con_ASame : List AV → Option AV
  | [.agg x, .agg y] => match asAR x, asAR y with
    | some a, some b => if (a.ps.getD []).length < half ∧ (b.ps.getD []).length < half then some (.bool (arSame a b)) else none
    | _, _ => none
  | _ => none

set_option maxRecDepth 100000 in
set_option maxHeartbeats 4000000 in
theorem as_tail (Γ : Gam) (u v : AV) (a1 b1 a2 b2 a3 b3 a4 b4 a5 b5 a6 b6 a7 b7 a8 b8 a9 b9 a10 b10 a11 b11 a12 b12 a13 b13 : L8) (a0 b0 a14 b14 : Int) (ex : List (Nat × AV)) (R : Bool) (hR : R = decide (a0 = b0 ∧ a1 = b1 ∧ a2 = b2 ∧ a3 = b3 ∧ a4 = b4 ∧ a5 = b5 ∧ a6 = b6 ∧ a7 = b7 ∧ a8 = b8 ∧ a9 = b9 ∧ a10 = b10 ∧ a11 = b11 ∧ a12 = b12 ∧ a13 = b13 ∧ a14 = b14)) :
    awp Γ t_spec_ASame_2 (finQ [.t 4] fun w => w = .bool R) ⟨(2, .ptr [.int .i64 a0, .str a1, .str a2, .str a3, .str a4, .str a5, .str a6, .str a7, .str a8, .str a9, .str a10, .str a11, .str a12, .str a13, .int .i64 a14, u]) :: (3, .ptr [.int .i64 b0, .str b1, .str b2, .str b3, .str b4, .str b5, .str b6, .str b7, .str b8, .str b9, .str b10, .str b11, .str b12, .str b13, .int .i64 b14, v]) :: ex, []⟩ := by
  subst hR
  by_cases c0 : a0 = b0
  case neg => simp -implicitDefEqProofs [t_spec_ASame_2, c0]
  by_cases c1 : a1 = b1
  case neg => simp -implicitDefEqProofs [t_spec_ASame_2, c0, c1]
  by_cases c2 : a2 = b2
  case neg => simp -implicitDefEqProofs [t_spec_ASame_2, c0, c1, c2]
  by_cases c3 : a3 = b3
  case neg => simp -implicitDefEqProofs [t_spec_ASame_2, c0, c1, c2, c3]
  by_cases c4 : a4 = b4
  case neg => simp -implicitDefEqProofs [t_spec_ASame_2, c0, c1, c2, c3, c4]
  by_cases c5 : a5 = b5
  case neg => simp -implicitDefEqProofs [t_spec_ASame_2, c0, c1, c2, c3, c4, c5]
  by_cases c6 : a6 = b6
  case neg => simp -implicitDefEqProofs [t_spec_ASame_2, c0, c1, c2, c3, c4, c5, c6]
  by_cases c7 : a7 = b7
  case neg => simp -implicitDefEqProofs [t_spec_ASame_2, c0, c1, c2, c3, c4, c5, c6, c7]
  by_cases c8 : a8 = b8
  case neg => simp -implicitDefEqProofs [t_spec_ASame_2, c0, c1, c2, c3, c4, c5, c6, c7, c8]
  by_cases c9 : a9 = b9
  case neg => simp -implicitDefEqProofs [t_spec_ASame_2, c0, c1, c2, c3, c4, c5, c6, c7, c8, c9]
  by_cases c10 : a10 = b10
  case neg => simp -implicitDefEqProofs [t_spec_ASame_2, c0, c1, c2, c3, c4, c5, c6, c7, c8, c9, c10]
  by_cases c11 : a11 = b11
  case neg => simp -implicitDefEqProofs [t_spec_ASame_2, c0, c1, c2, c3, c4, c5, c6, c7, c8, c9, c10, c11]
  by_cases c12 : a12 = b12
  case neg => simp -implicitDefEqProofs [t_spec_ASame_2, c0, c1, c2, c3, c4, c5, c6, c7, c8, c9, c10, c11, c12]
  by_cases c13 : a13 = b13
  case neg => simp -implicitDefEqProofs [t_spec_ASame_2, c0, c1, c2, c3, c4, c5, c6, c7, c8, c9, c10, c11, c12, c13]
  by_cases c14 : a14 = b14
  · simp -implicitDefEqProofs [t_spec_ASame_2, c0, c1, c2, c3, c4, c5, c6, c7, c8, c9, c10, c11, c12, c13, c14]
  · simp -implicitDefEqProofs [t_spec_ASame_2, c0, c1, c2, c3, c4, c5, c6, c7, c8, c9, c10, c11, c12, c13, c14]

set_option maxHeartbeats 2000000 in
theorem ok_ASame (Γ : Gam) : ∀ args r, con_ASame args = some r → runs Γ c_spec_ASame args (fun v => v = r) := by
  intro args r h
  simp only [con_ASame] at h
  split at h <;> (try simp at h; done)
  rename_i x y
  split at h <;> (try simp at h; done)
  rename_i a b ha hb
  obtain ⟨⟨la, lb⟩, rfl⟩ := ite_some h
  clear h
  rw [asAR_spec ha, asAR_spec hb]
  clear ha hb x y
  have cua := slP_cells a.ps
  have cub := slP_cells b.ps
  simp only [cells] at cua cub
  have lea := slP_alen a.ps
  have leb := slP_alen b.ps
  have T := fun ex R hR => as_tail Γ (slP a.ps) (slP b.ps) a.method b.method a.value b.value a.reason b.reason a.domain b.domain a.ident b.ident a.fr b.fr a.sender b.sender a.ip b.ip a.helo b.helo a.auth b.auth a.hkey b.hkey a.hval b.hval a.remote b.remote a.kind b.kind a.oldest b.oldest ex R hR
  have ni := norm_eq_iff (a := a) (b := b)
  have hca : a.ps.getD [] = [] ∨ a.ps = some (a.ps.getD []) := by cases a.ps <;> simp
  have hcb : b.ps.getD [] = [] ∨ b.ps = some (b.ps.getD []) := by cases b.ps <;> simp
  have hS1 : a.ps.getD [] ≠ b.ps.getD [] → arSame a b = false := by
    intro h; rw [Bool.eq_false_iff, ne_eq, arSame_iff, ni]; exact fun q => h q.1
  have hS2 : a.ps.getD [] = b.ps.getD [] → arSame a b = decide (a.kind = b.kind ∧ a.method = b.method ∧ a.value = b.value ∧ a.reason = b.reason ∧ a.domain = b.domain ∧ a.ident = b.ident ∧ a.fr = b.fr ∧ a.sender = b.sender ∧ a.ip = b.ip ∧ a.helo = b.helo ∧ a.auth = b.auth ∧ a.hkey = b.hkey ∧ a.hval = b.hval ∧ a.remote = b.remote ∧ a.oldest = b.oldest) := by
    intro h
    simp only [arSame]
    rw [decide_eq_decide, ni]
    exact ⟨fun q => q.2, fun q => ⟨h, q⟩⟩
  generalize arSame a b = R at *
  clear ni
  generalize hLa : a.ps.getD [] = La at *
  generalize hLb : b.ps.getD [] = Lb at *
  simp only [half] at la lb
  by_cases hlen : (La.length : Int) = (Lb.length : Int)
  · simp -implicitDefEqProofs [-alen, c_spec_ASame, AR.cells, cua, cub, lea, leb, hlen, hLa, hLb]
    refine awp_loop2 (σ := List KVp × List KVp × List KVp × List KVp) (fun q => ⟨[(2, .ptr [.int .i64 a.kind, .str a.method, .str a.value, .str a.reason, .str a.domain, .str a.ident, .str a.fr, .str a.sender, .str a.ip, .str a.helo, .str a.auth, .str a.hkey, .str a.hval, .str a.remote, .int .i64 a.oldest, slP a.ps]), (3, .ptr [.int .i64 b.kind, .str b.method, .str b.value, .str b.reason, .str b.domain, .str b.ident, .str b.fr, .str b.sender, .str b.ip, .str b.helo, .str b.auth, .str b.hkey, .str b.hval, .str b.remote, .int .i64 b.oldest, slP b.ps]), (15, .int .i64 Lb.length), (16, .int .i64 q.1.length)], []⟩)
      (fun q => La = q.1 ++ q.2.1 ∧ Lb = q.2.2.1 ++ q.2.2.2 ∧ q.1 = q.2.2.1) (fun q => q.2.1.length) ([], La, [], Lb) ?_ (by simp) ?_
    · simp
    rintro ⟨p1, q1, p2, q2⟩ ⟨e1, e2, e3⟩ LQ hLQ
    simp only at e1 e2 e3
    subst e3
    have hn : q1.length = q2.length := by
      have h1 := congrArg List.length e1
      have h2 := congrArg List.length e2
      simp at h1 h2; omega
    cases q1 with
    | nil =>
      have hq2 : q2 = [] := by cases q2 <;> simp at hn; rfl
      subst hq2
      simp only [List.append_nil] at e1 e2
      have hnl : ¬ ((p1.length : Int) < (Lb.length : Int)) := by rw [e2]; omega
      simp -implicitDefEqProofs [b_spec_ASame_1, hnl]
      exact T _ R (hS2 (by rw [e1, e2]))
    | cons x q1 =>
      cases q2 with
      | nil => simp at hn
      | cons y q2 =>
        have sa := hca.resolve_left (by rw [e1]; simp)
        have sb := hcb.resolve_left (by rw [e2]; simp)
        rw [sa, sb] at hLQ ⊢
        simp only [slP] at hLQ ⊢
        have hlb : Lb.length = p1.length + (q2.length + 1) := by rw [e2]; simp
        have hlt : (p1.length : Int) < (Lb.length : Int) := by omega
        have g1 : La[p1.length]? = some x := by rw [e1]; exact get_mid rfl
        have g2 : Lb[p1.length]? = some y := by rw [e2]; exact get_mid rfl
        have ew : IntKind.i64.wrap ((p1.length : Int) + 1) = (p1.length : Int) + 1 := wrap64 (by omega) (by omega)
        by_cases hxy : x = y
        · subst hxy
          simp -implicitDefEqProofs [b_spec_ASame_1, hlt, g1, g2, ew, leafEqL, leafEq]
          refine hLQ (p1 ++ [x], q1, p1 ++ [x], q2) ⟨by rw [e1]; simp, by rw [e2]; simp, rfl⟩ (by simp) _ ?_
          simp
        · have hne : La ≠ Lb := by
            rw [e1, e2]
            intro h
            have := List.append_cancel_left h
            simp only [List.cons.injEq] at this
            exact hxy this.1
          have hd : (decide (x.1 = y.1) && decide (x.2 = y.2)) = false := by
            by_cases h1 : x.1 = y.1
            · have : ¬ x.2 = y.2 := fun h2 => hxy (Prod.ext h1 h2)
              simp [this]
            · simp [h1]
          rw [hS1 hne]
          simp -implicitDefEqProofs [b_spec_ASame_1, hlt, g1, g2, ew, leafEqL, leafEq, hd]
  · have hne : La ≠ Lb := fun h => hlen (by rw [h])
    have hlen' : ¬ La.length = Lb.length := fun h => hlen (by rw [h])
    rw [hS1 hne]
    simp -implicitDefEqProofs [-alen, c_spec_ASame, AR.cells, cua, cub, lea, leb, hlen, hlen', hLa, hLb]
end Wax


namespace Wax
open Go

def lkF : List (Nat × SFn) → Nat → Option SFn
  | [], _ => none
  | (i, v) :: r, j => if i == j then some v else lkF r j

/-- The table's functions are the program's. -/
inductive TbOk (P : Program) (T : Tab) : List (Nat × SFn) → Prop where
  | nil : TbOk P T []
  | cons {f g : Nat} {fn : Func} {sfn : SFn} {L : Lay} {r : List (Nat × SFn)} (hf : lkN T.fns f = some g) (hb : hasBody P f = true) (hfn : P.funcs[f]? = some fn) (hc : compFn P T L fn = some sfn) (hr : TbOk P T r) : TbOk P T ((g, sfn) :: r)

theorem TbOk.get {P : Program} {T : Tab} : ∀ {tb : List (Nat × SFn)}, TbOk P T tb → ∀ {g : Nat} {sfn : SFn}, lkF tb g = some sfn → ∃ f fn L, lkN T.fns f = some g ∧ hasBody P f = true ∧ P.funcs[f]? = some fn ∧ compFn P T L fn = some sfn
  | _, .nil, g, sfn, h => by simp [lkF] at h
  | _, .cons (f := f) (fn := fn) (L := L) hf hb hfn hc hr, g, sfn, h => by
    simp only [lkF] at h
    split at h
    · rename_i e
      simp only [beq_iff_eq] at e
      simp only [Option.some.injEq] at h
      subst e; subst h
      exact ⟨f, fn, L, hf, hb, hfn, hc⟩
    · exact hr.get h

end Wax


namespace Wax
open Go
def aIn : List UInt8 := [97, 59, 32, 100, 107, 105, 109, 61, 112, 97, 115, 115, 32, 104, 101, 97, 100, 101, 114, 46, 100, 61, 98]
def aOut : AV := .tup [.str [97], .sl 16 [.agg [.int .i64 2, .str [], .str [112, 97, 115, 115], .str [], .str [98], .str [], .str [], .str [], .str [], .str [], .str [], .str [], .str [], .str [], .int .i64 0, .nilS]], .bool true]
end Wax


namespace Wax
open Go (IntKind)
def tIn : L8 := [118, 61, 68, 77, 65, 82, 67, 49, 59, 32, 112, 61, 110, 111, 110, 101]
def con_awake : List AV → Option AV
  | [] => some (.bool true)
  | _ => none
theorem tIn_ok : mpV (mdText tIn) = .tup [.agg (MR.cells { mr0 with adkim := sR, aspf := sR, p := sNone }), .bool true] := by rfl
end Wax


namespace Wax
open Go (IntKind)

theorem adIn : adText aIn = some ([97], [.dkim [112, 97, 115, 115] [] [98] []]) := by kernel_rfl
theorem au_ok_awake (Γ : Gam) (h144 : Γ.fn 144 = con_AParse) (h133 : Γ.fn 133 = con_MParse) : ∀ args r, con_awake args = some r → runs Γ c_laws_awake args (fun v => v = r) := by
  intro args r h
  simp only [con_awake] at h
  split at h <;> (try simp at h; done)
  injection h with h
  subst h
  have k : con_AParse [.str [97, 59, 32, 100, 107, 105, 109, 61, 112, 97, 115, 115, 32, 104, 101, 97, 100, 101, 114, 46, 100, 61, 98]] = some aOut := by
    have e : aIn.length < qtr ∧ plain aIn = true := ⟨by simp [aIn, qtr], by kernel_rfl⟩
    show con_AParse [.str aIn] = _
    simp only [con_AParse]
    rw [if_pos e, adIn]
    rfl
  have k2 : con_MParse [.str tIn] = some (.tup [.agg (MR.cells { mr0 with adkim := sR, aspf := sR, p := sNone }), .bool true]) := by
    have e : tIn.length < mid ∧ plain tIn = true := ⟨by simp [tIn, mid], by kernel_rfl⟩
    simp only [con_MParse]
    rw [if_pos e, tIn_ok]
  simp only [aOut] at k
  simp only [MR.cells, mr0, slO_none, tIn, sR, sNone] at k2
  simp -implicitDefEqProofs [c_laws_awake, acall, h144, h133, k, k2, sNone]

end Wax


namespace Wax
open Go (IntKind)

def asARs : List AV → Option (List AR)
  | [] => some []
  | .agg cs :: r => match asAR cs, asARs r with
    | some x, some l => some (x :: l)
    | _, _ => none
  | _ :: _ => none
def slAR : AV → Option (List AR)
  | .nilS => some []
  | .sl es xs => if es = 16 then asARs xs else none
  | _ => none
theorem asARs_arA : ∀ l, asARs (arA l) = some l
  | [] => rfl
  | x :: l => by simp [asARs, asAR_cells, asARs_arA l]
theorem asARs_spec : ∀ {xs : List AV} {l : List AR}, asARs xs = some l → xs = arA l
  | [], l, h => by simp [asARs] at h; subst h; rfl
  | v :: r, l, h => by
    unfold asARs at h
    split at h
    · rename_i e; simp at e
    · rename_i cs r' e
      simp at e; obtain ⟨rfl, rfl⟩ := e
      split at h
      · rename_i x l' h1 h2
        simp at h; subst h
        rw [asAR_spec h1, asARs_spec h2]; rfl
      · simp at h
    · simp at h
theorem slAR_cases {v : AV} {l} (h : slAR v = some l) : (v = .nilS ∧ l = []) ∨ v = .sl 16 (arA l) := by
  cases v <;> simp [slAR] at h
  · left; exact ⟨rfl, h⟩
  · right; obtain ⟨e, h⟩ := h; rw [asARs_spec h, e]
section
variable {u : AV} {l : List AR} (h : slAR u = some l)
include h
theorem sar_kill (d : Nat) : kill d u = u := by rcases slAR_cases h with ⟨rfl, _⟩ | rfl <;> rfl
theorem sar_snapW (g : AV → AV) : snapW g u = u := by rcases slAR_cases h with ⟨rfl, _⟩ | rfl <;> rfl
theorem sar_alen (hp : List (Nat × AObj)) : alen hp 1 u = some l.length := by rcases slAR_cases h with ⟨rfl, rfl⟩ | rfl <;> simp [alen]
theorem sar_ne (hn : l ≠ []) : u = .sl 16 (arA l) := by
  rcases slAR_cases h with ⟨_, rfl⟩ | rfl
  · exact absurd rfl hn
  · rfl
end
theorem slAR_arV (l : List AR) : slAR (arV l) = some l := by cases l <;> simp [arV, slAR, ← arA_cons, asARs_arA, -arA_cons]

end Wax


namespace Wax
open Go (IntKind)

def con_zzFits4 : List AV → Option AV
  | [.agg [.str a, .str b]] => some (.bool (fits14 a b))
  | _ => none
theorem ok_zzFits4 (Γ : Gam) : ∀ args r, con_zzFits4 args = some r → runs Γ c_laws_zzFits4 args (fun v => v = r) := by
  intro args r h
  simp only [con_zzFits4] at h
  split at h <;> simp at h
  rename_i a b
  subst h
  by_cases h1 : (2147483647 : Int) < (a.length : Int)
  · have e : ¬ a.length ≤ 2147483647 := by omega
    simp -implicitDefEqProofs [c_laws_zzFits4, h1, fits14, e]
  · have e : a.length ≤ 2147483647 := by omega
    by_cases h2 : (2147483647 : Int) < (b.length : Int)
    · have e2 : ¬ b.length ≤ 2147483647 := by omega
      simp -implicitDefEqProofs [c_laws_zzFits4, h1, h2, fits14, e, e2]
    · have e2 : b.length ≤ 2147483647 := by omega
      simp -implicitDefEqProofs [c_laws_zzFits4, h1, h2, fits14, e, e2]


def con_zzFits3 : List AV → Option AV
  | [u] => match slPairs u with
    | some l => if l.length < 9223372036854775808 then some (.bool (fits13 l)) else none
    | none => none
  | _ => none
theorem ok_zzFits3 (Γ : Gam) (h211 : Γ.fn 211 = con_zzFits4) : ∀ args r, con_zzFits3 args = some r → runs Γ c_laws_zzFits3 args (fun v => v = r) := by
  intro args r h
  simp only [con_zzFits3] at h
  split at h <;> (try simp at h; done)
  rename_i u
  split at h <;> (try simp at h; done)
  rename_i l hl
  obtain ⟨h1, rfl⟩ := ite_some h
  clear h
  by_cases hb : (2147483647 : Int) < (l.length : Int)
  · have e : ¬ l.length ≤ 2147483647 := by omega
    simp -implicitDefEqProofs [-alen, c_laws_zzFits3, slp_alen hl, hb, fits13, e]
  · have e : l.length ≤ 2147483647 := by omega
    simp -implicitDefEqProofs [-alen, c_laws_zzFits3, slp_alen hl, hb]
    refine awp_loop2 (σ := List KVp × List KVp) (fun p => ⟨[(8, u), (9, .int .i64 l.length), (10, .int .i64 p.1.length)], []⟩)
      (fun p => l = p.1 ++ p.2 ∧ (p.1.all fun t => fits14 t.1 t.2) = true) (fun p => p.2.length) ([], l) (by simp) (by simp) ?_
    rintro ⟨pre, post⟩ ⟨e1, e2⟩ LQ hLQ
    simp only at e1 e2
    cases post with
    | nil =>
      simp only [List.append_nil] at e1
      subst e1
      have : fits13 l = true := by simp only [fits13, e2, e]; rfl
      simp -implicitDefEqProofs [b_laws_zzFits3_1, t_laws_zzFits3_2, this]
    | cons x post =>
      obtain ⟨a, b⟩ := x
      have hu := slp_ne hl (by rw [e1]; simp)
      subst hu
      have hlen : l.length = pre.length + (post.length + 1) := by rw [e1]; simp
      have hlt : (pre.length : Int) < (l.length : Int) := by omega
      have ew : IntKind.i64.wrap ((pre.length : Int) + 1) = (pre.length : Int) + 1 := wrap64 (by omega) (by omega)
      have g : l[pre.length]? = some (a, b) := by rw [e1]; exact get_mid rfl
      cases hf : fits14 a b with
      | true =>
        simp -implicitDefEqProofs [b_laws_zzFits3_1, hlt, g, acall, h211, con_zzFits4, hf, ew]
        exact hLQ (pre ++ [(a, b)], post) ⟨by rw [e1]; simp, by simp only [List.all_append, e2, List.all_cons, hf]; rfl⟩ (by simp) _ (by simp)
      | false =>
        have : fits13 l = false := by
          have : (l.all fun t => fits14 t.1 t.2) = false := by rw [e1]; simp [hf]
          simp only [fits13, this, Bool.and_false]
        simp -implicitDefEqProofs [b_laws_zzFits3_1, hlt, g, acall, h211, con_zzFits4, hf, this]


def lenB (s : L8) : Bool := decide (s.length ≤ 2147483647)
def fit2 (r : AR) : Bool := lenB r.method && (lenB r.value && (lenB r.reason && (lenB r.domain && (lenB r.ident && (lenB r.fr && (lenB r.sender && (lenB r.ip && (lenB r.helo && (lenB r.auth && (lenB r.hkey && (lenB r.hval && (lenB r.remote && fits13 (r.ps.getD [])))))))))))))
def con_zzFits2 : List AV → Option AV
  | [.agg cs] => match asAR cs with
    | some r => if (r.ps.getD []).length < 9223372036854775808 then some (.bool (fit2 r)) else none
    | none => none
  | _ => none
theorem lenB_f {s : L8} (h : (2147483647 : Int) < (s.length : Int)) : lenB s = false := decide_eq_false (by omega)
theorem lenB_t {s : L8} (h : ¬ (2147483647 : Int) < (s.length : Int)) : lenB s = true := decide_eq_true (by omega)
set_option maxRecDepth 100000 in
set_option maxHeartbeats 4000000 in
theorem ok_zzFits2 (Γ : Gam) (h210 : Γ.fn 210 = con_zzFits3) : ∀ args r, con_zzFits2 args = some r → runs Γ c_laws_zzFits2 args (fun v => v = r) := by
  intro args r h
  simp only [con_zzFits2] at h
  split at h <;> (try simp at h; done)
  rename_i cs
  split at h <;> (try simp at h; done)
  rename_i r hr
  obtain ⟨h1, rfl⟩ := ite_some h
  clear h
  rw [asAR_spec hr]
  obtain ⟨kind, method, value, reason, domain, ident, fr, sender, ip, helo, auth, hkey, hval, remote, oldest, ps⟩ := r
  simp only at h1
  have k3 : con_zzFits3 [slP ps] = some (.bool (fits13 (ps.getD []))) := by
    simp only [con_zzFits3, slP_pairs]
    exact if_pos h1
  have cu := slP_cells ps
  simp only [cells] at cu
  have ca := slP_atom ps
  have cr := slP_ref ps
  have ck := slP_kill ps
  simp only [fit2, AR.cells]
  by_cases q0 : (2147483647 : Int) < (method.length : Int)
  · have e := lenB_f q0
    simp -implicitDefEqProofs [c_laws_zzFits2, cu, ca, cr, ck, q0, e]
  have e0 := lenB_t q0
  simp only [e0, Bool.true_and]
  by_cases q1 : (2147483647 : Int) < (value.length : Int)
  · have e := lenB_f q1
    simp -implicitDefEqProofs [c_laws_zzFits2, cu, ca, cr, ck, q0, q1, e]
  have e1 := lenB_t q1
  simp only [e1, Bool.true_and]
  by_cases q2 : (2147483647 : Int) < (reason.length : Int)
  · have e := lenB_f q2
    simp -implicitDefEqProofs [c_laws_zzFits2, cu, ca, cr, ck, q0, q1, q2, e]
  have e2 := lenB_t q2
  simp only [e2, Bool.true_and]
  by_cases q3 : (2147483647 : Int) < (domain.length : Int)
  · have e := lenB_f q3
    simp -implicitDefEqProofs [c_laws_zzFits2, cu, ca, cr, ck, q0, q1, q2, q3, e]
  have e3 := lenB_t q3
  simp only [e3, Bool.true_and]
  by_cases q4 : (2147483647 : Int) < (ident.length : Int)
  · have e := lenB_f q4
    simp -implicitDefEqProofs [c_laws_zzFits2, cu, ca, cr, ck, q0, q1, q2, q3, q4, e]
  have e4 := lenB_t q4
  simp only [e4, Bool.true_and]
  by_cases q5 : (2147483647 : Int) < (fr.length : Int)
  · have e := lenB_f q5
    simp -implicitDefEqProofs [c_laws_zzFits2, cu, ca, cr, ck, q0, q1, q2, q3, q4, q5, e]
  have e5 := lenB_t q5
  simp only [e5, Bool.true_and]
  by_cases q6 : (2147483647 : Int) < (sender.length : Int)
  · have e := lenB_f q6
    simp -implicitDefEqProofs [c_laws_zzFits2, cu, ca, cr, ck, q0, q1, q2, q3, q4, q5, q6, e]
  have e6 := lenB_t q6
  simp only [e6, Bool.true_and]
  by_cases q7 : (2147483647 : Int) < (ip.length : Int)
  · have e := lenB_f q7
    simp -implicitDefEqProofs [c_laws_zzFits2, cu, ca, cr, ck, q0, q1, q2, q3, q4, q5, q6, q7, e]
  have e7 := lenB_t q7
  simp only [e7, Bool.true_and]
  by_cases q8 : (2147483647 : Int) < (helo.length : Int)
  · have e := lenB_f q8
    simp -implicitDefEqProofs [c_laws_zzFits2, cu, ca, cr, ck, q0, q1, q2, q3, q4, q5, q6, q7, q8, e]
  have e8 := lenB_t q8
  simp only [e8, Bool.true_and]
  by_cases q9 : (2147483647 : Int) < (auth.length : Int)
  · have e := lenB_f q9
    simp -implicitDefEqProofs [c_laws_zzFits2, cu, ca, cr, ck, q0, q1, q2, q3, q4, q5, q6, q7, q8, q9, e]
  have e9 := lenB_t q9
  simp only [e9, Bool.true_and]
  by_cases q10 : (2147483647 : Int) < (hkey.length : Int)
  · have e := lenB_f q10
    simp -implicitDefEqProofs [c_laws_zzFits2, cu, ca, cr, ck, q0, q1, q2, q3, q4, q5, q6, q7, q8, q9, q10, e]
  have e10 := lenB_t q10
  simp only [e10, Bool.true_and]
  by_cases q11 : (2147483647 : Int) < (hval.length : Int)
  · have e := lenB_f q11
    simp -implicitDefEqProofs [c_laws_zzFits2, cu, ca, cr, ck, q0, q1, q2, q3, q4, q5, q6, q7, q8, q9, q10, q11, e]
  have e11 := lenB_t q11
  simp only [e11, Bool.true_and]
  by_cases q12 : (2147483647 : Int) < (remote.length : Int)
  · have e := lenB_f q12
    simp -implicitDefEqProofs [c_laws_zzFits2, cu, ca, cr, ck, q0, q1, q2, q3, q4, q5, q6, q7, q8, q9, q10, q11, q12, e]
  have e12 := lenB_t q12
  simp only [e12, Bool.true_and]
  generalize fits13 (ps.getD []) = b at k3 ⊢
  cases b <;> simp -implicitDefEqProofs [c_laws_zzFits2, cu, ca, cr, ck, q0, q1, q2, q3, q4, q5, q6, q7, q8, q9, q10, q11, q12, acall, h210, k3]

end Wax


namespace Wax
open Go (IntKind)

theorem keyw_con {s : L8} (h : s.length < mid) : con_MailKeyword [.str s] = some (.bool (mKw s)) := if_pos (by simp only [mid] at h; simp only [big]; omega)
theorem plain_con {s : L8} (h : s.length < mid) : con_APlain [.str s] = some (.bool (aPlain s)) := if_pos h
theorem halves_con {s : L8} {c : Int} (h : s.length < mid) : con_MailHalves [.str s, .int .u8 c] = some (cutV c s) := if_pos (by simp only [mid] at h; simp only [big]; omega)
theorem tokn_con {s : L8} (h : s.length < mid) : con_MailToken [.str s] = some (.bool (mTok s)) := if_pos (by simp only [mid] at h; simp only [big]; omega)

section
variable {Γ : Gam} (h99 : Γ.fn 99 = con_MailKeyword) (h102 : Γ.fn 102 = con_MailHalves) (h104 : Γ.fn 104 = con_MailToken) (h112 : Γ.fn 112 = con_MailLower) (h200 : Γ.fn 200 = con_AMethods) (h201 : Γ.fn 201 = con_AProps) (h203 : Γ.fn 203 = con_AValues) (h204 : Γ.fn 204 = con_APlain)
variable {u : AV} (uk : ∀ d, kill d u = u) (us : ∀ g, snapW g u = u) (n i : Int)

/-- One property of a generic result. -/
def g1Fit (prev : Option L8) (p : KVp) : Bool := (match cutAt 46 p.1 with | some q => mKw q.1 && mKw q.2 | none => false) && decide (lowS p.1 = p.1) && aPlain p.2 && (match prev with | none => true | some k => decide (k < p.1))
theorem gFit_cons (prev : Option L8) (p : KVp) (r : List KVp) : gFit prev (p :: r) = (g1Fit prev p && gFit (some p.1) r) := rfl

include h99 h102 h112 h204 uk us in
set_option maxRecDepth 100000 in
set_option maxHeartbeats 4000000 in
theorem af_4 {Q : APost} (r : AR) (L : List KVp) (hL : r.ps.getD [] = L) (hl : L.length < mid) (hz : ∀ p ∈ L, p.1.length < mid ∧ p.2.length < mid) (ex : List (Nat × AV))
    (hT : gFit none L = true → ∀ ex', Q (.exit 1) ⟨(0, u) :: (4, .ptr r.cells) :: (17, u) :: (18, .int .i64 n) :: (19, .int .i64 i) :: ex', []⟩)
    (hF : gFit none L = false → Q .ret ⟨[(2, .bool false)], []⟩) :
    awp Γ f_spec_AFits_4 Q ⟨(0, u) :: (4, .ptr r.cells) :: (17, u) :: (18, .int .i64 n) :: (19, .int .i64 i) :: ex, []⟩ := by
  have ha : ∀ hp, alen hp 1 (slP r.ps) = some L.length := by
    intro hp; rw [← hL]; cases r.ps <;> simp [slP, alen]
  have cu := slP_cells r.ps
  have at_ := slP_atom r.ps
  have kl := slP_kill r.ps
  have sn := slP_snapW r.ps
  simp only [cells] at cu
  simp only [mid] at hl
  have hc : r.cells = [.int .i64 r.kind, .str r.method, .str r.value, .str r.reason, .str r.domain, .str r.ident, .str r.fr, .str r.sender, .str r.ip, .str r.helo, .str r.auth, .str r.hkey, .str r.hval, .str r.remote, .int .i64 r.oldest, slP r.ps] := rfl
  have hne : L ≠ [] → slP r.ps = .sl 2 (pr2 L) := by
    intro h; cases hp : r.ps with
    | none => rw [hp] at hL; exact absurd hL.symm h
    | some x => rw [hp] at hL; simp at hL; subst hL; rfl
  simp only [hc] at hT ⊢
  generalize slP r.ps = S at *
  simp -implicitDefEqProofs [-alen, f_spec_AFits_4, cu, ha, at_, kl, sn, uk, us]
  refine awp_loop2 (σ := List KVp × List KVp) (fun z => ⟨[(0, u), (4, .ptr [.int .i64 r.kind, .str r.method, .str r.value, .str r.reason, .str r.domain, .str r.ident, .str r.fr, .str r.sender, .str r.ip, .str r.helo, .str r.auth, .str r.hkey, .str r.hval, .str r.remote, .int .i64 r.oldest, S]), (17, u), (18, .int .i64 n), (19, .int .i64 i), (103, S), (104, .int .i64 L.length), (105, .int .i64 z.1.length)], []⟩)
    (fun z => L = z.1 ++ z.2 ∧ gFit none L = gFit (z.1.getLast?.map (·.1)) z.2) (fun z => z.2.length) ([], L) (by simp) (by simp) ?_
  rintro ⟨pre, post⟩ ⟨e1, e2⟩ LQ hLQ
  simp only at e1 e2
  cases post with
  | nil =>
    simp only [List.append_nil] at e1
    subst e1
    have hnl : ¬ ((L.length : Int) < (L.length : Int)) := by omega
    simp -implicitDefEqProofs [b_spec_AFits_3]
    exact hT e2 _
  | cons p post =>
    have hS := hne (by rw [e1]; simp)
    subst hS
    have hlen : L.length = pre.length + (post.length + 1) := by rw [e1]; simp
    have hlt : (pre.length : Int) < (L.length : Int) := by omega
    have ew : IntKind.i64.wrap ((pre.length : Int) + 1) = (pre.length : Int) + 1 := wrap64 (by omega) (by omega)
    have ew1 : IntKind.i64.wrap ((pre.length : Int) - 1) = (pre.length : Int) - 1 := wrap64 (by omega) (by omega)
    have g : L[pre.length]? = some p := by rw [e1]; exact get_mid rfl
    obtain ⟨k, v⟩ := p
    obtain ⟨z1, z2⟩ := hz (k, v) (by rw [e1]; simp)
    simp only at z1 z2
    have k1 := halves_con (c := 46) z1
    have k2 := low_con z1
    have k3 := plain_con z2
    rw [gFit_cons] at e2
    have bad : g1Fit (pre.getLast?.map (·.1)) (k, v) = false → Q .ret ⟨[(2, .bool false)], []⟩ := fun h => hF (by rw [e2, h]; rfl)
    have good : g1Fit (pre.getLast?.map (·.1)) (k, v) = true → LQ ⟨[(0, u), (4, .ptr [.int .i64 r.kind, .str r.method, .str r.value, .str r.reason, .str r.domain, .str r.ident, .str r.fr, .str r.sender, .str r.ip, .str r.helo, .str r.auth, .str r.hkey, .str r.hval, .str r.remote, .int .i64 r.oldest, .sl 2 (pr2 L)]), (17, u), (18, .int .i64 n), (19, .int .i64 i), (103, .sl 2 (pr2 L)), (104, .int .i64 L.length), (105, .int .i64 ((pre.length : Int) + 1))], []⟩ := fun h =>
      hLQ (pre ++ [(k, v)], post) ⟨by rw [e1]; simp, by rw [e2, h]; simp⟩ (by simp) _ (by simp)
    simp only [g1Fit] at bad good
    cases hc2 : cutAt 46 k with
    | none =>
      simp only [cutV, hc2] at k1
      have b := bad (by simp [hc2])
      simp -implicitDefEqProofs [b_spec_AFits_3, hlt, g, acall, h102, k1]
      exact b
    | some q =>
      simp only [cutV, hc2] at k1
      have hq := cutAt_lens hc2
      have w1 := keyw_con (s := q.1) (by omega)
      have w2 := keyw_con (s := q.2) (by omega)
      simp only [hc2] at bad good
      by_cases b1 : mKw q.1 = true
      case neg =>
        have b := bad (by simp [b1])
        simp only [Bool.not_eq_true] at b1
        rw [b1] at w1
        simp -implicitDefEqProofs [b_spec_AFits_3, hlt, g, acall, h102, k1, h99, w1]
        exact b
      rw [b1] at w1
      by_cases b2 : mKw q.2 = true
      case neg =>
        have b := bad (by simp [b2])
        simp only [Bool.not_eq_true] at b2
        rw [b2] at w2
        simp -implicitDefEqProofs [b_spec_AFits_3, hlt, g, acall, h102, k1, h99, w1, w2]
        exact b
      rw [b2] at w2
      by_cases b3 : lowS k = k
      case neg =>
        have b := bad (by simp [b3])
        simp -implicitDefEqProofs [b_spec_AFits_3, hlt, g, acall, h102, k1, h99, w1, w2, h112, k2, b3]
        exact b
      rw [b3] at k2
      by_cases b4 : aPlain v = true
      case neg =>
        have b := bad (by simp [b4])
        simp only [Bool.not_eq_true] at b4
        rw [b4] at k3
        simp -implicitDefEqProofs [b_spec_AFits_3, hlt, g, acall, h102, k1, h99, w1, w2, h112, k2, h204, k3]
        exact b
      rw [b4] at k3
      simp only [b1, b2, b3, b4, Bool.and_self, decide_true, Bool.true_and] at bad good
      rcases List.eq_nil_or_concat pre with rfl | ⟨p', y, rfl⟩
      · have gd := good (by simp)
        simp only [List.nil_append] at e1
        subst e1
        have hl0 : (0 : Int) < (post.length : Int) + 1 := by omega
        have ew0 : IntKind.i64.wrap 1 = 1 := rfl
        simp at gd
        simp -implicitDefEqProofs [b_spec_AFits_3, hl0, ew0, acall, h102, k1, h99, w1, w2, h112, k2, h204, k3, uk, us]
        exact gd
      · have hlt' : (p'.length : Int) + 1 < (L.length : Int) := by simpa using hlt
        have g' : L[p'.length + 1]? = some (k, v) := by simpa using g
        have gy : L[p'.length]? = some y := by rw [e1]; simp
        have ew' : IntKind.i64.wrap ((p'.length : Int) + 1 + 1) = (p'.length : Int) + 1 + 1 := wrap64 (by omega) (by omega)
        have ew2 : IntKind.i64.wrap ((p'.length : Int)) = (p'.length : Int) := wrap64 (by omega) (by omega)
        have et : ((p'.length : Int) + 1).toNat = p'.length + 1 := by omega
        have hle : (0 : Int) ≤ (p'.length : Int) + 1 := by omega
        have hpos : (0 : Int) < (p'.length : Int) + 1 := by omega
        simp at bad good
        obtain ⟨yk, yv⟩ := y
        by_cases b5 : yk < k
        · have gd := good b5
          simp -implicitDefEqProofs [b_spec_AFits_3, hlt', g', et, hle, hpos, ew', ew2, gy, acall, h102, k1, h99, w1, w2, h112, k2, h204, k3, uk, us, lexLt_eq, b5]
          exact gd
        · have b := bad (by simpa using b5)
          simp -implicitDefEqProofs [b_spec_AFits_3, hlt', g', et, hle, hpos, ew', ew2, gy, acall, h102, k1, h99, w1, w2, h112, k2, h204, k3, uk, us, lexLt_eq, b5]
          exact b

theorem ms_any (m : L8) (pre post : List L8) : (pre ++ post).contains m = (pre.contains m || post.contains m) := by
  rw [Bool.eq_iff_iff]; simp
include h99 h102 h112 h200 h204 uk us in
set_option maxRecDepth 100000 in
set_option maxHeartbeats 4000000 in
theorem af_5 {Q : APost} (r : AR) (L : List KVp) (hL : r.ps.getD [] = L) (hl : L.length < mid) (hz : ∀ p ∈ L, p.1.length < mid ∧ p.2.length < mid) (ex : List (Nat × AV))
    (hT : (!aMeths.contains r.method && gFit none L) = true → ∀ ex', Q (.exit 1) ⟨(0, u) :: (4, .ptr r.cells) :: (17, u) :: (18, .int .i64 n) :: (19, .int .i64 i) :: ex', []⟩)
    (hF : (!aMeths.contains r.method && gFit none L) = false → Q .ret ⟨[(2, .bool false)], []⟩) :
    awp Γ f_spec_AFits_5 Q ⟨(0, u) :: (4, .ptr r.cells) :: (17, u) :: (18, .int .i64 n) :: (19, .int .i64 i) :: ex, []⟩ := by
  have cu := slP_cells r.ps
  have at_ := slP_atom r.ps
  have kl := slP_kill r.ps
  have sn := slP_snapW r.ps
  simp only [cells] at cu
  have hc : r.cells = [.int .i64 r.kind, .str r.method, .str r.value, .str r.reason, .str r.domain, .str r.ident, .str r.fr, .str r.sender, .str r.ip, .str r.helo, .str r.auth, .str r.hkey, .str r.hval, .str r.remote, .int .i64 r.oldest, slP r.ps] := rfl
  have k0 : con_AMethods [] = some (.sl 1 (strsA aMeths)) := rfl
  have hal : aMeths.length = 8 := rfl
  have T := fun (b : aMeths.contains r.method = false) ex => af_4 (Q := Q) h99 h102 h112 h204 uk us n i r L hL hl hz ex (fun h => hT (by rw [b, h]; rfl)) (fun h => hF (by rw [b, h]; rfl))
  generalize aMeths = M at *
  simp only [hc] at T ⊢
  simp -implicitDefEqProofs [f_spec_AFits_5, cu, at_, kl, sn, uk, us, acall, h200, k0]
  refine awp_loop2 (σ := List L8 × List L8) (fun z => ⟨[(0, u), (4, .ptr [.int .i64 r.kind, .str r.method, .str r.value, .str r.reason, .str r.domain, .str r.ident, .str r.fr, .str r.sender, .str r.ip, .str r.helo, .str r.auth, .str r.hkey, .str r.hval, .str r.remote, .int .i64 r.oldest, slP r.ps]), (17, u), (18, .int .i64 n), (19, .int .i64 i), (91, .sl 1 (strsA M)), (92, .int .i64 M.length), (93, .int .i64 z.1.length)], []⟩)
    (fun z => M = z.1 ++ z.2 ∧ z.1.contains r.method = false) (fun z => z.2.length) ([], M) (by simp) (by simp) ?_
  rintro ⟨pre, post⟩ ⟨e1, e2⟩ LQ hLQ
  simp only at e1 e2
  cases post with
  | nil =>
    simp only [List.append_nil] at e1
    subst e1
    have hnl : ¬ ((M.length : Int) < (M.length : Int)) := by omega
    simp -implicitDefEqProofs [b_spec_AFits_2]
    exact T e2 _
  | cons m post =>
    have hlen : M.length = pre.length + (post.length + 1) := by rw [e1]; simp
    have hlt : (pre.length : Int) < (M.length : Int) := by omega
    have ew : IntKind.i64.wrap ((pre.length : Int) + 1) = (pre.length : Int) + 1 := wrap64 (by omega) (by omega)
    have g : M[pre.length]? = some m := by rw [e1]; exact get_mid rfl
    by_cases hm : m = r.method
    · have b : M.contains r.method = true := by rw [e1, hm]; simp
      have f := hF (by rw [b]; rfl)
      simp -implicitDefEqProofs [b_spec_AFits_2, hlt, g, hm]
      exact f
    · have b : (pre ++ [m]).contains r.method = false := by rw [ms_any, e2]; simp [Ne.symm hm]
      simp -implicitDefEqProofs [b_spec_AFits_2, hlt, g, hm, ew, uk, us]
      exact hLQ (pre ++ [m], post) ⟨by rw [e1]; simp, b⟩ (by simp) _ (by simp)

theorem props_len (r : AR) : r.props.length ≤ 10 := by
  unfold AR.props
  repeat' split
  all_goals simp
theorem tripV_ne {L : List (L8 × L8 × L8)} (h : L ≠ []) : tripV L = .sl 3 (tr3 L) := by cases L with
  | nil => exact absurd rfl h
  | cons _ _ => rfl
def t1Fit (p : L8 × L8 × L8) : Bool := aPlain p.2.2 && mKw p.2.1 && decide (lowS p.2.1 = p.2.1)
include h99 h112 h201 h204 uk us in
set_option maxRecDepth 100000 in
set_option maxHeartbeats 4000000 in
theorem af_7 {Q : APost} (r : AR) (hz : ∀ p ∈ r.props, p.2.1.length < mid ∧ p.2.2.length < mid) (ex : List (Nat × AV))
    (hT : r.props.all t1Fit = true → ∀ ex', Q .normal ⟨(0, u) :: (17, u) :: (18, .int .i64 n) :: (19, .int .i64 i) :: ex', []⟩)
    (hF : r.props.all t1Fit = false → Q .ret ⟨[(2, .bool false)], []⟩) :
    awp Γ f_spec_AFits_7 Q ⟨(0, u) :: (4, .ptr r.cells) :: (17, u) :: (18, .int .i64 n) :: (19, .int .i64 i) :: ex, []⟩ := by
  have cu := slP_cells r.ps
  have at_ := slP_atom r.ps
  have kl := slP_kill r.ps
  have sn := slP_snapW r.ps
  simp only [cells] at cu
  have hc : r.cells = [.int .i64 r.kind, .str r.method, .str r.value, .str r.reason, .str r.domain, .str r.ident, .str r.fr, .str r.sender, .str r.ip, .str r.helo, .str r.auth, .str r.hkey, .str r.hval, .str r.remote, .int .i64 r.oldest, slP r.ps] := rfl
  have k0 : con_AProps [.agg r.cells] = some (tripV r.props) := by simp only [con_AProps, asAR_cells, Option.map]
  have hq : r.props.length ≤ 10 := props_len r
  generalize r.props = L at *
  have ha : ∀ hp, alen hp 1 (tripV L) = some L.length := by intro hp; cases L <;> simp [tripV, alen]
  have tc := tripV_cells L
  have ta := tripV_atom L
  have tk := tripV_kill L
  have tr := tripV_ref L
  simp only [cells] at tc
  have hne : L ≠ [] → tripV L = .sl 3 (tr3 L) := fun h => tripV_ne h
  simp only [hc] at k0 ⊢
  generalize tripV L = S at *
  simp -implicitDefEqProofs [-alen, f_spec_AFits_7, cu, at_, kl, sn, uk, us, acall, h201, k0, ha, tc, ta, tk, tr]
  refine awp_loop2 (σ := List (L8 × L8 × L8) × List (L8 × L8 × L8)) (fun z => ⟨[(0, u), (17, u), (18, .int .i64 n), (19, .int .i64 i), (161, S), (162, .int .i64 L.length), (163, .int .i64 z.1.length)], []⟩)
    (fun z => L = z.1 ++ z.2 ∧ z.1.all t1Fit = true) (fun z => z.2.length) ([], L) (by simp) (by simp) ?_
  rintro ⟨pre, post⟩ ⟨e1, e2⟩ LQ hLQ
  simp only at e1 e2
  cases post with
  | nil =>
    simp only [List.append_nil] at e1
    subst e1
    have hnl : ¬ ((L.length : Int) < (L.length : Int)) := by omega
    simp -implicitDefEqProofs [b_spec_AFits_6]
    exact hT e2 _
  | cons p post =>
    have hS := hne (by rw [e1]; simp)
    subst hS
    have hlen : L.length = pre.length + (post.length + 1) := by rw [e1]; simp
    have hlt : (pre.length : Int) < (L.length : Int) := by omega
    have ew : IntKind.i64.wrap ((pre.length : Int) + 1) = (pre.length : Int) + 1 := wrap64 (by omega) (by omega)
    have g : L[pre.length]? = some p := by rw [e1]; exact get_mid rfl
    have g2 : (tr3 L)[pre.length]? = some (.agg [.str p.1, .str p.2.1, .str p.2.2]) := by simp [tr3, g]
    obtain ⟨z1, z2⟩ := hz p (by rw [e1]; simp)
    obtain ⟨a, b, c⟩ := p
    simp only at z1 z2 g2
    have k1 := plain_con z2
    have k2 := keyw_con z1
    have k3 := low_con z1
    have bad : t1Fit (a, b, c) = false → Q .ret ⟨[(2, .bool false)], []⟩ := fun h => hF (by rw [e1]; simp [h])
    have good : t1Fit (a, b, c) = true → LQ ⟨[(0, u), (17, u), (18, .int .i64 n), (19, .int .i64 i), (161, .sl 3 (tr3 L)), (162, .int .i64 L.length), (163, .int .i64 ((pre.length : Int) + 1))], []⟩ := fun h =>
      hLQ (pre ++ [(a, b, c)], post) ⟨by rw [e1]; simp, by rw [List.all_append, e2]; simp [h]⟩ (by simp) _ (by simp)
    simp only [t1Fit] at bad good
    by_cases b1 : aPlain c = true
    case neg =>
      have f := bad (by simp [b1])
      simp only [Bool.not_eq_true] at b1
      rw [b1] at k1
      simp -implicitDefEqProofs [b_spec_AFits_6, hlt, g2, uk, us, acall, h204, k1]
      exact f
    rw [b1] at k1
    by_cases b2 : mKw b = true
    case neg =>
      have f := bad (by simp [b2])
      simp only [Bool.not_eq_true] at b2
      rw [b2] at k2
      simp -implicitDefEqProofs [b_spec_AFits_6, hlt, g2, uk, us, acall, h204, k1, h99, k2]
      exact f
    rw [b2] at k2
    by_cases b3 : lowS b = b
    case neg =>
      have f := bad (by simp [b3])
      simp -implicitDefEqProofs [b_spec_AFits_6, hlt, g2, uk, us, acall, h204, k1, h99, k2, h112, k3, b3]
      exact f
    rw [b3] at k3
    have f := good (by simp [b1, b2, b3])
    simp -implicitDefEqProofs [b_spec_AFits_6, hlt, g2, uk, us, acall, h204, k1, h99, k2, h112, k3, ew]
    exact f

/-- What is behind the reason. -/
def k1Fit (r : AR) : Bool := if r.kind = 0 then mKw r.method && decide (lowS r.method = r.method) && decide (r.method ≠ sNone0) && decide (r.reason = []) && decide (r.method.length ≤ 30) && !aMeths.contains r.method && gFit none (r.ps.getD [])
   else r.props.all t1Fit
structure SzR (r : AR) : Prop where
  m : r.method.length < mid
  rs : r.reason.length < mid
  l : (r.ps.getD []).length < mid
  z : ∀ p ∈ r.ps.getD [], p.1.length < mid ∧ p.2.length < mid
  q : ∀ p ∈ r.props, p.2.1.length < mid ∧ p.2.2.length < mid

include h99 h102 h112 h200 h201 h204 uk us in
set_option maxRecDepth 100000 in
set_option maxHeartbeats 4000000 in
theorem af_8 {Q : APost} (r : AR) (sz : SzR r) (ex : List (Nat × AV))
    (hT : k1Fit r = true → ∀ ex', Q .normal ⟨(0, u) :: (17, u) :: (18, .int .i64 n) :: (19, .int .i64 i) :: ex', []⟩)
    (hT2 : k1Fit r = true → ∀ ex', Q (.exit 1) ⟨(0, u) :: (4, .ptr r.cells) :: (17, u) :: (18, .int .i64 n) :: (19, .int .i64 i) :: ex', []⟩)
    (hF : k1Fit r = false → Q .ret ⟨[(2, .bool false)], []⟩) :
    awp Γ f_spec_AFits_8 Q ⟨(0, u) :: (4, .ptr r.cells) :: (17, u) :: (18, .int .i64 n) :: (19, .int .i64 i) :: ex, []⟩ := by
  have cu := slP_cells r.ps
  have at_ := slP_atom r.ps
  have kl := slP_kill r.ps
  have sn := slP_snapW r.ps
  simp only [cells] at cu
  have hc : r.cells = [.int .i64 r.kind, .str r.method, .str r.value, .str r.reason, .str r.domain, .str r.ident, .str r.fr, .str r.sender, .str r.ip, .str r.helo, .str r.auth, .str r.hkey, .str r.hval, .str r.remote, .int .i64 r.oldest, slP r.ps] := rfl
  by_cases h0 : r.kind = 0
  · simp only [k1Fit, if_pos h0] at hT hT2 hF
    have k1 := keyw_con sz.m
    have k2 := low_con sz.m
    by_cases b1 : mKw r.method = true
    case neg =>
      have f := hF (by simp [b1])
      simp only [Bool.not_eq_true] at b1
      rw [b1] at k1
      simp only [hc]
      simp -implicitDefEqProofs [f_spec_AFits_8, h0, cu, at_, kl, sn, uk, us, acall, h99, k1]
      exact f
    rw [b1] at k1
    by_cases b2 : lowS r.method = r.method
    case neg =>
      have f := hF (by simp [b2])
      simp only [hc]
      simp -implicitDefEqProofs [f_spec_AFits_8, h0, cu, at_, kl, sn, uk, us, acall, h99, k1, h112, k2, b2]
      exact f
    rw [b2] at k2
    by_cases b3 : r.method = sNone0
    · have f := hF (by simp [b3])
      have b3' : r.method = [110, 111, 110, 101] := b3
      rw [b3'] at k1 k2
      simp only [hc]
      simp -implicitDefEqProofs [f_spec_AFits_8, h0, cu, at_, kl, sn, uk, us, acall, h99, k1, h112, k2, b3']
      exact f
    have b3' : ¬ r.method = [110, 111, 110, 101] := b3
    by_cases b4 : r.reason = []
    case neg =>
      have f := hF (by simp [b4])
      simp only [hc]
      simp -implicitDefEqProofs [f_spec_AFits_8, h0, cu, at_, kl, sn, uk, us, acall, h99, k1, h112, k2, b3', b4]
      exact f
    by_cases b5 : r.method.length ≤ 30
    case neg =>
      have f := hF (by simp [b5])
      have b5' : (30 : Int) < (r.method.length : Int) := by omega
      simp only [hc]
      simp -implicitDefEqProofs [f_spec_AFits_8, h0, cu, at_, kl, sn, uk, us, acall, h99, k1, h112, k2, b3', b4, b5']
      exact f
    have b5' : ¬ (30 : Int) < (r.method.length : Int) := by omega
    simp only [b1, b2, b3, b4, b5, decide_true, Bool.and_self, Bool.true_and, ne_eq, not_false_eq_true] at hT hT2 hF
    have T := fun ex => af_5 (Q := thenQ (awp Γ f_spec_AFits_7 Q) Q) h99 h102 h112 h200 h204 uk us n i r _ rfl sz.l sz.z ex (fun h => hT2 h) (fun h => hF h)
    simp only [hc, h0, b4] at T
    simp only [hc]
    simp -implicitDefEqProofs [f_spec_AFits_8, h0, cu, at_, kl, sn, uk, us, acall, h99, k1, h112, k2, b3', b4, b5']
    exact T _
  · simp only [k1Fit, if_neg h0] at hT hF
    have T := fun ex => af_7 (Q := Q) h99 h112 h201 h204 uk us n i r sz.q ex hT hF
    simp only [hc] at T ⊢
    simp -implicitDefEqProofs [f_spec_AFits_8, h0, cu, at_, kl, sn, uk, us]
    exact T _

theorem fit1_k (r : AR) : aFit1 r = (aVals.contains r.value && (decide (0 ≤ r.kind) && (decide (r.kind ≤ 7) && ((decide (r.reason = []) || mTok r.reason) && k1Fit r)))) := by
  have e : t1Fit = fun p => aPlain p.2.2 && mKw p.2.1 && decide (lowS p.2.1 = p.2.1) := rfl
  simp only [aFit1, k1Fit, e, Bool.and_assoc]

include h99 h102 h104 h112 h200 h201 h204 uk us in
set_option maxRecDepth 100000 in
set_option maxHeartbeats 4000000 in
theorem af_9 {Q : APost} (r : AR) (sz : SzR r) (ex : List (Nat × AV))
    (hT : aFit1 r = true → ∀ ex', Q .normal ⟨(0, u) :: (17, u) :: (18, .int .i64 n) :: (19, .int .i64 i) :: ex', []⟩)
    (hT2 : aFit1 r = true → ∀ ex', Q (.exit 1) ⟨(0, u) :: (4, .ptr r.cells) :: (17, u) :: (18, .int .i64 n) :: (19, .int .i64 i) :: ex', []⟩)
    (hF : aFit1 r = false → Q .ret ⟨[(2, .bool false)], []⟩) :
    awp Γ f_spec_AFits_9 Q ⟨(0, u) :: (4, .ptr r.cells) :: (5, .bool (aVals.contains r.value)) :: (17, u) :: (18, .int .i64 n) :: (19, .int .i64 i) :: ex, []⟩ := by
  have cu := slP_cells r.ps
  have at_ := slP_atom r.ps
  have kl := slP_kill r.ps
  have sn := slP_snapW r.ps
  simp only [cells] at cu
  have hc : r.cells = [.int .i64 r.kind, .str r.method, .str r.value, .str r.reason, .str r.domain, .str r.ident, .str r.fr, .str r.sender, .str r.ip, .str r.helo, .str r.auth, .str r.hkey, .str r.hval, .str r.remote, .int .i64 r.oldest, slP r.ps] := rfl
  have T := fun (h : aFit1 r = k1Fit r) ex => af_8 (Q := Q) h99 h102 h112 h200 h201 h204 uk us n i r sz ex (fun e => hT (h.trans e)) (fun e => hT2 (h.trans e)) (fun e => hF (h.trans e))
  rw [fit1_k] at T hF
  clear hT hT2
  have kt := tokn_con sz.rs
  cases b1 : aVals.contains r.value with
  | false =>
    have f := hF (by simp only [b1, Bool.false_and])
    simp only [hc]
    simp -implicitDefEqProofs [f_spec_AFits_9, cu, at_, kl, sn, uk, us]
    exact f
  | true =>
    by_cases b2 : r.kind < 0
    · have f := hF (by simp only [b1, show ¬ (0 ≤ r.kind) by omega, decide_false, Bool.false_and, Bool.and_false])
      simp only [hc]
      simp -implicitDefEqProofs [f_spec_AFits_9, cu, at_, kl, sn, uk, us, b2]
      exact f
    by_cases b3 : 7 < r.kind
    · have f := hF (by simp only [b1, show ¬ (r.kind ≤ 7) by omega, decide_false, Bool.false_and, Bool.and_false])
      simp only [hc]
      simp -implicitDefEqProofs [f_spec_AFits_9, cu, at_, kl, sn, uk, us, b2, b3]
      exact f
    have c2 : 0 ≤ r.kind := by omega
    have c3 : r.kind ≤ 7 := by omega
    simp only [b1, c2, c3, decide_true, Bool.true_and] at T hF
    by_cases b4 : r.reason = []
    · have T' := T (by rw [b4]; simp)
      simp only [hc, b4] at T'
      simp only [hc]
      simp -implicitDefEqProofs [f_spec_AFits_9, cu, at_, kl, sn, uk, us, b2, b3, b4]
      exact T' _
    · cases b5 : mTok r.reason with
      | false =>
        have f := hF (by simp [b4, b5])
        rw [b5] at kt
        simp only [hc]
        simp -implicitDefEqProofs [f_spec_AFits_9, cu, at_, kl, sn, uk, us, b2, b3, b4, acall, h104, kt]
        exact f
      | true =>
        have T' := T (by simp [b5])
        rw [b5] at kt
        simp only [hc] at T' ⊢
        simp -implicitDefEqProofs [f_spec_AFits_9, cu, at_, kl, sn, uk, us, b2, b3, b4, acall, h104, kt]
        exact T' _
end

section
variable {Γ : Gam} {u : AV} (uk : ∀ d, kill d u = u) (us : ∀ g, snapW g u = u) (n i : Int)
include uk us in
set_option maxRecDepth 100000 in
set_option maxHeartbeats 4000000 in
theorem af_v {Q : APost} (r : AR) (V : List L8) (hV : V.length ≤ 10)
    (hT : ∀ ex', Q (.exit 2) ⟨(0, u) :: (4, .ptr r.cells) :: (5, .bool (V.contains r.value)) :: (17, u) :: (18, .int .i64 n) :: (19, .int .i64 i) :: ex', []⟩) :
    awp Γ (.loop [0, 4, 5, 17, 18, 19, 23, 24, 25] b_spec_AFits_1) Q ⟨[(0, u), (4, .ptr r.cells), (5, .bool false), (17, u), (18, .int .i64 n), (19, .int .i64 i), (23, .sl 1 (strsA V)), (24, .int .i64 V.length), (25, .int .i64 0)], []⟩ := by
  have cu := slP_cells r.ps
  have at_ := slP_atom r.ps
  have kl := slP_kill r.ps
  have sn := slP_snapW r.ps
  simp only [cells] at cu
  have hc : r.cells = [.int .i64 r.kind, .str r.method, .str r.value, .str r.reason, .str r.domain, .str r.ident, .str r.fr, .str r.sender, .str r.ip, .str r.helo, .str r.auth, .str r.hkey, .str r.hval, .str r.remote, .int .i64 r.oldest, slP r.ps] := rfl
  simp only [hc] at hT ⊢
  refine awp_loop2 (σ := List L8 × List L8) (fun z => ⟨[(0, u), (4, .ptr [.int .i64 r.kind, .str r.method, .str r.value, .str r.reason, .str r.domain, .str r.ident, .str r.fr, .str r.sender, .str r.ip, .str r.helo, .str r.auth, .str r.hkey, .str r.hval, .str r.remote, .int .i64 r.oldest, slP r.ps]), (5, .bool (z.1.contains r.value)), (17, u), (18, .int .i64 n), (19, .int .i64 i), (23, .sl 1 (strsA V)), (24, .int .i64 V.length), (25, .int .i64 z.1.length)], []⟩)
    (fun z => V = z.1 ++ z.2) (fun z => z.2.length) ([], V) (by simp) (by simp) ?_
  rintro ⟨pre, post⟩ e1 LQ hLQ
  simp only at e1
  cases post with
  | nil =>
    simp only [List.append_nil] at e1
    subst e1
    have hnl : ¬ ((V.length : Int) < (V.length : Int)) := by omega
    simp -implicitDefEqProofs [b_spec_AFits_1]
    simpa using hT _
  | cons m post =>
    have hlen : V.length = pre.length + (post.length + 1) := by rw [e1]; simp
    have hlt : (pre.length : Int) < (V.length : Int) := by omega
    have ew : IntKind.i64.wrap ((pre.length : Int) + 1) = (pre.length : Int) + 1 := wrap64 (by omega) (by omega)
    have g : V[pre.length]? = some m := by rw [e1]; exact get_mid rfl
    have f : LQ ⟨[(0, u), (4, .ptr [.int .i64 r.kind, .str r.method, .str r.value, .str r.reason, .str r.domain, .str r.ident, .str r.fr, .str r.sender, .str r.ip, .str r.helo, .str r.auth, .str r.hkey, .str r.hval, .str r.remote, .int .i64 r.oldest, slP r.ps]), (5, .bool ((pre ++ [m]).contains r.value)), (17, u), (18, .int .i64 n), (19, .int .i64 i), (23, .sl 1 (strsA V)), (24, .int .i64 V.length), (25, .int .i64 ((pre.length : Int) + 1))], []⟩ :=
      hLQ (pre ++ [m], post) (by rw [e1]; simp) (by simp) _ (by simp)
    rw [ms_any] at f
    cases hb : pre.contains r.value with
    | true =>
      rw [hb] at f
      simp -implicitDefEqProofs [b_spec_AFits_1, hlt, g, ew, uk, us, cu, at_, kl, sn]
      simpa using f
    | false =>
      rw [hb] at f
      have e : [m].contains r.value = decide (m = r.value) := by rw [Bool.eq_iff_iff]; simp [eq_comm]
      rw [e] at f
      simp -implicitDefEqProofs [b_spec_AFits_1, hlt, g, ew, uk, us, cu, at_, kl, sn]
      simpa using f
/-- Bounds that results meet. -/
theorem sz_fit2 {r : AR} (h : fit2 r = true) : SzR r := by
  simp only [fit2, lenB, fits13, fits14, Bool.and_eq_true, decide_eq_true_eq, List.all_eq_true] at h
  obtain ⟨h1, h2, h3, h4, h5, h6, h7, h8, h9, h10, h11, h12, h13, h14, h15⟩ := h
  refine ⟨by simp only [mid]; omega, by simp only [mid]; omega, by simp only [mid]; omega, fun p hp => by have := h15 p hp; simp only [mid]; omega, ?_⟩
  have M : (2147483647 : Nat) < mid := by simp only [mid]; omega
  intro p hp
  unfold AR.props at hp
  have c5 : ∀ s : L8, s.length ≤ 10 → s.length < mid := fun s h => by simp only [mid]; omega
  repeat' split at hp
  all_goals simp at hp
  all_goals try rcases hp with rfl | rfl | rfl
  all_goals try rcases hp with rfl | rfl
  all_goals try subst hp
  all_goals (refine ⟨?_, ?_⟩ <;> first | (simp only [mid]; omega) | (simp [nAuth, nD, nI, nFrom, nSender, nIprev, nMail, nHelo, mid]))
end

def con_AFits : List AV → Option AV
  | [u] => match slAR u with
    | some l => if l.length < half ∧ l.all fit2 = true then some (.bool (aFits l)) else none
    | none => none
  | _ => none
set_option maxRecDepth 100000 in
set_option maxHeartbeats 4000000 in
theorem ok_AFits (Γ : Gam) (h99 : Γ.fn 99 = con_MailKeyword) (h102 : Γ.fn 102 = con_MailHalves) (h104 : Γ.fn 104 = con_MailToken) (h112 : Γ.fn 112 = con_MailLower) (h200 : Γ.fn 200 = con_AMethods) (h201 : Γ.fn 201 = con_AProps) (h203 : Γ.fn 203 = con_AValues) (h204 : Γ.fn 204 = con_APlain) :
    ∀ args r, con_AFits args = some r → runs Γ c_spec_AFits args (fun v => v = r) := by
  intro args r h
  simp only [con_AFits] at h
  split at h <;> (try simp at h; done)
  rename_i u
  split at h <;> (try simp at h; done)
  rename_i l hl
  obtain ⟨⟨h1, h2⟩, rfl⟩ := ite_some h
  clear h
  have uk := sar_kill hl
  have us := sar_snapW hl
  have ua := sar_alen hl
  simp only [half] at h1
  rw [List.all_eq_true] at h2
  simp -implicitDefEqProofs [-alen, c_spec_AFits, ua]
  refine awp_loop2 (σ := List AR × List AR) (fun z => ⟨[(0, u), (17, u), (18, .int .i64 l.length), (19, .int .i64 z.1.length)], []⟩)
    (fun z => l = z.1 ++ z.2 ∧ z.1.all aFit1 = true) (fun z => z.2.length) ([], l) (by simp) (by simp) ?_
  rintro ⟨pre, post⟩ ⟨e1, e2⟩ LQ hLQ
  simp only at e1 e2
  cases post with
  | nil =>
    simp only [List.append_nil] at e1
    subst e1
    have hnl : ¬ ((l.length : Int) < (l.length : Int)) := by omega
    have e : aFits l = decide ((l.length : Int) ≤ 10) := by
      simp only [aFits, e2, Bool.true_and]
      exact decide_eq_decide.2 (by omega)
    simp -implicitDefEqProofs [-alen, b_spec_AFits_11, t_spec_AFits_12, ua, e]
  | cons x post =>
    have hu := sar_ne hl (by rw [e1]; simp)
    subst hu
    have hlen : l.length = pre.length + (post.length + 1) := by rw [e1]; simp
    have hlt : (pre.length : Int) < (l.length : Int) := by omega
    have ew : IntKind.i64.wrap ((pre.length : Int) + 1) = (pre.length : Int) + 1 := wrap64 (by omega) (by omega)
    have g : (arA l)[pre.length]? = some (.agg x.cells) := by rw [e1, arA_app]; exact get_mid (by simp)
    have sz := sz_fit2 (h2 x (by rw [e1]; simp))
    have cu := slP_cells x.ps
    simp only [cells] at cu
    have k203 : con_AValues [] = some (.sl 1 (strsA aVals)) := rfl
    have bad : aFit1 x = false → aFits l = false := fun h => by
      have : l.all aFit1 = false := by rw [e1]; simp [h]
      simp only [aFits, this, Bool.false_and]
    have good : aFit1 x = true → LQ ⟨[(0, .sl 16 (arA l)), (17, .sl 16 (arA l)), (18, .int .i64 l.length), (19, .int .i64 ((pre.length : Int) + 1))], []⟩ := fun h =>
      hLQ (pre ++ [x], post) ⟨by rw [e1]; simp, by rw [List.all_append, e2]; simp [h]⟩ (by simp) _ (by simp)
    have hc : x.cells = [.int .i64 x.kind, .str x.method, .str x.value, .str x.reason, .str x.domain, .str x.ident, .str x.fr, .str x.sender, .str x.ip, .str x.helo, .str x.auth, .str x.hkey, .str x.hval, .str x.remote, .int .i64 x.oldest, slP x.ps] := rfl
    have T := fun Q a b c ex => af_9 (Γ := Γ) (Q := Q) h99 h102 h104 h112 h200 h201 h204 uk us (l.length : Int) (pre.length : Int) x sz ex a b c
    have hal : aVals.length = 9 := rfl
    have V := fun Q hT => af_v (Γ := Γ) (Q := Q) uk us (l.length : Int) (pre.length : Int) x aVals (by omega) hT
    rw [hal] at V
    simp only [hc] at g T V
    generalize hVV : aVals = V9 at *
    simp -implicitDefEqProofs [b_spec_AFits_11, hlt, g, cu, uk, us, acall, h203, k203, hal]
    refine V _ fun ex' => ?_
    refine T _ ?_ ?_ ?_ _
    · intro h ex''
      have gd := good h
      simp -implicitDefEqProofs [t_spec_AFits_10, ew]
      exact gd
    · intro h ex''
      have gd := good h
      simp -implicitDefEqProofs [t_spec_AFits_10, ew]
      exact gd
    · intro h
      have b := bad h
      simp -implicitDefEqProofs [b]
end Wax


namespace Wax
open Go (IntKind)

theorem only_only (r : AR) : r.only.only = r.only := by
  by_cases h0 : r.kind = 0
  · simp [AR.only, h0]
  by_cases h1 : r.kind = 1
  · simp [AR.only, h1]
  by_cases h2 : r.kind = 2
  · simp [AR.only, h2]
  by_cases h3 : r.kind = 3
  · simp [AR.only, h3]
  by_cases h4 : r.kind = 4
  · simp [AR.only, h4]
  by_cases h5 : r.kind = 5
  · simp [AR.only, h5]
  by_cases h6 : r.kind = 6
  · simp [AR.only, h6]
  by_cases h7 : r.kind = 7
  · simp [AR.only, h7]
  simp [AR.only, h0, h1, h2, h3, h4, h5, h6, h7]
theorem fit2_only {r : AR} (h : fit2 r = true) : fit2 r.only = true := by
  simp only [fit2, lenB, Bool.and_eq_true, decide_eq_true_eq] at h
  obtain ⟨h1, h2, h3, h4, h5, h6, h7, h8, h9, h10, h11, h12, h13, h14⟩ := h
  have hn : fits13 [] = true := rfl
  unfold AR.only
  repeat' split
  all_goals simp [fit2, lenB, ar0, h1, h2, h3, h4, h5, h6, h7, h8, h9, h10, h11, h12, h13, h14, hn]
theorem norm_norm (r : AR) : r.norm.norm = r.norm := by
  obtain ⟨a, b, c, d, e, f, g, h, i, j, k, l, m, n, o, ps⟩ := r
  cases ps with
  | none => rfl
  | some p => cases p <;> rfl
theorem norm_ps (r : AR) : r.norm.ps.getD [] = r.ps.getD [] := by
  obtain ⟨a, b, c, d, e, f, g, h, i, j, k, l, m, n, o, ps⟩ := r
  cases ps with
  | none => rfl
  | some p => cases p <;> rfl
theorem fit2_ps {r : AR} (h : fit2 r = true) : (r.ps.getD []).length < half := by
  simp only [fit2, lenB, fits13, Bool.and_eq_true, decide_eq_true_eq] at h
  simp only [half]; omega
end Wax


namespace Wax
open Go (IntKind)

/-- A result's text, where a key may stand twice. -/
structure ResT.OkW (t : ResT) : Prop where
  pre : allWs t.pre
  head : KvOk t.head
  ps : ∀ p ∈ t.ps, (p.1 ≠ [] ∧ allWs p.1) ∧ KvOk p.2
theorem ResT.Ok.w {t : ResT} (h : t.Ok) : t.OkW := ⟨h.pre, h.head, h.ps⟩
theorem ResT.OkW.res {t : ResT} (h : t.OkW) {b : L8} (hb : allWs b) {x : PR} (hx : prOf (lowS t.head.1) (lowS t.head.2) (prmsOf ((t.ps.map (·.2)).map kvW) []) = .inr x) : trimS (t.txt ++ b) ≠ [] ∧ resAOf (trimS (t.txt ++ b)) = .inr (some x) := by
  have hw : wordsOf (t.txt ++ b) = kvW t.head :: (t.ps.map (·.2)).map kvW := by
    have e : t.txt ++ b = t.pre ++ (kvW t.head ++ (flatW (t.ps.map fun p => (p.1, kvW p.2)) ++ b)) := by simp [ResT.txt]
    rw [e, wordsOf_flat h.pre hb kvW_ne (gW_non (kvW_g h.head))]
    · simp
    · intro p hp
      obtain ⟨q, hq, rfl⟩ := List.mem_map.1 hp
      have := h.ps q hq
      exact ⟨this.1, kvW_ne, gW_non (kvW_g this.2)⟩
  have hw2 := wordsOf_trim (t.txt ++ b)
  rw [hw] at hw2
  refine ⟨fun e => ?_, ?_⟩
  · rw [e] at hw2; simp [wordsOf, wordsGo] at hw2
  · simp only [resAOf, hw2]
    rw [if_neg kvW_not_none, kvW_of h.head]
    simp only [hx]
theorem ResT.OkW.no {t : ResT} (h : t.OkW) : noB 59 t.txt := by
  refine noB_app (allWs_no h.pre) (noB_app (gW_no (kvW_g h.head)) ?_)
  intro x hx
  simp only [flatW, List.mem_flatMap, List.mem_map] at hx
  obtain ⟨_, ⟨q, hq, rfl⟩, hx⟩ := hx
  have := h.ps q hq
  rcases List.mem_append.1 hx with hx | hx
  · exact allWs_no this.1.2 x hx
  · exact gW_no (kvW_g this.2) x hx
theorem ResT.OkW.pl {t : ResT} (h : t.OkW) : plain t.txt = true := by
  refine plain_appB (allWs_plain h.pre) (plain_appB (gW_plain (kvW_g h.head)) ?_)
  simp only [plain, List.all_eq_true]
  intro x hx
  simp only [flatW, List.mem_flatMap, List.mem_map] at hx
  obtain ⟨_, ⟨q, hq, rfl⟩, hx⟩ := hx
  have := h.ps q hq
  have hp : plain (q.1 ++ kvW q.2) = true := plain_appB (allWs_plain this.1.2) (gW_plain (kvW_g this.2))
  exact List.all_eq_true.1 hp x hx
/-- A field of one result. -/
theorem ad_text1 {i p : L8} (hi : aPlain i = true) (hp : allWs p) {t : ResT} (h : t.OkW) {x : PR} (hx : prOf (lowS t.head.1) (lowS t.head.2) (prmsOf ((t.ps.map (·.2)).map kvW) []) = .inr x) :
    adText (i ++ (p ++ 59 :: t.txt)) = some (i, [x]) ∧ plain (i ++ (p ++ 59 :: t.txt)) = true := by
  obtain ⟨g1, g2, _⟩ := aPlain_g hi
  have e : i ++ (p ++ 59 :: t.txt) = (i ++ p) ++ 59 :: t.txt := by simp
  have h1 := (h.res (b := []) (by intro y hy; simp at hy) hx)
  simp only [List.append_nil] at h1
  refine ⟨?_, ?_⟩
  · simp only [adText]
    rw [e, splitB_app (b := 59) (noB_app (gW_no g1) (allWs_no hp)), splitB_only (b := 59) h.no]
    simp only [adId_word g1 g2 hp, adGo, if_neg h1.1, h1.2]
    rfl
  · rw [e]
    refine plain_appB (plain_appB (gW_plain g1) (allWs_plain hp)) ?_
    have : plain ([59] ++ t.txt) = true := plain_appB (by decide) h.pl
    exact this

theorem ResT.Ok.prms {t : ResT} (h : t.Ok) : prmsOf ((t.ps.map (·.2)).map kvW) [] = t.prm := by
  rw [prmsOf_kv _ [] (fun p hp => by obtain ⟨q, hq, rfl⟩ := List.mem_map.1 hp; exact (h.ps q hq).2)]
  · simp [ResT.prm]
  · simpa [Function.comp_def] using h.nd
end Wax


namespace Wax
open Go (IntKind)

/-- A letter, great if its bit is set. -/
def gLet (g i : Nat) (c : UInt8) : UInt8 := if 97 ≤ c.toNat ∧ c.toNat ≤ 122 ∧ g / 2 ^ (i % 64) % 2 = 1 then UInt8.ofNat (c.toNat - 32) else c
def gLets (g : Nat) : Nat → L8 → L8
  | _, [] => []
  | i, c :: r => gLet g i c :: gLets g (i + 1) r
theorem gLets_len (g : Nat) : ∀ (s : L8) (i : Nat), (gLets g i s).length = s.length
  | [], _ => rfl
  | _ :: r, i => by simp [gLets, gLets_len g r]
theorem gLets_app (g : Nat) : ∀ (a b : L8) (i : Nat), gLets g i (a ++ b) = gLets g i a ++ gLets g (i + a.length) b
  | [], b, i => by simp [gLets]
  | c :: a, b, i => by
    simp only [List.cons_append, gLets, gLets_app g a b, List.length_cons]
    rw [show i + 1 + a.length = i + (a.length + 1) by omega]
theorem gLet_spec (g i : Nat) (c : UInt8) : lowB (gLet g i c) = lowB c ∧ (gLet g i c = c ∨ (97 ≤ c.toNat ∧ c.toNat ≤ 122 ∧ (gLet g i c).toNat = c.toNat - 32)) := by
  unfold gLet
  split
  · rename_i h
    have e : (UInt8.ofNat (c.toNat - 32)).toNat = c.toNat - 32 := by
      rw [UInt8.toNat_ofNat']; exact Nat.mod_eq_of_lt (by omega)
    refine ⟨?_, .inr ⟨h.1, h.2.1, e⟩⟩
    apply UInt8.toNat_inj.1
    have h1 := lowB_toNat (UInt8.ofNat (c.toNat - 32))
    have h2 := lowB_toNat c
    rw [e] at h1
    split at h1 <;> split at h2 <;> omega
  · exact ⟨rfl, .inl rfl⟩
theorem gLets_low (g : Nat) : ∀ (s : L8) (i : Nat), lowS (gLets g i s) = lowS s
  | [], _ => rfl
  | c :: r, i => by
    have := gLets_low g r (i + 1)
    simp only [lowS, gLets, List.map_cons] at this ⊢
    rw [(gLet_spec g i c).1, this]
theorem gLets_gW {g : Nat} : ∀ {s : L8} {i : Nat}, gW s → gW (gLets g i s)
  | [], _, h => h
  | c :: r, i, h => by
    intro x hx
    simp only [gLets, List.mem_cons] at hx
    rcases hx with rfl | hx
    · have hc := h c (by simp)
      rcases (gLet_spec g i c).2 with e | ⟨h1, h2, h3⟩
      · rw [e]; exact hc
      · refine ⟨by omega, by omega, fun e => ?_⟩
        rw [e] at h3
        have : (59 : UInt8).toNat = 59 := rfl
        omega
    · exact gLets_gW (fun y hy => h y (by simp [hy])) x hx
theorem gLets_ne {g : Nat} : ∀ {s : L8} {i : Nat}, (∀ x ∈ s, x ≠ 61) → ∀ x ∈ gLets g i s, x ≠ 61
  | [], _, h => h
  | c :: r, i, h => by
    intro x hx
    simp only [gLets, List.mem_cons] at hx
    rcases hx with rfl | hx
    · have hc := h c (by simp)
      rcases (gLet_spec g i c).2 with e | ⟨h1, h2, h3⟩
      · rw [e]; exact hc
      · intro e
        rw [e] at h3
        have : (61 : UInt8).toNat = 61 := rfl
        omega
    · exact gLets_ne (fun y hy => h y (by simp [hy])) x hx
theorem gLets_kv {p : KVp} (h : KvOk p) (g g' i i' : Nat) : KvOk (gLets g i p.1, gLets g' i' p.2) := ⟨gLets_gW h.k, gLets_ne h.e, gLets_gW h.v⟩
theorem gLets_kv1 {p : KVp} (h : KvOk p) (g i : Nat) : KvOk (gLets g i p.1, p.2) := ⟨gLets_gW h.k, gLets_ne h.e, h.v⟩
/-- The keys of properties, each with its bits. -/
def gKvs (g : Nat) : Nat → List KVp → List (L8 × KVp)
  | _, [] => []
  | k, p :: r => ([32], (gLets (g / 2 ^ (11 * k + 3)) 0 p.1, p.2)) :: gKvs g (k + 1) r
theorem gKvs_low (g : Nat) : ∀ (l : List KVp) (k : Nat), (gKvs g k l).map (fun p => (lowS p.2.1, p.2.2)) = l.map fun p => (lowS p.1, p.2)
  | [], _ => rfl
  | p :: r, k => by simp only [gKvs, List.map_cons, gKvs_low g r, gLets_low]
theorem gKvs_ok (g : Nat) : ∀ (l : List KVp) (k : Nat), (∀ p ∈ l, KvOk p) → ∀ p ∈ gKvs g k l, (p.1 ≠ [] ∧ allWs p.1) ∧ KvOk p.2
  | [], _, _ => by intro p hp; simp [gKvs] at hp
  | q :: r, k, h => by
    intro p hp
    simp only [gKvs, List.mem_cons] at hp
    rcases hp with rfl | hp
    · exact ⟨⟨by simp, by intro y hy; simp at hy; subst hy; decide⟩, gLets_kv1 (h q (by simp)) _ _⟩
    · exact gKvs_ok g r (k + 1) (fun x hx => h x (by simp [hx])) p hp
/-- The reason, if there is one, and the properties. -/
def gRps (g : Nat) (r : AR) : List (L8 × KVp) := (if r.reason = [] then [] else [([32], (gLets (g / 128) 0 qReason, r.reason))]) ++ gKvs g 0 (r.iprops.map fun p => (p.1 ++ 46 :: p.2.1, p.2.2))
def gRes (g : Nat) (r : AR) : ResT := ⟨[32], (gLets g 0 r.meth, gLets g (r.meth.length + 1) r.value), gRps g r⟩
def gText (i : L8) (g : Nat) (r : AR) : L8 := i ++ 59 :: (gRes g r).txt
theorem cut46 {s a b : L8} (h : cutAt 46 s = some (a, b)) : a ++ 46 :: b = s := by
  obtain ⟨x, hx1, hx2, _⟩ := cutAt_eq h
  have : x = 46 := UInt8.toNat_inj.1 (by have : (46 : UInt8).toNat = 46 := rfl; omega)
  rw [hx2, this]
theorem ipr_eq {r : AR} (hf : aFit1 r = true) : (r.iprops.map fun p => (p.1 ++ 46 :: p.2.1, p.2.2)) = if r.kind = 0 then r.ps.getD [] else r.props.map fun p => (p.1 ++ 46 :: p.2.1, p.2.2) := by
  by_cases h0 : r.kind = 0
  · simp only [AR.iprops, if_pos h0, List.map_map]
    simp only [aFit1, Bool.and_eq_true, if_pos h0, decide_eq_true_eq] at hf
    obtain ⟨a, _, _⟩ := gFit_spec _ _ hf.2.2
    conv => rhs; rw [← List.map_id (r.ps.getD [])]
    refine List.map_congr_left fun p hp => ?_
    obtain ⟨_, _, ⟨q, hq, _, _⟩, _⟩ := a p hp
    simp only [Function.comp, halfP, hq, cut46 hq]
    rfl
  · simp only [AR.iprops, if_neg h0]
theorem gRps_low {r : AR} (hf : aFit1 r = true) (g : Nat) : (gRps g r).map (fun p => (lowS p.2.1, p.2.2)) = r.prm := by
  obtain ⟨h1, _, _, _⟩ := fit_parts hf
  have e : (gRps g r).map (fun p => (lowS p.2.1, p.2.2)) = r.prm.map fun p => (lowS p.1, p.2) := by
    simp only [gRps, ipr_eq hf, List.map_append, gKvs_low, AR.prm, rPs]
    congr 1
    split <;> simp [gLets_low]
  rw [e, low_kv h1]
theorem gRes_ok {r : AR} (hf : aFit1 r = true) (g : Nat) : (gRes g r).Ok ∧ (gRes g r).prm = r.prm := by
  obtain ⟨h1, h2, h3, h4⟩ := fit_parts hf
  have hl := gRps_low hf g
  have hkv : ∀ p ∈ (r.iprops.map fun p => (p.1 ++ 46 :: p.2.1, p.2.2)), KvOk p := by
    rw [ipr_eq hf]
    intro p hp
    exact (h1.kv p (by simp only [AR.prm]; exact List.mem_append_right _ hp)).1
  refine ⟨⟨by intro y hy; simp only [gRes, List.mem_singleton] at hy; subst hy; decide, gLets_kv h2 _ _ _ _, ?_, ?_⟩, hl⟩
  · intro p hp
    simp only [gRes, gRps, List.mem_append] at hp
    rcases hp with hp | hp
    · split at hp
      · simp at hp
      · rename_i hr
        simp only [List.mem_singleton] at hp
        subst hp
        have := (h1.kv (qReason, r.reason) (by simp only [AR.prm, rPs, if_neg hr]; simp)).1
        exact ⟨⟨by simp, by intro y hy; simp at hy; subst hy; decide⟩, gLets_kv1 this _ _⟩
    · exact gKvs_ok g _ 0 hkv p hp
  · have := congrArg (List.map (·.1)) hl
    simp only [List.map_map] at this
    have e : (gRes g r).ps.map (fun p => lowS p.2.1) = r.prm.map (·.1) := this
    rw [e]; exact h1.nd
/-- In letters of any case it is read as in small ones. -/
theorem letters_read {i : L8} (hi : aPlain i = true) {r : AR} (hf : aFit1 r = true) (g : Nat) : ∃ x : PR, adText (gText i g r) = some (i, [x]) ∧ x.ar = r.only.norm ∧ plain (gText i g r) = true := by
  obtain ⟨h1, h2⟩ := gRes_ok hf g
  obtain ⟨_, _, h3, h4⟩ := fit_parts hf
  obtain ⟨x, hx, ex⟩ := reads_all hf
  obtain ⟨a1, a2⟩ := ad_text1 hi (p := []) (by intro y hy; simp at hy) h1.w (x := x) (by
    rw [h1.prms, h2]
    show prOf (lowS (gLets g 0 r.meth)) (lowS (gLets g (r.meth.length + 1) r.value)) r.prm = _
    rw [gLets_low, gLets_low, h3, h4]; exact hx)
  exact ⟨x, a1, ex, a2⟩
end Wax


namespace Wax
open Go Go.ChangeShapes Go.WideShapes Go.RowKit

theorem lkGl_mem : ∀ {l : List (Nat × List AV)} {g : Nat} {cs : List AV}, lkGl l g = some cs → (g, cs) ∈ l
  | [], _, _, h => by simp [lkGl] at h
  | (i, v) :: r, g, cs, h => by
    simp only [lkGl] at h
    split at h
    · rename_i e
      simp only [beq_iff_eq] at e
      simp only [Option.some.injEq] at h
      subst e; subst h; simp
    · exact List.mem_cons_of_mem _ (lkGl_mem h)

theorem GlobOk.of {T : Tab} {w : World} {F : Frz} (h : ∀ p ∈ T.gl, RepAt T w F p.1 0 p.2 ∧ F p.1 ∧ ∃ vs q a, w.heap[p.1]? = some (.cells vs q a) ∧ vs.size = p.2.length) : GlobOk T w F := fun g cs hg => h (g, cs) (lkGl_mem hg)

theorem var_heap {P : Program} {w : World} {n : String} {g : Nat} {cs : Array Value} (hg : P.globalNamed n = some g) (hv : w.var? P n = some cs) : ∃ q a, w.heap[g]? = some (.cells cs q a) := by
  simp only [World.var?, hg, Option.bind_some] at hv
  split at hv
  · rename_i cs' q a h
    injection hv with hv
    subst hv
    exact ⟨q, a, h⟩
  · simp at hv

theorem lt_of_heap {w : World} {g : Nat} {x : Obj} (h : w.heap[g]? = some x) : g < w.heap.size := by
  rcases Nat.lt_or_ge g w.heap.size with h' | h'
  · exact h'
  · rw [Array.getElem?_eq_none h'] at h; simp at h

/-- A variable that bears an error. -/
theorem repAt_err {T : Tab} {P : Program} {w : World} {n : String} {g tp : Nat} {y : Value} (hg : P.globalNamed n = some g) (hv : w.var? P n = some #[.iface tp y]) (ht : lkN T.tys tp = some 3) :
    RepAt T w (fun b => b < w.heap.size) g 0 [.ifc 3 .junk] ∧ g < w.heap.size ∧ ∃ vs q a, w.heap[g]? = some (.cells vs q a) ∧ vs.size = 1 := by
  obtain ⟨q, a, h⟩ := var_heap hg hv
  refine ⟨?_, lt_of_heap h, _, q, a, h, rfl⟩
  simp only [RepAt, and_true]
  exact ⟨lt_of_heap h, _, by simpa using World.var?_cell hg hv 0, tp, y, rfl, ht, trivial⟩

theorem repAt_ints {T : Tab} {w : World} {F : Frz} {g : Nat} {k : IntKind} (hF : F g) : ∀ (zs : List Int) (o : Nat), (∀ j z, zs[j]? = some z → w.cell? ⟨g, o + j, none⟩ = some (.int k z)) → RepAt T w F g o (zs.map (AV.int k))
  | [], _, _ => trivial
  | z :: r, o, h => by
    simp only [List.map_cons, RepAt]
    refine ⟨⟨hF, _, by simpa using h 0 z rfl, by simp [Rep]⟩, ?_⟩
    exact repAt_ints hF r (o + 1) fun j s hj => by
      rw [show o + 1 + j = o + (j + 1) by omega]
      exact h (j + 1) s (by simpa using hj)

/-- A table of integers. -/
theorem repAt_tab {T : Tab} {P : Program} {w : World} {n : String} {g : Nat} {k : IntKind} {zs : List Int} (hg : P.globalNamed n = some g) (hv : Lib.TabIs P w n k zs) :
    RepAt T w (fun b => b < w.heap.size) g 0 (zs.map (AV.int k)) ∧ g < w.heap.size ∧ ∃ vs q a, w.heap[g]? = some (.cells vs q a) ∧ vs.size = (zs.map (AV.int k)).length := by
  have hv' : w.var? P n = some (zs.map fun z => Value.int k z).toArray := hv
  obtain ⟨q, a, h⟩ := var_heap hg hv'
  refine ⟨repAt_ints (F := fun b => b < w.heap.size) (lt_of_heap h) zs 0 fun j z hj => ?_, lt_of_heap h, _, q, a, h, by simp⟩
  have hc := World.var?_cell hg hv' j
  rw [Nat.zero_add, hc]
  simp [hj]

end Wax


namespace Wax
open Go Go.ChangeShapes Go.WideShapes Go.RowKit Go.Joins Go.Deep

section
variable {P : Program} {T : Tab} {w : World} {H : Type} {enc : TypeId × Value → H}

theorem repSl_pairs {F : Frz} {b : Nat} (hF : F b) : ∀ (l : List (List UInt8 × List UInt8)) (o : Nat), (∀ (j : Nat) p, l[j]? = some p → w.cell? ⟨b, o + j * 2, none⟩ = some (.string ⟨p.1.toArray⟩) ∧ w.cell? ⟨b, o + j * 2 + 1, none⟩ = some (.string ⟨p.2.toArray⟩)) → RepSl T w F 2 b o (pr2 l)
  | [], _, _ => trivial
  | p :: r, o, h => by
    have h0 := h 0 p rfl
    simp only [Nat.zero_mul, Nat.add_zero] at h0
    simp only [pr2_cons, RepSl, RepAt, and_true]
    refine ⟨rfl, ⟨⟨hF, _, h0.1, by simp [Rep]⟩, hF, _, h0.2, by simp [Rep]⟩, ?_⟩
    exact repSl_pairs hF r (o + 2) fun j q hj => by
      have := h (j + 1) q (by simpa using hj)
      rwa [show o + (j + 1) * 2 = o + 2 + j * 2 by omega] at this

def strOf : Value → List UInt8
  | .string s => s.data.toList
  | _ => []

end
end Wax


namespace Wax
open Go Go.ChangeShapes Go.WideShapes Go.RowKit Go.Joins Go.Deep

/-- A measure of what came in. -/
structure Bulk (H : Type) where
  B : DataW H → Nat
  A : List (DataW H) → Nat
  str : ∀ b, B (.lit (.string b)) = b.length + 1
  agg : ∀ l, B (.agg l) = A l + 1
  slice : ∀ e s, B (.slice e s) = A e + A s + 1
  nil : A [] = 0
  cons : ∀ d l, A (d :: l) = B d + A l
theorem Bulk.range {H : Type} (K : Bulk H) (D : Nat → DataW H) (f : Nat → Nat) : ∀ (l : List Nat), (∀ i ∈ l, f i ≤ K.B (D i)) → (l.map f).sum ≤ K.A (l.map D)
  | [], _ => by simp
  | i :: l, h => by
    rw [List.map_cons, List.map_cons, List.sum_cons, K.cons]
    have h1 := h i (by simp)
    have h2 := K.range D f l (fun j hj => h j (by simp [hj]))
    omega
def kvSz (p : List UInt8 × List UInt8) : Nat := p.1.length + p.2.length
def AR.bulk (r : AR) : Nat := r.method.length + r.value.length + r.reason.length + r.domain.length + r.ident.length + r.fr.length + r.sender.length + r.ip.length + r.helo.length + r.auth.length + r.hkey.length + r.hval.length + r.remote.length + ((r.ps.getD []).map fun p => kvSz p + 1).sum

section
variable {P : Program} {T : Tab} {w : World} {H : Type} {enc : TypeId × Value → H}

theorem addr_eta {a : Addr} (h : a.spot = none) : a = ⟨a.block, a.off, none⟩ := by cases a; simp_all
theorem cell_spot {a : Addr} {v : Value} (h : w.cell? a = some v) : a.spot = none ∧ a.block < w.heap.size := by
  unfold World.cell? at h
  split at h
  · rename_i c t f hh
    split at h
    · simp at h
    · rename_i hs
      refine ⟨by simpa using hs, ?_⟩
      rcases Nat.lt_or_ge a.block w.heap.size with h1 | h1
      · exact h1
      · rw [Array.getElem?_eq_none h1] at hh; simp at hh
  · simp at h
/-- A slice of pairs of texts, as a cell holds it. -/
theorem trod_pairs {t e : TypeId} {f0 f1 : Field} {n : Nat} {v : Value} {y : DataW H × List MemPlace} (K : Bulk H) (ht : P.underlying t = some (.slice e)) (he : P.underlying e = some (.struct #[f0, f1]))
    (ce : P.cellsOf e = 2) (o0 : f0.offset = 0) (o1 : f1.offset = 1) (c0 : P.cellsOf f0.type = 1) (c1 : P.cellsOf f1.type = 1) (s0 : P.underlying f0.type = some .string) (s1 : P.underlying f1.type = some .string)
    (h : DataW.trod enc P w 0 (fun _ => true) true n t [v] = some y) :
    ∃ x : Option (List (List UInt8 × List UInt8)), Rep T w (fun k => k < w.heap.size) noRho (slP x) v ∧ (x.getD []).length < 9223372036854775808 ∧ ((x.getD []).map fun p => kvSz p + 1).sum ≤ K.B y.1 := by
  rcases open_slice_pairs ht he ce o0 o1 c0 c1 h with ⟨hcs, rfl⟩ | ⟨a, len, cap, m, k, V0, V1, D0, D1, P0, P1, hcs, _, hl, hm, hmm, rfl, hcell⟩
  · simp at hcs
    subst hcs
    exact ⟨none, by simp [slP, Rep], by simp, by simp⟩
  · simp at hcs
    subst hcs
    simp only [if_true] at hmm
    have h1 : cap ≤ 9223372036854775807 := hm
    by_cases h0 : len = 0
    · subst h0
      refine ⟨some [], ?_, by simp, by simp⟩
      simp only [slP, pr2, List.map_nil, Rep]
      exact .inr ⟨trivial, a, cap, rfl⟩
    · obtain ⟨g0, _, _, _⟩ := hcell 0 (by omega)
      have ea : a.add (0 * 2) = a := by simp [Addr.add]
      rw [ea] at g0
      obtain ⟨hs, hb⟩ := cell_spot g0
      rw [addr_eta hs] at hcell ⊢
      generalize a.block = b at *
      generalize a.off = o at *
      obtain ⟨l, hl'⟩ : ∃ l : List (List UInt8 × List UInt8), l = (List.range len).map fun i => (strOf (V0 i), strOf (V1 i)) := ⟨_, rfl⟩
      have hll : l.length = len := by rw [hl']; simp
      refine ⟨some l, ?_, by simp only [Option.getD_some]; omega, ?_⟩
      · simp only [slP, Rep]
        refine .inl ⟨b, o, cap, ?_, ?_, ?_⟩
        · simp [pr2, hll]
        · simp [pr2, hll]; exact hl
        · refine repSl_pairs (F := fun k => k < w.heap.size) hb l o ?_
          intro j p hj
          have hjl : j < len := by
            rcases Nat.lt_or_ge j l.length with h | h
            · omega
            · simp [List.getElem?_eq_none h] at hj
          obtain ⟨g0, g1, r0, r1⟩ := hcell j (by omega)
          rw [addr_add] at g0
          have e1 : ((⟨b, o, none⟩ : Addr).add (j * 2 + 1)) = ⟨b, o + (j * 2 + 1), none⟩ := addr_add _ _ _
          rw [e1, ← Nat.add_assoc] at g1
          rw [hl', List.getElem?_map, List.getElem?_range hjl] at hj
          simp only [Option.map_some, Option.some.injEq] at hj
          subst hj
          rw [g0, g1]
          obtain ⟨t0, q0, _, _⟩ := DataW.trod_string s0 r0
          obtain ⟨t1, q1, _, _⟩ := DataW.trod_string s1 r1
          injection q0 with q0
          injection q1 with q1
          rw [q0, q1]
          exact ⟨rfl, rfl⟩
      · simp only [Option.getD_some]
        have hr := K.range (fun i => .agg [D0 i, D1 i]) (fun i => kvSz (strOf (V0 i), strOf (V1 i)) + 1) (List.range len) (fun i hi => by
          have hi' : i < m := by have := List.mem_range.1 hi; omega
          obtain ⟨_, _, r0, r1⟩ := hcell i hi'
          obtain ⟨t0, q0, z0, _⟩ := DataW.trod_string s0 r0
          obtain ⟨t1, q1, z1, _⟩ := DataW.trod_string s1 r1
          injection q0 with q0
          injection q1 with q1
          injection z0 with z0
          injection z1 with z1
          rw [z0, z1, q0, q1, K.agg, K.cons, K.cons, K.nil, K.str, K.str]
          simp only [kvSz, strOf]
          omega)
        rw [K.slice]
        have : (l.map fun p => kvSz p + 1) = (List.range len).map (fun i => kvSz (strOf (V0 i), strOf (V1 i)) + 1) := by rw [hl', List.map_map]; rfl
        rw [this]
        omega

theorem list16 {α : Type} {l : List α} (h : l.length = 16) : ∃ c0 c1 c2 c3 c4 c5 c6 c7 c8 c9 c10 c11 c12 c13 c14 c15, l = [c0, c1, c2, c3, c4, c5, c6, c7, c8, c9, c10, c11, c12, c13, c14, c15] := by
  match l, h with
  | [c0, c1, c2, c3, c4, c5, c6, c7, c8, c9, c10, c11, c12, c13, c14, c15], _ => exact ⟨c0, c1, c2, c3, c4, c5, c6, c7, c8, c9, c10, c11, c12, c13, c14, c15, rfl⟩
/-- The fields of a result. -/
def arFlds (ps : TypeId) : List (Nat × Nat × Option TypeDesc) := [(0, 1, some (.int .i64)), (1, 1, some .string), (2, 1, some .string), (3, 1, some .string), (4, 1, some .string), (5, 1, some .string), (6, 1, some .string), (7, 1, some .string), (8, 1, some .string), (9, 1, some .string), (10, 1, some .string), (11, 1, some .string), (12, 1, some .string), (13, 1, some .string), (14, 1, some (.int .i64)), (15, 1, some (.slice ps))]

theorem trod_ar {e pt : TypeId} {f0 f1 : Field} {fs : Array Field} {n : Nat} {cs : List Value} {y : DataW H × List MemPlace} (K : Bulk H) (he : P.underlying e = some (.struct fs)) (ce : P.cellsOf e = 16)
    (hfs : (fs.toList.map fun f => (f.offset, P.cellsOf f.type, P.underlying f.type)) = arFlds pt) (hp : P.underlying pt = some (.struct #[f0, f1]))
    (cp : P.cellsOf pt = 2) (o0 : f0.offset = 0) (o1 : f1.offset = 1) (c0 : P.cellsOf f0.type = 1) (c1 : P.cellsOf f1.type = 1) (s0 : P.underlying f0.type = some .string) (s1 : P.underlying f1.type = some .string)
    (h : DataW.trod enc P w 0 (fun _ => true) true n e cs = some y) :
    ∃ r : AR, RepL T w (fun k => k < w.heap.size) noRho r.cells cs ∧ (r.ps.getD []).length < 9223372036854775808 ∧ r.bulk + 1 ≤ K.B y.1 := by
  obtain ⟨xs, k, _, rfl, hcl, hxl, hf⟩ := DataW.trod_struct he h
  rw [ce] at hcl
  obtain ⟨g⟩ := fs
  have hgl : g.length = 16 := by have := congrArg List.length hfs; simpa [arFlds] using this
  obtain ⟨a0, a1, a2, a3, a4, a5, a6, a7, a8, a9, a10, a11, a12, a13, a14, a15, rfl⟩ := list16 hgl
  obtain ⟨y0, y1, y2, y3, y4, y5, y6, y7, y8, y9, y10, y11, y12, y13, y14, y15, rfl⟩ := list16 (hxl.trans (by simp))
  obtain ⟨v0, v1, v2, v3, v4, v5, v6, v7, v8, v9, v10, v11, v12, v13, v14, v15, rfl⟩ := list16 hcl
  simp only [arFlds, List.map_cons, List.map_nil, List.cons.injEq, Prod.mk.injEq, and_true] at hfs
  obtain ⟨⟨p0, q0, u0⟩, ⟨p1, q1, u1⟩, ⟨p2, q2, u2⟩, ⟨p3, q3, u3⟩, ⟨p4, q4, u4⟩, ⟨p5, q5, u5⟩, ⟨p6, q6, u6⟩, ⟨p7, q7, u7⟩, ⟨p8, q8, u8⟩, ⟨p9, q9, u9⟩, ⟨p10, q10, u10⟩, ⟨p11, q11, u11⟩, ⟨p12, q12, u12⟩, ⟨p13, q13, u13⟩, ⟨p14, q14, u14⟩, p15, q15, u15⟩ := hfs
  have F : ∀ (i : Nat) (f : Field) (v : Value) (z : DataW H × List MemPlace), [a0, a1, a2, a3, a4, a5, a6, a7, a8, a9, a10, a11, a12, a13, a14, a15][i]? = some f → f.offset = i → P.cellsOf f.type = 1 → ([v0, v1, v2, v3, v4, v5, v6, v7, v8, v9, v10, v11, v12, v13, v14, v15].drop i).take 1 = [v] → [y0, y1, y2, y3, y4, y5, y6, y7, y8, y9, y10, y11, y12, y13, y14, y15][i]? = some z → DataW.trod enc P w 0 (fun _ => true) true k f.type [v] = some z := by
    intro i f v z h1 h2 h3 h4 h5
    have := hf i f (by simpa using h1)
    rw [h2, h3, h4, h5] at this
    exact this
  obtain ⟨n0, e0, d0, _⟩ := DataW.trod_int u0 (F 0 a0 v0 y0 rfl p0 q0 rfl rfl)
  obtain ⟨t1, e1, d1, _⟩ := DataW.trod_string u1 (F 1 a1 v1 y1 rfl p1 q1 rfl rfl)
  obtain ⟨t2, e2, d2, _⟩ := DataW.trod_string u2 (F 2 a2 v2 y2 rfl p2 q2 rfl rfl)
  obtain ⟨t3, e3, d3, _⟩ := DataW.trod_string u3 (F 3 a3 v3 y3 rfl p3 q3 rfl rfl)
  obtain ⟨t4, e4, d4, _⟩ := DataW.trod_string u4 (F 4 a4 v4 y4 rfl p4 q4 rfl rfl)
  obtain ⟨t5, e5, d5, _⟩ := DataW.trod_string u5 (F 5 a5 v5 y5 rfl p5 q5 rfl rfl)
  obtain ⟨t6, e6, d6, _⟩ := DataW.trod_string u6 (F 6 a6 v6 y6 rfl p6 q6 rfl rfl)
  obtain ⟨t7, e7, d7, _⟩ := DataW.trod_string u7 (F 7 a7 v7 y7 rfl p7 q7 rfl rfl)
  obtain ⟨t8, e8, d8, _⟩ := DataW.trod_string u8 (F 8 a8 v8 y8 rfl p8 q8 rfl rfl)
  obtain ⟨t9, e9, d9, _⟩ := DataW.trod_string u9 (F 9 a9 v9 y9 rfl p9 q9 rfl rfl)
  obtain ⟨t10, e10, d10, _⟩ := DataW.trod_string u10 (F 10 a10 v10 y10 rfl p10 q10 rfl rfl)
  obtain ⟨t11, e11, d11, _⟩ := DataW.trod_string u11 (F 11 a11 v11 y11 rfl p11 q11 rfl rfl)
  obtain ⟨t12, e12, d12, _⟩ := DataW.trod_string u12 (F 12 a12 v12 y12 rfl p12 q12 rfl rfl)
  obtain ⟨t13, e13, d13, _⟩ := DataW.trod_string u13 (F 13 a13 v13 y13 rfl p13 q13 rfl rfl)
  obtain ⟨n14, e14, d14, _⟩ := DataW.trod_int u14 (F 14 a14 v14 y14 rfl p14 q14 rfl rfl)
  obtain ⟨x, rx, lx, bx⟩ := trod_pairs (T := T) K u15 hp cp o0 o1 c0 c1 s0 s1 (F 15 a15 v15 y15 rfl p15 q15 rfl rfl)
  simp only [List.cons.injEq, and_true] at e0 e1 e2 e3 e4 e5 e6 e7 e8 e9 e10 e11 e12 e13 e14
  subst e0 e1 e2 e3 e4 e5 e6 e7 e8 e9 e10 e11 e12 e13 e14
  refine ⟨⟨n0, t1.data.toList, t2.data.toList, t3.data.toList, t4.data.toList, t5.data.toList, t6.data.toList, t7.data.toList, t8.data.toList, t9.data.toList, t10.data.toList, t11.data.toList, t12.data.toList, t13.data.toList, n14, x⟩, ?_, lx, ?_⟩
  · simp [AR.cells, RepL, Rep, rx]
  · rw [K.agg]
    simp only [List.map_cons, List.map_nil, K.cons, K.nil, d1, d2, d3, d4, d5, d6, d7, d8, d9, d10, d11, d12, d13, K.str]
    simp only [AR.bulk]
    omega

end
end Wax


namespace Wax
open Go (IntKind)

theorem meth_len (r : AR) : r.meth.length ≤ 10 + r.method.length := by
  unfold AR.meth
  split
  · omega
  · generalize (r.kind - 1).toNat = q
    match q with
    | 0 | 1 | 2 | 3 | 4 | 5 | 6 | 7 => (simp [aMeths, sAuth, sDkim, sDomk, sIprev, sSender, sSpf, sDmarc, sArc]; try omega)
    | q + 8 => simp [aMeths, List.getD]
theorem only_bulk (r : AR) : r.only.bulk ≤ r.bulk := by
  unfold AR.only
  repeat' split
  all_goals simp [AR.bulk, ar0]
  all_goals omega
end Wax


namespace Wax
open Go (IntKind)

def asTr : List AV → Option (List (L8 × L8 × L8))
  | [] => some []
  | .agg [.str a, .str b, .str c] :: r => (asTr r).map ((a, b, c) :: ·)
  | _ :: _ => none
def slTr : AV → Option (List (L8 × L8 × L8))
  | .nilS => some []
  | .sl es xs => if es = 3 then asTr xs else none
  | _ => none
theorem asTr_tr3 : ∀ l, asTr (tr3 l) = some l
  | [] => rfl
  | (a, b, c) :: l => by simp [asTr, asTr_tr3 l]
theorem asTr_spec : ∀ {xs : List AV} {l}, asTr xs = some l → xs = tr3 l
  | [], l, h => by simp [asTr] at h; subst h; rfl
  | v :: r, l, h => by
    unfold asTr at h
    split at h
    · rename_i e; simp at e
    · rename_i a b c r' e
      simp at e; obtain ⟨rfl, rfl⟩ := e
      cases hr : asTr r with
      | none => simp [hr] at h
      | some l' => simp [hr] at h; subst h; rw [asTr_spec hr]; rfl
    · simp at h
theorem slTr_cases {v : AV} {l} (h : slTr v = some l) : (v = .nilS ∧ l = []) ∨ v = .sl 3 (tr3 l) := by
  cases v <;> simp [slTr] at h
  · left; exact ⟨rfl, h⟩
  · right; obtain ⟨e, h⟩ := h; rw [asTr_spec h, e]
theorem slTr_tripV (l) : slTr (tripV l) = some l := by cases l <;> simp [tripV, slTr, ← tr3_cons, asTr_tr3, -tr3_cons]
section
variable {u : AV} {l : List (L8 × L8 × L8)} (h : slTr u = some l)
include h
theorem str_kill (d : Nat) : kill d u = u := by rcases slTr_cases h with ⟨rfl, _⟩ | rfl <;> rfl
theorem str_ref : hasRef u = false := by rcases slTr_cases h with ⟨rfl, _⟩ | rfl <;> rfl
theorem str_alen (hp : List (Nat × AObj)) : alen hp 1 u = some l.length := by rcases slTr_cases h with ⟨rfl, rfl⟩ | rfl <;> simp [alen]
theorem str_ne (hn : l ≠ []) : u = .sl 3 (tr3 l) := by
  rcases slTr_cases h with ⟨_, rfl⟩ | rfl
  · exact absurd rfl hn
  · rfl
end
@[simp] theorem tr3_app {l m} : tr3 (l ++ m) = tr3 l ++ tr3 m := by simp [tr3]

end Wax


namespace Wax
open Go (IntKind)

def sg (n : Nat) : UInt8 := d64.getD n 0
def e3 (a b c : UInt8) : List UInt8 := let n := a.toNat * 65536 + b.toNat * 256 + c.toNat; [sg (n / 262144), sg (n / 4096 % 64), sg (n / 64 % 64), sg (n % 64)]
def e2 (a b : UInt8) : List UInt8 := let n := a.toNat * 65536 + b.toNat * 256; [sg (n / 262144), sg (n / 4096 % 64), sg (n / 64 % 64), 61]
def e1 (a : UInt8) : List UInt8 := let n := a.toNat * 65536; [sg (n / 262144), sg (n / 4096 % 64), 61, 61]
set_option maxRecDepth 100000 in
theorem v64_sg : ∀ n, n < 64 → v64 (sg n) = n := by decide +kernel
theorem stI_sg {last : Bool} {dn : UInt8} {i v : Nat} {p : Nat} (hv : v < 64) : stI last dn i (sg v) (p, 4) = some (p * 64 + v, 4) := by
  simp only [stI, v64_sg v hv]
  have h1 : ¬ ((v : Int) < 0) := by omega
  rw [if_neg h1, if_neg (by omega)]
  simp

theorem b3 (a b c : UInt8) : bytes3 (a.toNat * 65536 + b.toNat * 256 + c.toNat) = [a, b, c] := by
  have h1 := a.toNat_lt
  have h2 := b.toNat_lt
  have h3 := c.toNat_lt
  have x1 : UInt8.ofNat ((a.toNat * 65536 + b.toNat * 256 + c.toNat) / 65536) = a := by apply UInt8.toNat_inj.1; simp; omega
  have x2 : UInt8.ofNat ((a.toNat * 65536 + b.toNat * 256 + c.toNat) / 256) = b := by apply UInt8.toNat_inj.1; simp; omega
  have x3 : UInt8.ofNat (a.toNat * 65536 + b.toNat * 256 + c.toNat) = c := by apply UInt8.toNat_inj.1; simp
  simp only [bytes3, x1, x2, x3]

theorem q3 (last : Bool) (a b c : UInt8) : quadI last (sg ((a.toNat * 65536 + b.toNat * 256 + c.toNat) / 262144)) (sg ((a.toNat * 65536 + b.toNat * 256 + c.toNat) / 4096 % 64)) (sg ((a.toNat * 65536 + b.toNat * 256 + c.toNat) / 64 % 64)) (sg ((a.toNat * 65536 + b.toNat * 256 + c.toNat) % 64)) = some [a, b, c] := by
  have h1 := a.toNat_lt
  have h2 := b.toNat_lt
  have h3 := c.toNat_lt
  have hb := b3 a b c
  have hn : a.toNat * 65536 + b.toNat * 256 + c.toNat < 16777216 := by omega
  generalize a.toNat * 65536 + b.toNat * 256 + c.toNat = n at *
  simp only [quadI, runI, stI_sg (show n / 262144 < 64 by omega), stI_sg (show n / 4096 % 64 < 64 by omega), stI_sg (show n / 64 % 64 < 64 by omega), stI_sg (show n % 64 < 64 by omega), Option.map_some]
  have : (((0 * 64 + n / 262144) * 64 + n / 4096 % 64) * 64 + n / 64 % 64) * 64 + n % 64 = n := by omega
  rw [this, hb]; rfl

theorem stI_end3 {dn : UInt8} {p : Nat} : stI true dn (0 + 1 + 1 + 1) 61 (p, 4) = some (p * 64, 3) := by simp [stI, v64_eq]
theorem stI_end2 {p : Nat} : stI true 61 (0 + 1 + 1) 61 (p, 4) = some (p * 64, 2) := by simp [stI, v64_eq]
theorem stI_end23 {dn : UInt8} {p : Nat} : stI true dn (0 + 1 + 1 + 1) 61 (p, 2) = some (p * 64, 2) := by simp [stI, v64_eq]

theorem q2 (a b : UInt8) : quadI true (sg ((a.toNat * 65536 + b.toNat * 256) / 262144)) (sg ((a.toNat * 65536 + b.toNat * 256) / 4096 % 64)) (sg ((a.toNat * 65536 + b.toNat * 256) / 64 % 64)) 61 = some [a, b] := by
  have h1 := a.toNat_lt
  have h2 := b.toNat_lt
  have hb := b3 a b 0
  have hn : a.toNat * 65536 + b.toNat * 256 < 16777216 := by omega
  have h0 : (a.toNat * 65536 + b.toNat * 256) % 64 = 0 := by omega
  have hz : (0 : UInt8).toNat = 0 := rfl
  rw [hz, Nat.add_zero] at hb
  generalize a.toNat * 65536 + b.toNat * 256 = n at *
  simp only [quadI, runI, stI_sg (show n / 262144 < 64 by omega), stI_sg (show n / 4096 % 64 < 64 by omega), stI_sg (show n / 64 % 64 < 64 by omega), stI_end3, Option.map_some]
  have : (((0 * 64 + n / 262144) * 64 + n / 4096 % 64) * 64 + n / 64 % 64) * 64 = n := by omega
  rw [this, hb]; rfl

theorem q1 (a : UInt8) : quadI true (sg ((a.toNat * 65536) / 262144)) (sg ((a.toNat * 65536) / 4096 % 64)) 61 61 = some [a] := by
  have h1 := a.toNat_lt
  have hb := b3 a 0 0
  have hn : a.toNat * 65536 < 16777216 := by omega
  have h0 : (a.toNat * 65536) % 4096 = 0 := by omega
  have hz : (0 : UInt8).toNat = 0 := rfl
  simp only [hz, Nat.zero_mul, Nat.add_zero] at hb
  generalize a.toNat * 65536 = n at *
  simp only [quadI, runI, stI_sg (show n / 262144 < 64 by omega), stI_sg (show n / 4096 % 64 < 64 by omega), stI_end2, stI_end23, Option.map_some]
  have : (((0 * 64 + n / 262144) * 64 + n / 4096 % 64) * 64) * 64 = n := by omega
  rw [this, hb]; rfl

end Wax


namespace Wax
open Go (IntKind)

theorem shrN (n k : Nat) (hk : k < 64) : ((n : Int)).fdiv (2 ^ min k IntKind.u64.bits) = ((n / 2 ^ k : Nat) : Int) := by
  have : min k IntKind.u64.bits = k := by simp [IntKind.bits]; omega
  rw [this]; exact shr_of n k

end Wax


namespace Wax
open Go (IntKind)

def con_letters : List AV → Option AV
  | [.str s, .int .u64 g] => if s.length < 4611686018427387904 ∧ 0 ≤ g ∧ g < 18446744073709551616 then some (.str (gLets g.toNat 0 s)) else none
  | _ => none
theorem and1 {k : Nat} (h : k < 18446744073709551616) : IntKind.u64.wrap ((k % 2 ^ IntKind.u64.bits &&& 1 % 2 ^ IntKind.u64.bits : Nat) : Int) = ((k % 2 : Nat) : Int) := by
  have e : k % 2 ^ IntKind.u64.bits = k := Nat.mod_eq_of_lt (by simpa [IntKind.bits] using h)
  have e1 : 1 % 2 ^ IntKind.u64.bits = 1 := rfl
  rw [e, e1, Nat.and_one_is_mod]
  have : k % 2 < 2 := Nat.mod_lt _ (by omega)
  simp [IntKind.wrap, IntKind.bits, IntKind.signed]
  omega
theorem ok_letters (Γ : Gam) : ∀ args r, con_letters args = some r → runs Γ c_laws_letters args (fun v => v = r) := by
  intro args r h
  simp only [con_letters] at h
  split at h <;> (try simp at h; done)
  rename_i s g
  obtain ⟨⟨h1, h2, h3⟩, rfl⟩ := ite_some h
  clear h
  obtain ⟨g, rfl⟩ : ∃ m : Nat, g = (m : Int) := ⟨g.toNat, by omega⟩
  simp only [Int.toNat_natCast]
  simp -implicitDefEqProofs [c_laws_letters, h1]
  refine awp_loop2 (σ := L8 × L8) (fun p => ⟨[(1, .int .u64 g), (5, .msl 9 1 0 s.length), (10, .msl 9 1 0 s.length), (11, .int .i64 s.length), (12, .int .i64 p.1.length)], [(9, .cells (bcA (gLets g 0 p.1 ++ p.2)))]⟩)
    (fun p => s = p.1 ++ p.2) (fun p => p.2.length) ([], s) ?_ (by simp) ?_
  · simp [gLets]
  rintro ⟨pre, post⟩ e1 LQ hLQ
  simp only at e1
  cases post with
  | nil =>
    simp only [List.append_nil] at e1
    subst e1
    have hnl : ¬ ((s.length : Int) < (s.length : Int)) := by omega
    have hl := gLets_len g s 0
    simp -implicitDefEqProofs [b_laws_letters_1, t_laws_letters_2, hl]
    exact List.take_of_length_le (by omega)
  | cons c post =>
    have hlen : s.length = pre.length + (post.length + 1) := by rw [e1]; simp
    have hlt : (pre.length : Int) < (s.length : Int) := by omega
    have ew : IntKind.i64.wrap ((pre.length : Int) + 1) = (pre.length : Int) + 1 := wrap64 (by omega) (by omega)
    have hltN : pre.length < s.length := by omega
    have hG : (bcA (gLets g 0 pre)).length = pre.length := by simp [bcA, gLets_len]
    have hg : (bcA (gLets g 0 pre) ++ AV.int .u8 (c.toNat : Int) :: bcA post)[pre.length]? = some (.int .u8 (c.toNat : Int)) := get_mid hG
    have hset : ∀ y : AV, (bcA (gLets g 0 pre) ++ AV.int .u8 (c.toNat : Int) :: bcA post).set pre.length y = bcA (gLets g 0 pre) ++ y :: bcA post := by
      intro y
      rw [List.set_append_right _ _ (by omega), hG, Nat.sub_self]
      rfl
    have hGl := gLets_len g pre 0
    obtain ⟨q, hq, h64, hm⟩ : ∃ q : Nat, pre.length % 64 = q ∧ q < 64 ∧ (pre.length : Int).tmod 64 = (q : Int) := ⟨_, rfl, Nat.mod_lt _ (by omega), by rw [Int.tmod_eq_emod_of_nonneg (by omega)]; rfl⟩
    obtain ⟨k, hk, hs⟩ : ∃ k : Nat, g / 2 ^ q = k ∧ ((g : Int)).fdiv (2 ^ min q IntKind.u64.bits) = (k : Int) := ⟨_, rfl, shrN g q h64⟩
    have hkl : k < 18446744073709551616 := by rw [← hk]; exact Nat.lt_of_le_of_lt (Nat.div_le_self _ _) (by omega)
    obtain ⟨b, hb, ha⟩ : ∃ b : Nat, k % 2 = b ∧ IntKind.u64.wrap ((k % 2 ^ IntKind.u64.bits &&& 1 % 2 ^ IntKind.u64.bits : Nat) : Int) = (b : Int) := ⟨_, rfl, and1 hkl⟩
    have fin : ∀ st, norm [1, 5, 10, 11, 12] st = ⟨[(1, .int .u64 g), (5, .msl 9 1 0 s.length), (10, .msl 9 1 0 s.length), (11, .int .i64 s.length), (12, .int .i64 ((pre.length : Int) + 1))], [(9, .cells (bcA (gLets g 0 (pre ++ [c]) ++ post)))]⟩ → LQ st := by
      intro st hst
      exact hLQ (pre ++ [c], post) (by rw [e1]; simp) (by simp) st (by rw [hst]; simp)
    rw [gLets_app] at fin
    simp only [gLets, Nat.zero_add] at fin
    by_cases c1 : (97 : Int) ≤ (c.toNat : Int)
    · by_cases c2 : (c.toNat : Int) ≤ 122
      · simp -implicitDefEqProofs [-aload, b_laws_letters_1, hlt, hltN, hg, hset, spliceL, hGl, c1, c2, hm, hs, ha, ew]
        have eg : gLet g pre.length c = if b = 1 then UInt8.ofNat (c.toNat - 32) else c := by
          unfold gLet
          rw [hq, hk, hb]
          by_cases hb1 : b = 1
          · rw [if_pos ⟨by omega, by omega, hb1⟩, if_pos hb1]
          · rw [if_neg (fun h => hb1 h.2.2), if_neg hb1]
        have eb : ((b : Int) = 1) = (b = 1) := by apply propext; omega
        rw [eb]
        refine ⟨fun h1 => ?_, fun h1 => ?_⟩
        · rw [eg, if_pos h1] at fin
          refine fin _ ?_
          have e1 : IntKind.u8.wrap ((c.toNat : Int) - 32) = ((UInt8.ofNat (c.toNat - 32)).toNat : Int) := by
            have e : (UInt8.ofNat (c.toNat - 32)).toNat = c.toNat - 32 := by
              rw [UInt8.toNat_ofNat']; exact Nat.mod_eq_of_lt (by omega)
            rw [e]
            simp [IntKind.wrap, IntKind.bits, IntKind.signed]
            omega
          simp [e1]
        · rw [eg, if_neg h1] at fin
          exact fin _ (by simp)
      · simp -implicitDefEqProofs [-aload, b_laws_letters_1, hlt, hltN, hg, hset, spliceL, hGl, c1, c2, ew]
        have e : gLet g pre.length c = c := by unfold gLet; rw [if_neg]; omega
        rw [e] at fin
        exact fin _ (by simp)
    · simp -implicitDefEqProofs [-aload, b_laws_letters_1, hlt, hltN, hg, hset, spliceL, hGl, c1, ew]
      have e : gLet g pre.length c = c := by unfold gLet; rw [if_neg]; omega
      rw [e] at fin
      exact fin _ (by simp)

def joinP (p : L8 × L8 × L8) : KVp := (p.1 ++ 46 :: p.2.1, p.2.2)
theorem gKvs_app (g : Nat) : ∀ (a b : List KVp) (k : Nat), gKvs g k (a ++ b) = gKvs g k a ++ gKvs g (k + a.length) b
  | [], b, k => by simp [gKvs]
  | p :: a, b, k => by
    simp only [List.cons_append, gKvs, gKvs_app g a b, List.length_cons]
    rw [show k + 1 + a.length = k + (a.length + 1) by omega]
def gW8 (l : List (L8 × KVp)) : L8 := flatW (l.map fun p => (p.1, kvW p.2))
theorem gW8_app (a b : List (L8 × KVp)) : gW8 (a ++ b) = gW8 a ++ gW8 b := by simp [gW8, flatW]
theorem gW8_one (s : L8) (p : KVp) : gW8 [(s, p)] = s ++ (p.1 ++ 61 :: p.2) := by simp [gW8, flatW, kvW]
/-- The text up to the properties. -/
def gT2 (i : L8) (g : Nat) (r : AR) : L8 := i ++ 59 :: 32 :: (gLets g 0 (r.meth ++ 61 :: r.value) ++ (if r.reason = [] then [] else 32 :: (gLets (g / 128) 0 qReason ++ 61 :: r.reason)))
theorem gLets_kvW (g : Nat) (p : KVp) : gLets g 0 (p.1 ++ 61 :: p.2) = kvW (gLets g 0 p.1, gLets g (p.1.length + 1) p.2) := by
  rw [gLets_app]
  simp only [gLets, kvW, Nat.zero_add]
  congr 2
theorem gText_eq (i : L8) (g : Nat) (r : AR) : gText i g r = gT2 i g r ++ gW8 (gKvs g 0 (r.iprops.map joinP)) := by
  have e : (r.iprops.map fun p => (p.1 ++ 46 :: p.2.1, p.2.2)) = r.iprops.map joinP := rfl
  simp only [gText, gRes, ResT.txt, gRps, gT2, e]
  have h := gLets_kvW g (r.meth, r.value)
  simp only at h
  rw [h]
  simp only [List.map_append]
  by_cases hr : r.reason = []
  · simp [hr, gW8]
  · simp [hr, gW8, flatW, kvW]
theorem gKvs_len (g g' : Nat) : ∀ (l : List KVp) (k : Nat), (gW8 (gKvs g k l)).length = (gW8 (gKvs g' k l)).length
  | [], _ => rfl
  | p :: l, k => by
    have e : ∀ g, gKvs g k (p :: l) = [([32], (gLets (g / 2 ^ (11 * k + 3)) 0 p.1, p.2))] ++ gKvs g (k + 1) l := fun _ => rfl
    rw [e, e, gW8_app, gW8_app, gW8_one, gW8_one, List.length_append, List.length_append, gKvs_len g g' l (k + 1)]
    simp only [List.length_append, List.length_cons, gLets_len]
theorem gText_len (i : L8) (g : Nat) (r : AR) : (gText i g r).length = (gText i 0 r).length := by
  rw [gText_eq, gText_eq, List.length_append, List.length_append, gKvs_len g 0]
  congr 1
  simp only [gT2, List.length_append, List.length_cons, gLets_len]
  split <;> simp [gLets_len]

theorem shrBig {g n : Nat} (hg : g < 18446744073709551616) : ((g : Int)).fdiv (2 ^ min n IntKind.u64.bits) = ((g / 2 ^ n : Nat) : Int) := by
  rw [shr_of]
  by_cases h : n ≤ 64
  · have : min n IntKind.u64.bits = n := by simp [IntKind.bits]; omega
    rw [this]
  · have e : min n IntKind.u64.bits = 64 := by simp [IntKind.bits]; omega
    rw [e]
    have h1 : g / 2 ^ 64 = 0 := Nat.div_eq_of_lt (by simpa using hg)
    have h2 : g / 2 ^ n = 0 := Nat.div_eq_of_lt (Nat.lt_of_lt_of_le (show g < 2 ^ 64 by simpa using hg) (Nat.pow_le_pow_right (by omega) (by omega)))
    rw [h1, h2]

theorem iprops_len (r : AR) : r.iprops.length ≤ (r.ps.getD []).length + 3 := by
  unfold AR.iprops
  split
  · simp
  · unfold AR.props
    repeat' split
    all_goals simp
def con_FnAuthLetters : List AV → Option AV
  | [.str i, .agg cs, .int .u64 g] => match asAR cs with
    | some r => if i.length < 9223372036854775808 ∧ (r.ps.getD []).length < 9223372036854775808 ∧ (0 ≤ g ∧ g < 18446744073709551616) ∧ (gText i 0 r.only).length < qtr then some (.bool true) else none
    | _ => none
  | _ => none
set_option maxRecDepth 100000 in
set_option maxHeartbeats 4000000 in
theorem ok_FnAuthLetters (Γ : Gam) (h209 : Γ.fn 209 = con_zzFits2) (h208 : Γ.fn 208 = con_AOnly) (h204 : Γ.fn 204 = con_APlain) (h215 : Γ.fn 215 = con_AFits) (h206 : Γ.fn 206 = con_AInfoOf) (h222 : Γ.fn 222 = con_letters) (h144 : Γ.fn 144 = con_AParse) (h202 : Γ.fn 202 = con_ASame) (h137 : Γ.fn 137 = con_awake) :
    ∀ args r, con_FnAuthLetters args = some r → runs Γ c_laws_FnAuthLetters args (fun v => v = r) := by
  intro args res h
  simp only [con_FnAuthLetters] at h
  split at h <;> (try simp at h; done)
  rename_i i cs g
  split at h <;> (try simp at h; done)
  rename_i r hr
  obtain ⟨⟨h1, h2, ⟨h3, h4⟩, h5⟩, rfl⟩ := ite_some h
  clear h
  rw [asAR_spec hr]
  clear hr
  obtain ⟨g, rfl⟩ : ∃ m : Nat, g = (m : Int) := ⟨g.toNat, by omega⟩
  have hg : g < 18446744073709551616 := by omega
  have k6 : con_awake [] = some (.bool true) := rfl
  have alS : ∀ (hp : List (Nat × AObj)) (s : L8), alen hp 0 (.str s) = some s.length := fun _ _ => rfl
  have uk := slP_cells r.ps
  have k1 : con_zzFits2 [.agg r.cells] = some (.bool (fit2 r)) := by simp only [con_zzFits2, asAR_cells]; exact if_pos h2
  have ko : con_AOnly [.agg r.cells] = some (.agg r.only.cells) := by simp only [con_AOnly, asAR_cells, Option.map]
  simp only [AR.cells] at k1 ko ⊢
  simp only [cells] at uk
  by_cases b1 : (2147483647 : Int) < (i.length : Int)
  · simp -implicitDefEqProofs [-alen, c_laws_FnAuthLetters, f_laws_FnAuthLetters_2, f_laws_FnAuthLetters_3, f_laws_FnAuthLetters_4, f_laws_FnAuthLetters_5, f_laws_FnAuthLetters_6, alS, b1, uk]
  cases b2 : fit2 r with
  | false =>
    rw [b2] at k1
    simp -implicitDefEqProofs [-alen, c_laws_FnAuthLetters, f_laws_FnAuthLetters_2, f_laws_FnAuthLetters_3, f_laws_FnAuthLetters_4, f_laws_FnAuthLetters_5, f_laws_FnAuthLetters_6, alS, b1, uk, acall, h209, k1]
  | true =>
    rw [b2] at k1
    have kp := plain_con (s := i) (by simp only [mid]; omega)
    have uo := slP_cells r.only.ps
    simp only [cells] at uo
    have hfo := fit2_only b2
    have kf : con_AFits [.sl 16 [.agg r.only.cells]] = some (.bool (aFits [r.only])) := by
      have e : slAR (.sl 16 [.agg r.only.cells]) = some [r.only] := slAR_arV [r.only]
      simp only [con_AFits, e]
      exact if_pos ⟨by simp [half], by simp [hfo]⟩
    have ks : ∀ y : AR, (y.ps.getD []).length < half → arSame y r.only = true → con_ASame [.agg y.cells, .agg r.only.cells] = some (.bool true) := by
      intro y q1 q2
      simp only [con_ASame, asAR_cells, q2]
      exact if_pos ⟨q1, fit2_ps hfo⟩
    have ki : aFit1 r.only = true → con_AInfoOf [.agg r.only.cells] = some (infoV r.only) := by
      intro q
      simp only [con_AInfoOf, asAR_cells]
      have hk := kind_cases q
      refine if_pos ⟨by omega, by omega, fun h0 => ⟨fit2_ps hfo, fun p hp => ?_⟩⟩
      simp only [fit2, Bool.and_eq_true] at hfo
      have h13 := hfo.2.2.2.2.2.2.2.2.2.2.2.2.2
      simp only [fits13, Bool.and_eq_true, List.all_eq_true] at h13
      have := h13.2 p hp
      simp only [fits14, Bool.and_eq_true, decide_eq_true_eq] at this
      simp only [big]; omega
    have ho : r.only.only = r.only := only_only r
    generalize hq : r.only = q at *
    simp only [AR.cells] at ko kf ks ki
    cases b4 : aPlain i with
    | false =>
      rw [b4] at kp
      simp -implicitDefEqProofs [-alen, c_laws_FnAuthLetters, f_laws_FnAuthLetters_4, f_laws_FnAuthLetters_5, f_laws_FnAuthLetters_6, alS, b1, uk, acall, h209, k1, h208, ko, h204, kp, group, uo]
    | true =>
      rw [b4] at kp
      cases b5 : aFits [q] with
      | false =>
        rw [b5] at kf
        simp -implicitDefEqProofs [-alen, c_laws_FnAuthLetters, f_laws_FnAuthLetters_4, f_laws_FnAuthLetters_5, f_laws_FnAuthLetters_6, alS, b1, uk, acall, h209, k1, h208, ko, h204, kp, group, uo, h215, kf]
      | true =>
        rw [b5] at kf
        by_cases b6 : q.kind = 5
        · have b6' : (q.kind = 5) = True := eq_true b6
          simp -implicitDefEqProofs [-alen, c_laws_FnAuthLetters, f_laws_FnAuthLetters_4, f_laws_FnAuthLetters_5, f_laws_FnAuthLetters_6, alS, b1, uk, acall, h209, k1, h208, ko, h204, kp, group, uo, h215, kf, b6']
        have hf1 : aFit1 q = true := by simp only [aFits, List.all_cons, List.all_nil, Bool.and_true, Bool.and_eq_true] at b5; exact b5.1
        have ki := ki hf1
        simp only [infoV] at ki
        have hml : (gText i 0 q).length = i.length + 2 + (q.meth.length + 1 + q.value.length) + (if q.reason = [] then 0 else 8 + q.reason.length) + (gW8 (gKvs g 0 (q.iprops.map joinP))).length := by
          rw [← gText_len i g, gText_eq, List.length_append]
          congr 1
          simp only [gT2, List.length_append, List.length_cons, gLets_len]
          split <;> simp [gLets_len, qReason] <;> omega
        simp only [qtr] at h5
        have kl1 : con_letters [.str (q.meth ++ 61 :: q.value), .int .u64 (g : Int)] = some (.str (gLets g 0 (q.meth ++ 61 :: q.value))) := by
          simp only [con_letters, Int.toNat_natCast]
          exact if_pos ⟨by simp only [List.length_append, List.length_cons]; omega, by omega, by omega⟩
        have kl2 : con_letters [.str [114, 101, 97, 115, 111, 110], .int .u64 ((g / 128 : Nat) : Int)] = some (.str (gLets (g / 128) 0 qReason)) := by
          have : g / 128 ≤ g := Nat.div_le_self _ _
          simp only [con_letters, Int.toNat_natCast]
          exact if_pos ⟨by simp, by omega, by omega⟩
        have hs7 : ((g : Int)).fdiv (2 ^ min 7 IntKind.u64.bits) = ((g / 128 : Nat) : Int) := shrN g 7 (by omega)
        have uq := slP_cells q.ps
        simp only [cells] at uq
        have tail : ∀ (T8 : L8) (ex : List (Nat × AV)), T8 = gT2 i g q → awp Γ f_laws_FnAuthLetters_3 (finQ [.t 6] fun v => v = .bool true) ⟨(0, .str i) :: (2, .int .u64 (g : Int)) :: (4, .ref 4 0) :: (7, .ref 7 0) :: (8, .str T8) :: ex, [(7, .cells [.str q.meth, .str [], .str q.value, .str q.reason, tripV q.iprops]), (4, .cells [.int .i64 q.kind, .str q.method, .str q.value, .str q.reason, .str q.domain, .str q.ident, .str q.fr, .str q.sender, .str q.ip, .str q.helo, .str q.auth, .str q.hkey, .str q.hval, .str q.remote, .int .i64 q.oldest, slP q.ps])]⟩ := by
          intro T8 ex hT8
          have hv := slTr_tripV q.iprops
          have hips : q.iprops.length < 549755813900 := by have h1 := iprops_len q; have h2 := fit2_ps hfo; simp only [half] at h2; omega
          have va := str_alen hv
          have vk := str_kill hv
          have vr := str_ref hv
          have hLt : T8.length + (gW8 (gKvs g 0 (q.iprops.map joinP))).length < qtr := by
            rw [hT8, ← List.length_append, ← gText_eq, gText_len]; simp only [qtr]; exact h5
          simp only [qtr] at hLt
          have vat : atom (tripV q.iprops) = true := tripV_atom _
          generalize tripV q.iprops = V at *
          simp -implicitDefEqProofs [-alen, f_laws_FnAuthLetters_3, va, vk, vr, vat]
          refine awp_loop2 (σ := List (L8 × L8 × L8) × List (L8 × L8 × L8)) (fun p => ⟨[(0, .str i), (2, .int .u64 (g : Int)), (4, .ref 4 0), (8, .str (T8 ++ gW8 (gKvs g 0 (p.1.map joinP)))), (65, V), (66, .int .i64 q.iprops.length), (67, .int .i64 p.1.length)], [(4, .cells [.int .i64 q.kind, .str q.method, .str q.value, .str q.reason, .str q.domain, .str q.ident, .str q.fr, .str q.sender, .str q.ip, .str q.helo, .str q.auth, .str q.hkey, .str q.hval, .str q.remote, .int .i64 q.oldest, slP q.ps])]⟩)
            (fun p => q.iprops = p.1 ++ p.2) (fun p => p.2.length) ([], q.iprops) (by simp [gKvs, gW8, flatW]) (by simp) ?_
          rintro ⟨pre, post⟩ e1 LQ hLQ
          simp only at e1
          cases post with
          | nil =>
            simp only [List.append_nil] at e1
            have hnl : ¬ ((pre.length : Int) < (pre.length : Int)) := by omega
            obtain ⟨x, g1, g2, g3⟩ := letters_read b4 hf1 g
            rw [gText_eq, ← hT8, e1] at g1 g3
            have ka : con_AParse [.str (T8 ++ gW8 (gKvs g 0 (pre.map joinP)))] = some (.tup [.str i, .sl 16 [.agg x.ar.cells], .bool true]) := by
              have : con_AParse [.str (T8 ++ gW8 (gKvs g 0 (pre.map joinP)))] = some (adV (adText (T8 ++ gW8 (gKvs g 0 (pre.map joinP))))) := if_pos ⟨by rw [e1] at hLt; simp only [qtr, List.length_append]; omega, g3⟩
              rw [this, g1]; rfl
            rw [ho] at g2
            have ks := ks x.ar (by rw [g2, norm_ps]; exact fit2_ps hfo) (by rw [arSame_iff, g2, norm_norm])
            generalize hz : x.ar = z at *
            simp only [AR.cells] at ks ka
            have uz := slP_cells z.ps
            simp only [cells] at uz
            simp -implicitDefEqProofs [b_laws_FnAuthLetters_1, f_laws_FnAuthLetters_2, e1, h144, ka, acall, uq, uz, h202, ks, h137, k6]
          | cons x post =>
            have hu := str_ne hv (by rw [e1]; simp)
            subst hu
            have hlen : q.iprops.length = pre.length + (post.length + 1) := by rw [e1]; simp
            have hlt : (pre.length : Int) < (q.iprops.length : Int) := by omega
            have ew : IntKind.i64.wrap ((pre.length : Int) + 1) = (pre.length : Int) + 1 := wrap64 (by omega) (by omega)
            have gx : (tr3 q.iprops)[pre.length]? = some (.agg [.str x.1, .str x.2.1, .str x.2.2]) := by rw [e1, tr3_app]; exact get_mid (by simp)
            obtain ⟨n, hn, e14⟩ : ∃ n : Nat, n = 11 * pre.length + 3 ∧ IntKind.i64.wrap (IntKind.i64.wrap (11 * (pre.length : Int)) + 3) = (n : Int) := ⟨11 * pre.length + 3, rfl, by
              rw [wrap64 (x := 11 * (pre.length : Int)) (by omega) (by omega), wrap64 (by omega) (by omega)]; omega⟩
            have hsn := shrBig (g := g) (n := n) hg
            have hgn : g / 2 ^ n ≤ g := Nat.div_le_self _ _
            obtain ⟨gn, hgn0⟩ : ∃ gn : Nat, g / 2 ^ n = gn := ⟨_, rfl⟩
            rw [hgn0] at hsn hgn
            have hone : gKvs g 0 ((pre ++ [x]).map joinP) = gKvs g 0 (pre.map joinP) ++ [([32], (gLets gn 0 (x.1 ++ 46 :: x.2.1), x.2.2))] := by
              rw [List.map_append, gKvs_app]
              simp only [List.map_cons, List.map_nil, gKvs, Nat.zero_add, List.length_map, joinP, ← hn, hgn0]
            have hbnd : T8.length + (gW8 (gKvs g 0 (pre.map joinP))).length + (x.1.length + x.2.1.length + x.2.2.length) < 68719476736 := by
              have h1 : gW8 (gKvs g 0 (q.iprops.map joinP)) = gW8 (gKvs g 0 ((pre ++ [x]).map joinP)) ++ gW8 (gKvs g (0 + (pre ++ [x]).length) (post.map joinP)) := by
                rw [e1, show pre ++ x :: post = (pre ++ [x]) ++ post by simp, List.map_append, gKvs_app, gW8_app, List.length_map]
              rw [h1, hone, gW8_app, gW8_one] at hLt
              simp only [List.length_append, List.length_cons, gLets_len] at hLt
              omega
            have kl : con_letters [.str (x.1 ++ 46 :: x.2.1), .int .u64 ((gn : Nat) : Int)] = some (.str (gLets gn 0 (x.1 ++ 46 :: x.2.1))) := by
              simp only [con_letters, Int.toNat_natCast]
              exact if_pos ⟨by simp only [List.length_append, List.length_cons]; omega, by omega, by omega⟩
            have hll := gLets_len gn (x.1 ++ 46 :: x.2.1) 0
            simp only [List.length_append, List.length_cons] at hll
            have fin : ∀ st, norm [0, 2, 4, 8, 65, 66, 67] st = ⟨[(0, .str i), (2, .int .u64 (g : Int)), (4, .ref 4 0), (8, .str (T8 ++ (gW8 (gKvs g 0 (pre.map joinP)) ++ 32 :: (gLets gn 0 (x.1 ++ 46 :: x.2.1) ++ 61 :: x.2.2)))), (65, .sl 3 (tr3 q.iprops)), (66, .int .i64 q.iprops.length), (67, .int .i64 ((pre.length : Int) + 1))], [(4, .cells [.int .i64 q.kind, .str q.method, .str q.value, .str q.reason, .str q.domain, .str q.ident, .str q.fr, .str q.sender, .str q.ip, .str q.helo, .str q.auth, .str q.hkey, .str q.hval, .str q.remote, .int .i64 q.oldest, slP q.ps])]⟩ → LQ st := by
              intro st hst
              refine hLQ (pre ++ [x], post) (by rw [e1]; simp) (by simp) st ?_
              rw [hst]
              simp only [hone, gW8_app, gW8_one]
              simp
            generalize gLets gn 0 (x.1 ++ 46 :: x.2.1) = LX at *
            generalize gW8 (gKvs g 0 (pre.map joinP)) = W at *
            simp -implicitDefEqProofs [b_laws_FnAuthLetters_1, hlt, gx, acall, h222, kl, e14, hsn, ew]
            refine ⟨by omega, by omega, by omega, by omega, by omega, by omega, ?_⟩
            exact fin _ (by simp)
        have hL1 := gLets_len g (q.meth ++ 61 :: q.value) 0
        have hL2 := gLets_len (g / 128) qReason 0
        simp only [List.length_append, List.length_cons] at hL1
        have hq6 : qReason.length = 6 := rfl
        generalize hT1 : gLets g 0 (q.meth ++ 61 :: q.value) = T1 at *
        generalize hRS : gLets (g / 128) 0 qReason = RS at *
        generalize hg7 : g / 128 = g7 at *
        simp -implicitDefEqProofs [-alen, c_laws_FnAuthLetters, f_laws_FnAuthLetters_4, f_laws_FnAuthLetters_5, f_laws_FnAuthLetters_6, alS, b1, uk, acall, h209, k1, h208, ko, h204, kp, group, uo, h215, kf, b6, h206, ki, tripV_ref, tripV_atom, tripV_kill, tripV_cells, h222, kl1, kl2, hs7]
        refine ⟨by omega, by omega, by omega, by omega, fun hr => ⟨by omega, by omega, ?_, ?_, ?_⟩, fun hr => ?_⟩
        · simp only [if_neg hr] at hml; omega
        · simp only [if_neg hr] at hml; omega
        · refine tail _ [] ?_
          simp only [gT2, if_neg hr, hT1, hRS, hg7]
        · refine tail _ _ ?_
          simp only [gT2, if_pos hr, hT1, List.append_nil]

theorem gW8_len (g : Nat) : ∀ (l : List KVp) (k : Nat), (gW8 (gKvs g k l)).length = (l.map fun p => kvSz p + 2).sum
  | [], _ => rfl
  | p :: l, k => by
    have e : gKvs g k (p :: l) = [([32], (gLets (g / 2 ^ (11 * k + 3)) 0 p.1, p.2))] ++ gKvs g (k + 1) l := rfl
    rw [e, gW8_app, gW8_one, List.length_append, gW8_len g l (k + 1)]
    simp only [List.length_append, List.length_cons, gLets_len, List.map_cons, List.sum_cons, kvSz, List.length_nil]
    omega
theorem halfP_len (s : L8) : (halfP s).1.length + (halfP s).2.length ≤ s.length := by
  unfold halfP
  cases h : cutAt 46 s with
  | none => simp
  | some q => have := (cutAt_le h).1; simp only; omega
theorem sum_half : ∀ l : List KVp, (((l.map fun p => ((halfP p.1).1, (halfP p.1).2, p.2)).map joinP).map fun p => kvSz p + 2).sum ≤ 4 * (l.map fun p => kvSz p + 1).sum
  | [] => by simp
  | p :: l => by
    have ih := sum_half l
    have h := halfP_len p.1
    simp only [List.map_cons, List.sum_cons, joinP, kvSz, List.length_append, List.length_cons] at ih ⊢
    omega
theorem ip_len (r : AR) : ((r.iprops.map joinP).map fun p => kvSz p + 2).sum ≤ 100 + 4 * r.bulk := by
  unfold AR.iprops
  split
  · have := sum_half (r.ps.getD [])
    simp only [AR.bulk]
    omega
  · unfold AR.props
    repeat' split
    all_goals simp [joinP, kvSz, tSmtp, tHeader, tPolicy, nAuth, nD, nI, nFrom, nSender, nIprev, nMail, nHelo, AR.bulk]
    all_goals omega
theorem let_small {i : L8} {r : AR} (h : i.length + r.bulk ≤ 2097152) : (gText i 0 r.only).length < qtr := by
  have h1 := only_bulk r
  have h2 := ip_len r.only
  have h3 := meth_len r.only
  have h4 := gW8_len 0 (r.only.iprops.map joinP) 0
  have h5 : r.only.method.length + r.only.value.length + r.only.reason.length ≤ r.only.bulk := by simp only [AR.bulk]; omega
  rw [gText_eq, List.length_append, h4]
  have h6 : (gT2 i 0 r.only).length ≤ i.length + 2 + (r.only.meth.length + 1 + r.only.value.length) + (8 + r.only.reason.length) := by
    simp only [gT2, List.length_append, List.length_cons, gLets_len]
    split <;> simp [gLets_len, qReason] <;> omega
  simp only [qtr]
  omega
end Wax


namespace Wax
open Go Go.RowKit

theorem repSl_mk {T : Tab} {w : World} {F : Frz} {b : Nat} (hF : F b) : ∀ (l : List (List UInt8)) (o : Nat), (∀ (j : Nat) s, l[j]? = some s → w.cell? ⟨b, o + j, none⟩ = some (.string ⟨s.toArray⟩)) → RepSl T w F 1 b o (strsA l)
  | [], _, _ => trivial
  | x :: r, o, h => by
    simp only [strsA, List.map_cons, RepSl]
    refine ⟨trivial, ⟨hF, _, by simpa using h 0 x rfl, by simp [Rep]⟩, ?_⟩
    exact repSl_mk hF r (o + 1) fun j s hj => by
      rw [show o + 1 + j = o + (j + 1) by omega]
      exact h (j + 1) s (by simpa using hj)

theorem owned_strs {T : Tab} {w w' : World} {F : Frz} {e9 : TypeId} {v' : Value} {l : List (List UInt8)} (ho : w'.ownsRow w.heap.size e9 1 v' l.length (l.map fun s => Value.string ⟨s.toArray⟩)) (hn : v' ≠ .slice none 0 0) :
    Rep T w' (fun b => F b ∨ (w.heap.size ≤ b ∧ b < w'.heap.size)) noRho (.sl 1 (strsA l)) v' := by
  have ho' := ho
  obtain ⟨_, hx⟩ := ho
  rcases hx with ⟨he, _⟩ | ⟨g, cap, cur, rfl, hg, hh, hcap, _, _, _⟩
  · exact absurd he hn
  · simp only [Rep]
    refine .inl ⟨g, 0, cap, by simp, by simpa using hcap, ?_⟩
    have hgl : g < w'.heap.size := by
      rcases Nat.lt_or_ge g w'.heap.size with h | h
      · exact h
      · rw [Array.getElem?_eq_none h] at hh; simp at hh
    refine repSl_mk (.inr ⟨hg, hgl⟩) l 0 fun j s hj => ?_
    have := ho'.cells (g := g) rfl j (.string ⟨s.toArray⟩) (by rw [List.getElem?_map, hj]; rfl)
    have e : ((⟨g, 0, none⟩ : Addr).add j) = ⟨g, 0 + j, none⟩ := by
      cases j <;> simp [Addr.add]
    rw [e] at this
    exact this

end Wax


namespace Wax
open Go Go.RowKit Go.Proofs

/-- Nothing is read of the values. -/
def noVal : Value → Option (DataW Nat × List MemPlace) := fun _ => some (.nil, [])

/-- What the shelf says of slices.Sorted at what maps.Keys hands back, in one piece. -/
def SortedSays (P : Program) (T : Tab) (f g : FuncId) : Prop :=
  (∀ h, lkN T.fns h = some 55 → h = g) ∧ ∃ e9 k : TypeId, P.underlying k = some .string ∧
  ∀ (Bm b nn : Nat) (D0 : DataW Nat) (w : World), Bm < w.heap.size → w.cell? ⟨Bm, 0, none⟩ = some (.map (some b)) → w.ownsMap P k noVal b nn D0 → Maps.size D0 ≤ maxLen → Maps.size D0 * 16 ≤ 140737488355328 →
    Calls P f #[.func (.func g) #[] #[.pointer (some ⟨Bm, 0, none⟩)]] w fun e w' => ∃ (v : Value) (ss : List (List UInt8)), e = .returned v ∧ ss.Perm (Go.strKeys D0) ∧
      w'.ownsRow w.heap.size e9 1 v ss.length ((ss.mergeSort (fun x y => decide (x ≤ y))).map encStr) ∧ (v = .slice none 0 0 ↔ ss = []) ∧ Below w.heap.size w w'

theorem repM_keyList {T : Tab} {w : World} {F : Frz} : ∀ {es : List (List UInt8 × AV)} {l : List MapEntry}, RepM T w F es l → l.map (·.key) = es.map fun p => Value.string ⟨p.1.toArray⟩
  | [], [], _ => rfl
  | (k, c) :: r, e :: s, h => by
    simp only [RepM] at h
    simp only [List.map_cons, h.1, repM_keyList h.2.2]
  | [], _ :: _, h => by simp [RepM] at h
  | _ :: _, [], h => by simp [RepM] at h

theorem ok_Sorted {P : Program} {T : Tab} {f g : FuncId} (H : SortedSays P T f g) : ∀ args r, con_Sorted args = some r → OkCall P T f args r := by
  intro args r h w F vs hF _ hx
  obtain ⟨hinj, e9, k, hk, H⟩ := H
  simp only [con_Sorted] at h
  split at h <;> (try simp at h; done)
  rename_i es
  obtain ⟨⟨hlen, hkl⟩, rfl⟩ := ite_some h
  clear h
  simp only [half] at hlen
  match vs, hx with
  | [v], hx =>
    simp only [RepL, and_true] at hx
    simp only [Rep] at hx
    obtain ⟨f', vs', rfl, hf', hcap⟩ := hx
    obtain rfl := hinj f' hf'
    obtain ⟨l⟩ := vs'
    match l, hcap with
    | [p], hcap =>
      simp only [RepL, and_true, Rep] at hcap
      obtain ⟨Bm, rfl, hat⟩ := hcap
      simp only [RepAt, and_true] at hat
      obtain ⟨hFB, x, hcell, hmp⟩ := hat
      simp only [Rep] at hmp
      obtain ⟨b, ents, clk, rfl, hFb, hheap, ⟨el, hpe, hM⟩, hst⟩ := hmp
      have hBm : Bm < w.heap.size := hF Bm hFB
      have hkeys : (ents.toList.map (·.key)).Perm (es.map fun p => Value.string ⟨p.1.toArray⟩) := by
        rw [← repM_keyList hM]; exact (hpe.map _).symm
      have hsz : ents.size = es.length := by
        have := hkeys.length_eq
        simpa using this
      have hread : ∀ x ∈ ents.toList, ∃ s : List UInt8, x.key = .string ⟨s.toArray⟩ ∧ keyOf P k x.key = some (.string s) := by
        intro x hx
        have hm : x.key ∈ ents.toList.map (·.key) := List.mem_map_of_mem hx
        rw [hkeys.mem_iff, List.mem_map] at hm
        obtain ⟨q, hq, e⟩ := hm
        refine ⟨q.1, e.symm, ?_⟩
        have hs := hkl q hq
        simp only [half] at hs
        rw [← e]
        have hsz : (⟨q.1.toArray⟩ : ByteArray).size = q.1.length := by show q.1.toArray.size = _; simp
        have := Go.WideMaps.keyOf_string_mk hk (s := ⟨q.1.toArray⟩) (by rw [hsz]; simp only [maxLen]; omega)
        simpa using this
      have hown : w.ownsMap P k noVal b ents.size (.map ((ents.toList.map (WideElems.rg P k noVal)).foldr DataW.insert [])) := by
        refine ⟨ents, clk, hheap, ⟨by rw [hsz]; simp only [maxLen]; omega, hst, fun x hx => ?_⟩, Nat.le_refl _, rfl⟩
        obtain ⟨s, _, hs⟩ := hread x hx
        exact ⟨_, WideElems.rd_mk (val := x.val) (born := x.born) hs rfl⟩
      have hds : Maps.size (.map ((ents.toList.map (WideElems.rg P k noVal)).foldr DataW.insert [])) = es.length := by
        simp only [Maps.size]
        rw [(WideShapes.sorted_perm _).length_eq]
        simp [hsz]
      have hsk : (Go.strKeys (.map ((ents.toList.map (WideElems.rg P k noVal)).foldr DataW.insert []))).Perm (es.map (·.1)) := by
        simp only [Go.strKeys]
        refine ((WideShapes.sorted_perm _).map _).trans ?_
        have : ((ents.toList.map (WideElems.rg P k noVal)).map (fun p => Go.strOf p.1)).Perm (es.map (·.1)) := by
          rw [List.map_map]
          have e1 : ents.toList.map ((fun p => Go.strOf p.1) ∘ WideElems.rg P k noVal) = (ents.toList.map (·.key)).map (fun v => match v with | .string s => s.data.toList | _ => []) := by
            rw [List.map_map]
            refine List.map_congr_left fun x hx => ?_
            obtain ⟨s, h1, h2⟩ := hread x hx
            have h3 := WideElems.rg_of (WideElems.rd_mk (R := noVal) (val := x.val) (born := x.born) h2 rfl)
            simp only [Function.comp_apply]
            rw [show x = ⟨x.key, x.val, x.born⟩ from rfl, h3, h1]
            rfl
          have e2 : (es.map fun p => Value.string ⟨p.1.toArray⟩).map (fun v => match v with | .string s => s.data.toList | _ => []) = es.map (·.1) := by
            rw [List.map_map]
            refine List.map_congr_left fun x _ => ?_
            simp
          rw [e1, ← e2]
          exact hkeys.map _
        exact this
      refine (H Bm b ents.size _ w hBm hcell hown (by rw [hds]; simp only [maxLen]; omega) (by rw [hds]; omega)).mono ?_
      rintro e w' ⟨v, ss, rfl, hp, ho, hn, hbl⟩
      have hperm : ss.Perm (es.map (·.1)) := hp.trans hsk
      have hms : ss.mergeSort (fun x y => decide (x ≤ y)) = sortB (es.map (·.1)) := Go.mergeSort_of_perm hperm
      rw [hms] at ho
      have hl : ss.length = (sortB (es.map (·.1))).length := by rw [hperm.length_eq]; simp [sortB]
      rw [hl] at ho
      refine ⟨v, rfl, hbl, ?_⟩
      by_cases he : es = []
      · subst he
        have hss : ss = [] := by simpa using hperm
        rw [hn.2 hss]
        simp [sortB, strV, Rep]
      · have hss : ss ≠ [] := fun e => he (by rw [e] at hperm; simpa using hperm.symm)
        have hne : sortB (es.map (·.1)) ≠ [] := fun e => by rw [e] at hl; exact hss (List.length_eq_zero_iff.1 hl)
        have : strV (sortB (es.map (·.1))) = .sl 1 (strsA (sortB (es.map (·.1)))) := by
          cases hq : sortB (es.map (·.1)) with
          | nil => exact absurd hq hne
          | cons _ _ => rfl
        rw [this]
        exact owned_strs (e9 := e9) (l := sortB (es.map (·.1))) ho (fun e => hss (hn.1 e))

/-- Only one function bears this number. -/
def lkOnly (l : List (Nat × Nat)) (n g : Nat) : Bool := l.all fun p => p.2 != n || p.1 == g

theorem lkN_only {l : List (Nat × Nat)} {n g : Nat} (h : lkOnly l n g = true) : ∀ i, lkN l i = some n → i = g := by
  intro i hi
  induction l with
  | nil => simp [lkN] at hi
  | cons p r ih =>
    simp only [lkOnly, List.all_cons, Bool.and_eq_true, Bool.or_eq_true, bne_iff_ne, ne_eq, beq_iff_eq] at h
    obtain ⟨a, b⟩ := p
    simp only [lkN] at hi
    split at hi
    · rename_i e
      simp only [beq_iff_eq] at e
      simp only [Option.some.injEq] at hi
      rcases h.1 with h1 | h1
      · exact absurd hi h1
      · exact e ▸ h1
    · exact ih (by simpa [lkOnly] using h.2) hi
end Wax


namespace Wax
open Go Go.ChangeShapes Go.WideShapes Go.RowKit Go.Joins Go.Deep

section
variable {P : Program} {T : Tab} {w : World} {H : Type} {enc : TypeId × Value → H}

/-- A result that came in. -/
theorem open_ar {e pt : TypeId} {f0 f1 : Field} {fs : Array Field} {base : Nat} {v : Value} {d : DataW H} {ps : List MemPlace} (K : Bulk H) (he : P.underlying e = some (.struct fs)) (ce : P.cellsOf e = 16)
    (hfs : (fs.toList.map fun f => (f.offset, P.cellsOf f.type, P.underlying f.type)) = arFlds pt) (hp : P.underlying pt = some (.struct #[f0, f1]))
    (cp : P.cellsOf pt = 2) (o0 : f0.offset = 0) (o1 : f1.offset = 1) (c0 : P.cellsOf f0.type = 1) (c1 : P.cellsOf f1.type = 1) (s0 : P.underlying f0.type = some .string) (s1 : P.underlying f1.type = some .string)
    (hval : Value.okWide P w .any base e v) (h : DataW.Trod enc P w 0 (fun _ => true) true e v d ps) :
    ∃ r : AR, Rep T w (fun k => k < w.heap.size) noRho (.agg r.cells) v ∧ (r.ps.getD []).length < 9223372036854775808 ∧ r.bulk + 1 ≤ K.B d := by
  unfold Value.okWide at hval
  rw [he] at hval
  obtain ⟨cs, rfl, _⟩ := hval
  obtain ⟨fuel, hf⟩ := h
  obtain ⟨r, h1, h2, h3⟩ := trod_ar (T := T) K he ce hfs hp cp o0 o1 c0 c1 s0 s1 hf
  refine ⟨r, ⟨cs, rfl, ?_⟩, h2, h3⟩
  simpa [Value.cells] using h1

end
theorem u64_has {n : Int} (h : (Lit.int .u64 n).wf = true) : 0 ≤ n ∧ n < 18446744073709551616 := by
  simp only [Lit.wf] at h
  have : 0 ≤ n ∧ n ≤ 18446744073709551615 := by simpa [IntKind.min, IntKind.max, IntKind.bits, IntKind.signed] using h
  omega
end Wax


