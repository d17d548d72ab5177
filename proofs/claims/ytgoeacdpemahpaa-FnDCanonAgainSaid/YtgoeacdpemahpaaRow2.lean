/- FnDCanonAgain: for every input the answer is true, and nothing that was there is changed. (No condition.) -/
import Derived.Test.YtgoeacdpemahpaaChain
import Derived.Test.YtgoeacdpemahpaaRows
import Derived.WalkKit
import Derived.ProofKit
import Derived.OpenShut
import Derived.ShutString
import Derived.ChangeOld
import Derived.Below
import Derived.Test.YtgoeacdpemahpaaWd
namespace Go.Proofs.Ytgoeacdpemahpaa.fnDCanonAgain
open Go.ChangeShapes Go.WideShapes Go.ChangeAt Go.RowKit
open Go.ChangeMaps (open_string shut_string)

theorem own : ownKnob Try.prog.godebug = none := by kernel_rfl
theorem laidOut : laidOutB Try.prog = true := by kernel_rfl

theorem walk (w : World) (s0 : ByteArray) (w0 : s0.size ≤ maxLen) (x1 : Wax.AV) (l1 : List (List UInt8)) (v1 : Value) (k1 : Wax.slStrs x1 = some l1) (r1 : Wax.Rep tab w (fun b => b < w.heap.size) Wax.noRho x1 v1) (b1 : l1.length < 9223372036854775808 ∧ ∀ s ∈ l1, s.length < 9223372036854775808) (x2 : Wax.AV) (l2 : List (List UInt8)) (v2 : Value) (k2 : Wax.slStrs x2 = some l2) (r2 : Wax.Rep tab w (fun b => b < w.heap.size) Wax.noRho x2 v2) (b2 : l2.length < 9223372036854775808 ∧ ∀ s ∈ l2, s.length < 9223372036854775808) :
    Calls Try.prog 3 #[.string s0, v1, v2] w fun e w' => e = .returned (.bool true) ∧ Below w.heap.size w w' := by
  unfold maxLen at w0
  have h0 : s0.data.toList.length < 9223372036854775808 := by simp; exact Nat.lt_of_le_of_lt w0 (by decide)
  have c : Wax.con_FnDCanonAgain [.str s0.data.toList, x1, x2] = some (.bool true) := by
    simp only [Wax.con_FnDCanonAgain, k1, k2]
    exact if_pos ⟨h0, b1, b2⟩
  have h := ok_FnDCanonAgain _ _ c w (fun b => b < w.heap.size) [.string s0, v1, v2] (fun b h => h) ⟨rfl, r1, r2, trivial⟩
  refine h.mono ?_
  rintro e w' ⟨v, he, hb, hv⟩
  simp only [Wax.Rep] at hv
  exact ⟨by rw [he, hv], hb⟩

set_option maxRecDepth 100000 in
theorem lifted (os : Os) (started : os.Started) (H : Type) (enc : TypeId × Value → H) :
    ReturnsInHanded {} Try.checked os 3 .any (Rows.fnDCanonAgainSpec.pre6 enc Try.prog Try.f3 Rows.fnDCanonAgainRow.domain false) (Rows.fnDCanonAgainSpec.post enc Try.prog Try.f3 false true false false) := by
  refine returnsInHanded_of_change (C := Try.checked) own started (by kernel_rfl) Try.func3
    (ChangeSpec.witness6 (enc := enc) (C := Try.checked) false ⟨#[], #[.string ⟨#[]⟩, .slice none 0 0, .slice none 0 0], []⟩ 8 (by kernel_rfl) (by kernel_rfl) (by kernel_rfl) (by kernel_rfl)) ?_
  intro W base args ds gs before hval0 hW hcnd _
  have hval : ∀ (j : Nat) t v, Try.f3.params[j]? = some t → args[j]? = some v → Value.okWide Try.prog W .any base t v := hval0
  have hW' := hW
  obtain ⟨p, q, hA0, hV, rfl, hfz, hnd⟩ := hW
  have hA : DataW.TrodAll enc Try.prog W 0 (fun _ => true) true Try.f3.params.toList args.toList ds p := hA0
  rw [Try.params3] at hA hval
  obtain ⟨v0, vs0, d0, ds0, p0, q0, hargs, rfl, rfl, t0, r0⟩ := trodAll_cons hA
  obtain ⟨v1, vs1, d1, ds1, p1, q1, rfl, rfl, rfl, t1, r1⟩ := trodAll_cons r0
  obtain ⟨v2, vs2, d2, ds2, p2, q2, rfl, rfl, rfl, t2, r2⟩ := trodAll_cons r1
  obtain ⟨rfl, rfl, rfl⟩ := trodAll_nil r2
  obtain rfl : args = #[v0, v1, v2] := by cases args; simp_all
  obtain ⟨rfl, rfl⟩ := trodVars_none hV
  obtain ⟨s0, rfl, rfl, rfl, w0⟩ := open_string Try.underlying9 (hval 0 9 v0 rfl rfl) t0
  have k1 := t1
  have lt1 : ∀ x ∈ p1, x.block < W.heap.size := by obtain ⟨m, hm⟩ := k1; exact DataW.trod_lt m _ _ _ hm
  obtain ⟨x1, l1, e1, g1, b1⟩ := Wax.open_strs (T := tab) Try.underlying22 Try.underlying9 (by kernel_rfl) (hval 1 22 v1 rfl rfl) t1
  have k2 := t2
  have lt2 : ∀ x ∈ p2, x.block < W.heap.size := by obtain ⟨m, hm⟩ := k2; exact DataW.trod_lt m _ _ _ hm
  obtain ⟨x2, l2, e2, g2, b2⟩ := Wax.open_strs (T := tab) Try.underlying22 Try.underlying9 (by kernel_rfl) (hval 2 22 v2 rfl rfl) t2
  clear hA0 hval0
  refine (walk W s0 w0 x1 l1 v1 e1 g1 b1 x2 l2 v2 e2 g2 b2).mono fun e W' ⟨he, bel⟩ => ?_
  subst he
  exact ⟨_, rfl, _, _, _, [], _, [], hW', trodAll_mk1 (shut_bool Try.underlying4 _), (trodAll_cons_mk (shut_string Try.underlying9 w0) (trodAll_cons_mk (Below.trod laidOut (by kernel_rfl) (of_decide_eq_true (by kernel_rfl)) k1 bel lt1) (trodAll_cons_mk (Below.trod laidOut (by kernel_rfl) (of_decide_eq_true (by kernel_rfl)) k2 bel lt2) trodAll_mk0))), rfl, bel.frame _, fun h => by cases h⟩

theorem over : Rows.fnDCanonAgainRow.holds Try.pinned (OpenSpec.ofChange Rows.fnDCanonAgainSpec) :=
  OpenClaim.holds_of_wide 3 Try.f3 rfl rfl rfl rfl rfl rfl rfl ⟨rfl, rfl, rfl, rfl, rfl⟩ rfl rfl rfl rfl rfl (by kernel_rfl) Try.func3 (by kernel_rfl)
    (of_decide_eq_true (by kernel_rfl)) (by unfold Func.isWrapper; first | (rw [if_pos (by decide +kernel)]; kernel_rfl) | (rw [if_neg (by decide +kernel)]; exact ⟨rfl, rfl⟩))
    (fun os started H enc _ => lifted os started H enc)

/-- The statement. -/
theorem proved : Rows.FnDCanonAgainSaid := over
#print axioms proved
end Go.Proofs.Ytgoeacdpemahpaa.fnDCanonAgain
