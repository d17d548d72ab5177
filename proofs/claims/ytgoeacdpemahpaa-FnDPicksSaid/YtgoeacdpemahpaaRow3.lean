/- FnDPicks: for every input the answer is true, and nothing that was there is changed. (No condition.) -/
import Derived.Test.YtgoeacdpemahpaaChain
import Derived.Test.YtgoeacdpemahpaaRows
import Derived.WalkKit
import Derived.ProofKit
import Derived.OpenShut
import Derived.ShutString
import Derived.ChangeOld
import Derived.Below
import Derived.Test.YtgoeacdpemahpaaWd
namespace Go.Proofs.Ytgoeacdpemahpaa.fnDPicks
open Go.ChangeShapes Go.WideShapes Go.ChangeAt Go.RowKit
open Go.ChangeMaps (open_string shut_string)

theorem own : ownKnob Try.prog.godebug = none := by kernel_rfl
theorem laidOut : laidOutB Try.prog = true := by kernel_rfl

theorem walk (w : World) (x0 : Wax.AV) (l0 : List (List UInt8)) (v0 : Value) (k0 : Wax.slStrs x0 = some l0) (r0 : Wax.Rep tab w (fun b => b < w.heap.size) Wax.noRho x0 v0) (b0 : l0.length < 9223372036854775808 ∧ ∀ s ∈ l0, s.length < 9223372036854775808) (x1 : Wax.AV) (l1 : List (List UInt8)) (v1 : Value) (k1 : Wax.slStrs x1 = some l1) (r1 : Wax.Rep tab w (fun b => b < w.heap.size) Wax.noRho x1 v1) (b1 : l1.length < 9223372036854775808 ∧ ∀ s ∈ l1, s.length < 9223372036854775808) :
    Calls Try.prog 5 #[v0, v1] w fun e w' => e = .returned (.bool true) ∧ Below w.heap.size w w' := by
  have c : Wax.con_FnDPicks [x0, x1] = some (.bool true) := by
    simp only [Wax.con_FnDPicks, k0, k1]
    exact if_pos ⟨b0, b1⟩
  have h := ok_FnDPicks _ _ c w (fun b => b < w.heap.size) [v0, v1] (fun b h => h) ⟨r0, r1, trivial⟩
  refine h.mono ?_
  rintro e w' ⟨v, he, hb, hv⟩
  simp only [Wax.Rep] at hv
  exact ⟨by rw [he, hv], hb⟩

set_option maxRecDepth 100000 in
theorem lifted (os : Os) (started : os.Started) (H : Type) (enc : TypeId × Value → H) :
    ReturnsInHanded {} Try.checked os 5 .any (Rows.fnDPicksSpec.pre6 enc Try.prog Try.f5 Rows.fnDPicksRow.domain false) (Rows.fnDPicksSpec.post enc Try.prog Try.f5 false true false false) := by
  refine returnsInHanded_of_change (C := Try.checked) own started (by kernel_rfl) Try.func5
    (ChangeSpec.witness6 (enc := enc) (C := Try.checked) false ⟨#[], #[.slice none 0 0, .slice none 0 0], []⟩ 8 (by kernel_rfl) (by kernel_rfl) (by kernel_rfl) (by kernel_rfl)) ?_
  intro W base args ds gs before hval0 hW hcnd _
  have hval : ∀ (j : Nat) t v, Try.f5.params[j]? = some t → args[j]? = some v → Value.okWide Try.prog W .any base t v := hval0
  have hW' := hW
  obtain ⟨p, q, hA0, hV, rfl, hfz, hnd⟩ := hW
  have hA : DataW.TrodAll enc Try.prog W 0 (fun _ => true) true Try.f5.params.toList args.toList ds p := hA0
  rw [Try.params5] at hA hval
  obtain ⟨v0, vs0, d0, ds0, p0, q0, hargs, rfl, rfl, t0, r0⟩ := trodAll_cons hA
  obtain ⟨v1, vs1, d1, ds1, p1, q1, rfl, rfl, rfl, t1, r1⟩ := trodAll_cons r0
  obtain ⟨rfl, rfl, rfl⟩ := trodAll_nil r1
  obtain rfl : args = #[v0, v1] := by cases args; simp_all
  obtain ⟨rfl, rfl⟩ := trodVars_none hV
  have k0 := t0
  have lt0 : ∀ x ∈ p0, x.block < W.heap.size := by obtain ⟨m, hm⟩ := k0; exact DataW.trod_lt m _ _ _ hm
  obtain ⟨x0, l0, e0, g0, b0⟩ := Wax.open_strs (T := tab) Try.underlying22 Try.underlying9 (by kernel_rfl) (hval 0 22 v0 rfl rfl) t0
  have k1 := t1
  have lt1 : ∀ x ∈ p1, x.block < W.heap.size := by obtain ⟨m, hm⟩ := k1; exact DataW.trod_lt m _ _ _ hm
  obtain ⟨x1, l1, e1, g1, b1⟩ := Wax.open_strs (T := tab) Try.underlying22 Try.underlying9 (by kernel_rfl) (hval 1 22 v1 rfl rfl) t1
  clear hA0 hval0
  refine (walk W x0 l0 v0 e0 g0 b0 x1 l1 v1 e1 g1 b1).mono fun e W' ⟨he, bel⟩ => ?_
  subst he
  exact ⟨_, rfl, _, _, _, [], _, [], hW', trodAll_mk1 (shut_bool Try.underlying4 _), (trodAll_cons_mk (Below.trod laidOut (by kernel_rfl) (of_decide_eq_true (by kernel_rfl)) k0 bel lt0) (trodAll_cons_mk (Below.trod laidOut (by kernel_rfl) (of_decide_eq_true (by kernel_rfl)) k1 bel lt1) trodAll_mk0)), rfl, bel.frame _, fun h => by cases h⟩

theorem over : Rows.fnDPicksRow.holds Try.pinned (OpenSpec.ofChange Rows.fnDPicksSpec) :=
  OpenClaim.holds_of_wide 5 Try.f5 rfl rfl rfl rfl rfl rfl rfl ⟨rfl, rfl, rfl, rfl, rfl⟩ rfl rfl rfl rfl rfl (by kernel_rfl) Try.func5 (by kernel_rfl)
    (of_decide_eq_true (by kernel_rfl)) (by unfold Func.isWrapper; first | (rw [if_pos (by decide +kernel)]; kernel_rfl) | (rw [if_neg (by decide +kernel)]; exact ⟨rfl, rfl⟩))
    (fun os started H enc _ => lifted os started H enc)

/-- The statement. -/
theorem proved : Rows.FnDPicksSaid := over
#print axioms proved
end Go.Proofs.Ytgoeacdpemahpaa.fnDPicks
