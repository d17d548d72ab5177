/- FnAuthStable: for every input the answer is true, and nothing that was there is changed. (No condition.) -/
import Derived.Test.YtpmdjfblfpjpoabGreatDoorChain
import Derived.ChangeVars
import Derived.OpenVars
import Derived.Test.YtpmdjfblfpjpoabGreatDoorRows
import Derived.WalkKit
import Derived.ProofKit
import Derived.OpenShut
import Derived.ShutString
import Derived.ChangeOld
import Derived.Below
import Derived.LaidMore
import Derived.Stop.Joined
import Derived.Stop.LaidErr
import Derived.Test.YtpmdjfblfpjpoabGreatDoorTie
import Derived.Test.YtpmdjfblfpjpoabGreatDoorCards
import Derived.SevenTiedAt
import Derived.Test.YtpmdjfblfpjpoabGreatDoorWh
set_option linter.all false
namespace Go.Proofs.YtpmdjfblfpjpoabGreatDoor.fnAuthStable
open Go.ChangeShapes Go.WideShapes Go.ChangeAt Go.RowKit Go.WideElems
open Go.ChangeMaps (open_string shut_string)

theorem own : ownKnob Tryz.prog.godebug = none := by kernel_rfl
theorem laidOut : laidOutB Tryz.prog = true := by kernel_rfl

theorem star : "*" ++ "errors.errorString" = "*errors.errorString" := by decide
theorem rowE (u : TypeId) (h : Tryz.prog.typeName? 3 u = some "*errors.errorString") : u = 111 :=
  typeName_ptr_named (nm := "errors.errorString") (by rw [star]; kernel_rfl) (by kernel_rfl) (by decide) u (by rw [star]; exact h)
theorem cellsE : Tryz.prog.cellsOf 113 = 1 := by kernel_rfl
theorem cellsS : Tryz.prog.cellsOf 9 = 1 := by kernel_rfl
theorem gl2 : Tryz.prog.globalNamed "internal/strconv.uint64pow10" = some 3 := by kernel_rfl
theorem ty2 : (Tryz.prog.globals[3]?).map (·.type) = some 194 := by kernel_rfl
theorem tb2 : (Rows.laid_internal_strconv_uint64pow10 : DataW Unit) = Lib.tabData .u64 (Lib.pow10Tab) := by kernel_rfl
theorem gl3 : Tryz.prog.globalNamed "strconv.ErrRange" = some 2 := by kernel_rfl
theorem ty3 : (Tryz.prog.globals[2]?).map (·.type) = some 32 := by kernel_rfl
theorem gl4 : Tryz.prog.globalNamed "strconv.ErrSyntax" = some 1 := by kernel_rfl
theorem ty4 : (Tryz.prog.globals[1]?).map (·.type) = some 32 := by kernel_rfl
theorem gl5 : Tryz.prog.globalNamed "given.example/pub-waxseal/pub/msgauth/dmarc.errUnsupportedVersion" = some 0 := by kernel_rfl
theorem ty5 : (Tryz.prog.globals[0]?).map (·.type) = some 32 := by kernel_rfl
/-- What the condition says of the variables. -/
theorem globs {W : World} (hL : laidMetH Tryz.prog Rows.fnAuthStableRow.laid W) : Wax.GlobOk tab W (fun b => b < W.heap.size) := by
  rw [MakeChecks.laidMetH_plain _ _ _ (by kernel_rfl)] at hL
  have hL0 : laidMet Tryz.prog [("math/bits.deBruijn32tab", Rows.laid_math_bits_deBruijn32tab), ("math/bits.deBruijn64tab", Rows.laid_math_bits_deBruijn64tab), ("internal/strconv.uint64pow10", Rows.laid_internal_strconv_uint64pow10), ("strconv.ErrRange", Rows.laid_strconv_ErrRange), ("strconv.ErrSyntax", Rows.laid_strconv_ErrSyntax), ("given.example/pub-waxseal/pub/msgauth/dmarc.errUnsupportedVersion", Rows.laid_given_example_pub_waxseal_pub_msgauth_dmarc_errUnsupportedVersion)] W := hL
  have e2 := hL0.tail.tail
  rw [tb2] at e2
  have c2 := Lib.tabIs_of_head (n := 20) (e := 171) gl2 ty2 (by kernel_rfl) (by kernel_rfl) (by kernel_rfl) (by kernel_rfl) e2
  obtain ⟨a3, s3, hv3, _, _, _⟩ := laid_sentinel (hL0.tail.tail.tail) gl3 ty3 Tryz.underlying32 rowE Tryz.underlying111 Tryz.underlying113 rfl rfl Tryz.underlying9 cellsE cellsS
  obtain ⟨a4, s4, hv4, _, _, _⟩ := laid_sentinel (hL0.tail.tail.tail.tail) gl4 ty4 Tryz.underlying32 rowE Tryz.underlying111 Tryz.underlying113 rfl rfl Tryz.underlying9 cellsE cellsS
  obtain ⟨a5, s5, hv5, _, _, _⟩ := laid_sentinel (hL0.tail.tail.tail.tail.tail) gl5 ty5 Tryz.underlying32 rowE Tryz.underlying111 Tryz.underlying113 rfl rfl Tryz.underlying9 cellsE cellsS
  refine Wax.GlobOk.of ?_
  intro p hp
  simp only [tab, List.mem_cons, List.not_mem_nil, or_false] at hp
  rcases hp with rfl | rfl | rfl | rfl
  · exact Wax.repAt_err gl5 hv5 (by kernel_rfl)
  · exact Wax.repAt_err gl4 hv4 (by kernel_rfl)
  · exact Wax.repAt_err gl3 hv3 (by kernel_rfl)
  · exact Wax.repAt_tab gl2 c2

/-- The door's own heap meets the condition. -/
theorem door_met (os : Os) (args : Array Value) : laidMetH Tryz.prog Rows.fnAuthStableRow.laid ((World.doorLaid Tryz.prog 2000 os).forCall (fun _ _ => 0) ⟨#[], args, []⟩).memory :=
  laidMetH_of_parts3 (fuel := 8) (laidMet_of_run' 8 (by kernel_rfl) (by kernel_rfl)) (by kernel_rfl) (by kernel_rfl)

theorem walk (w : World) (gl : Wax.GlobOk tab w (fun b => b < w.heap.size)) (s0 : ByteArray) (w0 : s0.size ≤ maxLen) :
    Calls Tryz.prog 3 #[.string s0] w fun e w' => e = .returned (.bool true) ∧ Below w.heap.size w w' := by
  unfold maxLen at w0
  have h0 : s0.data.toList.length < 9223372036854775808 := by simp; exact Nat.lt_of_le_of_lt w0 (by decide)
  have c : Wax.con_FnAuthStable [.str s0.data.toList] = some (.bool true) := if_pos h0
  have h := ok_FnAuthStable _ _ c w (fun b => b < w.heap.size) [.string s0] (fun b h => h) gl ⟨rfl, trivial⟩
  refine h.mono ?_
  rintro e w' ⟨v, he, hb, hv⟩
  simp only [Wax.Rep] at hv
  exact ⟨by rw [he, hv], hb⟩

set_option maxRecDepth 100000 in
theorem lifted (os : Os) (started : os.Started) (H : Type) (enc : TypeId × Value → H) :
    ReturnsInHanded {} Tryz.checked os 3 .any (fun w args => (Rows.fnAuthStableSpec.pre enc Tryz.prog Tryz.f3 [] false w args ∧ laidMetH Tryz.prog Rows.fnAuthStableRow.laid w) ∧ sizedMet enc Tryz.prog Tryz.f3 (OpenSpec.ofChange Rows.fnAuthStableSpec) false w args) (Rows.fnAuthStableSpec.post enc Tryz.prog Tryz.f3 false true false false) := by
  refine returnsInHanded_of_change_and (C := Tryz.checked) (X := fun w _ => laidMetH Tryz.prog Rows.fnAuthStableRow.laid w) (fun _ _ _ hh h => h.of_heap hh) own started (by kernel_rfl) Tryz.func3
    (ChangeSpec.witness_shaped (enc := enc) (C := Tryz.checked) (os := os) (X := fun w _ => laidMetH Tryz.prog Rows.fnAuthStableRow.laid w) false (World.doorLaid Tryz.prog 2000 os) #[.string ⟨#[]⟩] 8 rfl (World.shaped_of_RefB (by kernel_rfl) (by kernel_rfl)) (by kernel_rfl) (by kernel_rfl) (by kernel_rfl) (door_met os _)) ?_
  intro W base args ds gs before hval0 hW _ _ hL _
  have hval : ∀ (j : Nat) t v, Tryz.f3.params[j]? = some t → args[j]? = some v → Value.okWide Tryz.prog W .any base t v := hval0
  have hW' := hW
  obtain ⟨p, q, hA0, hV, rfl, hfz, hnd⟩ := hW
  have hA : DataW.TrodAll enc Tryz.prog W 0 (fun _ => true) true Tryz.f3.params.toList args.toList ds p := hA0
  rw [Tryz.params3] at hA hval
  obtain ⟨v0, vs0, d0, ds0, p0, q0, hargs, rfl, rfl, t0, r0⟩ := trodAll_cons hA
  obtain ⟨rfl, rfl, rfl⟩ := trodAll_nil r0
  obtain rfl : args = #[v0] := by cases args; simp_all
  obtain ⟨_, _, _, _, dg, _, rfl, _⟩ := trodVars_one hV
  obtain ⟨s0, rfl, rfl, rfl, w0⟩ := open_string Tryz.underlying9 (hval 0 9 v0 rfl rfl) t0
  clear hA0 hval0
  refine (walk W (globs hL) s0 w0).mono fun e W' ⟨he, bel⟩ => ?_
  subst he
  exact ⟨_, rfl, _, _, _, [], _, _, hW', trodAll_mk1 (shut_bool Tryz.underlying4 _), (trodAll_cons_mk (shut_string Tryz.underlying9 w0) trodAll_mk0), bel.trodVars laidOut (by kernel_rfl) hV, bel.frame _, fun h => by cases h⟩

theorem and_tt {a b : Bool} (x : a = true) (y : b = true) : (a && b) = true := by rw [x, y]; rfl
theorem fact0 : ((Rows.fnAuthStableRow.wf (OpenSpec.ofChange Rows.fnAuthStableSpec)) && (laidOutB Tryz.prog) && (mapsRowed Tryz.prog) && (Tryz.f3.params.all (Tryz.prog.readableRec ·)) && (namedTie Tryz.prog Rows.fnAuthStableRow.named Rows.fnAuthStableSpec.vars) && ((Rows.fnAuthStableRow.stops == [])) && ((Tryz.prog.stops == [])) && ((Rows.fnAuthStableRow.knobs == [])) && ((Tryz.prog.stopKnobs == [])) && ((Rows.fnAuthStableRow.inPlace == Tryz.prog.inPlace 3)) && ((Rows.fnAuthStableRow.unfollowed == Tryz.prog.unfollowed 3)) && ((Rows.fnAuthStableRow.recurses == Tryz.prog.recurses 3)) && ((Rows.fnAuthStableRow.named == Tryz.prog.varsNamed 3)) && ((Rows.fnAuthStableRow.maps == (Tryz.f3.params.toList ++ Rows.fnAuthStableSpec.plain.varTypes Tryz.prog).any (Tryz.prog.mapsRec ·))) && ((Rows.fnAuthStableRow.ifaces == (Tryz.f3.params.toList ++ Rows.fnAuthStableSpec.plain.varTypes Tryz.prog).any (Tryz.prog.ifacesRec ·))) && ((Rows.fnAuthStableRow.mapsOut == Tryz.prog.mapsAmong Tryz.f3.resultTypes.toList)) && ((Rows.fnAuthStableRow.loops == (Tryz.f3.params.toList ++ Rows.fnAuthStableSpec.plain.varTypes Tryz.prog).any (Tryz.prog.loopsFrom ·))) && ((Rows.fnAuthStableRow.wideKeys == (Tryz.f3.params.toList ++ Rows.fnAuthStableSpec.plain.varTypes Tryz.prog ++ Tryz.f3.resultTypes.toList).any (Tryz.prog.wideKeysFrom ·))) && (Rows.fnAuthStableSpec.vars.all (Tryz.prog.varReadable ·)) && (Tryz.f3.resultTypes.all (fun t => Tryz.prog.readableRec t && decide (t < Tryz.prog.types.size))) && ((Rows.fnAuthStableRow.ifacesOut == Tryz.f3.resultTypes.toList.any (Tryz.prog.ifacesRec ·))) && ((Rows.fnAuthStableRow.loopsOut == Tryz.f3.resultTypes.toList.any (Tryz.prog.loopsFrom ·))) && ((Rows.fnAuthStableRow.plainKeys == Tryz.prog.plainKeys)) && (Rows.fnAuthStableRow.shortTexts.isNone) && (Tryz.prog.stopsHeard)) = true := by kernel_rfl
theorem fact25 : (Tryz.prog.mayEnter) = true := by kernel_rfl
theorem fact26 : ((Rows.fnAuthStableRow.lifted == Tryz.prog.liftsFinal)) = true := by kernel_rfl
theorem fact27 : ((Tryz.prog.make == some Rows.fnAuthStableRow.make)) = true := by kernel_rfl
theorem fact28 : ((Rows.fnAuthStableRow.kinds == (if Rows.fnAuthStableRow.domain.isEmpty then [] else Tryz.f3.params.toList.map fun t => match Tryz.prog.underlying t with | some (.int k) => some k | _ => none))) = true := by kernel_rfl
theorem fact29 : ((Rows.fnAuthStableRow.pinned == Rows.fnAuthStableRow.pinnedBy)) = true := by kernel_rfl
theorem fact30 : ((Rows.fnAuthStableRow.veiled == (Tryz.f3.params.toList ++ Rows.fnAuthStableSpec.plain.varTypes Tryz.prog ++ Tryz.f3.resultTypes.toList).any (Tryz.prog.veiledRec ·))) = true := by kernel_rfl
theorem fact31 : (Rows.fnAuthStableRow.veiledFits Tryz.prog Tryz.f3.params.toList (Tryz.f3.params.toList ++ Rows.fnAuthStableSpec.plain.varTypes Tryz.prog ++ Tryz.f3.resultTypes.toList)) = true := by kernel_rfl
set_option maxRecDepth 100000 in
theorem closed : joinedFacts Tryz.prog 3 Tryz.f3 Rows.fnAuthStableSpec Rows.fnAuthStableRow = true := (and_tt (and_tt (and_tt (and_tt (and_tt (and_tt (and_tt fact0 fact25) fact26) fact27) fact28) fact29) fact30) fact31)
theorem over : Rows.fnAuthStableRow.holds Tryz.pinned (OpenSpec.ofChange Rows.fnAuthStableSpec) :=
  OpenClaim.holds_of_wide 3 Tryz.f3 rfl rfl rfl rfl rfl rfl rfl ⟨rfl, rfl, rfl, rfl, rfl⟩ rfl rfl rfl rfl rfl (by kernel_rfl) Tryz.func3 closed
    (of_decide_eq_true (by kernel_rfl)) (by unfold Func.isWrapper; first | (rw [if_pos (by decide +kernel)]; kernel_rfl) | (rw [if_neg (by decide +kernel)]; exact ⟨rfl, rfl⟩))
    (fun os started H enc _ => lifted os started H enc)

/-- The card. -/
theorem proved : Rows.FnAuthStableCardSaid :=
  Claim7.holds_tied_plain_at .later [] [.data, .data, .data, .sentinel, .sentinel, .sentinel] true (true, "27a2e58a4554abea739a3afe1450df66b53caee0e9d167f59b6fa758e52f132e") true
    over (fun _ h => by cases h) (by kernel_rfl) (fun _ h => by cases h) fnAuthStable_row_tie rfl ⟨rfl, rfl⟩ (by kernel_rfl) rfl
    (fun f fn hf hfn => by
      obtain rfl : f = 3 := Option.some.inj ((show Tryz.prog.funcNamed "given.example/pub-waxseal/laws.FnAuthStable" = some 3 by kernel_rfl).symm.trans hf) |>.symm
      obtain rfl : fn = Tryz.f3 := (Option.some.inj (Tryz.func3.symm.trans hfn)).symm
      exact ⟨by kernel_rfl, fun j t ht => by
        rw [Tryz.params3] at ht
        have hm : t ∈ [9] := by simpa using Array.mem_of_getElem? ht
        have hall : ([9].all fun u => !Tryz.prog.wantsStandIn u) = true := by kernel_rfl
        exact (show Tryz.prog.wantsStandIn t = false by simpa using List.all_eq_true.1 hall t hm)⟩)
    (by kernel_rfl)
#print axioms proved
end Go.Proofs.YtpmdjfblfpjpoabGreatDoor.fnAuthStable
