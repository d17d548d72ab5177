/- FnDmarcApart: for every input the answer is true, and nothing that was there is changed. (No condition.) -/
import Derived.Test.YthiehlcbjcejcaaGreatDoorChain
import Derived.ChangeVars
import Derived.OpenVars
import Derived.Test.YthiehlcbjcejcaaGreatDoorRows
import Derived.WalkKit
import Derived.ProofKit
import Derived.OpenShut
import Derived.ShutString
import Derived.ChangeOld
import Derived.Below
import Derived.LaidMore
import Derived.Stop.Joined
import Derived.Stop.LaidErr
import Derived.Test.YthiehlcbjcejcaaGreatDoorTie
import Derived.Test.YthiehlcbjcejcaaGreatDoorCards
import Derived.SevenTiedAt
import Derived.Test.YthiehlcbjcejcaaGreatDoorWg
set_option linter.all false
namespace Go.Proofs.YthiehlcbjcejcaaGreatDoor.fnDmarcApart
open Go.ChangeShapes Go.WideShapes Go.ChangeAt Go.RowKit Go.WideElems
open Go.ChangeMaps (open_string shut_string)

theorem own : ownKnob Tryz.prog.godebug = none := by kernel_rfl
theorem laidOut : laidOutB Tryz.prog = true := by kernel_rfl

theorem star : "*" ++ "errors.errorString" = "*errors.errorString" := by decide
theorem rowE (u : TypeId) (h : Tryz.prog.typeName? 3 u = some "*errors.errorString") : u = 127 :=
  typeName_ptr_named (nm := "errors.errorString") (by rw [star]; kernel_rfl) (by kernel_rfl) (by decide) u (by rw [star]; exact h)
theorem cellsE : Tryz.prog.cellsOf 129 = 1 := by kernel_rfl
theorem cellsS : Tryz.prog.cellsOf 9 = 1 := by kernel_rfl
theorem gl2 : Tryz.prog.globalNamed "internal/strconv.uint64pow10" = some 4 := by kernel_rfl
theorem ty2 : (Tryz.prog.globals[4]?).map (·.type) = some 222 := by kernel_rfl
theorem tb2 : (Rows.laid_internal_strconv_uint64pow10 : DataW Unit) = Lib.tabData .u64 (Lib.pow10Tab) := by kernel_rfl
theorem gl3 : Tryz.prog.globalNamed "strconv.ErrRange" = some 3 := by kernel_rfl
theorem ty3 : (Tryz.prog.globals[3]?).map (·.type) = some 62 := by kernel_rfl
theorem gl4 : Tryz.prog.globalNamed "strconv.ErrSyntax" = some 2 := by kernel_rfl
theorem ty4 : (Tryz.prog.globals[2]?).map (·.type) = some 62 := by kernel_rfl
theorem gl5 : Tryz.prog.globalNamed "given.example/pub-waxseal/pub/msgauth/dmarc.errUnsupportedVersion" = some 1 := by kernel_rfl
theorem ty5 : (Tryz.prog.globals[1]?).map (·.type) = some 62 := by kernel_rfl
/-- What the condition says of the variables. -/
theorem globs {W : World} (hL : laidMetH Tryz.prog Rows.fnDmarcApartRow.laid W) : Wax.GlobOk tab W (fun b => b < W.heap.size) := by
  rw [MakeChecks.laidMetH_plain _ _ _ (by kernel_rfl)] at hL
  have hL0 : laidMet Tryz.prog [("math/bits.deBruijn32tab", Rows.laid_math_bits_deBruijn32tab), ("math/bits.deBruijn64tab", Rows.laid_math_bits_deBruijn64tab), ("internal/strconv.uint64pow10", Rows.laid_internal_strconv_uint64pow10), ("strconv.ErrRange", Rows.laid_strconv_ErrRange), ("strconv.ErrSyntax", Rows.laid_strconv_ErrSyntax), ("given.example/pub-waxseal/pub/msgauth/dmarc.errUnsupportedVersion", Rows.laid_given_example_pub_waxseal_pub_msgauth_dmarc_errUnsupportedVersion)] W := hL
  have e2 := hL0.tail.tail
  rw [tb2] at e2
  have c2 := Lib.tabIs_of_head (n := 20) (e := 186) gl2 ty2 (by kernel_rfl) (by kernel_rfl) (by kernel_rfl) (by kernel_rfl) e2
  obtain ⟨a3, s3, hv3, _, _, _⟩ := laid_sentinel (hL0.tail.tail.tail) gl3 ty3 Tryz.underlying62 rowE Tryz.underlying127 Tryz.underlying129 rfl rfl Tryz.underlying9 cellsE cellsS
  obtain ⟨a4, s4, hv4, _, _, _⟩ := laid_sentinel (hL0.tail.tail.tail.tail) gl4 ty4 Tryz.underlying62 rowE Tryz.underlying127 Tryz.underlying129 rfl rfl Tryz.underlying9 cellsE cellsS
  obtain ⟨a5, s5, hv5, _, _, _⟩ := laid_sentinel (hL0.tail.tail.tail.tail.tail) gl5 ty5 Tryz.underlying62 rowE Tryz.underlying127 Tryz.underlying129 rfl rfl Tryz.underlying9 cellsE cellsS
  refine Wax.GlobOk.of ?_
  intro p hp
  simp only [tab, List.mem_cons, List.not_mem_nil, or_false] at hp
  rcases hp with rfl | rfl | rfl | rfl
  · exact Wax.repAt_err gl5 hv5 (by kernel_rfl)
  · exact Wax.repAt_err gl4 hv4 (by kernel_rfl)
  · exact Wax.repAt_err gl3 hv3 (by kernel_rfl)
  · exact Wax.repAt_tab gl2 c2

/-- The door's own heap meets the condition. -/
theorem door_met (os : Os) (args : Array Value) : laidMetH Tryz.prog Rows.fnDmarcApartRow.laid ((World.doorLaid Tryz.prog 2000 os).forCall (fun _ _ => 0) ⟨#[], args, []⟩).memory :=
  laidMetH_of_parts3 (fuel := 8) (laidMet_of_run' 8 (by kernel_rfl) (by kernel_rfl)) (by kernel_rfl) (by kernel_rfl)

theorem walk (w : World) (gl : Wax.GlobOk tab w (fun b => b < w.heap.size)) (x0 : Wax.AV) (l0 : List (List UInt8 × List UInt8)) (v0 : Value) (k0 : Wax.slPairs x0 = some l0) (r0 : Wax.Rep tab w (fun b => b < w.heap.size) Wax.noRho x0 v0) (b0 : l0.length < 9223372036854775808) (q1 : List UInt8 × List UInt8) (v1 : Value) (r1 : Wax.Rep tab w (fun b => b < w.heap.size) Wax.noRho (.agg [.str q1.1, .str q1.2]) v1) :
    Calls Tryz.prog 3 #[v0, v1] w fun e w' => e = .returned (.bool true) ∧ Below w.heap.size w w' := by
  have c : Wax.con_FnDmarcApart [x0, .agg [.str q1.1, .str q1.2]] = some (.bool true) := by
    simp only [Wax.con_FnDmarcApart, k0]
    exact if_pos b0
  have h := ok_FnDmarcApart _ _ c w (fun b => b < w.heap.size) [v0, v1] (fun b h => h) gl ⟨r0, r1, trivial⟩
  refine h.mono ?_
  rintro e w' ⟨v, he, hb, hv⟩
  simp only [Wax.Rep] at hv
  exact ⟨by rw [he, hv], hb⟩

set_option maxRecDepth 100000 in
theorem lifted (os : Os) (started : os.Started) (H : Type) (enc : TypeId × Value → H) :
    ReturnsInHanded {} Tryz.checked os 3 .any (fun w args => (Rows.fnDmarcApartSpec.pre enc Tryz.prog Tryz.f3 [] false w args ∧ laidMetH Tryz.prog Rows.fnDmarcApartRow.laid w) ∧ sizedMet enc Tryz.prog Tryz.f3 (OpenSpec.ofChange Rows.fnDmarcApartSpec) false w args) (Rows.fnDmarcApartSpec.post enc Tryz.prog Tryz.f3 false true false false) := by
  refine returnsInHanded_of_change_and (C := Tryz.checked) (X := fun w _ => laidMetH Tryz.prog Rows.fnDmarcApartRow.laid w) (fun _ _ _ hh h => h.of_heap hh) own started (by kernel_rfl) Tryz.func3
    (ChangeSpec.witness_shaped (enc := enc) (C := Tryz.checked) (os := os) (X := fun w _ => laidMetH Tryz.prog Rows.fnDmarcApartRow.laid w) false (World.doorLaid Tryz.prog 2000 os) #[.slice none 0 0, .agg #[.string ⟨#[]⟩, .string ⟨#[]⟩]] 8 rfl (World.shaped_of_RefB (by kernel_rfl) (by kernel_rfl)) (by kernel_rfl) (by kernel_rfl) (by kernel_rfl) (door_met os _)) ?_
  intro W base args ds gs before hval0 hW _ _ hL _
  have hval : ∀ (j : Nat) t v, Tryz.f3.params[j]? = some t → args[j]? = some v → Value.okWide Tryz.prog W .any base t v := hval0
  have hW' := hW
  obtain ⟨p, q, hA0, hV, rfl, hfz, hnd⟩ := hW
  have hA : DataW.TrodAll enc Tryz.prog W 0 (fun _ => true) true Tryz.f3.params.toList args.toList ds p := hA0
  rw [Tryz.params3] at hA hval
  obtain ⟨v0, vs0, d0, ds0, p0, q0, hargs, rfl, rfl, t0, r0⟩ := trodAll_cons hA
  obtain ⟨v1, vs1, d1, ds1, p1, q1, rfl, rfl, rfl, t1, r1⟩ := trodAll_cons r0
  obtain ⟨rfl, rfl, rfl⟩ := trodAll_nil r1
  obtain rfl : args = #[v0, v1] := by cases args; simp_all
  obtain ⟨_, _, _, _, dg, _, rfl, _⟩ := trodVars_one hV
  have k0 := t0
  have lt0 : ∀ x ∈ p0, x.block < W.heap.size := by obtain ⟨m, hm⟩ := k0; exact DataW.trod_lt m _ _ _ hm
  obtain ⟨x0, l0, e0, g0, b0⟩ := Wax.open_pairs (T := tab) Tryz.underlying22 Tryz.underlying24 (by kernel_rfl) rfl rfl (by kernel_rfl) (by kernel_rfl) Tryz.underlying9 Tryz.underlying9 (hval 0 22 v0 rfl rfl) t0
  have k1 := t1
  have lt1 : ∀ x ∈ p1, x.block < W.heap.size := by obtain ⟨m, hm⟩ := k1; exact DataW.trod_lt m _ _ _ hm
  obtain ⟨q1, g1⟩ := Wax.open_pair2 (T := tab) Tryz.underlying24 (by kernel_rfl) (by kernel_rfl) Tryz.underlying9 Tryz.underlying9 (hval 1 24 v1 rfl rfl) t1
  clear hA0 hval0
  refine (walk W (globs hL) x0 l0 v0 e0 g0 b0 q1 v1 g1).mono fun e W' ⟨he, bel⟩ => ?_
  subst he
  exact ⟨_, rfl, _, _, _, [], _, _, hW', trodAll_mk1 (shut_bool Tryz.underlying4 _), (trodAll_cons_mk (Below.trod laidOut (by kernel_rfl) (of_decide_eq_true (by kernel_rfl)) k0 bel lt0) (trodAll_cons_mk (Below.trod laidOut (by kernel_rfl) (of_decide_eq_true (by kernel_rfl)) k1 bel lt1) trodAll_mk0)), bel.trodVars laidOut (by kernel_rfl) hV, bel.frame _, fun h => by cases h⟩

theorem and_tt {a b : Bool} (x : a = true) (y : b = true) : (a && b) = true := by rw [x, y]; rfl
theorem fact0 : ((Rows.fnDmarcApartRow.wf (OpenSpec.ofChange Rows.fnDmarcApartSpec)) && (laidOutB Tryz.prog) && (mapsRowed Tryz.prog) && (Tryz.f3.params.all (Tryz.prog.readableRec ·)) && (namedTie Tryz.prog Rows.fnDmarcApartRow.named Rows.fnDmarcApartSpec.vars) && ((Rows.fnDmarcApartRow.stops == [])) && ((Tryz.prog.stops == [])) && ((Rows.fnDmarcApartRow.knobs == [])) && ((Tryz.prog.stopKnobs == [])) && ((Rows.fnDmarcApartRow.inPlace == Tryz.prog.inPlace 3)) && ((Rows.fnDmarcApartRow.unfollowed == Tryz.prog.unfollowed 3)) && ((Rows.fnDmarcApartRow.recurses == Tryz.prog.recurses 3)) && ((Rows.fnDmarcApartRow.named == Tryz.prog.varsNamed 3)) && ((Rows.fnDmarcApartRow.maps == (Tryz.f3.params.toList ++ Rows.fnDmarcApartSpec.plain.varTypes Tryz.prog).any (Tryz.prog.mapsRec ·))) && ((Rows.fnDmarcApartRow.ifaces == (Tryz.f3.params.toList ++ Rows.fnDmarcApartSpec.plain.varTypes Tryz.prog).any (Tryz.prog.ifacesRec ·))) && ((Rows.fnDmarcApartRow.mapsOut == Tryz.prog.mapsAmong Tryz.f3.resultTypes.toList)) && ((Rows.fnDmarcApartRow.loops == (Tryz.f3.params.toList ++ Rows.fnDmarcApartSpec.plain.varTypes Tryz.prog).any (Tryz.prog.loopsFrom ·))) && ((Rows.fnDmarcApartRow.wideKeys == (Tryz.f3.params.toList ++ Rows.fnDmarcApartSpec.plain.varTypes Tryz.prog ++ Tryz.f3.resultTypes.toList).any (Tryz.prog.wideKeysFrom ·))) && (Rows.fnDmarcApartSpec.vars.all (Tryz.prog.varReadable ·)) && (Tryz.f3.resultTypes.all (fun t => Tryz.prog.readableRec t && decide (t < Tryz.prog.types.size))) && ((Rows.fnDmarcApartRow.ifacesOut == Tryz.f3.resultTypes.toList.any (Tryz.prog.ifacesRec ·))) && ((Rows.fnDmarcApartRow.loopsOut == Tryz.f3.resultTypes.toList.any (Tryz.prog.loopsFrom ·))) && ((Rows.fnDmarcApartRow.plainKeys == Tryz.prog.plainKeys)) && (Rows.fnDmarcApartRow.shortTexts.isNone) && (Tryz.prog.stopsHeard)) = true := by kernel_rfl
theorem fact25 : (Tryz.prog.mayEnter) = true := by kernel_rfl
theorem fact26 : ((Rows.fnDmarcApartRow.lifted == Tryz.prog.liftsFinal)) = true := by kernel_rfl
theorem fact27 : ((Tryz.prog.make == some Rows.fnDmarcApartRow.make)) = true := by kernel_rfl
theorem fact28 : ((Rows.fnDmarcApartRow.kinds == (if Rows.fnDmarcApartRow.domain.isEmpty then [] else Tryz.f3.params.toList.map fun t => match Tryz.prog.underlying t with | some (.int k) => some k | _ => none))) = true := by kernel_rfl
theorem fact29 : ((Rows.fnDmarcApartRow.pinned == Rows.fnDmarcApartRow.pinnedBy)) = true := by kernel_rfl
theorem fact30 : ((Rows.fnDmarcApartRow.veiled == (Tryz.f3.params.toList ++ Rows.fnDmarcApartSpec.plain.varTypes Tryz.prog ++ Tryz.f3.resultTypes.toList).any (Tryz.prog.veiledRec ·))) = true := by kernel_rfl
theorem fact31 : (Rows.fnDmarcApartRow.veiledFits Tryz.prog Tryz.f3.params.toList (Tryz.f3.params.toList ++ Rows.fnDmarcApartSpec.plain.varTypes Tryz.prog ++ Tryz.f3.resultTypes.toList)) = true := by kernel_rfl
set_option maxRecDepth 100000 in
theorem closed : joinedFacts Tryz.prog 3 Tryz.f3 Rows.fnDmarcApartSpec Rows.fnDmarcApartRow = true := (and_tt (and_tt (and_tt (and_tt (and_tt (and_tt (and_tt fact0 fact25) fact26) fact27) fact28) fact29) fact30) fact31)
theorem over : Rows.fnDmarcApartRow.holds Tryz.pinned (OpenSpec.ofChange Rows.fnDmarcApartSpec) :=
  OpenClaim.holds_of_wide 3 Tryz.f3 rfl rfl rfl rfl rfl rfl rfl ⟨rfl, rfl, rfl, rfl, rfl⟩ rfl rfl rfl rfl rfl (by kernel_rfl) Tryz.func3 closed
    (of_decide_eq_true (by kernel_rfl)) (by unfold Func.isWrapper; first | (rw [if_pos (by decide +kernel)]; kernel_rfl) | (rw [if_neg (by decide +kernel)]; exact ⟨rfl, rfl⟩))
    (fun os started H enc _ => lifted os started H enc)

/-- The card. -/
theorem proved : Rows.FnDmarcApartCardSaid :=
  Claim7.holds_tied_plain_at .later [] [.data, .data, .data, .sentinel, .sentinel, .sentinel] true (true, "75a7940dd66626ebba83bc0b5c7a9317750c697d5f4c70bf46738e35701c06bb") true
    over (fun _ h => by cases h) (by kernel_rfl) (fun _ h => by cases h) fnDmarcApart_row_tie rfl ⟨rfl, rfl⟩ (by kernel_rfl) rfl
    (fun f fn hf hfn => by
      obtain rfl : f = 3 := Option.some.inj ((show Tryz.prog.funcNamed "given.example/pub-waxseal/laws.FnDmarcApart" = some 3 by kernel_rfl).symm.trans hf) |>.symm
      obtain rfl : fn = Tryz.f3 := (Option.some.inj (Tryz.func3.symm.trans hfn)).symm
      exact ⟨by kernel_rfl, fun j t ht => by
        rw [Tryz.params3] at ht
        have hm : t ∈ [22, 24] := by simpa using Array.mem_of_getElem? ht
        have hall : ([22, 24].all fun u => !Tryz.prog.wantsStandIn u) = true := by kernel_rfl
        exact (show Tryz.prog.wantsStandIn t = false by simpa using List.all_eq_true.1 hall t hm)⟩)
    (by kernel_rfl)
#print axioms proved
end Go.Proofs.YthiehlcbjcejcaaGreatDoor.fnDmarcApart
