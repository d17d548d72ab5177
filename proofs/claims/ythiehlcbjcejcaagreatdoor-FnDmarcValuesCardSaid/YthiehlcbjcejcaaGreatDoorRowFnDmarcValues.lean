/- FnDmarcValues: for every input the answer is true, and nothing that was there is changed. (No condition.) -/
import Derived.Test.YthiehlcbjcejcaaGreatDoorChain
import Derived.ChangeVars
import Derived.OpenVars
import Derived.Test.YthiehlcbjcejcaaGreatDoorRows
import Derived.WalkKit
import Derived.ProofKit
import Derived.OpenShut
import Derived.ShutString
import Derived.ChangeOld
import Derived.Below
import Derived.LaidMore
import Derived.Stop.Joined
import Derived.Stop.LaidErr
import Derived.Test.YthiehlcbjcejcaaGreatDoorTie
import Derived.Test.YthiehlcbjcejcaaGreatDoorCards
import Derived.SevenTiedAt
import Derived.Test.YthiehlcbjcejcaaGreatDoorWe
set_option linter.all false
namespace Go.Proofs.YthiehlcbjcejcaaGreatDoor.fnDmarcValues
open Go.ChangeShapes Go.WideShapes Go.ChangeAt Go.RowKit Go.WideElems
open Go.ChangeMaps (open_string shut_string)

theorem own : ownKnob Tryz.prog.godebug = none := by kernel_rfl
theorem laidOut : laidOutB Tryz.prog = true := by kernel_rfl

theorem star : "*" ++ "errors.errorString" = "*errors.errorString" := by decide
theorem rowE (u : TypeId) (h : Tryz.prog.typeName? 3 u = some "*errors.errorString") : u = 127 :=
  typeName_ptr_named (nm := "errors.errorString") (by rw [star]; kernel_rfl) (by kernel_rfl) (by decide) u (by rw [star]; exact h)
theorem cellsE : Tryz.prog.cellsOf 129 = 1 := by kernel_rfl
theorem cellsS : Tryz.prog.cellsOf 9 = 1 := by kernel_rfl
theorem gl2 : Tryz.prog.globalNamed "internal/strconv.uint64pow10" = some 4 := by kernel_rfl
theorem ty2 : (Tryz.prog.globals[4]?).map (·.type) = some 222 := by kernel_rfl
theorem tb2 : (Rows.laid_internal_strconv_uint64pow10 : DataW Unit) = Lib.tabData .u64 (Lib.pow10Tab) := by kernel_rfl
theorem gl3 : Tryz.prog.globalNamed "strconv.ErrRange" = some 3 := by kernel_rfl
theorem ty3 : (Tryz.prog.globals[3]?).map (·.type) = some 62 := by kernel_rfl
theorem gl4 : Tryz.prog.globalNamed "strconv.ErrSyntax" = some 2 := by kernel_rfl
theorem ty4 : (Tryz.prog.globals[2]?).map (·.type) = some 62 := by kernel_rfl
theorem gl5 : Tryz.prog.globalNamed "given.example/pub-waxseal/pub/msgauth/dmarc.errUnsupportedVersion" = some 1 := by kernel_rfl
theorem ty5 : (Tryz.prog.globals[1]?).map (·.type) = some 62 := by kernel_rfl
/-- What the condition says of the variables. -/
theorem globs {W : World} (hL : laidMetH Tryz.prog Rows.fnDmarcValuesRow.laid W) : Wax.GlobOk tab W (fun b => b < W.heap.size) := by
  rw [MakeChecks.laidMetH_plain _ _ _ (by kernel_rfl)] at hL
  have hL0 : laidMet Tryz.prog [("math/bits.deBruijn32tab", Rows.laid_math_bits_deBruijn32tab), ("math/bits.deBruijn64tab", Rows.laid_math_bits_deBruijn64tab), ("internal/strconv.uint64pow10", Rows.laid_internal_strconv_uint64pow10), ("strconv.ErrRange", Rows.laid_strconv_ErrRange), ("strconv.ErrSyntax", Rows.laid_strconv_ErrSyntax), ("given.example/pub-waxseal/pub/msgauth/dmarc.errUnsupportedVersion", Rows.laid_given_example_pub_waxseal_pub_msgauth_dmarc_errUnsupportedVersion)] W := hL
  have e2 := hL0.tail.tail
  rw [tb2] at e2
  have c2 := Lib.tabIs_of_head (n := 20) (e := 186) gl2 ty2 (by kernel_rfl) (by kernel_rfl) (by kernel_rfl) (by kernel_rfl) e2
  obtain ⟨a3, s3, hv3, _, _, _⟩ := laid_sentinel (hL0.tail.tail.tail) gl3 ty3 Tryz.underlying62 rowE Tryz.underlying127 Tryz.underlying129 rfl rfl Tryz.underlying9 cellsE cellsS
  obtain ⟨a4, s4, hv4, _, _, _⟩ := laid_sentinel (hL0.tail.tail.tail.tail) gl4 ty4 Tryz.underlying62 rowE Tryz.underlying127 Tryz.underlying129 rfl rfl Tryz.underlying9 cellsE cellsS
  obtain ⟨a5, s5, hv5, _, _, _⟩ := laid_sentinel (hL0.tail.tail.tail.tail.tail) gl5 ty5 Tryz.underlying62 rowE Tryz.underlying127 Tryz.underlying129 rfl rfl Tryz.underlying9 cellsE cellsS
  refine Wax.GlobOk.of ?_
  intro p hp
  simp only [tab, List.mem_cons, List.not_mem_nil, or_false] at hp
  rcases hp with rfl | rfl | rfl | rfl
  · exact Wax.repAt_err gl5 hv5 (by kernel_rfl)
  · exact Wax.repAt_err gl4 hv4 (by kernel_rfl)
  · exact Wax.repAt_err gl3 hv3 (by kernel_rfl)
  · exact Wax.repAt_tab gl2 c2

/-- The door's own heap meets the condition. -/
theorem door_met (os : Os) (args : Array Value) : laidMetH Tryz.prog Rows.fnDmarcValuesRow.laid ((World.doorLaid Tryz.prog 2000 os).forCall (fun _ _ => 0) ⟨#[], args, []⟩).memory :=
  laidMetH_of_parts3 (fuel := 8) (laidMet_of_run' 8 (by kernel_rfl) (by kernel_rfl)) (by kernel_rfl) (by kernel_rfl)

theorem walk (w : World) (gl : Wax.GlobOk tab w (fun b => b < w.heap.size)) (z0 : Int) (b0 : 0 ≤ z0 ∧ z0 < 256) (s1 : ByteArray) (w1 : s1.size ≤ maxLen) :
    Calls Tryz.prog 10 #[.int .u8 z0, .string s1] w fun e w' => e = .returned (.bool true) ∧ Below w.heap.size w w' := by
  unfold maxLen at w1
  have h1 : s1.data.toList.length < 9223372036854775808 := by simp; exact Nat.lt_of_le_of_lt w1 (by decide)
  have c : Wax.con_FnDmarcValues [.int .u8 z0, .str s1.data.toList] = some (.bool true) := if_pos ⟨b0, h1⟩
  have h := ok_FnDmarcValues _ _ c w (fun b => b < w.heap.size) [.int .u8 z0, .string s1] (fun b h => h) gl ⟨rfl, rfl, trivial⟩
  refine h.mono ?_
  rintro e w' ⟨v, he, hb, hv⟩
  simp only [Wax.Rep] at hv
  exact ⟨by rw [he, hv], hb⟩

set_option maxRecDepth 100000 in
theorem lifted (os : Os) (started : os.Started) (H : Type) (enc : TypeId × Value → H) :
    ReturnsInHanded {} Tryz.checked os 10 .any (fun w args => (Rows.fnDmarcValuesSpec.pre enc Tryz.prog Tryz.f10 [] false w args ∧ laidMetH Tryz.prog Rows.fnDmarcValuesRow.laid w) ∧ sizedMet enc Tryz.prog Tryz.f10 (OpenSpec.ofChange Rows.fnDmarcValuesSpec) false w args) (Rows.fnDmarcValuesSpec.post enc Tryz.prog Tryz.f10 false true false false) := by
  refine returnsInHanded_of_change_and (C := Tryz.checked) (X := fun w _ => laidMetH Tryz.prog Rows.fnDmarcValuesRow.laid w) (fun _ _ _ hh h => h.of_heap hh) own started (by kernel_rfl) Tryz.func10
    (ChangeSpec.witness_shaped (enc := enc) (C := Tryz.checked) (os := os) (X := fun w _ => laidMetH Tryz.prog Rows.fnDmarcValuesRow.laid w) false (World.doorLaid Tryz.prog 2000 os) #[.int .u8 0, .string ⟨#[]⟩] 8 rfl (World.shaped_of_RefB (by kernel_rfl) (by kernel_rfl)) (by kernel_rfl) (by kernel_rfl) (by kernel_rfl) (door_met os _)) ?_
  intro W base args ds gs before hval0 hW _ _ hL _
  have hval : ∀ (j : Nat) t v, Tryz.f10.params[j]? = some t → args[j]? = some v → Value.okWide Tryz.prog W .any base t v := hval0
  have hW' := hW
  obtain ⟨p, q, hA0, hV, rfl, hfz, hnd⟩ := hW
  have hA : DataW.TrodAll enc Tryz.prog W 0 (fun _ => true) true Tryz.f10.params.toList args.toList ds p := hA0
  rw [Tryz.params10] at hA hval
  obtain ⟨v0, vs0, d0, ds0, p0, q0, hargs, rfl, rfl, t0, r0⟩ := trodAll_cons hA
  obtain ⟨v1, vs1, d1, ds1, p1, q1, rfl, rfl, rfl, t1, r1⟩ := trodAll_cons r0
  obtain ⟨rfl, rfl, rfl⟩ := trodAll_nil r1
  obtain rfl : args = #[v0, v1] := by cases args; simp_all
  obtain ⟨_, _, _, _, dg, _, rfl, _⟩ := trodVars_one hV
  obtain ⟨z0, rfl, rfl, rfl, w0⟩ := open_int Tryz.underlying5 (hval 0 5 v0 rfl rfl) t0
  obtain ⟨s1, rfl, rfl, rfl, w1⟩ := open_string Tryz.underlying9 (hval 1 9 v1 rfl rfl) t1
  clear hA0 hval0
  refine (walk W (globs hL) z0 (Wax.u8_has w0) s1 w1).mono fun e W' ⟨he, bel⟩ => ?_
  subst he
  exact ⟨_, rfl, _, _, _, [], _, _, hW', trodAll_mk1 (shut_bool Tryz.underlying4 _), (trodAll_cons_mk (shut_int Tryz.underlying5 w0) (trodAll_cons_mk (shut_string Tryz.underlying9 w1) trodAll_mk0)), bel.trodVars laidOut (by kernel_rfl) hV, bel.frame _, fun h => by cases h⟩

theorem and_tt {a b : Bool} (x : a = true) (y : b = true) : (a && b) = true := by rw [x, y]; rfl
theorem fact0 : ((Rows.fnDmarcValuesRow.wf (OpenSpec.ofChange Rows.fnDmarcValuesSpec)) && (laidOutB Tryz.prog) && (mapsRowed Tryz.prog) && (Tryz.f10.params.all (Tryz.prog.readableRec ·)) && (namedTie Tryz.prog Rows.fnDmarcValuesRow.named Rows.fnDmarcValuesSpec.vars) && ((Rows.fnDmarcValuesRow.stops == [])) && ((Tryz.prog.stops == [])) && ((Rows.fnDmarcValuesRow.knobs == [])) && ((Tryz.prog.stopKnobs == [])) && ((Rows.fnDmarcValuesRow.inPlace == Tryz.prog.inPlace 10)) && ((Rows.fnDmarcValuesRow.unfollowed == Tryz.prog.unfollowed 10)) && ((Rows.fnDmarcValuesRow.recurses == Tryz.prog.recurses 10)) && ((Rows.fnDmarcValuesRow.named == Tryz.prog.varsNamed 10)) && ((Rows.fnDmarcValuesRow.maps == (Tryz.f10.params.toList ++ Rows.fnDmarcValuesSpec.plain.varTypes Tryz.prog).any (Tryz.prog.mapsRec ·))) && ((Rows.fnDmarcValuesRow.ifaces == (Tryz.f10.params.toList ++ Rows.fnDmarcValuesSpec.plain.varTypes Tryz.prog).any (Tryz.prog.ifacesRec ·))) && ((Rows.fnDmarcValuesRow.mapsOut == Tryz.prog.mapsAmong Tryz.f10.resultTypes.toList)) && ((Rows.fnDmarcValuesRow.loops == (Tryz.f10.params.toList ++ Rows.fnDmarcValuesSpec.plain.varTypes Tryz.prog).any (Tryz.prog.loopsFrom ·))) && ((Rows.fnDmarcValuesRow.wideKeys == (Tryz.f10.params.toList ++ Rows.fnDmarcValuesSpec.plain.varTypes Tryz.prog ++ Tryz.f10.resultTypes.toList).any (Tryz.prog.wideKeysFrom ·))) && (Rows.fnDmarcValuesSpec.vars.all (Tryz.prog.varReadable ·)) && (Tryz.f10.resultTypes.all (fun t => Tryz.prog.readableRec t && decide (t < Tryz.prog.types.size))) && ((Rows.fnDmarcValuesRow.ifacesOut == Tryz.f10.resultTypes.toList.any (Tryz.prog.ifacesRec ·))) && ((Rows.fnDmarcValuesRow.loopsOut == Tryz.f10.resultTypes.toList.any (Tryz.prog.loopsFrom ·))) && ((Rows.fnDmarcValuesRow.plainKeys == Tryz.prog.plainKeys)) && (Rows.fnDmarcValuesRow.shortTexts.isNone) && (Tryz.prog.stopsHeard)) = true := by kernel_rfl
theorem fact25 : (Tryz.prog.mayEnter) = true := by kernel_rfl
theorem fact26 : ((Rows.fnDmarcValuesRow.lifted == Tryz.prog.liftsFinal)) = true := by kernel_rfl
theorem fact27 : ((Tryz.prog.make == some Rows.fnDmarcValuesRow.make)) = true := by kernel_rfl
theorem fact28 : ((Rows.fnDmarcValuesRow.kinds == (if Rows.fnDmarcValuesRow.domain.isEmpty then [] else Tryz.f10.params.toList.map fun t => match Tryz.prog.underlying t with | some (.int k) => some k | _ => none))) = true := by kernel_rfl
theorem fact29 : ((Rows.fnDmarcValuesRow.pinned == Rows.fnDmarcValuesRow.pinnedBy)) = true := by kernel_rfl
theorem fact30 : ((Rows.fnDmarcValuesRow.veiled == (Tryz.f10.params.toList ++ Rows.fnDmarcValuesSpec.plain.varTypes Tryz.prog ++ Tryz.f10.resultTypes.toList).any (Tryz.prog.veiledRec ·))) = true := by kernel_rfl
theorem fact31 : (Rows.fnDmarcValuesRow.veiledFits Tryz.prog Tryz.f10.params.toList (Tryz.f10.params.toList ++ Rows.fnDmarcValuesSpec.plain.varTypes Tryz.prog ++ Tryz.f10.resultTypes.toList)) = true := by kernel_rfl
set_option maxRecDepth 100000 in
theorem closed : joinedFacts Tryz.prog 10 Tryz.f10 Rows.fnDmarcValuesSpec Rows.fnDmarcValuesRow = true := (and_tt (and_tt (and_tt (and_tt (and_tt (and_tt (and_tt fact0 fact25) fact26) fact27) fact28) fact29) fact30) fact31)
theorem over : Rows.fnDmarcValuesRow.holds Tryz.pinned (OpenSpec.ofChange Rows.fnDmarcValuesSpec) :=
  OpenClaim.holds_of_wide 10 Tryz.f10 rfl rfl rfl rfl rfl rfl rfl ⟨rfl, rfl, rfl, rfl, rfl⟩ rfl rfl rfl rfl rfl (by kernel_rfl) Tryz.func10 closed
    (of_decide_eq_true (by kernel_rfl)) (by unfold Func.isWrapper; first | (rw [if_pos (by decide +kernel)]; kernel_rfl) | (rw [if_neg (by decide +kernel)]; exact ⟨rfl, rfl⟩))
    (fun os started H enc _ => lifted os started H enc)

/-- The card. -/
theorem proved : Rows.FnDmarcValuesCardSaid :=
  Claim7.holds_tied_plain_at .later [] [.data, .data, .data, .sentinel, .sentinel, .sentinel] true (true, "75a7940dd66626ebba83bc0b5c7a9317750c697d5f4c70bf46738e35701c06bb") true
    over (fun _ h => by cases h) (by kernel_rfl) (fun _ h => by cases h) fnDmarcValues_row_tie rfl ⟨rfl, rfl⟩ (by kernel_rfl) rfl
    (fun f fn hf hfn => by
      obtain rfl : f = 10 := Option.some.inj ((show Tryz.prog.funcNamed "given.example/pub-waxseal/laws.FnDmarcValues" = some 10 by kernel_rfl).symm.trans hf) |>.symm
      obtain rfl : fn = Tryz.f10 := (Option.some.inj (Tryz.func10.symm.trans hfn)).symm
      exact ⟨by kernel_rfl, fun j t ht => by
        rw [Tryz.params10] at ht
        have hm : t ∈ [5, 9] := by simpa using Array.mem_of_getElem? ht
        have hall : ([5, 9].all fun u => !Tryz.prog.wantsStandIn u) = true := by kernel_rfl
        exact (show Tryz.prog.wantsStandIn t = false by simpa using List.all_eq_true.1 hall t hm)⟩)
    (by kernel_rfl)
#print axioms proved
end Go.Proofs.YthiehlcbjcejcaaGreatDoor.fnDmarcValues
