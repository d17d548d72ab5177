/- FnAuthQuoted: for every input the answer is true, and nothing that was there is changed. (No condition.) -/
import Derived.Test.YtbalogmjickeaabGreatDoorChain
import Derived.ChangeVars
import Derived.OpenVars
import Derived.Test.YtbalogmjickeaabGreatDoorRows
import Derived.WalkKit
import Derived.ProofKit
import Derived.OpenShut
import Derived.ShutString
import Derived.ChangeOld
import Derived.Below
import Derived.LaidMore
import Derived.Stop.Joined
import Derived.Stop.LaidErr
import Derived.Test.YtbalogmjickeaabGreatDoorTie
import Derived.Test.YtbalogmjickeaabGreatDoorCards
import Derived.SevenTiedAt
import Derived.Test.YtbalogmjickeaabGreatDoorWh
set_option linter.all false
namespace Go.Proofs.YtbalogmjickeaabGreatDoor.fnAuthQuoted
open Go.ChangeShapes Go.WideShapes Go.ChangeAt Go.RowKit Go.WideElems
open Go.ChangeMaps (open_string shut_string)

theorem own : ownKnob Tryz.prog.godebug = none := by kernel_rfl
theorem laidOut : laidOutB Tryz.prog = true := by kernel_rfl

theorem star : "*" ++ "errors.errorString" = "*errors.errorString" := by decide
theorem rowE (u : TypeId) (h : Tryz.prog.typeName? 3 u = some "*errors.errorString") : u = 138 :=
  typeName_ptr_named (nm := "errors.errorString") (by rw [star]; kernel_rfl) (by kernel_rfl) (by decide) u (by rw [star]; exact h)
theorem cellsE : Tryz.prog.cellsOf 140 = 1 := by kernel_rfl
theorem cellsS : Tryz.prog.cellsOf 9 = 1 := by kernel_rfl
theorem gl2 : Tryz.prog.globalNamed "internal/strconv.uint64pow10" = some 3 := by kernel_rfl
theorem ty2 : (Tryz.prog.globals[3]?).map (·.type) = some 220 := by kernel_rfl
theorem tb2 : (Rows.laid_internal_strconv_uint64pow10 : DataW Unit) = Lib.tabData .u64 (Lib.pow10Tab) := by kernel_rfl
theorem gl3 : Tryz.prog.globalNamed "strconv.ErrRange" = some 2 := by kernel_rfl
theorem ty3 : (Tryz.prog.globals[2]?).map (·.type) = some 66 := by kernel_rfl
theorem gl4 : Tryz.prog.globalNamed "strconv.ErrSyntax" = some 1 := by kernel_rfl
theorem ty4 : (Tryz.prog.globals[1]?).map (·.type) = some 66 := by kernel_rfl
theorem gl5 : Tryz.prog.globalNamed "given.example/pub-waxseal/pub/msgauth/dmarc.errUnsupportedVersion" = some 0 := by kernel_rfl
theorem ty5 : (Tryz.prog.globals[0]?).map (·.type) = some 66 := by kernel_rfl
/-- What the condition says of the variables. -/
theorem globs {W : World} (hL : laidMetH Tryz.prog Rows.fnAuthQuotedRow.laid W) : Wax.GlobOk tab W (fun b => b < W.heap.size) := by
  rw [MakeChecks.laidMetH_plain _ _ _ (by kernel_rfl)] at hL
  have hL0 : laidMet Tryz.prog [("math/bits.deBruijn32tab", Rows.laid_math_bits_deBruijn32tab), ("math/bits.deBruijn64tab", Rows.laid_math_bits_deBruijn64tab), ("internal/strconv.uint64pow10", Rows.laid_internal_strconv_uint64pow10), ("strconv.ErrRange", Rows.laid_strconv_ErrRange), ("strconv.ErrSyntax", Rows.laid_strconv_ErrSyntax), ("given.example/pub-waxseal/pub/msgauth/dmarc.errUnsupportedVersion", Rows.laid_given_example_pub_waxseal_pub_msgauth_dmarc_errUnsupportedVersion)] W := hL
  have e2 := hL0.tail.tail
  rw [tb2] at e2
  have c2 := Lib.tabIs_of_head (n := 20) (e := 197) gl2 ty2 (by kernel_rfl) (by kernel_rfl) (by kernel_rfl) (by kernel_rfl) e2
  obtain ⟨a3, s3, hv3, _, _, _⟩ := laid_sentinel (hL0.tail.tail.tail) gl3 ty3 Tryz.underlying66 rowE Tryz.underlying138 Tryz.underlying140 rfl rfl Tryz.underlying9 cellsE cellsS
  obtain ⟨a4, s4, hv4, _, _, _⟩ := laid_sentinel (hL0.tail.tail.tail.tail) gl4 ty4 Tryz.underlying66 rowE Tryz.underlying138 Tryz.underlying140 rfl rfl Tryz.underlying9 cellsE cellsS
  obtain ⟨a5, s5, hv5, _, _, _⟩ := laid_sentinel (hL0.tail.tail.tail.tail.tail) gl5 ty5 Tryz.underlying66 rowE Tryz.underlying138 Tryz.underlying140 rfl rfl Tryz.underlying9 cellsE cellsS
  refine Wax.GlobOk.of ?_
  intro p hp
  simp only [tab, List.mem_cons, List.not_mem_nil, or_false] at hp
  rcases hp with rfl | rfl | rfl | rfl
  · exact Wax.repAt_err gl5 hv5 (by kernel_rfl)
  · exact Wax.repAt_err gl4 hv4 (by kernel_rfl)
  · exact Wax.repAt_err gl3 hv3 (by kernel_rfl)
  · exact Wax.repAt_tab gl2 c2

/-- The door's own heap meets the condition. -/
theorem door_met (os : Os) (args : Array Value) : laidMetH Tryz.prog Rows.fnAuthQuotedRow.laid ((World.doorLaid Tryz.prog 2000 os).forCall (fun _ _ => 0) ⟨#[], args, []⟩).memory :=
  laidMetH_of_parts3 (fuel := 8) (laidMet_of_run' 8 (by kernel_rfl) (by kernel_rfl)) (by kernel_rfl) (by kernel_rfl)

theorem walk (w : World) (gl : Wax.GlobOk tab w (fun b => b < w.heap.size)) (s0 : ByteArray) (w0 : s0.size ≤ maxLen) (a1 : Wax.AR) (v1 : Value) (r1 : Wax.Rep tab w (fun b => b < w.heap.size) Wax.noRho (.agg a1.cells) v1) (b1 : (a1.ps.getD []).length < 9223372036854775808) :
    Calls Tryz.prog 7 #[.string s0, v1] w fun e w' => e = .returned (.bool true) ∧ Below w.heap.size w w' := by
  unfold maxLen at w0
  have h0 : s0.data.toList.length < 9223372036854775808 := by simp; exact Nat.lt_of_le_of_lt w0 (by decide)
  have c : Wax.con_FnAuthQuoted [.str s0.data.toList, .agg a1.cells] = some (.bool true) := by
    simp only [Wax.con_FnAuthQuoted, Wax.asAR_cells]
    exact if_pos ⟨h0, b1⟩
  have h := ok_FnAuthQuoted _ _ c w (fun b => b < w.heap.size) [.string s0, v1] (fun b h => h) gl ⟨rfl, r1, trivial⟩
  refine h.mono ?_
  rintro e w' ⟨v, he, hb, hv⟩
  simp only [Wax.Rep] at hv
  exact ⟨by rw [he, hv], hb⟩

/-- The measure of what came in. -/
def K (H : Type) : Wax.Bulk H := ⟨Rows.uptoBulk, Rows.uptoBulkAll, fun _ => by simp only [Rows.uptoBulk], fun _ => by simp only [Rows.uptoBulk], fun _ _ => by simp only [Rows.uptoBulk], by simp only [Rows.uptoBulkAll], fun _ _ => by simp only [Rows.uptoBulkAll]⟩
set_option maxRecDepth 100000 in
theorem lifted (os : Os) (started : os.Started) (H : Type) (enc : TypeId × Value → H) :
    ReturnsInHanded {} Tryz.checked os 7 .any (fun w args => (Rows.fnAuthQuotedSpec.pre enc Tryz.prog Tryz.f7 [] false w args ∧ laidMetH Tryz.prog Rows.fnAuthQuotedRow.laid w) ∧ sizedMet enc Tryz.prog Tryz.f7 (OpenSpec.ofChange Rows.fnAuthQuotedSpec) false w args) (Rows.fnAuthQuotedSpec.post enc Tryz.prog Tryz.f7 false true false false) := by
  refine returnsInHanded_of_change_and (C := Tryz.checked) (X := fun w _ => laidMetH Tryz.prog Rows.fnAuthQuotedRow.laid w) (fun _ _ _ hh h => h.of_heap hh) own started (by kernel_rfl) Tryz.func7
    (ChangeSpec.witness_shaped (enc := enc) (C := Tryz.checked) (os := os) (X := fun w _ => laidMetH Tryz.prog Rows.fnAuthQuotedRow.laid w) false (World.doorLaid Tryz.prog 2000 os) #[.string ⟨#[]⟩, .agg #[.int .i64 0, .string ⟨#[]⟩, .string ⟨#[]⟩, .string ⟨#[]⟩, .string ⟨#[]⟩, .string ⟨#[]⟩, .string ⟨#[]⟩, .string ⟨#[]⟩, .string ⟨#[]⟩, .string ⟨#[]⟩, .string ⟨#[]⟩, .string ⟨#[]⟩, .string ⟨#[]⟩, .string ⟨#[]⟩, .int .i64 0, .slice none 0 0]] 8 rfl (World.shaped_of_RefB (by kernel_rfl) (by kernel_rfl)) (by kernel_rfl) (by kernel_rfl) (by kernel_rfl) (door_met os _)) ?_
  intro W base args ds gs before hval0 hW _ _ hL _
  have hval : ∀ (j : Nat) t v, Tryz.f7.params[j]? = some t → args[j]? = some v → Value.okWide Tryz.prog W .any base t v := hval0
  have hW' := hW
  obtain ⟨p, q, hA0, hV, rfl, hfz, hnd⟩ := hW
  have hA : DataW.TrodAll enc Tryz.prog W 0 (fun _ => true) true Tryz.f7.params.toList args.toList ds p := hA0
  rw [Tryz.params7] at hA hval
  obtain ⟨v0, vs0, d0, ds0, p0, q0, hargs, rfl, rfl, t0, r0⟩ := trodAll_cons hA
  obtain ⟨v1, vs1, d1, ds1, p1, q1, rfl, rfl, rfl, t1, r1⟩ := trodAll_cons r0
  obtain ⟨rfl, rfl, rfl⟩ := trodAll_nil r1
  obtain rfl : args = #[v0, v1] := by cases args; simp_all
  obtain ⟨_, _, _, _, dg, _, rfl, _⟩ := trodVars_one hV
  obtain ⟨s0, rfl, rfl, rfl, w0⟩ := open_string Tryz.underlying9 (hval 0 9 v0 rfl rfl) t0
  have k1 := t1
  have lt1 : ∀ x ∈ p1, x.block < W.heap.size := by obtain ⟨m, hm⟩ := k1; exact DataW.trod_lt m _ _ _ hm
  obtain ⟨a1, g1, b1, z1⟩ := Wax.open_ar (T := tab) (pt := 61) (K H) Tryz.underlying47 (by kernel_rfl) (by kernel_rfl) Tryz.underlying61 (by kernel_rfl) rfl rfl (by kernel_rfl) (by kernel_rfl) Tryz.underlying9 Tryz.underlying9 (hval 1 47 v1 rfl rfl) t1
  clear hA0 hval0
  refine (walk W (globs hL) s0 w0 a1 v1 g1 b1).mono fun e W' ⟨he, bel⟩ => ?_
  subst he
  exact ⟨_, rfl, _, _, _, [], _, _, hW', trodAll_mk1 (shut_bool Tryz.underlying4 _), (trodAll_cons_mk (shut_string Tryz.underlying9 w0) (trodAll_cons_mk (Below.trod laidOut (by kernel_rfl) (of_decide_eq_true (by kernel_rfl)) k1 bel lt1) trodAll_mk0)), bel.trodVars laidOut (by kernel_rfl) hV, bel.frame _, fun h => by cases h⟩

theorem and_tt {a b : Bool} (x : a = true) (y : b = true) : (a && b) = true := by rw [x, y]; rfl
theorem fact0 : ((Rows.fnAuthQuotedRow.wf (OpenSpec.ofChange Rows.fnAuthQuotedSpec)) && (laidOutB Tryz.prog) && (mapsRowed Tryz.prog) && (Tryz.f7.params.all (Tryz.prog.readableRec ·)) && (namedTie Tryz.prog Rows.fnAuthQuotedRow.named Rows.fnAuthQuotedSpec.vars) && ((Rows.fnAuthQuotedRow.stops == [])) && ((Tryz.prog.stops == [])) && ((Rows.fnAuthQuotedRow.knobs == [])) && ((Tryz.prog.stopKnobs == [])) && ((Rows.fnAuthQuotedRow.inPlace == Tryz.prog.inPlace 7)) && ((Rows.fnAuthQuotedRow.unfollowed == Tryz.prog.unfollowed 7)) && ((Rows.fnAuthQuotedRow.recurses == Tryz.prog.recurses 7)) && ((Rows.fnAuthQuotedRow.named == Tryz.prog.varsNamed 7)) && ((Rows.fnAuthQuotedRow.maps == (Tryz.f7.params.toList ++ Rows.fnAuthQuotedSpec.plain.varTypes Tryz.prog).any (Tryz.prog.mapsRec ·))) && ((Rows.fnAuthQuotedRow.ifaces == (Tryz.f7.params.toList ++ Rows.fnAuthQuotedSpec.plain.varTypes Tryz.prog).any (Tryz.prog.ifacesRec ·))) && ((Rows.fnAuthQuotedRow.mapsOut == Tryz.prog.mapsAmong Tryz.f7.resultTypes.toList)) && ((Rows.fnAuthQuotedRow.loops == (Tryz.f7.params.toList ++ Rows.fnAuthQuotedSpec.plain.varTypes Tryz.prog).any (Tryz.prog.loopsFrom ·))) && ((Rows.fnAuthQuotedRow.wideKeys == (Tryz.f7.params.toList ++ Rows.fnAuthQuotedSpec.plain.varTypes Tryz.prog ++ Tryz.f7.resultTypes.toList).any (Tryz.prog.wideKeysFrom ·))) && (Rows.fnAuthQuotedSpec.vars.all (Tryz.prog.varReadable ·)) && (Tryz.f7.resultTypes.all (fun t => Tryz.prog.readableRec t && decide (t < Tryz.prog.types.size))) && ((Rows.fnAuthQuotedRow.ifacesOut == Tryz.f7.resultTypes.toList.any (Tryz.prog.ifacesRec ·))) && ((Rows.fnAuthQuotedRow.loopsOut == Tryz.f7.resultTypes.toList.any (Tryz.prog.loopsFrom ·))) && ((Rows.fnAuthQuotedRow.plainKeys == Tryz.prog.plainKeys)) && (Rows.fnAuthQuotedRow.shortTexts.isNone) && (Tryz.prog.stopsHeard)) = true := by kernel_rfl
theorem fact25 : (Tryz.prog.mayEnter) = true := by kernel_rfl
theorem fact26 : ((Rows.fnAuthQuotedRow.lifted == Tryz.prog.liftsFinal)) = true := by kernel_rfl
theorem fact27 : ((Tryz.prog.make == some Rows.fnAuthQuotedRow.make)) = true := by kernel_rfl
theorem fact28 : ((Rows.fnAuthQuotedRow.kinds == (if Rows.fnAuthQuotedRow.domain.isEmpty then [] else Tryz.f7.params.toList.map fun t => match Tryz.prog.underlying t with | some (.int k) => some k | _ => none))) = true := by kernel_rfl
theorem fact29 : ((Rows.fnAuthQuotedRow.pinned == Rows.fnAuthQuotedRow.pinnedBy)) = true := by kernel_rfl
theorem fact30 : ((Rows.fnAuthQuotedRow.veiled == (Tryz.f7.params.toList ++ Rows.fnAuthQuotedSpec.plain.varTypes Tryz.prog ++ Tryz.f7.resultTypes.toList).any (Tryz.prog.veiledRec ·))) = true := by kernel_rfl
theorem fact31 : (Rows.fnAuthQuotedRow.veiledFits Tryz.prog Tryz.f7.params.toList (Tryz.f7.params.toList ++ Rows.fnAuthQuotedSpec.plain.varTypes Tryz.prog ++ Tryz.f7.resultTypes.toList)) = true := by kernel_rfl
set_option maxRecDepth 100000 in
theorem closed : joinedFacts Tryz.prog 7 Tryz.f7 Rows.fnAuthQuotedSpec Rows.fnAuthQuotedRow = true := (and_tt (and_tt (and_tt (and_tt (and_tt (and_tt (and_tt fact0 fact25) fact26) fact27) fact28) fact29) fact30) fact31)
theorem over : Rows.fnAuthQuotedRow.holds Tryz.pinned (OpenSpec.ofChange Rows.fnAuthQuotedSpec) :=
  OpenClaim.holds_of_wide 7 Tryz.f7 rfl rfl rfl rfl rfl rfl rfl ⟨rfl, rfl, rfl, rfl, rfl⟩ rfl rfl rfl rfl rfl (by kernel_rfl) Tryz.func7 closed
    (of_decide_eq_true (by kernel_rfl)) (by unfold Func.isWrapper; first | (rw [if_pos (by decide +kernel)]; kernel_rfl) | (rw [if_neg (by decide +kernel)]; exact ⟨rfl, rfl⟩))
    (fun os started H enc _ => lifted os started H enc)

/-- The card. -/
theorem proved : Rows.FnAuthQuotedCardSaid :=
  Claim7.holds_tied_plain_at .later [] [.data, .data, .data, .sentinel, .sentinel, .sentinel] true (true, "0212d9ee4b8acbb3fc390ee8028c026d97b5a6e245ebe1a551e58daa8cf189f8") true
    over (fun _ h => by cases h) (by kernel_rfl) (fun _ h => by cases h) fnAuthQuoted_row_tie rfl ⟨rfl, rfl⟩ (by kernel_rfl) rfl
    (fun f fn hf hfn => by
      obtain rfl : f = 7 := Option.some.inj ((show Tryz.prog.funcNamed "given.example/pub-waxseal/laws.FnAuthQuoted" = some 7 by kernel_rfl).symm.trans hf) |>.symm
      obtain rfl : fn = Tryz.f7 := (Option.some.inj (Tryz.func7.symm.trans hfn)).symm
      exact ⟨by kernel_rfl, fun j t ht => by
        rw [Tryz.params7] at ht
        have hm : t ∈ [9, 47] := by simpa using Array.mem_of_getElem? ht
        have hall : ([9, 47].all fun u => !Tryz.prog.wantsStandIn u) = true := by kernel_rfl
        exact (show Tryz.prog.wantsStandIn t = false by simpa using List.all_eq_true.1 hall t hm)⟩)
    (by kernel_rfl)
#print axioms proved
end Go.Proofs.YtbalogmjickeaabGreatDoor.fnAuthQuoted
