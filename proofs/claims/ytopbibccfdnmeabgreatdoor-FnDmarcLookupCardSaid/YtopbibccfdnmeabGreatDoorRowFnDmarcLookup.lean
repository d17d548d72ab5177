/- FnDmarcLookup: for every input the answer is true, and nothing that was there is changed. (No condition.) -/
import Derived.Test.YtopbibccfdnmeabGreatDoorChain
import Derived.Stop.LaidTwo
import Derived.ChangeVars
import Derived.OpenVars
import Derived.Test.YtopbibccfdnmeabGreatDoorRows
import Derived.WalkKit
import Derived.ProofKit
import Derived.OpenShut
import Derived.ShutString
import Derived.ChangeOld
import Derived.Below
import Derived.LaidMore
import Derived.Stop.Joined
import Derived.Stop.LaidErr
import Derived.Test.YtopbibccfdnmeabGreatDoorTie
import Derived.Test.YtopbibccfdnmeabGreatDoorCards
import Derived.SevenTiedAt
import Derived.Test.YtopbibccfdnmeabGreatDoorWg
set_option linter.all false
namespace Go.Proofs.YtopbibccfdnmeabGreatDoor.fnDmarcLookup
open Go.ChangeShapes Go.WideShapes Go.ChangeAt Go.RowKit Go.WideElems
open Go.ChangeMaps (open_string shut_string)

theorem own : ownKnob Tryz.prog.godebug = none := by kernel_rfl
theorem laidOut : laidOutB Tryz.prog = true := by kernel_rfl

theorem star : "*" ++ "errors.errorString" = "*errors.errorString" := by decide
theorem rowE (u : TypeId) (h : Tryz.prog.typeName? 3 u = some "*errors.errorString") : u = 116 :=
  typeName_ptr_named (nm := "errors.errorString") (by rw [star]; kernel_rfl) (by kernel_rfl) (by decide) u (by rw [star]; exact h)
theorem cellsE : Tryz.prog.cellsOf 118 = 1 := by kernel_rfl
theorem cellsS : Tryz.prog.cellsOf 9 = 1 := by kernel_rfl
theorem gl2 : Tryz.prog.globalNamed "internal/strconv.uint64pow10" = some 4 := by kernel_rfl
theorem ty2 : (Tryz.prog.globals[4]?).map (·.type) = some 211 := by kernel_rfl
theorem tb2 : (Rows.laid_internal_strconv_uint64pow10 : DataW Unit) = Lib.tabData .u64 (Lib.pow10Tab) := by kernel_rfl
theorem gl3 : Tryz.prog.globalNamed "strconv.ErrRange" = some 3 := by kernel_rfl
theorem ty3 : (Tryz.prog.globals[3]?).map (·.type) = some 54 := by kernel_rfl
theorem gl4 : Tryz.prog.globalNamed "strconv.ErrSyntax" = some 2 := by kernel_rfl
theorem ty4 : (Tryz.prog.globals[2]?).map (·.type) = some 54 := by kernel_rfl
theorem gl5 : Tryz.prog.globalNamed "given.example/pub-waxseal/pub/msgauth/dmarc.ErrNoPolicy" = some 0 := by kernel_rfl
theorem ty5 : (Tryz.prog.globals[0]?).map (·.type) = some 54 := by kernel_rfl
theorem gl6 : Tryz.prog.globalNamed "given.example/pub-waxseal/pub/msgauth/dmarc.errUnsupportedVersion" = some 1 := by kernel_rfl
theorem ty6 : (Tryz.prog.globals[1]?).map (·.type) = some 54 := by kernel_rfl
/-- What the condition says of the variables. -/
theorem globs {W : World} (hL : laidMetH Tryz.prog Rows.fnDmarcLookupRow.laid W) : ∃ B, Wax.GlobOk (tab B) W (fun b => b < W.heap.size) := by
  rw [MakeChecks.laidMetH_plain _ _ _ (by kernel_rfl)] at hL
  have hL0 : laidMet Tryz.prog [("math/bits.deBruijn32tab", Rows.laid_math_bits_deBruijn32tab), ("math/bits.deBruijn64tab", Rows.laid_math_bits_deBruijn64tab), ("internal/strconv.uint64pow10", Rows.laid_internal_strconv_uint64pow10), ("strconv.ErrRange", Rows.laid_strconv_ErrRange), ("strconv.ErrSyntax", Rows.laid_strconv_ErrSyntax), ("given.example/pub-waxseal/pub/msgauth/dmarc.ErrNoPolicy", Rows.laid_given_example_pub_waxseal_pub_msgauth_dmarc_ErrNoPolicy), ("given.example/pub-waxseal/pub/msgauth/dmarc.errUnsupportedVersion", Rows.laid_given_example_pub_waxseal_pub_msgauth_dmarc_errUnsupportedVersion)] W := hL
  have e2 := hL0.tail.tail
  rw [tb2] at e2
  have c2 := Lib.tabIs_of_head (n := 20) (e := 175) gl2 ty2 (by kernel_rfl) (by kernel_rfl) (by kernel_rfl) (by kernel_rfl) e2
  obtain ⟨a3, s3, hv3, _, _, _⟩ := laid_sentinel (hL0.tail.tail.tail) gl3 ty3 Tryz.underlying54 rowE Tryz.underlying116 Tryz.underlying118 rfl rfl Tryz.underlying9 cellsE cellsS
  obtain ⟨a4, s4, hv4, _, _, _⟩ := laid_sentinel (hL0.tail.tail.tail.tail) gl4 ty4 Tryz.underlying54 rowE Tryz.underlying116 Tryz.underlying118 rfl rfl Tryz.underlying9 cellsE cellsS
  obtain ⟨a5, a6, s5, s6, c5, c6, t5, t6, hv5, hv6, hc5, hs5, hz5, hc6, hs6, hz6, hne, hb5, hb6⟩ := laid_sentinels2 (hL0.tail.tail.tail.tail.tail) gl5 ty5 gl6 ty6 Tryz.underlying54 rowE Tryz.underlying116 Tryz.underlying118 rfl rfl Tryz.underlying9 cellsE cellsS
  refine ⟨[(2, a5), (1, a6)], ?_⟩
  refine Wax.GlobOk.of ?_ (Wax.gcOk_one rfl (by simp [tab, Wax.lkA]) hc5 hs5 hb5)
  intro p hp
  simp only [tab, List.mem_cons, List.not_mem_nil, or_false] at hp
  rcases hp with rfl | rfl | rfl | rfl | rfl
  · exact Wax.repAt_gp gl5 hv5 (by kernel_rfl) rfl
  · exact Wax.repAt_gp gl6 hv6 (by kernel_rfl) rfl
  · exact Wax.repAt_err gl4 hv4 (by kernel_rfl)
  · exact Wax.repAt_err gl3 hv3 (by kernel_rfl)
  · exact Wax.repAt_tab gl2 c2

/-- The door's own heap meets the condition. -/
theorem door_met (os : Os) (args : Array Value) : laidMetH Tryz.prog Rows.fnDmarcLookupRow.laid ((World.doorLaid Tryz.prog 2000 os).forCall (fun _ _ => 0) ⟨#[], args, []⟩).memory :=
  laidMetH_of_parts3 (fuel := 8) (laidMet_of_run' 8 (by kernel_rfl) (by kernel_rfl)) (by kernel_rfl) (by kernel_rfl)

theorem walk (B : List (Nat × Addr)) (w : World) (gl : Wax.GlobOk (tab B) w (fun b => b < w.heap.size)) (s0 : ByteArray) (w0 : s0.size ≤ maxLen) (x1 : Wax.AV) (l1 : List (List UInt8 × List UInt8)) (v1 : Value) (k1 : Wax.slPairs x1 = some l1) (r1 : Wax.Rep (tab B) w (fun b => b < w.heap.size) Wax.noRho x1 v1) (b1 : l1.length < 9223372036854775808) (z2 : Int) (b2 : 0 ≤ z2 ∧ z2 < 256) (x3 : Wax.AV) (l3 : List Wax.MT) (v3 : Value) (k3 : Wax.mts x3 = some l3) (r3 : Wax.Rep (tab B) w (fun b => b < w.heap.size) Wax.noRho x3 v3) (b3 : l3.length < 9223372036854775808 ∧ l3.all Wax.mtLim = true) :
    Calls Tryz.prog 3 #[.string s0, v1, .int .u8 z2, v3] w fun e w' => e = .returned (.bool true) ∧ Below w.heap.size w w' := by
  unfold maxLen at w0
  have h0 : s0.data.toList.length < 9223372036854775808 := by simp; exact Nat.lt_of_le_of_lt w0 (by decide)
  have c : Wax.con_FnDmarcLookup [.str s0.data.toList, x1, .int .u8 z2, x3] = some (.bool true) := by
    simp only [Wax.con_FnDmarcLookup, k1, k3]
    exact if_pos ⟨⟨h0, b1⟩, b2, b3⟩
  have h := ok_FnDmarcLookup B _ _ c w (fun b => b < w.heap.size) [.string s0, v1, .int .u8 z2, v3] (fun b h => h) gl ⟨rfl, r1, rfl, r3, trivial⟩
  refine h.mono ?_
  rintro e w' ⟨v, he, hb, hv⟩
  simp only [Wax.Rep] at hv
  exact ⟨by rw [he, hv], hb⟩

set_option maxRecDepth 100000 in
theorem lifted (os : Os) (started : os.Started) (H : Type) (enc : TypeId × Value → H) :
    ReturnsInHanded {} Tryz.checked os 3 .any (fun w args => (Rows.fnDmarcLookupSpec.pre enc Tryz.prog Tryz.f3 [] false w args ∧ laidMetH Tryz.prog Rows.fnDmarcLookupRow.laid w) ∧ sizedMet enc Tryz.prog Tryz.f3 (OpenSpec.ofChange Rows.fnDmarcLookupSpec) false w args) (Rows.fnDmarcLookupSpec.post enc Tryz.prog Tryz.f3 false true false false) := by
  refine returnsInHanded_of_change_and (C := Tryz.checked) (X := fun w _ => laidMetH Tryz.prog Rows.fnDmarcLookupRow.laid w) (fun _ _ _ hh h => h.of_heap hh) own started (by kernel_rfl) Tryz.func3
    (ChangeSpec.witness_shaped (enc := enc) (C := Tryz.checked) (os := os) (X := fun w _ => laidMetH Tryz.prog Rows.fnDmarcLookupRow.laid w) false (World.doorLaid Tryz.prog 2000 os) #[.string ⟨#[]⟩, .slice none 0 0, .int .u8 0, .slice none 0 0] 8 rfl (World.shaped_of_RefB (by kernel_rfl) (by kernel_rfl)) (by kernel_rfl) (by kernel_rfl) (by kernel_rfl) (door_met os _)) ?_
  intro W base args ds gs before hval0 hW _ _ hL _
  have hval : ∀ (j : Nat) t v, Tryz.f3.params[j]? = some t → args[j]? = some v → Value.okWide Tryz.prog W .any base t v := hval0
  have hW' := hW
  obtain ⟨p, q, hA0, hV, rfl, hfz, hnd⟩ := hW
  obtain ⟨B, glB⟩ := globs hL
  have hA : DataW.TrodAll enc Tryz.prog W 0 (fun _ => true) true Tryz.f3.params.toList args.toList ds p := hA0
  rw [Tryz.params3] at hA hval
  obtain ⟨v0, vs0, d0, ds0, p0, q0, hargs, rfl, rfl, t0, r0⟩ := trodAll_cons hA
  obtain ⟨v1, vs1, d1, ds1, p1, q1, rfl, rfl, rfl, t1, r1⟩ := trodAll_cons r0
  obtain ⟨v2, vs2, d2, ds2, p2, q2, rfl, rfl, rfl, t2, r2⟩ := trodAll_cons r1
  obtain ⟨v3, vs3, d3, ds3, p3, q3, rfl, rfl, rfl, t3, r3⟩ := trodAll_cons r2
  obtain ⟨rfl, rfl, rfl⟩ := trodAll_nil r3
  obtain rfl : args = #[v0, v1, v2, v3] := by cases args; simp_all
  obtain ⟨_, _, _, _, dg0, _, _, _, _, _, dg1, _, rfl, _⟩ := trodVars_two hV
  obtain ⟨s0, rfl, rfl, rfl, w0⟩ := open_string Tryz.underlying9 (hval 0 9 v0 rfl rfl) t0
  have k1 := t1
  have lt1 : ∀ x ∈ p1, x.block < W.heap.size := by obtain ⟨m, hm⟩ := k1; exact DataW.trod_lt m _ _ _ hm
  obtain ⟨x1, l1, e1, g1, b1⟩ := Wax.open_pairs (T := tab B) Tryz.underlying22 Tryz.underlying42 (by kernel_rfl) rfl rfl (by kernel_rfl) (by kernel_rfl) Tryz.underlying9 Tryz.underlying9 (hval 1 22 v1 rfl rfl) t1
  obtain ⟨z2, rfl, rfl, rfl, w2⟩ := open_int Tryz.underlying5 (hval 2 5 v2 rfl rfl) t2
  have k3 := t3
  have lt3 : ∀ x ∈ p3, x.block < W.heap.size := by obtain ⟨m, hm⟩ := k3; exact DataW.trod_lt m _ _ _ hm
  obtain ⟨x3, l3, e3, g3, b3⟩ := Wax.open_mts (T := tab B) (ts := 9) Tryz.underlying23 Tryz.underlying29 (by kernel_rfl) (by kernel_rfl) Tryz.underlying9 (by kernel_rfl) (hval 3 23 v3 rfl rfl) t3
  clear hA0 hval0
  refine (walk B W glB s0 w0 x1 l1 v1 e1 g1 b1 z2 (Wax.u8_has w2) x3 l3 v3 e3 g3 b3).mono fun e W' ⟨he, bel⟩ => ?_
  subst he
  exact ⟨_, rfl, _, _, _, [], _, _, hW', trodAll_mk1 (shut_bool Tryz.underlying4 _), (trodAll_cons_mk (shut_string Tryz.underlying9 w0) (trodAll_cons_mk (Below.trod laidOut (by kernel_rfl) (of_decide_eq_true (by kernel_rfl)) k1 bel lt1) (trodAll_cons_mk (shut_int Tryz.underlying5 w2) (trodAll_cons_mk (Below.trod laidOut (by kernel_rfl) (of_decide_eq_true (by kernel_rfl)) k3 bel lt3) trodAll_mk0)))), bel.trodVars laidOut (by kernel_rfl) hV, bel.frame _, fun h => by cases h⟩

theorem and_tt {a b : Bool} (x : a = true) (y : b = true) : (a && b) = true := by rw [x, y]; rfl
theorem fact0 : ((Rows.fnDmarcLookupRow.wf (OpenSpec.ofChange Rows.fnDmarcLookupSpec)) && (laidOutB Tryz.prog) && (mapsRowed Tryz.prog) && (Tryz.f3.params.all (Tryz.prog.readableRec ·)) && (namedTie Tryz.prog Rows.fnDmarcLookupRow.named Rows.fnDmarcLookupSpec.vars) && ((Rows.fnDmarcLookupRow.stops == [])) && ((Tryz.prog.stops == [])) && ((Rows.fnDmarcLookupRow.knobs == [])) && ((Tryz.prog.stopKnobs == [])) && ((Rows.fnDmarcLookupRow.inPlace == Tryz.prog.inPlace 3)) && ((Rows.fnDmarcLookupRow.unfollowed == Tryz.prog.unfollowed 3)) && ((Rows.fnDmarcLookupRow.recurses == Tryz.prog.recurses 3)) && ((Rows.fnDmarcLookupRow.named == Tryz.prog.varsNamed 3)) && ((Rows.fnDmarcLookupRow.maps == (Tryz.f3.params.toList ++ Rows.fnDmarcLookupSpec.plain.varTypes Tryz.prog).any (Tryz.prog.mapsRec ·))) && ((Rows.fnDmarcLookupRow.ifaces == (Tryz.f3.params.toList ++ Rows.fnDmarcLookupSpec.plain.varTypes Tryz.prog).any (Tryz.prog.ifacesRec ·))) && ((Rows.fnDmarcLookupRow.mapsOut == Tryz.prog.mapsAmong Tryz.f3.resultTypes.toList)) && ((Rows.fnDmarcLookupRow.loops == (Tryz.f3.params.toList ++ Rows.fnDmarcLookupSpec.plain.varTypes Tryz.prog).any (Tryz.prog.loopsFrom ·))) && ((Rows.fnDmarcLookupRow.wideKeys == (Tryz.f3.params.toList ++ Rows.fnDmarcLookupSpec.plain.varTypes Tryz.prog ++ Tryz.f3.resultTypes.toList).any (Tryz.prog.wideKeysFrom ·))) && (Rows.fnDmarcLookupSpec.vars.all (Tryz.prog.varReadable ·)) && (Tryz.f3.resultTypes.all (fun t => Tryz.prog.readableRec t && decide (t < Tryz.prog.types.size))) && ((Rows.fnDmarcLookupRow.ifacesOut == Tryz.f3.resultTypes.toList.any (Tryz.prog.ifacesRec ·))) && ((Rows.fnDmarcLookupRow.loopsOut == Tryz.f3.resultTypes.toList.any (Tryz.prog.loopsFrom ·))) && ((Rows.fnDmarcLookupRow.plainKeys == Tryz.prog.plainKeys)) && (Rows.fnDmarcLookupRow.shortTexts.isNone) && (Tryz.prog.stopsHeard)) = true := by kernel_rfl
theorem fact25 : (Tryz.prog.mayEnter) = true := by kernel_rfl
theorem fact26 : ((Rows.fnDmarcLookupRow.lifted == Tryz.prog.liftsFinal)) = true := by kernel_rfl
theorem fact27 : ((Tryz.prog.make == some Rows.fnDmarcLookupRow.make)) = true := by kernel_rfl
theorem fact28 : ((Rows.fnDmarcLookupRow.kinds == (if Rows.fnDmarcLookupRow.domain.isEmpty then [] else Tryz.f3.params.toList.map fun t => match Tryz.prog.underlying t with | some (.int k) => some k | _ => none))) = true := by kernel_rfl
theorem fact29 : ((Rows.fnDmarcLookupRow.pinned == Rows.fnDmarcLookupRow.pinnedBy)) = true := by kernel_rfl
theorem fact30 : ((Rows.fnDmarcLookupRow.veiled == (Tryz.f3.params.toList ++ Rows.fnDmarcLookupSpec.plain.varTypes Tryz.prog ++ Tryz.f3.resultTypes.toList).any (Tryz.prog.veiledRec ·))) = true := by kernel_rfl
theorem fact31 : (Rows.fnDmarcLookupRow.veiledFits Tryz.prog Tryz.f3.params.toList (Tryz.f3.params.toList ++ Rows.fnDmarcLookupSpec.plain.varTypes Tryz.prog ++ Tryz.f3.resultTypes.toList)) = true := by kernel_rfl
set_option maxRecDepth 100000 in
theorem closed : joinedFacts Tryz.prog 3 Tryz.f3 Rows.fnDmarcLookupSpec Rows.fnDmarcLookupRow = true := (and_tt (and_tt (and_tt (and_tt (and_tt (and_tt (and_tt fact0 fact25) fact26) fact27) fact28) fact29) fact30) fact31)
theorem over : Rows.fnDmarcLookupRow.holds Tryz.pinned (OpenSpec.ofChange Rows.fnDmarcLookupSpec) :=
  OpenClaim.holds_of_wide 3 Tryz.f3 rfl rfl rfl rfl rfl rfl rfl ⟨rfl, rfl, rfl, rfl, rfl⟩ rfl rfl rfl rfl rfl (by kernel_rfl) Tryz.func3 closed
    (of_decide_eq_true (by kernel_rfl)) (by unfold Func.isWrapper; first | (rw [if_pos (by decide +kernel)]; kernel_rfl) | (rw [if_neg (by decide +kernel)]; exact ⟨rfl, rfl⟩))
    (fun os started H enc _ => lifted os started H enc)

/-- The card. -/
theorem proved : Rows.FnDmarcLookupCardSaid :=
  Claim7.holds_tied_plain_at .later [] [.data, .data, .data, .sentinel, .sentinel, .sentinel, .sentinel] true (true, "a4b3ec24a9c0ea41b78c5fed13aef536bdb4829fcb6acd26f47b0ddc00f1d6f6") true
    over (fun _ h => by cases h) (by kernel_rfl) (fun _ h => by cases h) fnDmarcLookup_row_tie rfl ⟨rfl, rfl⟩ (by kernel_rfl) rfl
    (fun f fn hf hfn => by
      obtain rfl : f = 3 := Option.some.inj ((show Tryz.prog.funcNamed "given.example/pub-waxseal/laws.FnDmarcLookup" = some 3 by kernel_rfl).symm.trans hf) |>.symm
      obtain rfl : fn = Tryz.f3 := (Option.some.inj (Tryz.func3.symm.trans hfn)).symm
      exact ⟨by kernel_rfl, fun j t ht => by
        rw [Tryz.params3] at ht
        have hm : t ∈ [9, 22, 5, 23] := by simpa using Array.mem_of_getElem? ht
        have hall : ([9, 22, 5, 23].all fun u => !Tryz.prog.wantsStandIn u) = true := by kernel_rfl
        exact (show Tryz.prog.wantsStandIn t = false by simpa using List.all_eq_true.1 hall t hm)⟩)
    (by kernel_rfl)
#print axioms proved
end Go.Proofs.YtopbibccfdnmeabGreatDoor.fnDmarcLookup
