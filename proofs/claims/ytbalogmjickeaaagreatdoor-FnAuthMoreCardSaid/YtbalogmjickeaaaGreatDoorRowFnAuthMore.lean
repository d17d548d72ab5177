/- FnAuthMore: for every input the answer is true, and nothing that was there is changed. (No condition.) -/
import Derived.Test.YtbalogmjickeaaaGreatDoorChain
import Derived.ChangeVars
import Derived.OpenVars
import Derived.Test.YtbalogmjickeaaaGreatDoorRows
import Derived.WalkKit
import Derived.ProofKit
import Derived.OpenShut
import Derived.ShutString
import Derived.ChangeOld
import Derived.Below
import Derived.LaidMore
import Derived.Stop.Joined
import Derived.Stop.LaidErr
import Derived.Test.YtbalogmjickeaaaGreatDoorTie
import Derived.Test.YtbalogmjickeaaaGreatDoorCards
import Derived.SevenTiedAt
import Derived.Test.YtbalogmjickeaaaGreatDoorWg
set_option linter.all false
namespace Go.Proofs.YtbalogmjickeaaaGreatDoor.fnAuthMore
open Go.ChangeShapes Go.WideShapes Go.ChangeAt Go.RowKit Go.WideElems
open Go.ChangeMaps (open_string shut_string)

theorem own : ownKnob Tryz.prog.godebug = none := by kernel_rfl
theorem laidOut : laidOutB Tryz.prog = true := by kernel_rfl

theorem star : "*" ++ "errors.errorString" = "*errors.errorString" := by decide
theorem rowE (u : TypeId) (h : Tryz.prog.typeName? 3 u = some "*errors.errorString") : u = 141 :=
  typeName_ptr_named (nm := "errors.errorString") (by rw [star]; kernel_rfl) (by kernel_rfl) (by decide) u (by rw [star]; exact h)
theorem cellsE : Tryz.prog.cellsOf 143 = 1 := by kernel_rfl
theorem cellsS : Tryz.prog.cellsOf 9 = 1 := by kernel_rfl
theorem gl2 : Tryz.prog.globalNamed "internal/strconv.uint64pow10" = some 3 := by kernel_rfl
theorem ty2 : (Tryz.prog.globals[3]?).map (·.type) = some 220 := by kernel_rfl
theorem tb2 : (Rows.laid_internal_strconv_uint64pow10 : DataW Unit) = Lib.tabData .u64 (Lib.pow10Tab) := by kernel_rfl
theorem gl3 : Tryz.prog.globalNamed "strconv.ErrRange" = some 2 := by kernel_rfl
theorem ty3 : (Tryz.prog.globals[2]?).map (·.type) = some 70 := by kernel_rfl
theorem gl4 : Tryz.prog.globalNamed "strconv.ErrSyntax" = some 1 := by kernel_rfl
theorem ty4 : (Tryz.prog.globals[1]?).map (·.type) = some 70 := by kernel_rfl
theorem gl5 : Tryz.prog.globalNamed "given.example/pub-waxseal/pub/msgauth/dmarc.errUnsupportedVersion" = some 0 := by kernel_rfl
theorem ty5 : (Tryz.prog.globals[0]?).map (·.type) = some 70 := by kernel_rfl
/-- What the condition says of the variables. -/
theorem globs {W : World} (hL : laidMetH Tryz.prog Rows.fnAuthMoreRow.laid W) : Wax.GlobOk tab W (fun b => b < W.heap.size) := by
  rw [MakeChecks.laidMetH_plain _ _ _ (by kernel_rfl)] at hL
  have hL0 : laidMet Tryz.prog [("math/bits.deBruijn32tab", Rows.laid_math_bits_deBruijn32tab), ("math/bits.deBruijn64tab", Rows.laid_math_bits_deBruijn64tab), ("internal/strconv.uint64pow10", Rows.laid_internal_strconv_uint64pow10), ("strconv.ErrRange", Rows.laid_strconv_ErrRange), ("strconv.ErrSyntax", Rows.laid_strconv_ErrSyntax), ("given.example/pub-waxseal/pub/msgauth/dmarc.errUnsupportedVersion", Rows.laid_given_example_pub_waxseal_pub_msgauth_dmarc_errUnsupportedVersion)] W := hL
  have e2 := hL0.tail.tail
  rw [tb2] at e2
  have c2 := Lib.tabIs_of_head (n := 20) (e := 42) gl2 ty2 (by kernel_rfl) (by kernel_rfl) (by kernel_rfl) (by kernel_rfl) e2
  obtain ⟨a3, s3, hv3, _, _, _⟩ := laid_sentinel (hL0.tail.tail.tail) gl3 ty3 Tryz.underlying70 rowE Tryz.underlying141 Tryz.underlying143 rfl rfl Tryz.underlying9 cellsE cellsS
  obtain ⟨a4, s4, hv4, _, _, _⟩ := laid_sentinel (hL0.tail.tail.tail.tail) gl4 ty4 Tryz.underlying70 rowE Tryz.underlying141 Tryz.underlying143 rfl rfl Tryz.underlying9 cellsE cellsS
  obtain ⟨a5, s5, hv5, _, _, _⟩ := laid_sentinel (hL0.tail.tail.tail.tail.tail) gl5 ty5 Tryz.underlying70 rowE Tryz.underlying141 Tryz.underlying143 rfl rfl Tryz.underlying9 cellsE cellsS
  refine Wax.GlobOk.of ?_
  intro p hp
  simp only [tab, List.mem_cons, List.not_mem_nil, or_false] at hp
  rcases hp with rfl | rfl | rfl | rfl
  · exact Wax.repAt_err gl5 hv5 (by kernel_rfl)
  · exact Wax.repAt_err gl4 hv4 (by kernel_rfl)
  · exact Wax.repAt_err gl3 hv3 (by kernel_rfl)
  · exact Wax.repAt_tab gl2 c2

/-- The door's own heap meets the condition. -/
theorem door_met (os : Os) (args : Array Value) : laidMetH Tryz.prog Rows.fnAuthMoreRow.laid ((World.doorLaid Tryz.prog 2000 os).forCall (fun _ _ => 0) ⟨#[], args, []⟩).memory :=
  laidMetH_of_parts3 (fuel := 8) (laidMet_of_run' 8 (by kernel_rfl) (by kernel_rfl)) (by kernel_rfl) (by kernel_rfl)

theorem walk (w : World) (gl : Wax.GlobOk tab w (fun b => b < w.heap.size)) (s0 : ByteArray) (w0 : s0.size ≤ maxLen) (a1 : Wax.AR) (v1 : Value) (r1 : Wax.Rep tab w (fun b => b < w.heap.size) Wax.noRho (.agg a1.cells) v1) (b1 : (a1.ps.getD []).length < 9223372036854775808) (x2 : Wax.AV) (l2 : List (List UInt8 × List UInt8 × List UInt8)) (v2 : Value) (k2 : Wax.slTr x2 = some l2) (r2 : Wax.Rep tab w (fun b => b < w.heap.size) Wax.noRho x2 v2) (b2 : l2.length < 9223372036854775808) (x3 : Wax.AV) (l3 : List UInt8) (v3 : Value) (k3 : Wax.slBytes x3 = some l3) (r3 : Wax.Rep tab w (fun b => b < w.heap.size) Wax.noRho x3 v3) (b3 : l3.length < 9223372036854775808) :
    Calls Tryz.prog 6 #[.string s0, v1, v2, v3] w fun e w' => e = .returned (.bool true) ∧ Below w.heap.size w w' := by
  unfold maxLen at w0
  have h0 : s0.data.toList.length < 9223372036854775808 := by simp; exact Nat.lt_of_le_of_lt w0 (by decide)
  have c : Wax.con_FnAuthMore [.str s0.data.toList, .agg a1.cells, x2, x3] = some (.bool true) := by
    simp only [Wax.con_FnAuthMore, k2, k3, Wax.asAR_cells]
    exact if_pos ⟨h0, b1, b2, b3⟩
  have h := ok_FnAuthMore _ _ c w (fun b => b < w.heap.size) [.string s0, v1, v2, v3] (fun b h => h) gl ⟨rfl, r1, r2, r3, trivial⟩
  refine h.mono ?_
  rintro e w' ⟨v, he, hb, hv⟩
  simp only [Wax.Rep] at hv
  exact ⟨by rw [he, hv], hb⟩

/-- The measure of what came in. -/
def K (H : Type) : Wax.Bulk H := ⟨Rows.uptoBulk, Rows.uptoBulkAll, fun _ => by simp only [Rows.uptoBulk], fun _ => by simp only [Rows.uptoBulk], fun _ _ => by simp only [Rows.uptoBulk], by simp only [Rows.uptoBulkAll], fun _ _ => by simp only [Rows.uptoBulkAll]⟩
set_option maxRecDepth 100000 in
theorem lifted (os : Os) (started : os.Started) (H : Type) (enc : TypeId × Value → H) :
    ReturnsInHanded {} Tryz.checked os 6 .any (fun w args => (Rows.fnAuthMoreSpec.pre enc Tryz.prog Tryz.f6 [] false w args ∧ laidMetH Tryz.prog Rows.fnAuthMoreRow.laid w) ∧ sizedMet enc Tryz.prog Tryz.f6 (OpenSpec.ofChange Rows.fnAuthMoreSpec) false w args) (Rows.fnAuthMoreSpec.post enc Tryz.prog Tryz.f6 false true false false) := by
  refine returnsInHanded_of_change_and (C := Tryz.checked) (X := fun w _ => laidMetH Tryz.prog Rows.fnAuthMoreRow.laid w) (fun _ _ _ hh h => h.of_heap hh) own started (by kernel_rfl) Tryz.func6
    (ChangeSpec.witness_shaped (enc := enc) (C := Tryz.checked) (os := os) (X := fun w _ => laidMetH Tryz.prog Rows.fnAuthMoreRow.laid w) false (World.doorLaid Tryz.prog 2000 os) #[.string ⟨#[]⟩, .agg #[.int .i64 0, .string ⟨#[]⟩, .string ⟨#[]⟩, .string ⟨#[]⟩, .string ⟨#[]⟩, .string ⟨#[]⟩, .string ⟨#[]⟩, .string ⟨#[]⟩, .string ⟨#[]⟩, .string ⟨#[]⟩, .string ⟨#[]⟩, .string ⟨#[]⟩, .string ⟨#[]⟩, .string ⟨#[]⟩, .int .i64 0, .slice none 0 0], .slice none 0 0, .slice none 0 0] 8 rfl (World.shaped_of_RefB (by kernel_rfl) (by kernel_rfl)) (by kernel_rfl) (by kernel_rfl) (by kernel_rfl) (door_met os _)) ?_
  intro W base args ds gs before hval0 hW _ _ hL _
  have hval : ∀ (j : Nat) t v, Tryz.f6.params[j]? = some t → args[j]? = some v → Value.okWide Tryz.prog W .any base t v := hval0
  have hW' := hW
  obtain ⟨p, q, hA0, hV, rfl, hfz, hnd⟩ := hW
  have hA : DataW.TrodAll enc Tryz.prog W 0 (fun _ => true) true Tryz.f6.params.toList args.toList ds p := hA0
  rw [Tryz.params6] at hA hval
  obtain ⟨v0, vs0, d0, ds0, p0, q0, hargs, rfl, rfl, t0, r0⟩ := trodAll_cons hA
  obtain ⟨v1, vs1, d1, ds1, p1, q1, rfl, rfl, rfl, t1, r1⟩ := trodAll_cons r0
  obtain ⟨v2, vs2, d2, ds2, p2, q2, rfl, rfl, rfl, t2, r2⟩ := trodAll_cons r1
  obtain ⟨v3, vs3, d3, ds3, p3, q3, rfl, rfl, rfl, t3, r3⟩ := trodAll_cons r2
  obtain ⟨rfl, rfl, rfl⟩ := trodAll_nil r3
  obtain rfl : args = #[v0, v1, v2, v3] := by cases args; simp_all
  obtain ⟨_, _, _, _, dg, _, rfl, _⟩ := trodVars_one hV
  obtain ⟨s0, rfl, rfl, rfl, w0⟩ := open_string Tryz.underlying9 (hval 0 9 v0 rfl rfl) t0
  have k1 := t1
  have lt1 : ∀ x ∈ p1, x.block < W.heap.size := by obtain ⟨m, hm⟩ := k1; exact DataW.trod_lt m _ _ _ hm
  obtain ⟨a1, g1, b1, z1⟩ := Wax.open_ar (T := tab) (pt := 77) (K H) Tryz.underlying33 (by kernel_rfl) (by kernel_rfl) Tryz.underlying77 (by kernel_rfl) rfl rfl (by kernel_rfl) (by kernel_rfl) Tryz.underlying9 Tryz.underlying9 (hval 1 33 v1 rfl rfl) t1
  have k2 := t2
  have lt2 : ∀ x ∈ p2, x.block < W.heap.size := by obtain ⟨m, hm⟩ := k2; exact DataW.trod_lt m _ _ _ hm
  obtain ⟨x2, l2, e2, g2, b2⟩ := Wax.open_trs (T := tab) Tryz.underlying45 Tryz.underlying52 (by kernel_rfl) rfl rfl rfl (by kernel_rfl) (by kernel_rfl) (by kernel_rfl) Tryz.underlying9 Tryz.underlying9 Tryz.underlying9 (hval 2 45 v2 rfl rfl) t2
  have k3 := t3
  have lt3 : ∀ x ∈ p3, x.block < W.heap.size := by obtain ⟨m, hm⟩ := k3; exact DataW.trod_lt m _ _ _ hm
  obtain ⟨x3, l3, e3, g3, b3⟩ := Wax.open_bytes (T := tab) Tryz.underlying36 Tryz.underlying5 (by kernel_rfl) (hval 3 36 v3 rfl rfl) t3
  clear hA0 hval0
  refine (walk W (globs hL) s0 w0 a1 v1 g1 b1 x2 l2 v2 (Wax.slTr_or e2) g2 b2 x3 l3 v3 e3 g3 b3).mono fun e W' ⟨he, bel⟩ => ?_
  subst he
  exact ⟨_, rfl, _, _, _, [], _, _, hW', trodAll_mk1 (shut_bool Tryz.underlying4 _), (trodAll_cons_mk (shut_string Tryz.underlying9 w0) (trodAll_cons_mk (Below.trod laidOut (by kernel_rfl) (of_decide_eq_true (by kernel_rfl)) k1 bel lt1) (trodAll_cons_mk (Below.trod laidOut (by kernel_rfl) (of_decide_eq_true (by kernel_rfl)) k2 bel lt2) (trodAll_cons_mk (Below.trod laidOut (by kernel_rfl) (of_decide_eq_true (by kernel_rfl)) k3 bel lt3) trodAll_mk0)))), bel.trodVars laidOut (by kernel_rfl) hV, bel.frame _, fun h => by cases h⟩

theorem and_tt {a b : Bool} (x : a = true) (y : b = true) : (a && b) = true := by rw [x, y]; rfl
theorem fact0 : ((Rows.fnAuthMoreRow.wf (OpenSpec.ofChange Rows.fnAuthMoreSpec)) && (laidOutB Tryz.prog) && (mapsRowed Tryz.prog) && (Tryz.f6.params.all (Tryz.prog.readableRec ·)) && (namedTie Tryz.prog Rows.fnAuthMoreRow.named Rows.fnAuthMoreSpec.vars) && ((Rows.fnAuthMoreRow.stops == [])) && ((Tryz.prog.stops == [])) && ((Rows.fnAuthMoreRow.knobs == [])) && ((Tryz.prog.stopKnobs == [])) && ((Rows.fnAuthMoreRow.inPlace == Tryz.prog.inPlace 6)) && ((Rows.fnAuthMoreRow.unfollowed == Tryz.prog.unfollowed 6)) && ((Rows.fnAuthMoreRow.recurses == Tryz.prog.recurses 6)) && ((Rows.fnAuthMoreRow.named == Tryz.prog.varsNamed 6)) && ((Rows.fnAuthMoreRow.maps == (Tryz.f6.params.toList ++ Rows.fnAuthMoreSpec.plain.varTypes Tryz.prog).any (Tryz.prog.mapsRec ·))) && ((Rows.fnAuthMoreRow.ifaces == (Tryz.f6.params.toList ++ Rows.fnAuthMoreSpec.plain.varTypes Tryz.prog).any (Tryz.prog.ifacesRec ·))) && ((Rows.fnAuthMoreRow.mapsOut == Tryz.prog.mapsAmong Tryz.f6.resultTypes.toList)) && ((Rows.fnAuthMoreRow.loops == (Tryz.f6.params.toList ++ Rows.fnAuthMoreSpec.plain.varTypes Tryz.prog).any (Tryz.prog.loopsFrom ·))) && ((Rows.fnAuthMoreRow.wideKeys == (Tryz.f6.params.toList ++ Rows.fnAuthMoreSpec.plain.varTypes Tryz.prog ++ Tryz.f6.resultTypes.toList).any (Tryz.prog.wideKeysFrom ·))) && (Rows.fnAuthMoreSpec.vars.all (Tryz.prog.varReadable ·)) && (Tryz.f6.resultTypes.all (fun t => Tryz.prog.readableRec t && decide (t < Tryz.prog.types.size))) && ((Rows.fnAuthMoreRow.ifacesOut == Tryz.f6.resultTypes.toList.any (Tryz.prog.ifacesRec ·))) && ((Rows.fnAuthMoreRow.loopsOut == Tryz.f6.resultTypes.toList.any (Tryz.prog.loopsFrom ·))) && ((Rows.fnAuthMoreRow.plainKeys == Tryz.prog.plainKeys)) && (Rows.fnAuthMoreRow.shortTexts.isNone) && (Tryz.prog.stopsHeard)) = true := by kernel_rfl
theorem fact25 : (Tryz.prog.mayEnter) = true := by kernel_rfl
theorem fact26 : ((Rows.fnAuthMoreRow.lifted == Tryz.prog.liftsFinal)) = true := by kernel_rfl
theorem fact27 : ((Tryz.prog.make == some Rows.fnAuthMoreRow.make)) = true := by kernel_rfl
theorem fact28 : ((Rows.fnAuthMoreRow.kinds == (if Rows.fnAuthMoreRow.domain.isEmpty then [] else Tryz.f6.params.toList.map fun t => match Tryz.prog.underlying t with | some (.int k) => some k | _ => none))) = true := by kernel_rfl
theorem fact29 : ((Rows.fnAuthMoreRow.pinned == Rows.fnAuthMoreRow.pinnedBy)) = true := by kernel_rfl
theorem fact30 : ((Rows.fnAuthMoreRow.veiled == (Tryz.f6.params.toList ++ Rows.fnAuthMoreSpec.plain.varTypes Tryz.prog ++ Tryz.f6.resultTypes.toList).any (Tryz.prog.veiledRec ·))) = true := by kernel_rfl
theorem fact31 : (Rows.fnAuthMoreRow.veiledFits Tryz.prog Tryz.f6.params.toList (Tryz.f6.params.toList ++ Rows.fnAuthMoreSpec.plain.varTypes Tryz.prog ++ Tryz.f6.resultTypes.toList)) = true := by kernel_rfl
set_option maxRecDepth 100000 in
theorem closed : joinedFacts Tryz.prog 6 Tryz.f6 Rows.fnAuthMoreSpec Rows.fnAuthMoreRow = true := (and_tt (and_tt (and_tt (and_tt (and_tt (and_tt (and_tt fact0 fact25) fact26) fact27) fact28) fact29) fact30) fact31)
theorem over : Rows.fnAuthMoreRow.holds Tryz.pinned (OpenSpec.ofChange Rows.fnAuthMoreSpec) :=
  OpenClaim.holds_of_wide 6 Tryz.f6 rfl rfl rfl rfl rfl rfl rfl ⟨rfl, rfl, rfl, rfl, rfl⟩ rfl rfl rfl rfl rfl (by kernel_rfl) Tryz.func6 closed
    (of_decide_eq_true (by kernel_rfl)) (by unfold Func.isWrapper; first | (rw [if_pos (by decide +kernel)]; kernel_rfl) | (rw [if_neg (by decide +kernel)]; exact ⟨rfl, rfl⟩))
    (fun os started H enc _ => lifted os started H enc)

/-- The card. -/
theorem proved : Rows.FnAuthMoreCardSaid :=
  Claim7.holds_tied_plain_at .later [] [.data, .data, .data, .sentinel, .sentinel, .sentinel] true (true, "9c4772bd0cbee228419c5c27b8d325ce31623c8a72589c1b4a8153528f8e8744") true
    over (fun _ h => by cases h) (by kernel_rfl) (fun _ h => by cases h) fnAuthMore_row_tie rfl ⟨rfl, rfl⟩ (by kernel_rfl) rfl
    (fun f fn hf hfn => by
      obtain rfl : f = 6 := Option.some.inj ((show Tryz.prog.funcNamed "given.example/pub-waxseal/laws.FnAuthMore" = some 6 by kernel_rfl).symm.trans hf) |>.symm
      obtain rfl : fn = Tryz.f6 := (Option.some.inj (Tryz.func6.symm.trans hfn)).symm
      exact ⟨by kernel_rfl, fun j t ht => by
        rw [Tryz.params6] at ht
        have hm : t ∈ [9, 33, 45, 36] := by simpa using Array.mem_of_getElem? ht
        have hall : ([9, 33, 45, 36].all fun u => !Tryz.prog.wantsStandIn u) = true := by kernel_rfl
        exact (show Tryz.prog.wantsStandIn t = false by simpa using List.all_eq_true.1 hall t hm)⟩)
    (by kernel_rfl)
#print axioms proved
end Go.Proofs.YtbalogmjickeaaaGreatDoor.fnAuthMore
