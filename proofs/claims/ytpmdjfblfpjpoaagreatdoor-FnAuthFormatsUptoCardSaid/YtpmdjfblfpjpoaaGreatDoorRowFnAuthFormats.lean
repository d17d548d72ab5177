/- FnAuthFormats: for every input the answer is true, and nothing that was there is changed. (No condition.) -/
import Derived.Test.YtpmdjfblfpjpoaaGreatDoorChain
import Derived.Deep.DeepHandedRow
import Derived.JoinedCond
import Derived.ChangeVars
import Derived.OpenVars
import Derived.Test.YtpmdjfblfpjpoaaGreatDoorRows
import Derived.WalkKit
import Derived.ProofKit
import Derived.OpenShut
import Derived.ShutString
import Derived.ChangeOld
import Derived.Below
import Derived.LaidMore
import Derived.Stop.Joined
import Derived.Stop.LaidErr
import Derived.Test.YtpmdjfblfpjpoaaGreatDoorTie
import Derived.Test.YtpmdjfblfpjpoaaGreatDoorCards
import Derived.SevenTiedAt
import Derived.Test.YtpmdjfblfpjpoaaGreatDoorWi
set_option linter.all false
namespace Go.Proofs.YtpmdjfblfpjpoaaGreatDoor.fnAuthFormats
open Go.ChangeShapes Go.WideShapes Go.ChangeAt Go.RowKit Go.WideElems
open Go.ChangeMaps (open_string shut_string)

theorem own : ownKnob Tryz.prog.godebug = none := by kernel_rfl
theorem laidOut : laidOutB Tryz.prog = true := by kernel_rfl

theorem star : "*" ++ "errors.errorString" = "*errors.errorString" := by decide
theorem rowE (u : TypeId) (h : Tryz.prog.typeName? 3 u = some "*errors.errorString") : u = 153 :=
  typeName_ptr_named (nm := "errors.errorString") (by rw [star]; kernel_rfl) (by kernel_rfl) (by decide) u (by rw [star]; exact h)
theorem cellsE : Tryz.prog.cellsOf 155 = 1 := by kernel_rfl
theorem cellsS : Tryz.prog.cellsOf 9 = 1 := by kernel_rfl
theorem gl2 : Tryz.prog.globalNamed "internal/strconv.uint64pow10" = some 3 := by kernel_rfl
theorem ty2 : (Tryz.prog.globals[3]?).map (·.type) = some 212 := by kernel_rfl
theorem tb2 : (Rows.laid_internal_strconv_uint64pow10 : DataW Unit) = Lib.tabData .u64 (Lib.pow10Tab) := by kernel_rfl
theorem gl3 : Tryz.prog.globalNamed "strconv.ErrRange" = some 2 := by kernel_rfl
theorem ty3 : (Tryz.prog.globals[2]?).map (·.type) = some 111 := by kernel_rfl
theorem gl4 : Tryz.prog.globalNamed "strconv.ErrSyntax" = some 1 := by kernel_rfl
theorem ty4 : (Tryz.prog.globals[1]?).map (·.type) = some 111 := by kernel_rfl
theorem gl5 : Tryz.prog.globalNamed "given.example/pub-waxseal/pub/msgauth/dmarc.errUnsupportedVersion" = some 0 := by kernel_rfl
theorem ty5 : (Tryz.prog.globals[0]?).map (·.type) = some 111 := by kernel_rfl
/-- What the condition says of the variables. -/
theorem globs {W : World} (hL : laidMetH Tryz.prog Rows.fnAuthFormatsUptoRow.laid W) : Wax.GlobOk tab W (fun b => b < W.heap.size) := by
  rw [MakeChecks.laidMetH_plain _ _ _ (by kernel_rfl)] at hL
  have hL0 : laidMet Tryz.prog [("math/bits.deBruijn32tab", Rows.laid_math_bits_deBruijn32tab), ("math/bits.deBruijn64tab", Rows.laid_math_bits_deBruijn64tab), ("internal/strconv.uint64pow10", Rows.laid_internal_strconv_uint64pow10), ("strconv.ErrRange", Rows.laid_strconv_ErrRange), ("strconv.ErrSyntax", Rows.laid_strconv_ErrSyntax), ("given.example/pub-waxseal/pub/msgauth/dmarc.errUnsupportedVersion", Rows.laid_given_example_pub_waxseal_pub_msgauth_dmarc_errUnsupportedVersion)] W := hL
  have e2 := hL0.tail.tail
  rw [tb2] at e2
  have c2 := Lib.tabIs_of_head (n := 20) (e := 181) gl2 ty2 (by kernel_rfl) (by kernel_rfl) (by kernel_rfl) (by kernel_rfl) e2
  obtain ⟨a3, s3, hv3, _, _, _⟩ := laid_sentinel (hL0.tail.tail.tail) gl3 ty3 Tryz.underlying111 rowE Tryz.underlying153 Tryz.underlying155 rfl rfl Tryz.underlying9 cellsE cellsS
  obtain ⟨a4, s4, hv4, _, _, _⟩ := laid_sentinel (hL0.tail.tail.tail.tail) gl4 ty4 Tryz.underlying111 rowE Tryz.underlying153 Tryz.underlying155 rfl rfl Tryz.underlying9 cellsE cellsS
  obtain ⟨a5, s5, hv5, _, _, _⟩ := laid_sentinel (hL0.tail.tail.tail.tail.tail) gl5 ty5 Tryz.underlying111 rowE Tryz.underlying153 Tryz.underlying155 rfl rfl Tryz.underlying9 cellsE cellsS
  refine Wax.GlobOk.of ?_
  intro p hp
  simp only [tab, List.mem_cons, List.not_mem_nil, or_false] at hp
  rcases hp with rfl | rfl | rfl | rfl
  · exact Wax.repAt_err gl5 hv5 (by kernel_rfl)
  · exact Wax.repAt_err gl4 hv4 (by kernel_rfl)
  · exact Wax.repAt_err gl3 hv3 (by kernel_rfl)
  · exact Wax.repAt_tab gl2 c2

/-- The door's own heap meets the condition. -/
theorem door_met (os : Os) (args : Array Value) : laidMetH Tryz.prog Rows.fnAuthFormatsUptoRow.laid ((World.doorLaid Tryz.prog 2000 os).forCall (fun _ _ => 0) ⟨#[], args, []⟩).memory :=
  laidMetH_of_parts3 (fuel := 8) (laidMet_of_run' 8 (by kernel_rfl) (by kernel_rfl)) (by kernel_rfl) (by kernel_rfl)

theorem walk (w : World) (gl : Wax.GlobOk tab w (fun b => b < w.heap.size)) (s0 : ByteArray) (w0 : s0.size ≤ maxLen) (x1 : Wax.AV) (l1 : List Wax.AR) (v1 : Value) (k1 : Wax.slAR x1 = some l1) (r1 : Wax.Rep tab w (fun b => b < w.heap.size) Wax.noRho x1 v1) (b1 : l1.length < 9223372036854775808 ∧ ∀ r ∈ l1, (r.ps.getD []).length < 9223372036854775808) (hq : s0.data.toList.length + (l1.map fun r => Wax.AR.bulk r + 1).sum ≤ 2097152) :
    Calls Tryz.prog 3 #[.string s0, v1] w fun e w' => e = .returned (.bool true) ∧ Below w.heap.size w w' := by
  unfold maxLen at w0
  have h0 : s0.data.toList.length < 9223372036854775808 := by simp; exact Nat.lt_of_le_of_lt w0 (by decide)
  have c : Wax.con_FnAuthFormats [.str s0.data.toList, x1] = some (.bool true) := by
    simp only [Wax.con_FnAuthFormats, k1]
    exact if_pos ⟨h0, b1, hq⟩
  have h := ok_FnAuthFormats _ _ c w (fun b => b < w.heap.size) [.string s0, v1] (fun b h => h) gl ⟨rfl, r1, trivial⟩
  refine h.mono ?_
  rintro e w' ⟨v, he, hb, hv⟩
  simp only [Wax.Rep] at hv
  exact ⟨by rw [he, hv], hb⟩

/-- The measure of what came in. -/
def K (H : Type) : Wax.Bulk H := ⟨Rows.uptoBulk, Rows.uptoBulkAll, fun _ => by simp only [Rows.uptoBulk], fun _ => by simp only [Rows.uptoBulk], fun _ _ => by simp only [Rows.uptoBulk], by simp only [Rows.uptoBulkAll], fun _ _ => by simp only [Rows.uptoBulkAll]⟩
set_option maxRecDepth 100000 in
theorem contract (H : Type) (enc : TypeId × Value → H) (W : World) (base : Nat) (args : Array Value) (ds gs : List (DataW H)) (before : List MemPlace)
    (hval0 : ∀ (j : Nat) t v, Tryz.f3.params[j]? = some t → args[j]? = some v → Value.okWide Tryz.prog W .any base t v)
    (hW : DataW.Whole enc Tryz.prog Tryz.f3.params.toList Rows.fnAuthFormatsSpec.vars false W args.toList ds gs before) (hL : laidMetH Tryz.prog Rows.fnAuthFormatsUptoRow.laid W) (hsm : Rows.uptoSmall H (ds ++ gs) = true) :
    Calls Tryz.prog 3 args W fun e W' => ∃ v, e = .returned v ∧ Rows.fnAuthFormatsSpec.post enc Tryz.prog Tryz.f3 false true false false W args v W' := by
  have hval : ∀ (j : Nat) t v, Tryz.f3.params[j]? = some t → args[j]? = some v → Value.okWide Tryz.prog W .any base t v := hval0
  have hW' := hW
  obtain ⟨p, q, hA0, hV, rfl, hfz, hnd⟩ := hW
  have hA : DataW.TrodAll enc Tryz.prog W 0 (fun _ => true) true Tryz.f3.params.toList args.toList ds p := hA0
  rw [Tryz.params3] at hA hval
  obtain ⟨v0, vs0, d0, ds0, p0, q0, hargs, rfl, rfl, t0, r0⟩ := trodAll_cons hA
  obtain ⟨v1, vs1, d1, ds1, p1, q1, rfl, rfl, rfl, t1, r1⟩ := trodAll_cons r0
  obtain ⟨rfl, rfl, rfl⟩ := trodAll_nil r1
  obtain rfl : args = #[v0, v1] := by cases args; simp_all
  obtain ⟨_, _, _, _, dg, _, rfl, _⟩ := trodVars_one hV
  obtain ⟨s0, rfl, rfl, rfl, w0⟩ := open_string Tryz.underlying9 (hval 0 9 v0 rfl rfl) t0
  have k1 := t1
  have lt1 : ∀ x ∈ p1, x.block < W.heap.size := by obtain ⟨m, hm⟩ := k1; exact DataW.trod_lt m _ _ _ hm
  obtain ⟨x1, l1, e1, g1, b1, z1⟩ := Wax.open_ars (T := tab) (pt := 49) (K H) Tryz.underlying22 Tryz.underlying38 (by kernel_rfl) (by kernel_rfl) Tryz.underlying49 (by kernel_rfl) rfl rfl (by kernel_rfl) (by kernel_rfl) Tryz.underlying9 Tryz.underlying9 (hval 1 22 v1 rfl rfl) t1
  have y1 : (l1.map fun r => Wax.AR.bulk r + 1).sum ≤ Rows.uptoBulk d1 := z1
  have hb := of_decide_eq_true hsm
  simp only [List.cons_append, List.nil_append, Rows.uptoBulkAll, Rows.uptoBulk] at hb
  have hq : s0.data.toList.length + (l1.map fun r => Wax.AR.bulk r + 1).sum ≤ 2097152 := by omega
  clear hA0 hval0
  refine (walk W (globs hL) s0 w0 x1 l1 v1 (Wax.slAR_or e1) g1 b1 hq).mono fun e W' ⟨he, bel⟩ => ?_
  subst he
  exact ⟨_, rfl, _, _, _, [], _, _, hW', trodAll_mk1 (shut_bool Tryz.underlying4 _), (trodAll_cons_mk (shut_string Tryz.underlying9 w0) (trodAll_cons_mk (Below.trod laidOut (by kernel_rfl) (of_decide_eq_true (by kernel_rfl)) k1 bel lt1) trodAll_mk0)), bel.trodVars laidOut (by kernel_rfl) hV, bel.frame _, fun h => by cases h⟩

set_option maxRecDepth 100000 in
theorem lifted (os : Os) (started : os.Started) (H : Type) (enc : TypeId × Value → H) (F : Stop.Interp) :
    ReturnsInHanded {} Tryz.checked os 3 .any ((Rows.OpenSpec.upto Rows.fnAuthFormatsSpec).preRow enc Tryz.prog Tryz.f3 Rows.fnAuthFormatsUptoRow.domain false Rows.fnAuthFormatsUptoRow.laid) (((Rows.OpenSpec.upto Rows.fnAuthFormatsSpec).at F).post enc Tryz.prog Tryz.f3 false true false false) := by
  have hs : (DataW.whole enc Tryz.prog ((World.doorLaid Tryz.prog 2000 os).forCall (fun _ _ => 0) ⟨#[], #[.string ⟨#[]⟩, .slice none 0 0], []⟩).memory Tryz.f3.params.toList Rows.fnAuthFormatsSpec.vars false #[.string ⟨#[]⟩, .slice none 0 0].toList 8).isSome = true := by kernel_rfl
  have hx := (Option.some_get hs).symm
  have hok : Input.okWideB Tryz.prog ((World.doorLaid Tryz.prog 2000 os).forCall (fun _ _ => 0) ⟨#[], #[.string ⟨#[]⟩, .slice none 0 0], []⟩) 3 ⟨#[], #[.string ⟨#[]⟩, .slice none 0 0], []⟩ = true := by kernel_rfl
  refine returnsInHanded_of_row (C := Tryz.checked) (s := Rows.OpenSpec.upto Rows.fnAuthFormatsSpec) own started (by kernel_rfl) Tryz.func3
    ⟨World.doorLaid Tryz.prog 2000 os, fun _ _ => 0, ⟨#[], #[.string ⟨#[]⟩, .slice none 0 0], []⟩, rfl, World.shaped_of_RefB (by kernel_rfl) (by kernel_rfl), (Input.okWide_of_okWideB (base := 0) hok).1, (Input.okWide_of_okWideB hok).2,
      OpenSpec.preRow_of_cond (s := Rows.OpenSpec.upto Rows.fnAuthFormatsSpec) 8 hx (by kernel_rfl) (fun k hk => by cases hk; kernel_rfl) (by kernel_rfl) (door_met os _), by
        simp only [Assume.holds]
        exact ⟨by simp, by simp, fun _ => Modest.zero, by simp, by simp⟩⟩ ?_
  intro W base args ds gs before hval hW _ hcond _ hL _ _
  exact contract H enc W base args ds gs before hval hW hL (hcond _ rfl)

theorem and_tt {a b : Bool} (x : a = true) (y : b = true) : (a && b) = true := by rw [x, y]; rfl
theorem fact0 : ((Rows.fnAuthFormatsUptoRow.wf (OpenSpec.ofChange (Rows.OpenSpec.upto Rows.fnAuthFormatsSpec).bare)) && (laidOutB Tryz.prog) && (mapsRowed Tryz.prog) && (Tryz.f3.params.all (Tryz.prog.readableRec ·)) && (namedTie Tryz.prog Rows.fnAuthFormatsUptoRow.named (Rows.OpenSpec.upto Rows.fnAuthFormatsSpec).bare.vars) && ((Rows.fnAuthFormatsUptoRow.stops == [])) && ((Tryz.prog.stops == [])) && ((Rows.fnAuthFormatsUptoRow.knobs == [])) && ((Tryz.prog.stopKnobs == [])) && ((Rows.fnAuthFormatsUptoRow.inPlace == Tryz.prog.inPlace 3)) && ((Rows.fnAuthFormatsUptoRow.unfollowed == Tryz.prog.unfollowed 3)) && ((Rows.fnAuthFormatsUptoRow.recurses == Tryz.prog.recurses 3)) && ((Rows.fnAuthFormatsUptoRow.named == Tryz.prog.varsNamed 3)) && ((Rows.fnAuthFormatsUptoRow.maps == (Tryz.f3.params.toList ++ (Rows.OpenSpec.upto Rows.fnAuthFormatsSpec).bare.plain.varTypes Tryz.prog).any (Tryz.prog.mapsRec ·))) && ((Rows.fnAuthFormatsUptoRow.ifaces == (Tryz.f3.params.toList ++ (Rows.OpenSpec.upto Rows.fnAuthFormatsSpec).bare.plain.varTypes Tryz.prog).any (Tryz.prog.ifacesRec ·))) && ((Rows.fnAuthFormatsUptoRow.mapsOut == Tryz.prog.mapsAmong Tryz.f3.resultTypes.toList)) && ((Rows.fnAuthFormatsUptoRow.loops == (Tryz.f3.params.toList ++ (Rows.OpenSpec.upto Rows.fnAuthFormatsSpec).bare.plain.varTypes Tryz.prog).any (Tryz.prog.loopsFrom ·))) && ((Rows.fnAuthFormatsUptoRow.wideKeys == (Tryz.f3.params.toList ++ (Rows.OpenSpec.upto Rows.fnAuthFormatsSpec).bare.plain.varTypes Tryz.prog ++ Tryz.f3.resultTypes.toList).any (Tryz.prog.wideKeysFrom ·))) && ((Rows.OpenSpec.upto Rows.fnAuthFormatsSpec).bare.vars.all (Tryz.prog.varReadable ·)) && (Tryz.f3.resultTypes.all (fun t => Tryz.prog.readableRec t && decide (t < Tryz.prog.types.size))) && ((Rows.fnAuthFormatsUptoRow.ifacesOut == Tryz.f3.resultTypes.toList.any (Tryz.prog.ifacesRec ·))) && ((Rows.fnAuthFormatsUptoRow.loopsOut == Tryz.f3.resultTypes.toList.any (Tryz.prog.loopsFrom ·))) && ((Rows.fnAuthFormatsUptoRow.plainKeys == Tryz.prog.plainKeys)) && (Rows.fnAuthFormatsUptoRow.shortTexts.isNone) && (Tryz.prog.stopsHeard)) = true := by kernel_rfl
theorem fact25 : (Tryz.prog.mayEnter) = true := by kernel_rfl
theorem fact26 : ((Rows.fnAuthFormatsUptoRow.lifted == Tryz.prog.liftsFinal)) = true := by kernel_rfl
theorem fact27 : ((Tryz.prog.make == some Rows.fnAuthFormatsUptoRow.make)) = true := by kernel_rfl
theorem fact28 : ((Rows.fnAuthFormatsUptoRow.kinds == (if Rows.fnAuthFormatsUptoRow.domain.isEmpty then [] else Tryz.f3.params.toList.map fun t => match Tryz.prog.underlying t with | some (.int k) => some k | _ => none))) = true := by kernel_rfl
theorem fact29 : ((Rows.fnAuthFormatsUptoRow.pinned == Rows.fnAuthFormatsUptoRow.pinnedBy)) = true := by kernel_rfl
theorem fact30 : ((Rows.fnAuthFormatsUptoRow.veiled == (Tryz.f3.params.toList ++ (Rows.OpenSpec.upto Rows.fnAuthFormatsSpec).bare.plain.varTypes Tryz.prog ++ Tryz.f3.resultTypes.toList).any (Tryz.prog.veiledRec ·))) = true := by kernel_rfl
theorem fact31 : (Rows.fnAuthFormatsUptoRow.veiledFits Tryz.prog Tryz.f3.params.toList (Tryz.f3.params.toList ++ (Rows.OpenSpec.upto Rows.fnAuthFormatsSpec).bare.plain.varTypes Tryz.prog ++ Tryz.f3.resultTypes.toList)) = true := by kernel_rfl
set_option maxRecDepth 100000 in
theorem closed : joinedFacts Tryz.prog 3 Tryz.f3 (Rows.OpenSpec.upto Rows.fnAuthFormatsSpec).bare Rows.fnAuthFormatsUptoRow = true := (and_tt (and_tt (and_tt (and_tt (and_tt (and_tt (and_tt fact0 fact25) fact26) fact27) fact28) fact29) fact30) fact31)
set_option maxRecDepth 100000 in
theorem over : Rows.FnAuthFormatsUptoSaid :=
  OpenClaim.holds_of_cond 3 Tryz.f3 rfl rfl rfl rfl rfl rfl rfl ⟨rfl, rfl, rfl, rfl, rfl⟩ rfl rfl rfl rfl rfl (by kernel_rfl) Tryz.func3 closed
    (of_decide_eq_true (by kernel_rfl)) (by unfold Func.isWrapper; first | (rw [if_pos (by decide +kernel)]; kernel_rfl) | (rw [if_neg (by decide +kernel)]; exact ⟨rfl, rfl⟩))
    (fun os started H enc _ F => by rw [OpenClaim.pre_eq_preRow]; exact lifted os started H enc F)

/-- The card. -/
theorem proved : Rows.FnAuthFormatsUptoCardSaid :=
  Claim7.holds_tied_plain_at .later [] [.data, .data, .data, .sentinel, .sentinel, .sentinel] true (true, "7655229469640a81dafa7e5ca27201172df8b646a35dcd43c9c767b85b2aa813") true
    over (fun _ h => by cases h) (by kernel_rfl) (fun _ h => by cases h) fnAuthFormatsUpto_row_tie rfl ⟨rfl, rfl⟩ (by kernel_rfl) rfl
    (fun f fn hf hfn => by
      obtain rfl : f = 3 := Option.some.inj ((show Tryz.prog.funcNamed "given.example/pub-waxseal/laws.FnAuthFormats" = some 3 by kernel_rfl).symm.trans hf) |>.symm
      obtain rfl : fn = Tryz.f3 := (Option.some.inj (Tryz.func3.symm.trans hfn)).symm
      exact ⟨by kernel_rfl, fun j t ht => by
        rw [Tryz.params3] at ht
        have hm : t ∈ [9, 22] := by simpa using Array.mem_of_getElem? ht
        have hall : ([9, 22].all fun u => !Tryz.prog.wantsStandIn u) = true := by kernel_rfl
        exact (show Tryz.prog.wantsStandIn t = false by simpa using List.all_eq_true.1 hall t hm)⟩)
    (by kernel_rfl)
#print axioms proved
end Go.Proofs.YtpmdjfblfpjpoaaGreatDoor.fnAuthFormats
