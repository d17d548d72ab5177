/- The contracts of the functions of this program, one behind the other. -/
import Derived.Test.YtgoeacdpemahpaaSeat
import Derived.Test.YtgoeacdpemahpaaTryShelf
import Derived.Test.YtgoeacdpemahpaaWe
namespace Go.Proofs.Ytgoeacdpemahpaa
open Wax
def ms : List (Nat × String × Nat) := [(1, "CanonicalizeHeader", 30), (2, "CanonicalizeHeader", 31)]
theorem hT : injB tab.tys = true := by kernel_rfl
theorem hF : injB tab.fns = true := by kernel_rfl
theorem g0 : GamOk Try.prog tab (gam0 ms) := mthsB_spec (by kernel_rfl)
/-- spec.DPlain -/
noncomputable def Γ1 : Gam := (gam0 ms).add 6 con_DPlain
theorem g1 : GamOk Try.prog tab Γ1 := g0.walk hT hF (f := 21) rfl (by kernel_rfl) Try.func21 k_spec_DPlain (ok_DPlain _)
/-- laws.dShort -/
noncomputable def Γ2 : Gam := Γ1.add 10 con_dShort
theorem g2 : GamOk Try.prog tab Γ2 := g1.walk hT hF (f := 8) rfl (by kernel_rfl) Try.func8 k_laws_dShort (ok_dShort _ rfl)
/-- dkim.zzIndex -/
noncomputable def Γ3 : Gam := Γ2.add 22 con_zzIndex
theorem g3 : GamOk Try.prog tab Γ3 := g2.walk hT hF (f := 54) rfl (by kernel_rfl) Try.func54 k_dkim_zzIndex (ok_zzIndex _)
/-- dkim.zzSplit -/
noncomputable def Γ4 : Gam := Γ3.addS 25 con_zzSplit
theorem g4 : GamOk Try.prog tab Γ4 := g3.walkS hT hF (f := 45) rfl (by kernel_rfl) Try.func45 k_dkim_zzSplit (ok_zzSplit _ rfl)
/-- dkim.zzIsSpace -/
noncomputable def Γ5 : Gam := Γ4.add 23 con_zzIsSpace
theorem g5 : GamOk Try.prog tab Γ5 := g4.walk hT hF (f := 55) rfl (by kernel_rfl) Try.func55 k_dkim_zzIsSpace (ok_zzIsSpace _)
/-- dkim.stripWhitespace -/
noncomputable def Γ6 : Gam := Γ5.add 26 con_stripWhitespace
theorem g6 : GamOk Try.prog tab Γ6 := g5.walk hT hF (f := 52) rfl (by kernel_rfl) Try.func52 k_dkim_stripWhitespace (ok_stripWhitespace _ rfl)
/-- dkim.parseTagList -/
noncomputable def Γ7 : Gam := Γ6.add 24 con_parseTagList
theorem g7 : GamOk Try.prog tab Γ7 := g6.walk hT hF (f := 41) rfl (by kernel_rfl) Try.func41 k_dkim_parseTagList (ok_parseTagList _ rfl rfl)
/-- dkim.TagList -/
noncomputable def Γ8 : Gam := Γ7.add 14 con_TagList
theorem g8 : GamOk Try.prog tab Γ8 := g7.walk hT hF (f := 34) rfl (by kernel_rfl) Try.func34 k_dkim_TagList (ok_TagList _ rfl)
/-- impl.DList -/
noncomputable def Γ9 : Gam := Γ8.add 7 con_TagList
theorem g9 : GamOk Try.prog tab Γ9 := g8.walk hT hF (f := 22) rfl (by kernel_rfl) Try.func22 k_impl_DList (ok_DList _ rfl)
/-- dkim.canonicalizers -/
noncomputable def Γ10 : Gam := Γ9.add 15 con_canonicalizers
theorem g10 : GamOk Try.prog tab Γ10 := g9.walk hT hF (f := 35) rfl (by kernel_rfl) Try.func35 k_dkim_canonicalizers (ok_canonicalizers _)
/-- dkim.simpleCanonicalizer).CanonicalizeHeader -/
noncomputable def Γ11 : Gam := Γ10.add 30 con_simpleCH
theorem g11 : GamOk Try.prog tab Γ11 := g10.walk hT hF (f := 93) rfl (by kernel_rfl) Try.func93 k_dkim_simpleCanonicalizer_CanonicalizeHeader (ok_simpleCH _)
/-- dkim.zzCut -/
noncomputable def Γ12 : Gam := Γ11.add 16 con_zzCut
theorem g12 : GamOk Try.prog tab Γ12 := g11.walk hT hF (f := 46) rfl (by kernel_rfl) Try.func46 k_dkim_zzCut (ok_zzCut _ rfl)
/-- dkim.zzToLower -/
noncomputable def Γ13 : Gam := Γ12.add 17 con_zzToLower
theorem g13 : GamOk Try.prog tab Γ13 := g12.walk hT hF (f := 42) rfl (by kernel_rfl) Try.func42 k_dkim_zzToLower (ok_zzToLower _)
/-- dkim.zzTrimSpace -/
noncomputable def Γ14 : Gam := Γ13.add 18 con_zzTrimSpace
theorem g14 : GamOk Try.prog tab Γ14 := g13.walk hT hF (f := 47) rfl (by kernel_rfl) Try.func47 k_dkim_zzTrimSpace (ok_zzTrimSpace _ rfl)
/-- dkim.relaxedCanonicalizer).CanonicalizeHeader$1 -/
noncomputable def Γ15 : Gam := Γ14.add 20 con_closure
theorem g15 : GamOk Try.prog tab Γ15 := g14.walk hT hF (f := 98) rfl (by kernel_rfl) Try.func98 k_dkim_relaxedCanonicalizer_CanonicalizeHeader_1 (ok_closure _)
/-- strings.FieldsFunc -/
noncomputable def Γ16 : Gam := Γ15.add 19 con_FieldsFunc
theorem g16 : GamOk Try.prog tab Γ16 := g15.walk hT hF (f := 97) rfl (by kernel_rfl) Try.func97 k_strings_FieldsFunc (ok_FieldsFunc _ rfl)
/-- strings.Join -/
noncomputable def Γ17 : Gam := Γ16.add 21 con_Join
theorem g17 : GamOk Try.prog tab Γ17 := g16.add hF (f := 96) rfl (by kernel_rfl) (ok_Join ⟨Try.strings_Join_none, Try.strings_Join⟩)
/-- dkim.relaxedCanonicalizer).CanonicalizeHeader -/
noncomputable def Γ18 : Gam := Γ17.add 31 con_relaxedCH
theorem g18 : GamOk Try.prog tab Γ18 := g17.walk hT hF (f := 95) rfl (by kernel_rfl) Try.func95 k_dkim_relaxedCanonicalizer_CanonicalizeHeader (ok_relaxedCH _ rfl rfl rfl rfl rfl)
/-- dkim.CanonicalHeader -/
noncomputable def Γ19 : Gam := Γ18.add 13 con_CanonicalHeader
theorem g19 : GamOk Try.prog tab Γ19 := g18.walk hT hF (f := 24) rfl (by kernel_rfl) Try.func24 k_dkim_CanonicalHeader (ok_CanonicalHeader _ rfl rfl rfl rfl rfl)
/-- impl.DCanonField -/
noncomputable def Γ20 : Gam := Γ19.add 8 con_DCanonField
theorem g20 : GamOk Try.prog tab Γ20 := g19.walk hT hF (f := 11) rfl (by kernel_rfl) Try.func11 k_impl_DCanonField (ok_DCanonField _ rfl)
/-- laws.dAwake -/
noncomputable def Γ21 : Gam := Γ20.add 11 con_dAwake
theorem g21 : GamOk Try.prog tab Γ21 := g20.walk hT hF (f := 9) rfl (by kernel_rfl) Try.func9 k_laws_dAwake (ok_dAwake _ rfl rfl)
/-- errors.New -/
noncomputable def Γ22 : Gam := Γ21.add 50 con_errorsNew
theorem g22 : GamOk Try.prog tab Γ22 := g21.walk hT hF (f := 48) rfl (by kernel_rfl) Try.func48 k_errors_New (ok_errorsNew _)
/-- dkim.parseHeaderParams -/
noncomputable def Γ23 : Gam := Γ22.add 47 con_parseHeaderParams
theorem g23 : GamOk Try.prog tab Γ23 := g22.walk hT hF (f := 38) rfl (by kernel_rfl) Try.func38 k_dkim_parseHeaderParams (ok_parseHeaderParams _ rfl rfl rfl rfl)
/-- maps.Keys[map[string]string,string,string] -/
noncomputable def Γ24 : Gam := Γ23.add 48 con_Keys
theorem g24 : GamOk Try.prog tab Γ24 := g23.walk hT hF (f := 40) rfl (by kernel_rfl) Try.func40 k_maps_Keys (ok_Keys _)
/-- slices.Sorted[string] -/
noncomputable def Γ25 : Gam := Γ24.add 49 con_Sorted
theorem g25 : GamOk Try.prog tab Γ25 := g24.add hF (f := 39) rfl (by kernel_rfl) (ok_Sorted ⟨lkN_only (by kernel_rfl), _, _, Try.sorted_key, fun Bm b nn D0 w => Try.slices_Sorted_keys_at Bm b nn D0 noVal w⟩)
/-- dkim.Params -/
noncomputable def Γ26 : Gam := Γ25.add 45 con_dkimParams
theorem g26 : GamOk Try.prog tab Γ26 := g25.walk hT hF (f := 31) rfl (by kernel_rfl) Try.func31 k_dkim_Params (ok_dkimParams _ rfl rfl rfl)
/-- impl.pairsOf -/
noncomputable def Γ27 : Gam := Γ26.add 46 con_pairsOf
theorem g27 : GamOk Try.prog tab Γ27 := g26.walk hT hF (f := 32) rfl (by kernel_rfl) Try.func32 k_impl_pairsOf (ok_pairsOf _)
/-- impl.DParams -/
noncomputable def Γ28 : Gam := Γ27.add 51 con_DParams
theorem g28 : GamOk Try.prog tab Γ28 := g27.walk hT hF (f := 18) rfl (by kernel_rfl) Try.func18 k_impl_DParams (ok_DParams _ rfl rfl)
/-- spec.dCut -/
noncomputable def Γ29 : Gam := Γ28.add 2 con_dCut
theorem g29 : GamOk Try.prog tab Γ29 := g28.walk hT hF (f := 25) rfl (by kernel_rfl) Try.func25 k_spec_dCut (ok_dCut _)
/-- spec.dBlank -/
noncomputable def Γ30 : Gam := Γ29.add 1 con_dBlank
theorem g30 : GamOk Try.prog tab Γ30 := g29.walk hT hF (f := 23) rfl (by kernel_rfl) Try.func23 k_spec_dBlank (ok_dBlank _)
/-- spec.DTrim -/
noncomputable def Γ31 : Gam := Γ30.add 3 con_DTrim
theorem g31 : GamOk Try.prog tab Γ31 := g30.walk hT hF (f := 26) rfl (by kernel_rfl) Try.func26 k_spec_DTrim (ok_DTrim _ rfl)
/-- spec.DSplit -/
noncomputable def Γ32 : Gam := Γ31.add 54 con_DSplit
theorem g32 : GamOk Try.prog tab Γ32 := g31.walk hT hF (f := 33) rfl (by kernel_rfl) Try.func33 k_spec_DSplit (ok_DSplit _ rfl)
/-- spec.DTags -/
noncomputable def Γ33 : Gam := Γ32.add 52 con_DTags
theorem g33 : GamOk Try.prog tab Γ33 := g32.walk hT hF (f := 19) rfl (by kernel_rfl) Try.func19 k_spec_DTags (ok_DTags _ rfl rfl rfl)
/-- laws.dSamePairs -/
noncomputable def Γ34 : Gam := Γ33.add 53 con_dSamePairs
theorem g34 : GamOk Try.prog tab Γ34 := g33.walk hT hF (f := 20) rfl (by kernel_rfl) Try.func20 k_laws_dSamePairs (ok_dSamePairs _)
/-- laws.FnDParams -/
noncomputable def Γ35 : Gam := Γ34.add 56 con_FnDParams
theorem g35 : GamOk Try.prog tab Γ35 := g34.walk hT hF (f := 6) rfl (by kernel_rfl) Try.func6 k_laws_FnDParams (ok_FnDParams _ rfl rfl rfl rfl rfl)
theorem ok_FnDParams : ∀ args r, con_FnDParams args = some r → OkCall Try.prog tab 6 args r := fun args r h => (g35.fn 6 56 args r rfl h).2
end Go.Proofs.Ytgoeacdpemahpaa
