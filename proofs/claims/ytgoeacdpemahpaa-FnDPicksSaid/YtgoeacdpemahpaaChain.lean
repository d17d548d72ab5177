/- The contracts of this program's functions, one behind the other. -/
import Derived.Test.YtgoeacdpemahpaaSeat
import Derived.Test.YtgoeacdpemahpaaTryShelf
import Derived.Test.YtgoeacdpemahpaaWd
namespace Go.Proofs.Ytgoeacdpemahpaa
open Wax
def ms : List (Nat × String × Nat) := [(1, "CanonicalizeHeader", 30), (2, "CanonicalizeHeader", 31)]
theorem hT : injB tab.tys = true := by kernel_rfl
theorem hF : injB tab.fns = true := by kernel_rfl
theorem g0 : GamOk Try.prog tab (gam0 ms) := mthsB_spec (by kernel_rfl)
/-- laws.zzFits7 -/
noncomputable def Γ1 : Gam := (gam0 ms).add 32 con_zzFits7
theorem g1 : GamOk Try.prog tab Γ1 := g0.walk hT hF (f := 7) rfl (by kernel_rfl) Try.func7 k_laws_zzFits7 (ok_zzFits7 _)
/-- spec.DPlain -/
noncomputable def Γ2 : Gam := Γ1.add 6 con_DPlain
theorem g2 : GamOk Try.prog tab Γ2 := g1.walk hT hF (f := 21) rfl (by kernel_rfl) Try.func21 k_spec_DPlain (ok_DPlain _)
/-- laws.dShort -/
noncomputable def Γ3 : Gam := Γ2.add 10 con_dShort
theorem g3 : GamOk Try.prog tab Γ3 := g2.walk hT hF (f := 8) rfl (by kernel_rfl) Try.func8 k_laws_dShort (ok_dShort _ rfl)
/-- dkim.zzIndex -/
noncomputable def Γ4 : Gam := Γ3.add 22 con_zzIndex
theorem g4 : GamOk Try.prog tab Γ4 := g3.walk hT hF (f := 54) rfl (by kernel_rfl) Try.func54 k_dkim_zzIndex (ok_zzIndex _)
/-- dkim.zzSplit -/
noncomputable def Γ5 : Gam := Γ4.addS 25 con_zzSplit
theorem g5 : GamOk Try.prog tab Γ5 := g4.walkS hT hF (f := 45) rfl (by kernel_rfl) Try.func45 k_dkim_zzSplit (ok_zzSplit _ rfl)
/-- dkim.zzIsSpace -/
noncomputable def Γ6 : Gam := Γ5.add 23 con_zzIsSpace
theorem g6 : GamOk Try.prog tab Γ6 := g5.walk hT hF (f := 55) rfl (by kernel_rfl) Try.func55 k_dkim_zzIsSpace (ok_zzIsSpace _)
/-- dkim.stripWhitespace -/
noncomputable def Γ7 : Gam := Γ6.add 26 con_stripWhitespace
theorem g7 : GamOk Try.prog tab Γ7 := g6.walk hT hF (f := 52) rfl (by kernel_rfl) Try.func52 k_dkim_stripWhitespace (ok_stripWhitespace _ rfl)
/-- dkim.parseTagList -/
noncomputable def Γ8 : Gam := Γ7.add 24 con_parseTagList
theorem g8 : GamOk Try.prog tab Γ8 := g7.walk hT hF (f := 41) rfl (by kernel_rfl) Try.func41 k_dkim_parseTagList (ok_parseTagList _ rfl rfl)
/-- dkim.TagList -/
noncomputable def Γ9 : Gam := Γ8.add 14 con_TagList
theorem g9 : GamOk Try.prog tab Γ9 := g8.walk hT hF (f := 34) rfl (by kernel_rfl) Try.func34 k_dkim_TagList (ok_TagList _ rfl)
/-- impl.DList -/
noncomputable def Γ10 : Gam := Γ9.add 7 con_TagList
theorem g10 : GamOk Try.prog tab Γ10 := g9.walk hT hF (f := 22) rfl (by kernel_rfl) Try.func22 k_impl_DList (ok_DList _ rfl)
/-- dkim.canonicalizers -/
noncomputable def Γ11 : Gam := Γ10.add 15 con_canonicalizers
theorem g11 : GamOk Try.prog tab Γ11 := g10.walk hT hF (f := 35) rfl (by kernel_rfl) Try.func35 k_dkim_canonicalizers (ok_canonicalizers _)
/-- dkim.simpleCanonicalizer).CanonicalizeHeader -/
noncomputable def Γ12 : Gam := Γ11.add 30 con_simpleCH
theorem g12 : GamOk Try.prog tab Γ12 := g11.walk hT hF (f := 93) rfl (by kernel_rfl) Try.func93 k_dkim_simpleCanonicalizer_CanonicalizeHeader (ok_simpleCH _)
/-- dkim.zzCut -/
noncomputable def Γ13 : Gam := Γ12.add 16 con_zzCut
theorem g13 : GamOk Try.prog tab Γ13 := g12.walk hT hF (f := 46) rfl (by kernel_rfl) Try.func46 k_dkim_zzCut (ok_zzCut _ rfl)
/-- dkim.zzToLower -/
noncomputable def Γ14 : Gam := Γ13.add 17 con_zzToLower
theorem g14 : GamOk Try.prog tab Γ14 := g13.walk hT hF (f := 42) rfl (by kernel_rfl) Try.func42 k_dkim_zzToLower (ok_zzToLower _)
/-- dkim.zzTrimSpace -/
noncomputable def Γ15 : Gam := Γ14.add 18 con_zzTrimSpace
theorem g15 : GamOk Try.prog tab Γ15 := g14.walk hT hF (f := 47) rfl (by kernel_rfl) Try.func47 k_dkim_zzTrimSpace (ok_zzTrimSpace _ rfl)
/-- dkim.relaxedCanonicalizer).CanonicalizeHeader$1 -/
noncomputable def Γ16 : Gam := Γ15.add 20 con_closure
theorem g16 : GamOk Try.prog tab Γ16 := g15.walk hT hF (f := 98) rfl (by kernel_rfl) Try.func98 k_dkim_relaxedCanonicalizer_CanonicalizeHeader_1 (ok_closure _)
/-- strings.FieldsFunc -/
noncomputable def Γ17 : Gam := Γ16.add 19 con_FieldsFunc
theorem g17 : GamOk Try.prog tab Γ17 := g16.walk hT hF (f := 97) rfl (by kernel_rfl) Try.func97 k_strings_FieldsFunc (ok_FieldsFunc _ rfl)
/-- strings.Join -/
noncomputable def Γ18 : Gam := Γ17.add 21 con_Join
theorem g18 : GamOk Try.prog tab Γ18 := g17.add hF (f := 96) rfl (by kernel_rfl) (ok_Join ⟨Try.strings_Join_none, Try.strings_Join⟩)
/-- dkim.relaxedCanonicalizer).CanonicalizeHeader -/
noncomputable def Γ19 : Gam := Γ18.add 31 con_relaxedCH
theorem g19 : GamOk Try.prog tab Γ19 := g18.walk hT hF (f := 95) rfl (by kernel_rfl) Try.func95 k_dkim_relaxedCanonicalizer_CanonicalizeHeader (ok_relaxedCH _ rfl rfl rfl rfl rfl)
/-- dkim.CanonicalHeader -/
noncomputable def Γ20 : Gam := Γ19.add 13 con_CanonicalHeader
theorem g20 : GamOk Try.prog tab Γ20 := g19.walk hT hF (f := 24) rfl (by kernel_rfl) Try.func24 k_dkim_CanonicalHeader (ok_CanonicalHeader _ rfl rfl rfl rfl rfl)
/-- impl.DCanonField -/
noncomputable def Γ21 : Gam := Γ20.add 8 con_DCanonField
theorem g21 : GamOk Try.prog tab Γ21 := g20.walk hT hF (f := 11) rfl (by kernel_rfl) Try.func11 k_impl_DCanonField (ok_DCanonField _ rfl)
/-- laws.dAwake -/
noncomputable def Γ22 : Gam := Γ21.add 11 con_dAwake
theorem g22 : GamOk Try.prog tab Γ22 := g21.walk hT hF (f := 9) rfl (by kernel_rfl) Try.func9 k_laws_dAwake (ok_dAwake _ rfl rfl)
/-- slices.Clone[[]string,string] -/
noncomputable def Γ23 : Gam := Γ22.add 36 con_Clone
theorem g23 : GamOk Try.prog tab Γ23 := g22.add hF (f := 29) rfl (by kernel_rfl) (ok_Clone ⟨_, Try.slices_Clone_string_nil, Try.slices_Clone_string_zero, Try.slices_Clone_string⟩)
/-- dkim.newHeaderPicker -/
noncomputable def Γ24 : Gam := Γ23.addS 38 con_newHeaderPicker
theorem g24 : GamOk Try.prog tab Γ24 := g23.walkS hT hF (f := 36) rfl (by kernel_rfl) Try.func36 k_dkim_newHeaderPicker (ok_newHeaderPicker _)
/-- dkim.parseHeaderField -/
noncomputable def Γ25 : Gam := Γ24.add 40 con_parseHeaderField
theorem g25 : GamOk Try.prog tab Γ25 := g24.walk hT hF (f := 43) rfl (by kernel_rfl) Try.func43 k_dkim_parseHeaderField (ok_parseHeaderField _ rfl rfl)
/-- dkim.zzEqualFold$1 -/
noncomputable def Γ26 : Gam := Γ25.add 42 con_zzEqualFold1
theorem g26 : GamOk Try.prog tab Γ26 := g25.walk hT hF (f := 53) rfl (by kernel_rfl) Try.func53 k_dkim_zzEqualFold_1 (ok_zzEqualFold1 _)
/-- dkim.zzEqualFold -/
noncomputable def Γ27 : Gam := Γ26.add 41 con_zzEqualFold
theorem g27 : GamOk Try.prog tab Γ27 := g26.walk hT hF (f := 44) rfl (by kernel_rfl) Try.func44 k_dkim_zzEqualFold (ok_zzEqualFold _ rfl)
/-- dkim.headerPicker).Pick -/
noncomputable def Γ28 : Gam := Γ27.addS 39 con_hpPick
theorem g28 : GamOk Try.prog tab Γ28 := g27.walkS hT hF (f := 37) rfl (by kernel_rfl) Try.func37 k_dkim_headerPicker_Pick (ok_hpPick _ rfl rfl rfl)
/-- dkim.Pick -/
noncomputable def Γ29 : Gam := Γ28.add 37 con_Pick
theorem g29 : GamOk Try.prog tab Γ29 := g28.walk hT hF (f := 28) rfl (by kernel_rfl) Try.func28 k_dkim_Pick (ok_Pick _ rfl rfl)
/-- impl.DPick -/
noncomputable def Γ30 : Gam := Γ29.add 33 con_Pick
theorem g30 : GamOk Try.prog tab Γ30 := g29.walk hT hF (f := 16) rfl (by kernel_rfl) Try.func16 k_impl_DPick (ok_DPick _ rfl rfl)
/-- spec.dCut -/
noncomputable def Γ31 : Gam := Γ30.add 2 con_dCut
theorem g31 : GamOk Try.prog tab Γ31 := g30.walk hT hF (f := 25) rfl (by kernel_rfl) Try.func25 k_spec_dCut (ok_dCut _)
/-- spec.dBlank -/
noncomputable def Γ32 : Gam := Γ31.add 1 con_dBlank
theorem g32 : GamOk Try.prog tab Γ32 := g31.walk hT hF (f := 23) rfl (by kernel_rfl) Try.func23 k_spec_dBlank (ok_dBlank _)
/-- spec.DTrim -/
noncomputable def Γ33 : Gam := Γ32.add 3 con_DTrim
theorem g33 : GamOk Try.prog tab Γ33 := g32.walk hT hF (f := 26) rfl (by kernel_rfl) Try.func26 k_spec_DTrim (ok_DTrim _ rfl)
/-- spec.DName -/
noncomputable def Γ34 : Gam := Γ33.add 28 con_DName
theorem g34 : GamOk Try.prog tab Γ34 := g33.walk hT hF (f := 30) rfl (by kernel_rfl) Try.func30 k_spec_DName (ok_DName _ rfl rfl)
/-- spec.DLower -/
noncomputable def Γ35 : Gam := Γ34.add 4 con_DLower
theorem g35 : GamOk Try.prog tab Γ35 := g34.walk hT hF (f := 12) rfl (by kernel_rfl) Try.func12 k_spec_DLower (ok_DLower _)
/-- spec.DPicked -/
noncomputable def Γ36 : Gam := Γ35.add 34 con_DPicked
theorem g36 : GamOk Try.prog tab Γ36 := g35.walk hT hF (f := 17) rfl (by kernel_rfl) Try.func17 k_spec_DPicked (ok_DPicked _ rfl rfl)
/-- laws.dSameTexts -/
noncomputable def Γ37 : Gam := Γ36.add 35 con_dSameTexts
theorem g37 : GamOk Try.prog tab Γ37 := g36.walk hT hF (f := 15) rfl (by kernel_rfl) Try.func15 k_laws_dSameTexts (ok_dSameTexts _)
/-- laws.FnDPicks -/
noncomputable def Γ38 : Gam := Γ37.add 44 con_FnDPicks
theorem g38 : GamOk Try.prog tab Γ38 := g37.walk hT hF (f := 5) rfl (by kernel_rfl) Try.func5 k_laws_FnDPicks (ok_FnDPicks _ rfl rfl rfl rfl rfl rfl)
theorem ok_FnDPicks : ∀ args r, con_FnDPicks args = some r → OkCall Try.prog tab 5 args r := fun args r h => (g38.fn 5 44 args r rfl h).2
end Go.Proofs.Ytgoeacdpemahpaa
