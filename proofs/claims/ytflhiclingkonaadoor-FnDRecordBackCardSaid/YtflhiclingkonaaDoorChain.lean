/- The contracts of the functions of this program, one behind the other. -/
import Derived.Test.YtflhiclingkonaaDoorSeat
import Derived.Test.YtflhiclingkonaaDoorTrydShelf
import Derived.Test.YtflhiclingkonaaDoorWg
set_option linter.all false
namespace Go.Proofs.YtflhiclingkonaaDoor
open Wax
def ms : List (Nat × String × Nat) := [(1, "CanonicalizeHeader", 30), (2, "CanonicalizeHeader", 31), (3, "Error", 90)]
theorem hT : injB tab.tys = true := by kernel_rfl
theorem hF : injB tab.fns = true := by kernel_rfl
theorem g0 : GamOk Tryd.prog tab (gam0 ms) := mthsB_spec (by kernel_rfl)
/-- dkim.zzIndex -/
noncomputable def Γ1 : Gam := (gam0 ms).add 22 con_zzIndex
theorem g1 : GamOk Tryd.prog tab Γ1 := g0.walk hT hF (f := 88) rfl (by kernel_rfl) Tryd.func88 k_dkim_zzIndex (ok_zzIndex _)
/-- dkim.zzSplit -/
noncomputable def Γ2 : Gam := Γ1.addS 25 con_zzSplit
theorem g2 : GamOk Tryd.prog tab Γ2 := g1.walkS hT hF (f := 81) rfl (by kernel_rfl) Tryd.func81 k_dkim_zzSplit (ok_zzSplit _ rfl)
/-- dkim.zzIsSpace -/
noncomputable def Γ3 : Gam := Γ2.add 23 con_zzIsSpace
theorem g3 : GamOk Tryd.prog tab Γ3 := g2.walk hT hF (f := 95) rfl (by kernel_rfl) Tryd.func95 k_dkim_zzIsSpace (ok_zzIsSpace _)
/-- dkim.stripWhitespace -/
noncomputable def Γ4 : Gam := Γ3.add 26 con_stripWhitespace
theorem g4 : GamOk Tryd.prog tab Γ4 := g3.walk hT hF (f := 78) rfl (by kernel_rfl) Tryd.func78 k_dkim_stripWhitespace (ok_stripWhitespace _ rfl)
/-- dkim.parseTagList -/
noncomputable def Γ5 : Gam := Γ4.add 24 con_parseTagList
theorem g5 : GamOk Tryd.prog tab Γ5 := g4.walk hT hF (f := 67) rfl (by kernel_rfl) Tryd.func67 k_dkim_parseTagList (ok_parseTagList _ rfl rfl)
/-- dkim.TagList -/
noncomputable def Γ6 : Gam := Γ5.add 14 con_TagList
theorem g6 : GamOk Tryd.prog tab Γ6 := g5.walk hT hF (f := 55) rfl (by kernel_rfl) Tryd.func55 k_dkim_TagList (ok_TagList _ rfl)
/-- impl.DList -/
noncomputable def Γ7 : Gam := Γ6.add 7 con_TagList
theorem g7 : GamOk Tryd.prog tab Γ7 := g6.walk hT hF (f := 27) rfl (by kernel_rfl) Tryd.func27 k_impl_DList (ok_DList _ rfl)
/-- dkim.canonicalizers -/
noncomputable def Γ8 : Gam := Γ7.add 15 con_canonicalizers
theorem g8 : GamOk Tryd.prog tab Γ8 := g7.walk hT hF (f := 65) rfl (by kernel_rfl) Tryd.func65 k_dkim_canonicalizers (ok_canonicalizers _)
/-- dkim.simpleCanonicalizer).CanonicalizeHeader -/
noncomputable def Γ9 : Gam := Γ8.add 30 con_simpleCH
theorem g9 : GamOk Tryd.prog tab Γ9 := g8.walk hT hF (f := 163) rfl (by kernel_rfl) Tryd.func163 k_dkim_simpleCanonicalizer_CanonicalizeHeader (ok_simpleCH _)
/-- dkim.zzCut -/
noncomputable def Γ10 : Gam := Γ9.add 16 con_zzCut
theorem g10 : GamOk Tryd.prog tab Γ10 := g9.walk hT hF (f := 82) rfl (by kernel_rfl) Tryd.func82 k_dkim_zzCut (ok_zzCut _ rfl)
/-- dkim.zzToLower -/
noncomputable def Γ11 : Gam := Γ10.add 17 con_zzToLower
theorem g11 : GamOk Tryd.prog tab Γ11 := g10.walk hT hF (f := 166) rfl (by kernel_rfl) Tryd.func166 k_dkim_zzToLower (ok_zzToLower _)
/-- dkim.zzTrimSpace -/
noncomputable def Γ12 : Gam := Γ11.add 18 con_zzTrimSpace
theorem g12 : GamOk Tryd.prog tab Γ12 := g11.walk hT hF (f := 83) rfl (by kernel_rfl) Tryd.func83 k_dkim_zzTrimSpace (ok_zzTrimSpace _ rfl)
/-- dkim.relaxedCanonicalizer).CanonicalizeHeader$1 -/
noncomputable def Γ13 : Gam := Γ12.add 20 con_closure
theorem g13 : GamOk Tryd.prog tab Γ13 := g12.walk hT hF (f := 169) rfl (by kernel_rfl) Tryd.func169 k_dkim_relaxedCanonicalizer_CanonicalizeHeader_1 (ok_closure _)
/-- strings.FieldsFunc -/
noncomputable def Γ14 : Gam := Γ13.add 19 con_FieldsFunc
theorem g14 : GamOk Tryd.prog tab Γ14 := g13.walk hT hF (f := 168) rfl (by kernel_rfl) Tryd.func168 k_strings_FieldsFunc (ok_FieldsFunc _ rfl)
/-- strings.Join -/
noncomputable def Γ15 : Gam := Γ14.add 21 con_Join
theorem g15 : GamOk Tryd.prog tab Γ15 := g14.add hF (f := 167) rfl (by kernel_rfl) (ok_Join ⟨Tryd.strings_Join_none, Tryd.strings_Join⟩)
/-- dkim.relaxedCanonicalizer).CanonicalizeHeader -/
noncomputable def Γ16 : Gam := Γ15.add 31 con_relaxedCH
theorem g16 : GamOk Tryd.prog tab Γ16 := g15.walk hT hF (f := 165) rfl (by kernel_rfl) Tryd.func165 k_dkim_relaxedCanonicalizer_CanonicalizeHeader (ok_relaxedCH _ rfl rfl rfl rfl rfl)
/-- dkim.CanonicalHeader -/
noncomputable def Γ17 : Gam := Γ16.add 13 con_CanonicalHeader
theorem g17 : GamOk Tryd.prog tab Γ17 := g16.walk hT hF (f := 50) rfl (by kernel_rfl) Tryd.func50 k_dkim_CanonicalHeader (ok_CanonicalHeader _ rfl rfl rfl rfl rfl)
/-- impl.DCanonField -/
noncomputable def Γ18 : Gam := Γ17.add 8 con_DCanonField
theorem g18 : GamOk Tryd.prog tab Γ18 := g17.walk hT hF (f := 32) rfl (by kernel_rfl) Tryd.func32 k_impl_DCanonField (ok_DCanonField _ rfl)
/-- laws.dAwake -/
noncomputable def Γ19 : Gam := Γ18.add 11 con_dAwake
theorem g19 : GamOk Tryd.prog tab Γ19 := g18.walk hT hF (f := 10) rfl (by kernel_rfl) Tryd.func10 k_laws_dAwake (ok_dAwake _ rfl rfl)
/-- laws.zzFits7 -/
noncomputable def Γ20 : Gam := Γ19.add 32 con_zzFits7
theorem g20 : GamOk Tryd.prog tab Γ20 := g19.walk hT hF (f := 47) rfl (by kernel_rfl) Tryd.func47 k_laws_zzFits7 (ok_zzFits7 _)
/-- laws.zzFits10 -/
noncomputable def Γ21 : Gam := Γ20.add 94 con_zzFits10
theorem g21 : GamOk Tryd.prog tab Γ21 := g20.walk hT hF (f := 18) rfl (by kernel_rfl) Tryd.func18 k_laws_zzFits10 (ok_zzFits10 _ rfl)
/-- spec.DPlain -/
noncomputable def Γ22 : Gam := Γ21.add 6 con_DPlain
theorem g22 : GamOk Tryd.prog tab Γ22 := g21.walk hT hF (f := 31) rfl (by kernel_rfl) Tryd.func31 k_spec_DPlain (ok_DPlain _)
/-- laws.dShort -/
noncomputable def Γ23 : Gam := Γ22.add 10 con_dShort
theorem g23 : GamOk Tryd.prog tab Γ23 := g22.walk hT hF (f := 9) rfl (by kernel_rfl) Tryd.func9 k_laws_dShort (ok_dShort _ rfl)
/-- laws.dOptions -/
noncomputable def Γ24 : Gam := Γ23.add 95 con_dOptions
theorem g24 : GamOk Tryd.prog tab Γ24 := g23.walk hT hF (f := 19) rfl (by kernel_rfl) Tryd.func19 k_laws_dOptions (ok_dOptions _ rfl)
/-- laws.dKeyed -/
noncomputable def Γ25 : Gam := Γ24.add 96 con_dKeyed
theorem g25 : GamOk Tryd.prog tab Γ25 := g24.walk hT hF (f := 20) rfl (by kernel_rfl) Tryd.func20 k_laws_dKeyed (ok_dKeyed _)
/-- dkim.zzEncode -/
noncomputable def Γ26 : Gam := Γ25.add 93 con_zzEncode
theorem g26 : GamOk Tryd.prog tab Γ26 := g25.walk hT hF (f := 63) rfl (by kernel_rfl) Tryd.func63 k_dkim_zzEncode (ok_zzEncode _)
/-- dkim.Encode -/
noncomputable def Γ27 : Gam := Γ26.add 92 con_Encode
theorem g27 : GamOk Tryd.prog tab Γ27 := g26.walk hT hF (f := 48) rfl (by kernel_rfl) Tryd.func48 k_dkim_Encode (ok_Encode _ rfl)
/-- impl.DPublic -/
noncomputable def Γ28 : Gam := Γ27.add 97 con_DPublic
theorem g28 : GamOk Tryd.prog tab Γ28 := g27.walk hT hF (f := 21) rfl (by kernel_rfl) Tryd.func21 k_impl_DPublic (ok_DPublic _ rfl)
/-- errors.New -/
noncomputable def Γ29 : Gam := Γ28.add 50 con_errorsNew
theorem g29 : GamOk Tryd.prog tab Γ29 := g28.walk hT hF (f := 84) rfl (by kernel_rfl) Tryd.func84 k_errors_New (ok_errorsNew _)
/-- dkim.parseHeaderParams -/
noncomputable def Γ30 : Gam := Γ29.add 47 con_parseHeaderParams
theorem g30 : GamOk Tryd.prog tab Γ30 := g29.walk hT hF (f := 68) rfl (by kernel_rfl) Tryd.func68 k_dkim_parseHeaderParams (ok_parseHeaderParams _ rfl rfl rfl rfl)
/-- strconv.Itoa -/
noncomputable def Γ31 : Gam := Γ30.add 74 con_Itoa
theorem g31 : GamOk Tryd.prog tab Γ31 := g30.add hF (f := 73) rfl (by kernel_rfl) (ok_Itoa ⟨(Tryd.prog.globalNamed "internal/strconv.uint64pow10").getD 0, by kernel_rfl, by kernel_rfl, Tryd.strconv_Itoa⟩)
/-- slices.Clone[[]byte,byte] -/
noncomputable def Γ32 : Gam := Γ31.add 76 con_CloneB
theorem g32 : GamOk Tryd.prog tab Γ32 := g31.walk hT hF (f := 35) rfl (by kernel_rfl) Tryd.func35 k_slices_Clone (ok_CloneB _)
/-- impl.sizeOf -/
noncomputable def Γ33 : Gam := Γ32.add 77 con_sizeOf
theorem g33 : GamOk Tryd.prog tab Γ33 := g32.walk hT hF (f := 36) rfl (by kernel_rfl) Tryd.func36 k_impl_sizeOf (ok_sizeOf _)
/-- impl.DRecord$1 -/
noncomputable def Γ34 : Gam := Γ33.addS 82 con_DRecord1
theorem g34 : GamOk Tryd.prog tab Γ34 := g33.walkS hT hF (f := 34) rfl (by kernel_rfl) Tryd.func34 k_impl_DRecord_1 (ok_DRecord1 _ rfl rfl)
/-- dkim.zzReplaceAll -/
noncomputable def Γ35 : Gam := Γ34.add 72 con_ReplaceAll
theorem g35 : GamOk Tryd.prog tab Γ35 := g34.walk hT hF (f := 71) rfl (by kernel_rfl) Tryd.func71 k_dkim_zzReplaceAll (ok_zzReplaceAll _ rfl)
/-- dkim.zzDecode -/
noncomputable def Γ36 : Gam := Γ35.add 73 con_zzDecode
theorem g36 : GamOk Tryd.prog tab Γ36 := g35.walk hT hF (f := 72) rfl (by kernel_rfl) Tryd.func72 k_dkim_zzDecode (ok_zzDecode _ rfl)
/-- (*errors.errorString).Error -/
noncomputable def Γ37 : Gam := Γ36.add 90 con_errString
theorem g37 : GamOk Tryd.prog tab Γ37 := g36.walk hT hF (f := 176) rfl (by kernel_rfl) Tryd.func176 k_errors_errorString_Error (ok_errString _)
/-- dkim.parsePublicKey -/
noncomputable def Γ38 : Gam := Γ37.addS 75 con_parsePublicKey
theorem g38 : GamOk Tryd.prog tab Γ38 := g37.walkS hT hF (f := 58) rfl (by kernel_rfl) Tryd.func58 k_dkim_parsePublicKey (ok_parsePublicKey _ rfl rfl rfl rfl rfl rfl rfl rfl)
/-- dkim.ParseRecord -/
noncomputable def Γ39 : Gam := Γ38.addS 81 con_ParseRecord
theorem g39 : GamOk Tryd.prog tab Γ39 := g38.walkS hT hF (f := 33) rfl (by kernel_rfl) Tryd.func33 k_dkim_ParseRecord (ok_ParseRecord _ rfl)
/-- dkim.IsPermFail -/
noncomputable def Γ40 : Gam := Γ39.add 78 con_IsPermFail
theorem g40 : GamOk Tryd.prog tab Γ40 := g39.walk hT hF (f := 59) rfl (by kernel_rfl) Tryd.func59 k_dkim_IsPermFail (ok_IsPermFail _)
/-- impl.codeOf -/
noncomputable def Γ41 : Gam := Γ40.add 83 con_codeOf
theorem g41 : GamOk Tryd.prog tab Γ41 := g40.walk hT hF (f := 37) rfl (by kernel_rfl) Tryd.func37 k_impl_codeOf (ok_codeOf _ rfl)
/-- impl.DRecord -/
noncomputable def Γ42 : Gam := Γ41.add 88 con_DRecord
theorem g42 : GamOk Tryd.prog tab Γ42 := g41.walk hT hF (f := 11) rfl (by kernel_rfl) Tryd.func11 k_impl_DRecord (ok_DRecord _ rfl rfl)
/-- laws.FnDRecordBack -/
noncomputable def Γ43 : Gam := Γ42.add 98 con_FnDRecordBack
theorem g43 : GamOk Tryd.prog tab Γ43 := g42.walk hT hF (f := 6) rfl (by kernel_rfl) Tryd.func6 k_laws_FnDRecordBack (ok_FnDRecordBack _ rfl rfl rfl rfl rfl rfl)
theorem ok_FnDRecordBack : ∀ args r, con_FnDRecordBack args = some r → OkCall Tryd.prog tab 6 args r := fun args r h => (g43.fn 6 98 args r rfl h).2
end Go.Proofs.YtflhiclingkonaaDoor
