/- The contracts of the functions of this program, one behind the other. -/
import Derived.Test.YtpmdjfblfpjpoaaGreatDoorSeat
import Derived.Test.YtpmdjfblfpjpoaaGreatDoorTryzShelf
import Derived.Test.YtpmdjfblfpjpoaaGreatDoorWi
set_option linter.all false
namespace Go.Proofs.YtpmdjfblfpjpoaaGreatDoor
open Wax
def ms : List (Nat × String × Nat) := [(7, "given.example/pub-waxseal/pub/msgauth/authres.parse", 195), (8, "given.example/pub-waxseal/pub/msgauth/authres.format", 251), (8, "given.example/pub-waxseal/pub/msgauth/authres.parse", 187), (9, "given.example/pub-waxseal/pub/msgauth/authres.format", 252), (9, "given.example/pub-waxseal/pub/msgauth/authres.parse", 188), (10, "given.example/pub-waxseal/pub/msgauth/authres.format", 253), (10, "given.example/pub-waxseal/pub/msgauth/authres.parse", 189), (11, "given.example/pub-waxseal/pub/msgauth/authres.format", 254), (11, "given.example/pub-waxseal/pub/msgauth/authres.parse", 190), (12, "given.example/pub-waxseal/pub/msgauth/authres.format", 255), (12, "given.example/pub-waxseal/pub/msgauth/authres.parse", 191), (13, "given.example/pub-waxseal/pub/msgauth/authres.format", 256), (13, "given.example/pub-waxseal/pub/msgauth/authres.parse", 193), (14, "given.example/pub-waxseal/pub/msgauth/authres.format", 257), (14, "given.example/pub-waxseal/pub/msgauth/authres.parse", 194), (15, "given.example/pub-waxseal/pub/msgauth/authres.format", 258), (15, "given.example/pub-waxseal/pub/msgauth/authres.parse", 196)]
theorem hT : injB tab.tys = true := by kernel_rfl
theorem hF : injB tab.fns = true := by kernel_rfl
theorem g0 : GamOk Tryz.prog tab (gam0 ms) := mthsB_spec (by kernel_rfl)
/-- laws.zzFits4 -/
noncomputable def Γ1 : Gam := (gam0 ms).add 211 con_zzFits4
theorem g1 : GamOk Tryz.prog tab Γ1 := g0.walk hT hF (f := 42) rfl (by kernel_rfl) Tryz.func42 k_laws_zzFits4 (ok_zzFits4 _)
/-- laws.zzFits3 -/
noncomputable def Γ2 : Gam := Γ1.add 210 con_zzFits3
theorem g2 : GamOk Tryz.prog tab Γ2 := g1.walk hT hF (f := 33) rfl (by kernel_rfl) Tryz.func33 k_laws_zzFits3 (ok_zzFits3 _ rfl)
/-- laws.zzFits2 -/
noncomputable def Γ3 : Gam := Γ2.add 209 con_zzFits2
theorem g3 : GamOk Tryz.prog tab Γ3 := g2.walk hT hF (f := 13) rfl (by kernel_rfl) Tryz.func13 k_laws_zzFits2 (ok_zzFits2 _ rfl)
/-- laws.zzFits1 -/
noncomputable def Γ4 : Gam := Γ3.add 213 con_zzFits1
theorem g4 : GamOk Tryz.prog tab Γ4 := g3.walk hT hF (f := 4) rfl (by kernel_rfl) Tryz.func4 k_laws_zzFits1 (ok_zzFits1 _ rfl)
/-- spec.AOnly -/
noncomputable def Γ5 : Gam := Γ4.add 208 con_AOnly
theorem g5 : GamOk Tryz.prog tab Γ5 := g4.walk hT hF (f := 14) rfl (by kernel_rfl) Tryz.func14 k_spec_AOnly (ok_AOnly _)
/-- laws.only -/
noncomputable def Γ6 : Gam := Γ5.add 214 con_only
theorem g6 : GamOk Tryz.prog tab Γ6 := g5.walk hT hF (f := 5) rfl (by kernel_rfl) Tryz.func5 k_laws_only (ok_only _ rfl)
/-- spec.MailHalves -/
noncomputable def Γ7 : Gam := Γ6.add 102 con_MailHalves
theorem g7 : GamOk Tryz.prog tab Γ7 := g6.walk hT hF (f := 15) rfl (by kernel_rfl) Tryz.func15 k_spec_MailHalves (ok_MailHalves _)
/-- spec.MailAny -/
noncomputable def Γ8 : Gam := Γ7.add 100 con_MailAny
theorem g8 : GamOk Tryz.prog tab Γ8 := g7.walk hT hF (f := 34) rfl (by kernel_rfl) Tryz.func34 k_spec_MailAny (ok_MailAny _)
/-- spec.MailToken -/
noncomputable def Γ9 : Gam := Γ8.add 104 con_MailToken
theorem g9 : GamOk Tryz.prog tab Γ9 := g8.walk hT hF (f := 16) rfl (by kernel_rfl) Tryz.func16 k_spec_MailToken (ok_MailToken _ rfl)
/-- spec.MailKeyword -/
noncomputable def Γ10 : Gam := Γ9.add 99 con_MailKeyword
theorem g10 : GamOk Tryz.prog tab Γ10 := g9.walk hT hF (f := 19) rfl (by kernel_rfl) Tryz.func19 k_spec_MailKeyword (ok_MailKeyword _)
/-- spec.MailDomain -/
noncomputable def Γ11 : Gam := Γ10.add 105 con_MailDomain
theorem g11 : GamOk Tryz.prog tab Γ11 := g10.walk hT hF (f := 17) rfl (by kernel_rfl) Tryz.func17 k_spec_MailDomain (ok_MailDomain _ rfl)
/-- spec.APlain -/
noncomputable def Γ12 : Gam := Γ11.add 204 con_APlain
theorem g12 : GamOk Tryz.prog tab Γ12 := g11.walk hT hF (f := 6) rfl (by kernel_rfl) Tryz.func6 k_spec_APlain (ok_APlain _ rfl rfl rfl)
/-- spec.MailLower -/
noncomputable def Γ13 : Gam := Γ12.add 112 con_MailLower
theorem g13 : GamOk Tryz.prog tab Γ13 := g12.walk hT hF (f := 20) rfl (by kernel_rfl) Tryz.func20 k_spec_MailLower (ok_MailLower _)
/-- spec.AMethods -/
noncomputable def Γ14 : Gam := Γ13.add 200 con_AMethods
theorem g14 : GamOk Tryz.prog tab Γ14 := g13.walk hT hF (f := 21) rfl (by kernel_rfl) Tryz.func21 k_spec_AMethods (ok_AMethods _)
/-- spec.AProps -/
noncomputable def Γ15 : Gam := Γ14.add 201 con_AProps
theorem g15 : GamOk Tryz.prog tab Γ15 := g14.walk hT hF (f := 22) rfl (by kernel_rfl) Tryz.func22 k_spec_AProps (ok_AProps _)
/-- spec.AValues -/
noncomputable def Γ16 : Gam := Γ15.add 203 con_AValues
theorem g16 : GamOk Tryz.prog tab Γ16 := g15.walk hT hF (f := 18) rfl (by kernel_rfl) Tryz.func18 k_spec_AValues (ok_AValues _)
/-- spec.AFits -/
noncomputable def Γ17 : Gam := Γ16.add 215 con_AFits
theorem g17 : GamOk Tryz.prog tab Γ17 := g16.walk hT hF (f := 7) rfl (by kernel_rfl) Tryz.func7 k_spec_AFits (ok_AFits _ rfl rfl rfl rfl rfl rfl rfl rfl)
/-- spec.AInfoOf -/
noncomputable def Γ18 : Gam := Γ17.add 206 con_AInfoOf
theorem g18 : GamOk Tryz.prog tab Γ18 := g17.walk hT hF (f := 23) rfl (by kernel_rfl) Tryz.func23 k_spec_AInfoOf (ok_AInfoOf _ rfl rfl rfl)
/-- spec.AMute -/
noncomputable def Γ19 : Gam := Γ18.add 248 con_AMute
theorem g19 : GamOk Tryz.prog tab Γ19 := g18.walk hT hF (f := 8) rfl (by kernel_rfl) Tryz.func8 k_spec_AMute (ok_AMute _ rfl)
/-- impl.resultFor -/
noncomputable def Γ20 : Gam := Γ19.add 235 con_resultFor
theorem g20 : GamOk Tryz.prog tab Γ20 := g19.walk hT hF (f := 29) rfl (by kernel_rfl) Tryz.func29 k_impl_resultFor (ok_resultFor _)
/-- authres.resultMethod -/
noncomputable def Γ21 : Gam := Γ20.add 237 con_resultMethod
theorem g21 : GamOk Tryz.prog tab Γ21 := g20.walk hT hF (f := 36) rfl (by kernel_rfl) Tryz.func36 k_authres_resultMethod (ok_resultMethod _)
/-- slices.Sort[[]string,string] -/
noncomputable def Γ22 : Gam := Γ21.addS 240 con_Sort
theorem g22 : GamOk Tryz.prog tab Γ22 := g21.addS hF (f := 43) rfl (by kernel_rfl) (ok_SortS ⟨Tryz.slices_Sort_string_none, Tryz.slices_Sort_string⟩)
/-- authres.tspecial -/
noncomputable def Γ23 : Gam := Γ22.add 243 con_tspecial
theorem g23 : GamOk Tryz.prog tab Γ23 := g22.walk hT hF (f := 62) rfl (by kernel_rfl) Tryz.func62 k_authres_tspecial (ok_tspecial _)
/-- authres.zzQuotes -/
noncomputable def Γ24 : Gam := Γ23.add 244 con_zzQuotes
theorem g24 : GamOk Tryz.prog tab Γ24 := g23.walk hT hF (f := 63) rfl (by kernel_rfl) Tryz.func63 k_authres_zzQuotes (ok_zzQuotes _)
/-- authres.formatValue -/
noncomputable def Γ25 : Gam := Γ24.add 241 con_formatValue
theorem g25 : GamOk Tryz.prog tab Γ25 := g24.walk hT hF (f := 44) rfl (by kernel_rfl) Tryz.func44 k_authres_formatValue (ok_formatValue _ rfl rfl)
/-- authres.addressOk -/
noncomputable def Γ26 : Gam := Γ25.add 245 con_addressOk
theorem g26 : GamOk Tryz.prog tab Γ26 := g25.walk hT hF (f := 64) rfl (by kernel_rfl) Tryz.func64 k_authres_addressOk (ok_addressOk _)
/-- authres.zzIsLetter -/
noncomputable def Γ27 : Gam := Γ26.add 246 con_zzIsLetter2
theorem g27 : GamOk Tryz.prog tab Γ27 := g26.walk hT hF (f := 65) rfl (by kernel_rfl) Tryz.func65 k_authres_zzIsLetter (ok_zzIsLetter2 _)
/-- authres.zzIsDigit -/
noncomputable def Γ28 : Gam := Γ27.add 247 con_zzIsDigit2
theorem g28 : GamOk Tryz.prog tab Γ28 := g27.walk hT hF (f := 66) rfl (by kernel_rfl) Tryz.func66 k_authres_zzIsDigit (ok_zzIsDigit2 _)
/-- authres.formatPvalue -/
noncomputable def Γ29 : Gam := Γ28.add 242 con_formatPvalue
theorem g29 : GamOk Tryz.prog tab Γ29 := g28.walk hT hF (f := 45) rfl (by kernel_rfl) Tryz.func45 k_authres_formatPvalue (ok_formatPvalue _ rfl rfl rfl rfl)
/-- authres.formatParams -/
noncomputable def Γ30 : Gam := Γ29.add 238 con_formatParams
theorem g30 : GamOk Tryz.prog tab Γ30 := g29.walk hT hF (f := 37) rfl (by kernel_rfl) Tryz.func37 k_authres_formatParams (ok_formatParams _ rfl rfl rfl)
/-- authres.AuthResult).format -/
noncomputable def Γ31 : Gam := Γ30.add 251 con_fAuth
theorem g31 : GamOk Tryz.prog tab Γ31 := g30.walk hT hF (f := 148) rfl (by kernel_rfl) Tryz.func148 k_authres_AuthResult_format (ok_fAuth _)
/-- authres.DKIMResult).format -/
noncomputable def Γ32 : Gam := Γ31.add 252 con_fDKIM
theorem g32 : GamOk Tryz.prog tab Γ32 := g31.walk hT hF (f := 150) rfl (by kernel_rfl) Tryz.func150 k_authres_DKIMResult_format (ok_fDKIM _)
/-- authres.DomainKeysResult).format -/
noncomputable def Γ33 : Gam := Γ32.add 253 con_fDomk
theorem g33 : GamOk Tryz.prog tab Γ33 := g32.walk hT hF (f := 152) rfl (by kernel_rfl) Tryz.func152 k_authres_DomainKeysResult_format (ok_fDomk _)
/-- authres.IPRevResult).format -/
noncomputable def Γ34 : Gam := Γ33.add 254 con_fIprev
theorem g34 : GamOk Tryz.prog tab Γ34 := g33.walk hT hF (f := 154) rfl (by kernel_rfl) Tryz.func154 k_authres_IPRevResult_format (ok_fIprev _)
/-- authres.zzToLower -/
noncomputable def Γ35 : Gam := Γ34.add 172 con_zzToLower
theorem g35 : GamOk Tryz.prog tab Γ35 := g34.walk hT hF (f := 71) rfl (by kernel_rfl) Tryz.func71 k_authres_zzToLower (ar_ok_zzToLower _)
/-- authres.SenderIDResult).format -/
noncomputable def Γ36 : Gam := Γ35.add 255 con_fSender
theorem g36 : GamOk Tryz.prog tab Γ36 := g35.walk hT hF (f := 156) rfl (by kernel_rfl) Tryz.func156 k_authres_SenderIDResult_format (ok_fSender _ rfl)
/-- authres.SPFResult).format -/
noncomputable def Γ37 : Gam := Γ36.add 256 con_fSpf
theorem g37 : GamOk Tryz.prog tab Γ37 := g36.walk hT hF (f := 162) rfl (by kernel_rfl) Tryz.func162 k_authres_SPFResult_format (ok_fSpf _)
/-- authres.DMARCResult).format -/
noncomputable def Γ38 : Gam := Γ37.add 257 con_fDmarc
theorem g38 : GamOk Tryz.prog tab Γ38 := g37.walk hT hF (f := 164) rfl (by kernel_rfl) Tryz.func164 k_authres_DMARCResult_format (ok_fDmarc _)
/-- authres.GenericResult).format -/
noncomputable def Γ39 : Gam := Γ38.add 258 con_fGen
theorem g39 : GamOk Tryz.prog tab Γ39 := g38.walk hT hF (f := 168) rfl (by kernel_rfl) Tryz.func168 k_authres_GenericResult_format (ok_fGen _)
/-- authres.Format -/
noncomputable def Γ40 : Gam := Γ39.add 236 con_Format
theorem g40 : GamOk Tryz.prog tab Γ40 := g39.walk hT hF (f := 30) rfl (by kernel_rfl) Tryz.func30 k_authres_Format (ok_Format _ rfl rfl rfl rfl rfl rfl rfl rfl rfl rfl rfl rfl rfl rfl rfl rfl rfl rfl)
/-- impl.AFormat -/
noncomputable def Γ41 : Gam := Γ40.add 233 con_AFormat
theorem g41 : GamOk Tryz.prog tab Γ41 := g40.walk hT hF (f := 10) rfl (by kernel_rfl) Tryz.func10 k_impl_AFormat (ok_AFormat _ rfl rfl)
/-- spec.areader).has -/
noncomputable def Γ42 : Gam := Γ41.addS 224 con_has
theorem g42 : GamOk Tryz.prog tab Γ42 := g41.walkS hT hF (f := 27) rfl (by kernel_rfl) Tryz.func27 k_spec_areader_has (ok_has _)
/-- spec.areader).word -/
noncomputable def Γ43 : Gam := Γ42.addS 226 con_word
theorem g43 : GamOk Tryz.prog tab Γ43 := g42.walkS hT hF (f := 26) rfl (by kernel_rfl) Tryz.func26 k_spec_areader_word (ok_word _ rfl rfl)
/-- spec.areader).blank -/
noncomputable def Γ44 : Gam := Γ43.addS 227 con_blank
theorem g44 : GamOk Tryz.prog tab Γ44 := g43.walkS hT hF (f := 24) rfl (by kernel_rfl) Tryz.func24 k_spec_areader_blank (ok_blank _ rfl)
/-- spec.areader).quoted -/
noncomputable def Γ45 : Gam := Γ44.addS 225 con_quoted
theorem g45 : GamOk Tryz.prog tab Γ45 := g44.walkS hT hF (f := 35) rfl (by kernel_rfl) Tryz.func35 k_spec_areader_quoted (ok_quoted _)
/-- spec.areader).value -/
noncomputable def Γ46 : Gam := Γ45.addS 228 con_value
theorem g46 : GamOk Tryz.prog tab Γ46 := g45.walkS hT hF (f := 25) rfl (by kernel_rfl) Tryz.func25 k_spec_areader_value (ok_value _ rfl rfl rfl)
/-- spec.areader).info -/
noncomputable def Γ47 : Gam := Γ46.addS 229 con_info
theorem g47 : GamOk Tryz.prog tab Γ47 := g46.walkS hT hF (f := 28) rfl (by kernel_rfl) Tryz.func28 k_spec_areader_info (rok_info _ rfl rfl rfl rfl rfl rfl rfl)
/-- spec.ARead -/
noncomputable def Γ48 : Gam := Γ47.add 234 con_ARead
theorem g48 : GamOk Tryz.prog tab Γ48 := g47.walk hT hF (f := 9) rfl (by kernel_rfl) Tryz.func9 k_spec_ARead (rok_ARead _ rfl rfl rfl rfl rfl)
/-- spec.AAgree -/
noncomputable def Γ49 : Gam := Γ48.add 249 con_AAgree
theorem g49 : GamOk Tryz.prog tab Γ49 := g48.walk hT hF (f := 11) rfl (by kernel_rfl) Tryz.func11 k_spec_AAgree (ok_AAgree _ rfl rfl)
/-- authres.zzIndex -/
noncomputable def Γ50 : Gam := Γ49.add 169 con_zzIndex
theorem g50 : GamOk Tryz.prog tab Γ50 := g49.walk hT hF (f := 67) rfl (by kernel_rfl) Tryz.func67 k_authres_zzIndex (ar_ok_zzIndex _)
/-- authres.zzSplit -/
noncomputable def Γ51 : Gam := Γ50.addS 162 con_zzSplit
theorem g51 : GamOk Tryz.prog tab Γ51 := g50.walkS hT hF (f := 46) rfl (by kernel_rfl) Tryz.func46 k_authres_zzSplit (ar_ok_zzSplit _ rfl)
/-- authres.zzIsSpace -/
noncomputable def Γ52 : Gam := Γ51.add 165 con_zzIsSpace
theorem g52 : GamOk Tryz.prog tab Γ52 := g51.walk hT hF (f := 49) rfl (by kernel_rfl) Tryz.func49 k_authres_zzIsSpace (ar_ok_zzIsSpace _)
/-- authres.zzTrimSpace -/
noncomputable def Γ53 : Gam := Γ52.add 163 con_zzTrimSpace
theorem g53 : GamOk Tryz.prog tab Γ53 := g52.walk hT hF (f := 47) rfl (by kernel_rfl) Tryz.func47 k_authres_zzTrimSpace (ar_ok_zzTrimSpace _ rfl)
/-- strings.indexFunc -/
noncomputable def Γ54 : Gam := Γ53.add 197 con_indexFunc
theorem g54 : GamOk Tryz.prog tab Γ54 := g53.walk hT hF (f := 68) rfl (by kernel_rfl) Tryz.func68 k_strings_indexFunc (ok_indexFunc _ rfl)
/-- strings.IndexFunc -/
noncomputable def Γ55 : Gam := Γ54.add 164 con_IndexFunc
theorem g55 : GamOk Tryz.prog tab Γ55 := g54.walk hT hF (f := 48) rfl (by kernel_rfl) Tryz.func48 k_strings_IndexFunc (ok_IndexFunc _ rfl)
/-- errors.New -/
noncomputable def Γ56 : Gam := Γ55.add 50 con_errorsNew
theorem g56 : GamOk Tryz.prog tab Γ56 := g55.walk hT hF (f := 50) rfl (by kernel_rfl) Tryz.func50 k_errors_New (ok_errorsNew _)
/-- authres.zzFields -/
noncomputable def Γ57 : Gam := Γ56.add 170 con_zzFields
theorem g57 : GamOk Tryz.prog tab Γ57 := g56.walk hT hF (f := 69) rfl (by kernel_rfl) Tryz.func69 k_authres_zzFields (ok_zzFields _ rfl)
/-- authres.zzCut -/
noncomputable def Γ58 : Gam := Γ57.add 174 con_zzCut
theorem g58 : GamOk Tryz.prog tab Γ58 := g57.walk hT hF (f := 91) rfl (by kernel_rfl) Tryz.func91 k_authres_zzCut (ar_ok_zzCut _ rfl)
/-- authres.parseParam -/
noncomputable def Γ59 : Gam := Γ58.add 171 con_parseParam
theorem g59 : GamOk Tryz.prog tab Γ59 := g58.walk hT hF (f := 70) rfl (by kernel_rfl) Tryz.func70 k_authres_parseParam (ok_parseParam _ rfl rfl rfl rfl)
/-- authres.newResults -/
noncomputable def Γ60 : Gam := Γ59.add 173 con_newResults
theorem g60 : GamOk Tryz.prog tab Γ60 := g59.walk hT hF (f := 72) rfl (by kernel_rfl) Tryz.func72 k_authres_newResults (ok_newResults _)
/-- authres.newResults$1 -/
noncomputable def Γ61 : Gam := Γ60.addS 175 con_nArc
theorem g61 : GamOk Tryz.prog tab Γ61 := g60.walkS hT hF (f := 92) rfl (by kernel_rfl) Tryz.func92 k_authres_newResults_1 (ok_nArc _)
/-- authres.newResults$2 -/
noncomputable def Γ62 : Gam := Γ61.addS 176 con_nAuth
theorem g62 : GamOk Tryz.prog tab Γ62 := g61.walkS hT hF (f := 93) rfl (by kernel_rfl) Tryz.func93 k_authres_newResults_2 (ok_nAuth _)
/-- authres.newResults$3 -/
noncomputable def Γ63 : Gam := Γ62.addS 177 con_nDKIM
theorem g63 : GamOk Tryz.prog tab Γ63 := g62.walkS hT hF (f := 94) rfl (by kernel_rfl) Tryz.func94 k_authres_newResults_3 (ok_nDKIM _)
/-- authres.newResults$4 -/
noncomputable def Γ64 : Gam := Γ63.addS 178 con_nDomk
theorem g64 : GamOk Tryz.prog tab Γ64 := g63.walkS hT hF (f := 95) rfl (by kernel_rfl) Tryz.func95 k_authres_newResults_4 (ok_nDomk _)
/-- authres.newResults$5 -/
noncomputable def Γ65 : Gam := Γ64.addS 179 con_nIprev
theorem g65 : GamOk Tryz.prog tab Γ65 := g64.walkS hT hF (f := 96) rfl (by kernel_rfl) Tryz.func96 k_authres_newResults_5 (ok_nIprev _)
/-- authres.newResults$6 -/
noncomputable def Γ66 : Gam := Γ65.addS 180 con_nSender
theorem g66 : GamOk Tryz.prog tab Γ66 := g65.walkS hT hF (f := 97) rfl (by kernel_rfl) Tryz.func97 k_authres_newResults_6 (ok_nSender _)
/-- authres.newResults$7 -/
noncomputable def Γ67 : Gam := Γ66.addS 181 con_nSpf
theorem g67 : GamOk Tryz.prog tab Γ67 := g66.walkS hT hF (f := 98) rfl (by kernel_rfl) Tryz.func98 k_authres_newResults_7 (ok_nSpf _)
/-- authres.newResults$8 -/
noncomputable def Γ68 : Gam := Γ67.addS 182 con_nDmarc
theorem g68 : GamOk Tryz.prog tab Γ68 := g67.walkS hT hF (f := 99) rfl (by kernel_rfl) Tryz.func99 k_authres_newResults_8 (ok_nDmarc _)
/-- authres.AuthResult).parse -/
noncomputable def Γ69 : Gam := Γ68.addS 187 con_pAuth
theorem g69 : GamOk Tryz.prog tab Γ69 := g68.walkS hT hF (f := 149) rfl (by kernel_rfl) Tryz.func149 k_authres_AuthResult_parse (ok_pAuth _)
/-- authres.DKIMResult).parse -/
noncomputable def Γ70 : Gam := Γ69.addS 188 con_pDKIM
theorem g70 : GamOk Tryz.prog tab Γ70 := g69.walkS hT hF (f := 151) rfl (by kernel_rfl) Tryz.func151 k_authres_DKIMResult_parse (ok_pDKIM _)
/-- authres.DomainKeysResult).parse -/
noncomputable def Γ71 : Gam := Γ70.addS 189 con_pDomk
theorem g71 : GamOk Tryz.prog tab Γ71 := g70.walkS hT hF (f := 153) rfl (by kernel_rfl) Tryz.func153 k_authres_DomainKeysResult_parse (ok_pDomk _)
/-- authres.IPRevResult).parse -/
noncomputable def Γ72 : Gam := Γ71.addS 190 con_pIprev
theorem g72 : GamOk Tryz.prog tab Γ72 := g71.walkS hT hF (f := 155) rfl (by kernel_rfl) Tryz.func155 k_authres_IPRevResult_parse (ok_pIprev _)
/-- maps.Keys[map[string]string,string,string] -/
noncomputable def Γ73 : Gam := Γ72.add 48 con_Keys
theorem g73 : GamOk Tryz.prog tab Γ73 := g72.walk hT hF (f := 74) rfl (by kernel_rfl) Tryz.func74 k_maps_Keys (ok_Keys _)
/-- slices.Sorted[string] -/
noncomputable def Γ74 : Gam := Γ73.add 49 con_Sorted
theorem g74 : GamOk Tryz.prog tab Γ74 := g73.add hF (f := 73) rfl (by kernel_rfl) (ok_Sorted ⟨lkN_only (by kernel_rfl), _, _, Tryz.sorted_key, fun Bm b nn D0 w => Tryz.slices_Sorted_keys_at Bm b nn D0 noVal w⟩)
/-- stringslite.HasPrefix -/
noncomputable def Γ75 : Gam := Γ74.add 198 con_HasPrefix
theorem g75 : GamOk Tryz.prog tab Γ75 := g74.walk hT hF (f := 160) rfl (by kernel_rfl) Tryz.func160 k_stringslite_HasPrefix (ok_HasPrefix0 _)
/-- strings.HasPrefix -/
noncomputable def Γ76 : Gam := Γ75.add 158 con_HasPrefix
theorem g76 : GamOk Tryz.prog tab Γ76 := g75.walk hT hF (f := 158) rfl (by kernel_rfl) Tryz.func158 k_strings_HasPrefix (ok_HasPrefix _ rfl)
/-- stringslite.TrimPrefix -/
noncomputable def Γ77 : Gam := Γ76.add 199 con_TrimPrefix
theorem g77 : GamOk Tryz.prog tab Γ77 := g76.walk hT hF (f := 161) rfl (by kernel_rfl) Tryz.func161 k_stringslite_TrimPrefix (ok_TrimPrefix0 _ rfl)
/-- strings.TrimPrefix -/
noncomputable def Γ78 : Gam := Γ77.add 192 con_TrimPrefix
theorem g78 : GamOk Tryz.prog tab Γ78 := g77.walk hT hF (f := 159) rfl (by kernel_rfl) Tryz.func159 k_strings_TrimPrefix (ok_TrimPrefix _ rfl)
/-- authres.SenderIDResult).parse -/
noncomputable def Γ79 : Gam := Γ78.addS 191 con_pSender
theorem g79 : GamOk Tryz.prog tab Γ79 := g78.walkS hT hF (f := 157) rfl (by kernel_rfl) Tryz.func157 k_authres_SenderIDResult_parse (ok_pSender _ rfl rfl rfl rfl)
/-- authres.SPFResult).parse -/
noncomputable def Γ80 : Gam := Γ79.addS 193 con_pSpf
theorem g80 : GamOk Tryz.prog tab Γ80 := g79.walkS hT hF (f := 163) rfl (by kernel_rfl) Tryz.func163 k_authres_SPFResult_parse (ok_pSpf _)
/-- authres.DMARCResult).parse -/
noncomputable def Γ81 : Gam := Γ80.addS 194 con_pDmarc
theorem g81 : GamOk Tryz.prog tab Γ81 := g80.walkS hT hF (f := 165) rfl (by kernel_rfl) Tryz.func165 k_authres_DMARCResult_parse (ok_pDmarc _)
/-- strconv.Atoi -/
noncomputable def Γ82 : Gam := Γ81.add 153 con_Atoi
theorem g82 : GamOk Tryz.prog tab Γ82 := g81.add hF (f := 57) rfl (by kernel_rfl) (ok_Atoi ⟨_, _, _, _, by kernel_rfl, by kernel_rfl, by kernel_rfl, fun s h1 v h2 w => Any.strconv_Atoi_ok Tryz.laysC172 s h1 v h2 w, fun s h1 h2 ev w h3 h4 => (Any.strconv_Atoi_syntax Tryz.laysC172 s h1 (badAt_eq h2) ev w h3 h4).mono (fun _ _ ⟨_, h, _, _, hb⟩ => ⟨_, h, hb⟩), fun s h1 h2 ev w h3 h4 => (Any.strconv_Atoi_range Tryz.laysC172 s h1 h2 ev w h3 h4).mono (fun _ _ ⟨_, h, _, _, hb⟩ => ⟨_, h, hb⟩)⟩)
/-- authres.ARCResult).parse -/
noncomputable def Γ83 : Gam := Γ82.addS 195 con_pArc
theorem g83 : GamOk Tryz.prog tab Γ83 := g82.walkS hT hF (f := 167) rfl (by kernel_rfl) Tryz.func167 k_authres_ARCResult_parse (ok_pArc _ rfl rfl)
/-- authres.GenericResult).parse -/
noncomputable def Γ84 : Gam := Γ83.addS 196 con_pGen
theorem g84 : GamOk Tryz.prog tab Γ84 := g83.walkS hT hF (f := 169) rfl (by kernel_rfl) Tryz.func169 k_authres_GenericResult_parse (ok_pGen _)
/-- authres.parseResult -/
noncomputable def Γ85 : Gam := Γ84.add 166 con_parseResult
theorem g85 : GamOk Tryz.prog tab Γ85 := g84.walk hT hF (f := 51) rfl (by kernel_rfl) Tryz.func51 k_authres_parseResult (fl_ok_parseResult _ rfl rfl rfl rfl rfl rfl rfl rfl rfl rfl rfl rfl rfl rfl rfl rfl rfl rfl rfl rfl rfl rfl rfl rfl rfl rfl rfl rfl rfl rfl)
/-- authres.Parse -/
noncomputable def Γ86 : Gam := Γ85.add 156 con_adParse
theorem g86 : GamOk Tryz.prog tab Γ86 := g85.walk hT hF (f := 38) rfl (by kernel_rfl) Tryz.func38 k_authres_Parse (ok_adParse _ rfl rfl rfl rfl rfl)
/-- impl.paramsOf -/
noncomputable def Γ87 : Gam := Γ86.add 167 con_paramsOf
theorem g87 : GamOk Tryz.prog tab Γ87 := g86.walk hT hF (f := 52) rfl (by kernel_rfl) Tryz.func52 k_impl_paramsOf (ok_paramsOf _ rfl rfl)
/-- impl.resultOf -/
noncomputable def Γ88 : Gam := Γ87.add 157 con_resultOf
theorem g88 : GamOk Tryz.prog tab Γ88 := g87.walk hT hF (f := 39) rfl (by kernel_rfl) Tryz.func39 k_impl_resultOf (ok_resultOf _ rfl)
/-- impl.AParse -/
noncomputable def Γ89 : Gam := Γ88.add 144 con_AParse
theorem g89 : GamOk Tryz.prog tab Γ89 := g88.walk hT hF (f := 31) rfl (by kernel_rfl) Tryz.func31 k_impl_AParse (ok_AParse _ rfl rfl)
/-- dmarc.zzIndex -/
noncomputable def Γ90 : Gam := Γ89.add 161 con_zzIndex
theorem g90 : GamOk Tryz.prog tab Γ90 := g89.walk hT hF (f := 79) rfl (by kernel_rfl) Tryz.func79 k_dmarc_zzIndex (dm_ok_zzIndex _)
/-- dmarc.zzSplit -/
noncomputable def Γ91 : Gam := Γ90.addS 154 con_zzSplit
theorem g91 : GamOk Tryz.prog tab Γ91 := g90.walkS hT hF (f := 58) rfl (by kernel_rfl) Tryz.func58 k_dmarc_zzSplit (dm_ok_zzSplit _ rfl)
/-- dmarc.zzCut2 -/
noncomputable def Γ92 : Gam := Γ91.add 159 con_dmCut2
theorem g92 : GamOk Tryz.prog tab Γ92 := g91.walk hT hF (f := 75) rfl (by kernel_rfl) Tryz.func75 k_dmarc_zzCut2 (dm_ok_zzCut2 _)
/-- dmarc.zzIsSpace -/
noncomputable def Γ93 : Gam := Γ92.add 168 con_zzIsSpace
theorem g93 : GamOk Tryz.prog tab Γ93 := g92.walk hT hF (f := 102) rfl (by kernel_rfl) Tryz.func102 k_dmarc_zzIsSpace (dm_ok_zzIsSpace _)
/-- dmarc.zzTrimSpace -/
noncomputable def Γ94 : Gam := Γ93.add 160 con_zzTrimSpace
theorem g94 : GamOk Tryz.prog tab Γ94 := g93.walk hT hF (f := 76) rfl (by kernel_rfl) Tryz.func76 k_dmarc_zzTrimSpace (dm_ok_zzTrimSpace _ rfl)
/-- dmarc.parseParams -/
noncomputable def Γ95 : Gam := Γ94.add 149 con_dmParams
theorem g95 : GamOk Tryz.prog tab Γ95 := g94.walk hT hF (f := 53) rfl (by kernel_rfl) Tryz.func53 k_dmarc_parseParams (ok_dmParams _ rfl rfl rfl rfl)
/-- dmarc.parsePolicy -/
noncomputable def Γ96 : Gam := Γ95.add 150 con_dmPolicy
theorem g96 : GamOk Tryz.prog tab Γ96 := g95.walk hT hF (f := 54) rfl (by kernel_rfl) Tryz.func54 k_dmarc_parsePolicy (ok_dmPolicy _ rfl)
/-- dmarc.parseAlignmentMode -/
noncomputable def Γ97 : Gam := Γ96.add 151 con_dmAlign
theorem g97 : GamOk Tryz.prog tab Γ97 := g96.walk hT hF (f := 55) rfl (by kernel_rfl) Tryz.func55 k_dmarc_parseAlignmentMode (ok_dmAlign _ rfl)
/-- dmarc.parseFailureOptions -/
noncomputable def Γ98 : Gam := Γ97.add 152 con_dmFo
theorem g98 : GamOk Tryz.prog tab Γ98 := g97.walk hT hF (f := 56) rfl (by kernel_rfl) Tryz.func56 k_dmarc_parseFailureOptions (ok_dmFo _ rfl rfl rfl)
/-- dmarc.parseURIList -/
noncomputable def Γ99 : Gam := Γ98.add 155 con_dmURIs
theorem g99 : GamOk Tryz.prog tab Γ99 := g98.walk hT hF (f := 59) rfl (by kernel_rfl) Tryz.func59 k_dmarc_parseURIList (ok_dmURIs _ rfl rfl)
/-- dmarc.Parse -/
noncomputable def Γ100 : Gam := Γ99.add 142 con_dmParse
theorem g100 : GamOk Tryz.prog tab Γ100 := g99.walk hT hF (f := 40) rfl (by kernel_rfl) Tryz.func40 k_dmarc_Parse (ok_dmParse _ rfl rfl rfl rfl rfl rfl rfl rfl)
/-- impl.recordOf -/
noncomputable def Γ101 : Gam := Γ100.add 143 con_recordOf
theorem g101 : GamOk Tryz.prog tab Γ101 := g100.walk hT hF (f := 41) rfl (by kernel_rfl) Tryz.func41 k_impl_recordOf (ok_recordOf _)
/-- impl.MParse -/
noncomputable def Γ102 : Gam := Γ101.add 133 con_MParse
theorem g102 : GamOk Tryz.prog tab Γ102 := g101.walk hT hF (f := 32) rfl (by kernel_rfl) Tryz.func32 k_impl_MParse (ok_MParse _ rfl rfl)
/-- laws.awake -/
noncomputable def Γ103 : Gam := Γ102.add 137 con_awake
theorem g103 : GamOk Tryz.prog tab Γ103 := g102.walk hT hF (f := 12) rfl (by kernel_rfl) Tryz.func12 k_laws_awake (au_ok_awake _ rfl rfl)
/-- laws.FnAuthFormats -/
noncomputable def Γ104 : Gam := Γ103.add 261 con_FnAuthFormats
theorem g104 : GamOk Tryz.prog tab Γ104 := g103.walk hT hF (f := 3) rfl (by kernel_rfl) Tryz.func3 k_laws_FnAuthFormats (ok_FnAuthFormats _ rfl rfl rfl rfl rfl rfl rfl rfl rfl)
theorem ok_FnAuthFormats : ∀ args r, con_FnAuthFormats args = some r → OkCall Tryz.prog tab 3 args r := fun args r h => (g104.fn 3 261 args r rfl h).2
end Go.Proofs.YtpmdjfblfpjpoaaGreatDoor
