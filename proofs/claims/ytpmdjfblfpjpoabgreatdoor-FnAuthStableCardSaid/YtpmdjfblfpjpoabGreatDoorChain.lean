/- The contracts of the functions of this program, one behind the other. -/
import Derived.Test.YtpmdjfblfpjpoabGreatDoorSeat
import Derived.Test.YtpmdjfblfpjpoabGreatDoorTryzShelf
import Derived.Test.YtpmdjfblfpjpoabGreatDoorWh
set_option linter.all false
namespace Go.Proofs.YtpmdjfblfpjpoabGreatDoor
open Wax
def ms : List (Nat × String × Nat) := [(7, "given.example/pub-waxseal/pub/msgauth/authres.parse", 195), (8, "given.example/pub-waxseal/pub/msgauth/authres.format", 251), (8, "given.example/pub-waxseal/pub/msgauth/authres.parse", 187), (9, "given.example/pub-waxseal/pub/msgauth/authres.format", 252), (9, "given.example/pub-waxseal/pub/msgauth/authres.parse", 188), (10, "given.example/pub-waxseal/pub/msgauth/authres.format", 253), (10, "given.example/pub-waxseal/pub/msgauth/authres.parse", 189), (11, "given.example/pub-waxseal/pub/msgauth/authres.format", 254), (11, "given.example/pub-waxseal/pub/msgauth/authres.parse", 190), (12, "given.example/pub-waxseal/pub/msgauth/authres.format", 255), (12, "given.example/pub-waxseal/pub/msgauth/authres.parse", 191), (13, "given.example/pub-waxseal/pub/msgauth/authres.format", 256), (13, "given.example/pub-waxseal/pub/msgauth/authres.parse", 193), (14, "given.example/pub-waxseal/pub/msgauth/authres.format", 257), (14, "given.example/pub-waxseal/pub/msgauth/authres.parse", 194), (15, "given.example/pub-waxseal/pub/msgauth/authres.format", 258), (15, "given.example/pub-waxseal/pub/msgauth/authres.parse", 196)]
theorem hT : injB tab.tys = true := by kernel_rfl
theorem hF : injB tab.fns = true := by kernel_rfl
theorem g0 : GamOk Tryz.prog tab (gam0 ms) := mthsB_spec (by kernel_rfl)
/-- authres.zzIndex -/
noncomputable def Γ1 : Gam := (gam0 ms).add 169 con_zzIndex
theorem g1 : GamOk Tryz.prog tab Γ1 := g0.walk hT hF (f := 38) rfl (by kernel_rfl) Tryz.func38 k_authres_zzIndex (ar_ok_zzIndex _)
/-- authres.zzSplit -/
noncomputable def Γ2 : Gam := Γ1.addS 162 con_zzSplit
theorem g2 : GamOk Tryz.prog tab Γ2 := g1.walkS hT hF (f := 26) rfl (by kernel_rfl) Tryz.func26 k_authres_zzSplit (ar_ok_zzSplit _ rfl)
/-- authres.zzIsSpace -/
noncomputable def Γ3 : Gam := Γ2.add 165 con_spU
theorem g3 : GamOk Tryz.prog tab Γ3 := g2.walk hT hF (f := 29) rfl (by kernel_rfl) Tryz.func29 k_authres_zzIsSpace (u_ok_zzIsSpace _)
/-- authres.zzTrimSpace -/
noncomputable def Γ4 : Gam := Γ3.add 163 con_trimU
theorem g4 : GamOk Tryz.prog tab Γ4 := g3.walk hT hF (f := 27) rfl (by kernel_rfl) Tryz.func27 k_authres_zzTrimSpace (u_ok_zzTrimSpace _ rfl)
/-- strings.indexFunc -/
noncomputable def Γ5 : Gam := Γ4.add 197 con_ixU
theorem g5 : GamOk Tryz.prog tab Γ5 := g4.walk hT hF (f := 39) rfl (by kernel_rfl) Tryz.func39 k_strings_indexFunc (u_ok_indexFunc _ rfl)
/-- strings.IndexFunc -/
noncomputable def Γ6 : Gam := Γ5.add 164 con_IxU
theorem g6 : GamOk Tryz.prog tab Γ6 := g5.walk hT hF (f := 28) rfl (by kernel_rfl) Tryz.func28 k_strings_IndexFunc (u_ok_IndexFunc _ rfl)
/-- errors.New -/
noncomputable def Γ7 : Gam := Γ6.add 50 con_errorsNew
theorem g7 : GamOk Tryz.prog tab Γ7 := g6.walk hT hF (f := 30) rfl (by kernel_rfl) Tryz.func30 k_errors_New (ok_errorsNew _)
/-- authres.zzFields -/
noncomputable def Γ8 : Gam := Γ7.add 170 con_wordsU
theorem g8 : GamOk Tryz.prog tab Γ8 := g7.walk hT hF (f := 40) rfl (by kernel_rfl) Tryz.func40 k_authres_zzFields (u_ok_zzFields _ rfl)
/-- authres.zzCut -/
noncomputable def Γ9 : Gam := Γ8.add 174 con_zzCut
theorem g9 : GamOk Tryz.prog tab Γ9 := g8.walk hT hF (f := 56) rfl (by kernel_rfl) Tryz.func56 k_authres_zzCut (ar_ok_zzCut _ rfl)
/-- authres.zzToLower -/
noncomputable def Γ10 : Gam := Γ9.add 172 con_lowU
theorem g10 : GamOk Tryz.prog tab Γ10 := g9.walk hT hF (f := 42) rfl (by kernel_rfl) Tryz.func42 k_authres_zzToLower (u_ok_zzToLower _)
/-- authres.parseParam -/
noncomputable def Γ11 : Gam := Γ10.add 171 con_paramU
theorem g11 : GamOk Tryz.prog tab Γ11 := g10.walk hT hF (f := 41) rfl (by kernel_rfl) Tryz.func41 k_authres_parseParam (u_ok_parseParam _ rfl rfl rfl rfl)
/-- authres.newResults -/
noncomputable def Γ12 : Gam := Γ11.add 173 con_newResults
theorem g12 : GamOk Tryz.prog tab Γ12 := g11.walk hT hF (f := 43) rfl (by kernel_rfl) Tryz.func43 k_authres_newResults (ok_newResults _)
/-- authres.newResults$1 -/
noncomputable def Γ13 : Gam := Γ12.addS 175 con_nArc
theorem g13 : GamOk Tryz.prog tab Γ13 := g12.walkS hT hF (f := 57) rfl (by kernel_rfl) Tryz.func57 k_authres_newResults_1 (ok_nArc _)
/-- authres.newResults$2 -/
noncomputable def Γ14 : Gam := Γ13.addS 176 con_nAuth
theorem g14 : GamOk Tryz.prog tab Γ14 := g13.walkS hT hF (f := 58) rfl (by kernel_rfl) Tryz.func58 k_authres_newResults_2 (ok_nAuth _)
/-- authres.newResults$3 -/
noncomputable def Γ15 : Gam := Γ14.addS 177 con_nDKIM
theorem g15 : GamOk Tryz.prog tab Γ15 := g14.walkS hT hF (f := 59) rfl (by kernel_rfl) Tryz.func59 k_authres_newResults_3 (ok_nDKIM _)
/-- authres.newResults$4 -/
noncomputable def Γ16 : Gam := Γ15.addS 178 con_nDomk
theorem g16 : GamOk Tryz.prog tab Γ16 := g15.walkS hT hF (f := 60) rfl (by kernel_rfl) Tryz.func60 k_authres_newResults_4 (ok_nDomk _)
/-- authres.newResults$5 -/
noncomputable def Γ17 : Gam := Γ16.addS 179 con_nIprev
theorem g17 : GamOk Tryz.prog tab Γ17 := g16.walkS hT hF (f := 61) rfl (by kernel_rfl) Tryz.func61 k_authres_newResults_5 (ok_nIprev _)
/-- authres.newResults$6 -/
noncomputable def Γ18 : Gam := Γ17.addS 180 con_nSender
theorem g18 : GamOk Tryz.prog tab Γ18 := g17.walkS hT hF (f := 62) rfl (by kernel_rfl) Tryz.func62 k_authres_newResults_6 (ok_nSender _)
/-- authres.newResults$7 -/
noncomputable def Γ19 : Gam := Γ18.addS 181 con_nSpf
theorem g19 : GamOk Tryz.prog tab Γ19 := g18.walkS hT hF (f := 63) rfl (by kernel_rfl) Tryz.func63 k_authres_newResults_7 (ok_nSpf _)
/-- authres.newResults$8 -/
noncomputable def Γ20 : Gam := Γ19.addS 182 con_nDmarc
theorem g20 : GamOk Tryz.prog tab Γ20 := g19.walkS hT hF (f := 64) rfl (by kernel_rfl) Tryz.func64 k_authres_newResults_8 (ok_nDmarc _)
/-- authres.AuthResult).parse -/
noncomputable def Γ21 : Gam := Γ20.addS 187 con_pAuth
theorem g21 : GamOk Tryz.prog tab Γ21 := g20.walkS hT hF (f := 137) rfl (by kernel_rfl) Tryz.func137 k_authres_AuthResult_parse (ok_pAuth _)
/-- authres.DKIMResult).parse -/
noncomputable def Γ22 : Gam := Γ21.addS 188 con_pDKIM
theorem g22 : GamOk Tryz.prog tab Γ22 := g21.walkS hT hF (f := 139) rfl (by kernel_rfl) Tryz.func139 k_authres_DKIMResult_parse (ok_pDKIM _)
/-- authres.DomainKeysResult).parse -/
noncomputable def Γ23 : Gam := Γ22.addS 189 con_pDomk
theorem g23 : GamOk Tryz.prog tab Γ23 := g22.walkS hT hF (f := 141) rfl (by kernel_rfl) Tryz.func141 k_authres_DomainKeysResult_parse (ok_pDomk _)
/-- authres.IPRevResult).parse -/
noncomputable def Γ24 : Gam := Γ23.addS 190 con_pIprev
theorem g24 : GamOk Tryz.prog tab Γ24 := g23.walkS hT hF (f := 143) rfl (by kernel_rfl) Tryz.func143 k_authres_IPRevResult_parse (ok_pIprev _)
/-- maps.Keys[map[string]string,string,string] -/
noncomputable def Γ25 : Gam := Γ24.add 48 con_Keys
theorem g25 : GamOk Tryz.prog tab Γ25 := g24.walk hT hF (f := 45) rfl (by kernel_rfl) Tryz.func45 k_maps_Keys (ok_Keys _)
/-- slices.Sorted[string] -/
noncomputable def Γ26 : Gam := Γ25.add 49 con_Sorted
theorem g26 : GamOk Tryz.prog tab Γ26 := g25.add hF (f := 44) rfl (by kernel_rfl) (ok_Sorted ⟨lkN_only (by kernel_rfl), _, _, Tryz.sorted_key, fun Bm b nn D0 w => Tryz.slices_Sorted_keys_at Bm b nn D0 noVal w⟩)
/-- stringslite.HasPrefix -/
noncomputable def Γ27 : Gam := Γ26.add 198 con_HasPrefix
theorem g27 : GamOk Tryz.prog tab Γ27 := g26.walk hT hF (f := 148) rfl (by kernel_rfl) Tryz.func148 k_stringslite_HasPrefix (ok_HasPrefix0 _)
/-- strings.HasPrefix -/
noncomputable def Γ28 : Gam := Γ27.add 158 con_HasPrefix
theorem g28 : GamOk Tryz.prog tab Γ28 := g27.walk hT hF (f := 146) rfl (by kernel_rfl) Tryz.func146 k_strings_HasPrefix (ok_HasPrefix _ rfl)
/-- stringslite.TrimPrefix -/
noncomputable def Γ29 : Gam := Γ28.add 199 con_TrimPrefix
theorem g29 : GamOk Tryz.prog tab Γ29 := g28.walk hT hF (f := 149) rfl (by kernel_rfl) Tryz.func149 k_stringslite_TrimPrefix (ok_TrimPrefix0 _ rfl)
/-- strings.TrimPrefix -/
noncomputable def Γ30 : Gam := Γ29.add 192 con_TrimPrefix
theorem g30 : GamOk Tryz.prog tab Γ30 := g29.walk hT hF (f := 147) rfl (by kernel_rfl) Tryz.func147 k_strings_TrimPrefix (ok_TrimPrefix _ rfl)
/-- authres.SenderIDResult).parse -/
noncomputable def Γ31 : Gam := Γ30.addS 191 con_pSender
theorem g31 : GamOk Tryz.prog tab Γ31 := g30.walkS hT hF (f := 145) rfl (by kernel_rfl) Tryz.func145 k_authres_SenderIDResult_parse (ok_pSender _ rfl rfl rfl rfl)
/-- authres.SPFResult).parse -/
noncomputable def Γ32 : Gam := Γ31.addS 193 con_pSpf
theorem g32 : GamOk Tryz.prog tab Γ32 := g31.walkS hT hF (f := 151) rfl (by kernel_rfl) Tryz.func151 k_authres_SPFResult_parse (ok_pSpf _)
/-- authres.DMARCResult).parse -/
noncomputable def Γ33 : Gam := Γ32.addS 194 con_pDmarc
theorem g33 : GamOk Tryz.prog tab Γ33 := g32.walkS hT hF (f := 153) rfl (by kernel_rfl) Tryz.func153 k_authres_DMARCResult_parse (ok_pDmarc _)
/-- strconv.Atoi -/
noncomputable def Γ34 : Gam := Γ33.add 153 con_Atoi
theorem g34 : GamOk Tryz.prog tab Γ34 := g33.add hF (f := 50) rfl (by kernel_rfl) (ok_Atoi ⟨_, _, _, _, by kernel_rfl, by kernel_rfl, by kernel_rfl, fun s h1 v h2 w => Any.strconv_Atoi_ok Tryz.laysC172 s h1 v h2 w, fun s h1 h2 ev w h3 h4 => (Any.strconv_Atoi_syntax Tryz.laysC172 s h1 (badAt_eq h2) ev w h3 h4).mono (fun _ _ ⟨_, h, _, _, hb⟩ => ⟨_, h, hb⟩), fun s h1 h2 ev w h3 h4 => (Any.strconv_Atoi_range Tryz.laysC172 s h1 h2 ev w h3 h4).mono (fun _ _ ⟨_, h, _, _, hb⟩ => ⟨_, h, hb⟩)⟩)
/-- authres.ARCResult).parse -/
noncomputable def Γ35 : Gam := Γ34.addS 195 con_pArc
theorem g35 : GamOk Tryz.prog tab Γ35 := g34.walkS hT hF (f := 155) rfl (by kernel_rfl) Tryz.func155 k_authres_ARCResult_parse (ok_pArc _ rfl rfl)
/-- authres.GenericResult).parse -/
noncomputable def Γ36 : Gam := Γ35.addS 196 con_pGen
theorem g36 : GamOk Tryz.prog tab Γ36 := g35.walkS hT hF (f := 157) rfl (by kernel_rfl) Tryz.func157 k_authres_GenericResult_parse (ok_pGen _)
/-- authres.parseResult -/
noncomputable def Γ37 : Gam := Γ36.add 166 con_resU
theorem g37 : GamOk Tryz.prog tab Γ37 := g36.walk hT hF (f := 31) rfl (by kernel_rfl) Tryz.func31 k_authres_parseResult (u_ok_parseResult _ rfl rfl rfl rfl rfl rfl rfl rfl rfl rfl rfl rfl rfl rfl rfl rfl rfl rfl rfl rfl rfl rfl rfl rfl rfl rfl rfl rfl rfl rfl)
/-- authres.Parse -/
noncomputable def Γ38 : Gam := Γ37.add 156 con_adPU
theorem g38 : GamOk Tryz.prog tab Γ38 := g37.walk hT hF (f := 11) rfl (by kernel_rfl) Tryz.func11 k_authres_Parse (u_ok_adParse _ rfl rfl rfl rfl rfl)
/-- impl.paramsOf -/
noncomputable def Γ39 : Gam := Γ38.add 167 con_paramsOf
theorem g39 : GamOk Tryz.prog tab Γ39 := g38.walk hT hF (f := 32) rfl (by kernel_rfl) Tryz.func32 k_impl_paramsOf (ok_paramsOf _ rfl rfl)
/-- impl.resultOf -/
noncomputable def Γ40 : Gam := Γ39.add 157 con_resultOf
theorem g40 : GamOk Tryz.prog tab Γ40 := g39.walk hT hF (f := 12) rfl (by kernel_rfl) Tryz.func12 k_impl_resultOf (ok_resultOf _ rfl)
/-- impl.AParse -/
noncomputable def Γ41 : Gam := Γ40.add 144 con_APU
theorem g41 : GamOk Tryz.prog tab Γ41 := g40.walk hT hF (f := 4) rfl (by kernel_rfl) Tryz.func4 k_impl_AParse (u_ok_AParse _ rfl rfl)
/-- spec.MailHalves -/
noncomputable def Γ42 : Gam := Γ41.add 102 con_MailHalves
theorem g42 : GamOk Tryz.prog tab Γ42 := g41.walk hT hF (f := 13) rfl (by kernel_rfl) Tryz.func13 k_spec_MailHalves (ok_MailHalves _)
/-- spec.MailAny -/
noncomputable def Γ43 : Gam := Γ42.add 100 con_MailAny
theorem g43 : GamOk Tryz.prog tab Γ43 := g42.walk hT hF (f := 33) rfl (by kernel_rfl) Tryz.func33 k_spec_MailAny (ok_MailAny _)
/-- spec.MailToken -/
noncomputable def Γ44 : Gam := Γ43.add 104 con_MailToken
theorem g44 : GamOk Tryz.prog tab Γ44 := g43.walk hT hF (f := 14) rfl (by kernel_rfl) Tryz.func14 k_spec_MailToken (ok_MailToken _ rfl)
/-- spec.MailKeyword -/
noncomputable def Γ45 : Gam := Γ44.add 99 con_MailKeyword
theorem g45 : GamOk Tryz.prog tab Γ45 := g44.walk hT hF (f := 17) rfl (by kernel_rfl) Tryz.func17 k_spec_MailKeyword (ok_MailKeyword _)
/-- spec.MailDomain -/
noncomputable def Γ46 : Gam := Γ45.add 105 con_MailDomain
theorem g46 : GamOk Tryz.prog tab Γ46 := g45.walk hT hF (f := 15) rfl (by kernel_rfl) Tryz.func15 k_spec_MailDomain (ok_MailDomain _ rfl)
/-- spec.APlain -/
noncomputable def Γ47 : Gam := Γ46.add 204 con_APlain
theorem g47 : GamOk Tryz.prog tab Γ47 := g46.walk hT hF (f := 5) rfl (by kernel_rfl) Tryz.func5 k_spec_APlain (ok_APlain _ rfl rfl rfl)
/-- spec.MailLower -/
noncomputable def Γ48 : Gam := Γ47.add 112 con_MailLower
theorem g48 : GamOk Tryz.prog tab Γ48 := g47.walk hT hF (f := 18) rfl (by kernel_rfl) Tryz.func18 k_spec_MailLower (ok_MailLower _)
/-- spec.AMethods -/
noncomputable def Γ49 : Gam := Γ48.add 200 con_AMethods
theorem g49 : GamOk Tryz.prog tab Γ49 := g48.walk hT hF (f := 19) rfl (by kernel_rfl) Tryz.func19 k_spec_AMethods (ok_AMethods _)
/-- spec.AProps -/
noncomputable def Γ50 : Gam := Γ49.add 201 con_AProps
theorem g50 : GamOk Tryz.prog tab Γ50 := g49.walk hT hF (f := 20) rfl (by kernel_rfl) Tryz.func20 k_spec_AProps (ok_AProps _)
/-- spec.AValues -/
noncomputable def Γ51 : Gam := Γ50.add 203 con_AValues
theorem g51 : GamOk Tryz.prog tab Γ51 := g50.walk hT hF (f := 16) rfl (by kernel_rfl) Tryz.func16 k_spec_AValues (ok_AValues _)
/-- spec.AFits -/
noncomputable def Γ52 : Gam := Γ51.add 215 con_AFits
theorem g52 : GamOk Tryz.prog tab Γ52 := g51.walk hT hF (f := 6) rfl (by kernel_rfl) Tryz.func6 k_spec_AFits (ok_AFits _ rfl rfl rfl rfl rfl rfl rfl rfl)
/-- spec.AInfoOf -/
noncomputable def Γ53 : Gam := Γ52.add 206 con_AInfoOf
theorem g53 : GamOk Tryz.prog tab Γ53 := g52.walk hT hF (f := 21) rfl (by kernel_rfl) Tryz.func21 k_spec_AInfoOf (ok_AInfoOf _ rfl rfl rfl)
/-- spec.AMute -/
noncomputable def Γ54 : Gam := Γ53.add 248 con_AMute
theorem g54 : GamOk Tryz.prog tab Γ54 := g53.walk hT hF (f := 7) rfl (by kernel_rfl) Tryz.func7 k_spec_AMute (ok_AMute _ rfl)
/-- impl.resultFor -/
noncomputable def Γ55 : Gam := Γ54.add 235 con_resultFor
theorem g55 : GamOk Tryz.prog tab Γ55 := g54.walk hT hF (f := 23) rfl (by kernel_rfl) Tryz.func23 k_impl_resultFor (ok_resultFor _)
/-- authres.resultMethod -/
noncomputable def Γ56 : Gam := Γ55.add 237 con_resultMethod
theorem g56 : GamOk Tryz.prog tab Γ56 := g55.walk hT hF (f := 36) rfl (by kernel_rfl) Tryz.func36 k_authres_resultMethod (ok_resultMethod _)
/-- slices.Sort[[]string,string] -/
noncomputable def Γ57 : Gam := Γ56.addS 240 con_Sort
theorem g57 : GamOk Tryz.prog tab Γ57 := g56.addS hF (f := 53) rfl (by kernel_rfl) (ok_SortS ⟨Tryz.slices_Sort_string_none, Tryz.slices_Sort_string⟩)
/-- authres.tspecial -/
noncomputable def Γ58 : Gam := Γ57.add 243 con_tspecial
theorem g58 : GamOk Tryz.prog tab Γ58 := g57.walk hT hF (f := 74) rfl (by kernel_rfl) Tryz.func74 k_authres_tspecial (ok_tspecial _)
/-- authres.zzQuotes -/
noncomputable def Γ59 : Gam := Γ58.add 244 con_zzQuotes
theorem g59 : GamOk Tryz.prog tab Γ59 := g58.walk hT hF (f := 75) rfl (by kernel_rfl) Tryz.func75 k_authres_zzQuotes (ok_zzQuotes _)
/-- authres.formatValue -/
noncomputable def Γ60 : Gam := Γ59.add 241 con_formatValue
theorem g60 : GamOk Tryz.prog tab Γ60 := g59.walk hT hF (f := 54) rfl (by kernel_rfl) Tryz.func54 k_authres_formatValue (ok_formatValue _ rfl rfl)
/-- authres.addressOk -/
noncomputable def Γ61 : Gam := Γ60.add 245 con_addressOk
theorem g61 : GamOk Tryz.prog tab Γ61 := g60.walk hT hF (f := 76) rfl (by kernel_rfl) Tryz.func76 k_authres_addressOk (ok_addressOk _)
/-- authres.zzIsLetter -/
noncomputable def Γ62 : Gam := Γ61.add 246 con_zzIsLetter2
theorem g62 : GamOk Tryz.prog tab Γ62 := g61.walk hT hF (f := 77) rfl (by kernel_rfl) Tryz.func77 k_authres_zzIsLetter (ok_zzIsLetter2 _)
/-- authres.zzIsDigit -/
noncomputable def Γ63 : Gam := Γ62.add 247 con_zzIsDigit2
theorem g63 : GamOk Tryz.prog tab Γ63 := g62.walk hT hF (f := 78) rfl (by kernel_rfl) Tryz.func78 k_authres_zzIsDigit (ok_zzIsDigit2 _)
/-- authres.formatPvalue -/
noncomputable def Γ64 : Gam := Γ63.add 242 con_formatPvalue
theorem g64 : GamOk Tryz.prog tab Γ64 := g63.walk hT hF (f := 55) rfl (by kernel_rfl) Tryz.func55 k_authres_formatPvalue (ok_formatPvalue _ rfl rfl rfl rfl)
/-- authres.formatParams -/
noncomputable def Γ65 : Gam := Γ64.add 238 con_formatParams
theorem g65 : GamOk Tryz.prog tab Γ65 := g64.walk hT hF (f := 37) rfl (by kernel_rfl) Tryz.func37 k_authres_formatParams (ok_formatParams _ rfl rfl rfl)
/-- authres.AuthResult).format -/
noncomputable def Γ66 : Gam := Γ65.add 251 con_fAuth
theorem g66 : GamOk Tryz.prog tab Γ66 := g65.walk hT hF (f := 136) rfl (by kernel_rfl) Tryz.func136 k_authres_AuthResult_format (ok_fAuth _)
/-- authres.DKIMResult).format -/
noncomputable def Γ67 : Gam := Γ66.add 252 con_fDKIM
theorem g67 : GamOk Tryz.prog tab Γ67 := g66.walk hT hF (f := 138) rfl (by kernel_rfl) Tryz.func138 k_authres_DKIMResult_format (ok_fDKIM _)
/-- authres.DomainKeysResult).format -/
noncomputable def Γ68 : Gam := Γ67.add 253 con_fDomk
theorem g68 : GamOk Tryz.prog tab Γ68 := g67.walk hT hF (f := 140) rfl (by kernel_rfl) Tryz.func140 k_authres_DomainKeysResult_format (ok_fDomk _)
/-- authres.IPRevResult).format -/
noncomputable def Γ69 : Gam := Γ68.add 254 con_fIprev
theorem g69 : GamOk Tryz.prog tab Γ69 := g68.walk hT hF (f := 142) rfl (by kernel_rfl) Tryz.func142 k_authres_IPRevResult_format (ok_fIprev _)
/-- authres.SenderIDResult).format -/
noncomputable def Γ70 : Gam := Γ69.add 255 con_fSender
theorem g70 : GamOk Tryz.prog tab Γ70 := g69.walk hT hF (f := 144) rfl (by kernel_rfl) Tryz.func144 k_authres_SenderIDResult_format (u_ok_fSender _ rfl)
/-- authres.SPFResult).format -/
noncomputable def Γ71 : Gam := Γ70.add 256 con_fSpf
theorem g71 : GamOk Tryz.prog tab Γ71 := g70.walk hT hF (f := 150) rfl (by kernel_rfl) Tryz.func150 k_authres_SPFResult_format (ok_fSpf _)
/-- authres.DMARCResult).format -/
noncomputable def Γ72 : Gam := Γ71.add 257 con_fDmarc
theorem g72 : GamOk Tryz.prog tab Γ72 := g71.walk hT hF (f := 152) rfl (by kernel_rfl) Tryz.func152 k_authres_DMARCResult_format (ok_fDmarc _)
/-- authres.GenericResult).format -/
noncomputable def Γ73 : Gam := Γ72.add 258 con_fGen
theorem g73 : GamOk Tryz.prog tab Γ73 := g72.walk hT hF (f := 156) rfl (by kernel_rfl) Tryz.func156 k_authres_GenericResult_format (ok_fGen _)
/-- authres.Format -/
noncomputable def Γ74 : Gam := Γ73.add 236 con_Format
theorem g74 : GamOk Tryz.prog tab Γ74 := g73.walk hT hF (f := 24) rfl (by kernel_rfl) Tryz.func24 k_authres_Format (ok_Format _ rfl rfl rfl rfl rfl rfl rfl rfl rfl rfl rfl rfl rfl rfl rfl rfl rfl rfl)
/-- impl.AFormat -/
noncomputable def Γ75 : Gam := Γ74.add 233 con_AFormat
theorem g75 : GamOk Tryz.prog tab Γ75 := g74.walk hT hF (f := 9) rfl (by kernel_rfl) Tryz.func9 k_impl_AFormat (ok_AFormat _ rfl rfl)
/-- spec.ASame -/
noncomputable def Γ76 : Gam := Γ75.add 202 con_ASame
theorem g76 : GamOk Tryz.prog tab Γ76 := g75.walk hT hF (f := 25) rfl (by kernel_rfl) Tryz.func25 k_spec_ASame (ok_ASame _)
/-- spec.ASames -/
noncomputable def Γ77 : Gam := Γ76.add 217 con_ASames
theorem g77 : GamOk Tryz.prog tab Γ77 := g76.walk hT hF (f := 10) rfl (by kernel_rfl) Tryz.func10 k_spec_ASames (ok_ASames _ rfl)
/-- dmarc.zzIndex -/
noncomputable def Γ78 : Gam := Γ77.add 161 con_zzIndex
theorem g78 : GamOk Tryz.prog tab Γ78 := g77.walk hT hF (f := 71) rfl (by kernel_rfl) Tryz.func71 k_dmarc_zzIndex (dm_ok_zzIndex _)
/-- dmarc.zzSplit -/
noncomputable def Γ79 : Gam := Γ78.addS 154 con_zzSplit
theorem g79 : GamOk Tryz.prog tab Γ79 := g78.walkS hT hF (f := 51) rfl (by kernel_rfl) Tryz.func51 k_dmarc_zzSplit (dm_ok_zzSplit _ rfl)
/-- dmarc.zzCut2 -/
noncomputable def Γ80 : Gam := Γ79.add 159 con_dmCut2
theorem g80 : GamOk Tryz.prog tab Γ80 := g79.walk hT hF (f := 67) rfl (by kernel_rfl) Tryz.func67 k_dmarc_zzCut2 (dm_ok_zzCut2 _)
/-- dmarc.zzIsSpace -/
noncomputable def Γ81 : Gam := Γ80.add 168 con_zzIsSpace
theorem g81 : GamOk Tryz.prog tab Γ81 := g80.walk hT hF (f := 80) rfl (by kernel_rfl) Tryz.func80 k_dmarc_zzIsSpace (dm_ok_zzIsSpace _)
/-- dmarc.zzTrimSpace -/
noncomputable def Γ82 : Gam := Γ81.add 160 con_zzTrimSpace
theorem g82 : GamOk Tryz.prog tab Γ82 := g81.walk hT hF (f := 68) rfl (by kernel_rfl) Tryz.func68 k_dmarc_zzTrimSpace (dm_ok_zzTrimSpace _ rfl)
/-- dmarc.parseParams -/
noncomputable def Γ83 : Gam := Γ82.add 149 con_dmParams
theorem g83 : GamOk Tryz.prog tab Γ83 := g82.walk hT hF (f := 46) rfl (by kernel_rfl) Tryz.func46 k_dmarc_parseParams (ok_dmParams _ rfl rfl rfl rfl)
/-- dmarc.parsePolicy -/
noncomputable def Γ84 : Gam := Γ83.add 150 con_dmPolicy
theorem g84 : GamOk Tryz.prog tab Γ84 := g83.walk hT hF (f := 47) rfl (by kernel_rfl) Tryz.func47 k_dmarc_parsePolicy (ok_dmPolicy _ rfl)
/-- dmarc.parseAlignmentMode -/
noncomputable def Γ85 : Gam := Γ84.add 151 con_dmAlign
theorem g85 : GamOk Tryz.prog tab Γ85 := g84.walk hT hF (f := 48) rfl (by kernel_rfl) Tryz.func48 k_dmarc_parseAlignmentMode (ok_dmAlign _ rfl)
/-- dmarc.parseFailureOptions -/
noncomputable def Γ86 : Gam := Γ85.add 152 con_dmFo
theorem g86 : GamOk Tryz.prog tab Γ86 := g85.walk hT hF (f := 49) rfl (by kernel_rfl) Tryz.func49 k_dmarc_parseFailureOptions (ok_dmFo _ rfl rfl rfl)
/-- dmarc.parseURIList -/
noncomputable def Γ87 : Gam := Γ86.add 155 con_dmURIs
theorem g87 : GamOk Tryz.prog tab Γ87 := g86.walk hT hF (f := 52) rfl (by kernel_rfl) Tryz.func52 k_dmarc_parseURIList (ok_dmURIs _ rfl rfl)
/-- dmarc.Parse -/
noncomputable def Γ88 : Gam := Γ87.add 142 con_dmParse
theorem g88 : GamOk Tryz.prog tab Γ88 := g87.walk hT hF (f := 34) rfl (by kernel_rfl) Tryz.func34 k_dmarc_Parse (ok_dmParse _ rfl rfl rfl rfl rfl rfl rfl rfl)
/-- impl.recordOf -/
noncomputable def Γ89 : Gam := Γ88.add 143 con_recordOf
theorem g89 : GamOk Tryz.prog tab Γ89 := g88.walk hT hF (f := 35) rfl (by kernel_rfl) Tryz.func35 k_impl_recordOf (ok_recordOf _)
/-- impl.MParse -/
noncomputable def Γ90 : Gam := Γ89.add 133 con_MParse
theorem g90 : GamOk Tryz.prog tab Γ90 := g89.walk hT hF (f := 22) rfl (by kernel_rfl) Tryz.func22 k_impl_MParse (ok_MParse _ rfl rfl)
/-- laws.awake -/
noncomputable def Γ91 : Gam := Γ90.add 137 con_awake
theorem g91 : GamOk Tryz.prog tab Γ91 := g90.walk hT hF (f := 8) rfl (by kernel_rfl) Tryz.func8 k_laws_awake (u_ok_awake _ rfl rfl)
/-- laws.FnAuthStable -/
noncomputable def Γ92 : Gam := Γ91.add 263 con_FnAuthStable
theorem g92 : GamOk Tryz.prog tab Γ92 := g91.walk hT hF (f := 3) rfl (by kernel_rfl) Tryz.func3 k_laws_FnAuthStable (ok_FnAuthStable _ rfl rfl rfl rfl rfl rfl rfl)
theorem ok_FnAuthStable : ∀ args r, con_FnAuthStable args = some r → OkCall Tryz.prog tab 3 args r := fun args r h => (g92.fn 3 263 args r rfl h).2
end Go.Proofs.YtpmdjfblfpjpoabGreatDoor
