/- The contracts of the functions of this program, one behind the other. -/
import Derived.Test.YtopbibccfdnmeabGreatDoorSeat
import Derived.Test.YtopbibccfdnmeabGreatDoorTryzShelf
import Derived.Test.YtopbibccfdnmeabGreatDoorWg
set_option linter.all false
namespace Go.Proofs.YtopbibccfdnmeabGreatDoor
open Wax
def ms : List (Nat × String × Nat) := [(16, "Error", 183), (16, "NotFound", 184), (16, "Temporary", 185)]
theorem hT (B : List (Nat × Go.Addr)) : injB (tab B).tys = true := by kernel_rfl
theorem hF (B : List (Nat × Go.Addr)) : injB (tab B).fns = true := by kernel_rfl
theorem g0 (B : List (Nat × Go.Addr)) : GamOk Tryz.prog (tab B) (gam0 ms) := mthsB_spec (by kernel_rfl)
theorem tbA_ok (B : List (Nat × Go.Addr)) : TbOk Tryz.prog (tab B) tbA := (.cons (f := 59) rfl (by kernel_rfl) Tryz.func59 (k_authres_zzIsSpace B) (.cons (f := 57) rfl (by kernel_rfl) Tryz.func57 (k_authres_zzTrimSpace B) (.cons (f := 68) rfl (by kernel_rfl) Tryz.func68 (k_authres_zzIndex B) (.cons (f := 56) rfl (by kernel_rfl) Tryz.func56 (k_authres_zzSplit B) (.cons (f := 79) rfl (by kernel_rfl) Tryz.func79 (k_authres_zzCut B) (.cons (f := 72) rfl (by kernel_rfl) Tryz.func72 (k_authres_zzToLower B) (.cons (f := 70) rfl (by kernel_rfl) Tryz.func70 (k_authres_zzFields B) (.cons (f := 71) rfl (by kernel_rfl) Tryz.func71 (k_authres_parseParam B) (.cons (f := 73) rfl (by kernel_rfl) Tryz.func73 (k_authres_newResults B) (.cons (f := 82) rfl (by kernel_rfl) Tryz.func82 (k_authres_newResults_3 B) (.cons (f := 149) rfl (by kernel_rfl) Tryz.func149 (k_authres_DKIMResult_parse B) (.cons (f := 69) rfl (by kernel_rfl) Tryz.func69 (k_strings_indexFunc B) (.cons (f := 58) rfl (by kernel_rfl) Tryz.func58 (k_strings_IndexFunc B) (.cons (f := 60) rfl (by kernel_rfl) Tryz.func60 (k_authres_parseResult B) (.cons (f := 45) rfl (by kernel_rfl) Tryz.func45 (k_authres_Parse B) (.cons (f := 46) rfl (by kernel_rfl) Tryz.func46 (k_impl_resultOf B) (.cons (f := 28) rfl (by kernel_rfl) Tryz.func28 (k_impl_AParse B) .nil)))))))))))))))))
/-- laws.zzFits14 -/
noncomputable def Γ1 : Gam := (gam0 ms).add 119 con_zzFits14
theorem g1 (B : List (Nat × Go.Addr)) : GamOk Tryz.prog (tab B) Γ1 := (g0 B).walk (hT B) (hF B) (f := 14) rfl (by kernel_rfl) Tryz.func14 (k_laws_zzFits14 B) (ok_zzFits14 _)
/-- laws.zzFits13 -/
noncomputable def Γ2 : Gam := Γ1.add 131 con_zzFits13
theorem g2 (B : List (Nat × Go.Addr)) : GamOk Tryz.prog (tab B) Γ2 := (g1 B).walk (hT B) (hF B) (f := 4) rfl (by kernel_rfl) Tryz.func4 (k_laws_zzFits13 B) (ok_zzFits13 _ rfl)
/-- laws.zzFits7 -/
noncomputable def Γ3 : Gam := Γ2.add 32 con_zzFits7
theorem g3 (B : List (Nat × Go.Addr)) : GamOk Tryz.prog (tab B) Γ3 := (g2 B).walk (hT B) (hF B) (f := 29) rfl (by kernel_rfl) Tryz.func29 (k_laws_zzFits7 B) (ok_zzFits7 _)
/-- laws.zzFits16 -/
noncomputable def Γ4 : Gam := Γ3.add 148 con_zzFits16
theorem g4 (B : List (Nat × Go.Addr)) : GamOk Tryz.prog (tab B) Γ4 := (g3 B).walk (hT B) (hF B) (f := 15) rfl (by kernel_rfl) Tryz.func15 (k_laws_zzFits16 B) (ok_zzFits16 _ rfl)
/-- laws.zzFits15 -/
noncomputable def Γ5 : Gam := Γ4.add 141 con_zzFits15
theorem g5 (B : List (Nat × Go.Addr)) : GamOk Tryz.prog (tab B) Γ5 := (g4 B).walk (hT B) (hF B) (f := 5) rfl (by kernel_rfl) Tryz.func5 (k_laws_zzFits15 B) (ok_zzFits15 _ rfl)
/-- spec.MailKeyword -/
noncomputable def Γ6 : Gam := Γ5.add 99 con_MailKeyword
theorem g6 (B : List (Nat × Go.Addr)) : GamOk Tryz.prog (tab B) Γ6 := (g5 B).walk (hT B) (hF B) (f := 16) rfl (by kernel_rfl) Tryz.func16 (k_spec_MailKeyword B) (ok_MailKeyword _)
/-- spec.MailDomain -/
noncomputable def Γ7 : Gam := Γ6.add 105 con_MailDomain
theorem g7 (B : List (Nat × Go.Addr)) : GamOk Tryz.prog (tab B) Γ7 := (g6 B).walk (hT B) (hF B) (f := 6) rfl (by kernel_rfl) Tryz.func6 (k_spec_MailDomain B) (ok_MailDomain _ rfl)
/-- spec.MailLower -/
noncomputable def Γ8 : Gam := Γ7.add 112 con_MailLower
theorem g8 (B : List (Nat × Go.Addr)) : GamOk Tryz.prog (tab B) Γ8 := (g7 B).walk (hT B) (hF B) (f := 8) rfl (by kernel_rfl) Tryz.func8 (k_spec_MailLower B) (ok_MailLower _)
/-- spec.MailAny -/
noncomputable def Γ9 : Gam := Γ8.add 100 con_MailAny
theorem g9 (B : List (Nat × Go.Addr)) : GamOk Tryz.prog (tab B) Γ9 := (g8 B).walk (hT B) (hF B) (f := 19) rfl (by kernel_rfl) Tryz.func19 (k_spec_MailAny B) (ok_MailAny _)
/-- spec.mnumber -/
noncomputable def Γ10 : Gam := Γ9.add 103 con_mnumber
theorem g10 (B : List (Nat × Go.Addr)) : GamOk Tryz.prog (tab B) Γ10 := (g9 B).walk (hT B) (hF B) (f := 33) rfl (by kernel_rfl) Tryz.func33 (k_spec_mnumber B) (ok_mnumber _)
/-- spec.mpolicy -/
noncomputable def Γ11 : Gam := Γ10.add 106 con_mpolicy
theorem g11 (B : List (Nat × Go.Addr)) : GamOk Tryz.prog (tab B) Γ11 := (g10 B).walk (hT B) (hF B) (f := 30) rfl (by kernel_rfl) Tryz.func30 (k_spec_mpolicy B) (ok_mpolicy _)
/-- spec.MailSplit -/
noncomputable def Γ12 : Gam := Γ11.add 101 con_MailSplit
theorem g12 (B : List (Nat × Go.Addr)) : GamOk Tryz.prog (tab B) Γ12 := (g11 B).walk (hT B) (hF B) (f := 47) rfl (by kernel_rfl) Tryz.func47 (k_spec_MailSplit B) (ok_MailSplit _)
/-- spec.MPut$1 -/
noncomputable def Γ13 : Gam := Γ12.add 108 con_MPut1
theorem g13 (B : List (Nat × Go.Addr)) : GamOk Tryz.prog (tab B) Γ13 := (g12 B).walk (hT B) (hF B) (f := 32) rfl (by kernel_rfl) Tryz.func32 (k_spec_MPut_1 B) (ok_MPut1 _ rfl)
/-- spec.MPut$2 -/
noncomputable def Γ14 : Gam := Γ13.add 109 con_MPut2
theorem g14 (B : List (Nat × Go.Addr)) : GamOk Tryz.prog (tab B) Γ14 := (g13 B).walk (hT B) (hF B) (f := 34) rfl (by kernel_rfl) Tryz.func34 (k_spec_MPut_2 B) (ok_MPut2 _)
/-- spec.MailHalves -/
noncomputable def Γ15 : Gam := Γ14.add 102 con_MailHalves
theorem g15 (B : List (Nat × Go.Addr)) : GamOk Tryz.prog (tab B) Γ15 := (g14 B).walk (hT B) (hF B) (f := 48) rfl (by kernel_rfl) Tryz.func48 (k_spec_MailHalves B) (ok_MailHalves _)
/-- spec.MailToken -/
noncomputable def Γ16 : Gam := Γ15.add 104 con_MailToken
theorem g16 (B : List (Nat × Go.Addr)) : GamOk Tryz.prog (tab B) Γ16 := (g15 B).walk (hT B) (hF B) (f := 49) rfl (by kernel_rfl) Tryz.func49 (k_spec_MailToken B) (ok_MailToken _ rfl)
/-- spec.muri -/
noncomputable def Γ17 : Gam := Γ16.add 110 con_muri
theorem g17 (B : List (Nat × Go.Addr)) : GamOk Tryz.prog (tab B) Γ17 := (g16 B).walk (hT B) (hF B) (f := 35) rfl (by kernel_rfl) Tryz.func35 (k_spec_muri B) (ok_muri _ rfl rfl rfl rfl rfl)
/-- spec.mlist -/
noncomputable def Γ18 : Gam := Γ17.add 107 con_mlist
theorem g18 (B : List (Nat × Go.Addr)) : GamOk Tryz.prog (tab B) Γ18 := (g17 B).walk (hT B) (hF B) (f := 31) rfl (by kernel_rfl) Tryz.func31 (k_spec_mlist B) (ok_mlist _ rfl rfl rfl rfl)
/-- spec.MPut -/
noncomputable def Γ19 : Gam := Γ18.addS 111 con_MPut
theorem g19 (B : List (Nat × Go.Addr)) : GamOk Tryz.prog (tab B) Γ19 := (g18 B).walkS (hT B) (hF B) (f := 17) rfl (by kernel_rfl) Tryz.func17 (k_spec_MPut B) (ok_MPut _ rfl rfl rfl)
/-- spec.MKnown -/
noncomputable def Γ20 : Gam := Γ19.add 113 con_MKnown
theorem g20 (B : List (Nat × Go.Addr)) : GamOk Tryz.prog (tab B) Γ20 := (g19 B).walk (hT B) (hF B) (f := 18) rfl (by kernel_rfl) Tryz.func18 (k_spec_MKnown B) (ok_MKnown _)
/-- spec.MRight -/
noncomputable def Γ21 : Gam := Γ20.add 132 con_MRight
theorem g21 (B : List (Nat × Go.Addr)) : GamOk Tryz.prog (tab B) Γ21 := (g20 B).walk (hT B) (hF B) (f := 7) rfl (by kernel_rfl) Tryz.func7 (k_spec_MRight B) (ok_MRight _ rfl rfl rfl rfl rfl)
/-- spec.MSpace -/
noncomputable def Γ22 : Gam := Γ21.add 115 con_MSpace
theorem g22 (B : List (Nat × Go.Addr)) : GamOk Tryz.prog (tab B) Γ22 := (g21 B).walk (hT B) (hF B) (f := 21) rfl (by kernel_rfl) Tryz.func21 (k_spec_MSpace B) (ok_MSpace _)
/-- spec.MText$1 -/
noncomputable def Γ23 : Gam := Γ22.addS 114 con_MText1
theorem g23 (B : List (Nat × Go.Addr)) : GamOk Tryz.prog (tab B) Γ23 := (g22 B).walkS (hT B) (hF B) (f := 20) rfl (by kernel_rfl) Tryz.func20 (k_spec_MText_1 B) (ok_MText1 _ rfl)
/-- spec.MText -/
noncomputable def Γ24 : Gam := Γ23.add 134 con_MText
theorem g24 (B : List (Nat × Go.Addr)) : GamOk Tryz.prog (tab B) Γ24 := (g23 B).walk (hT B) (hF B) (f := 9) rfl (by kernel_rfl) Tryz.func9 (k_spec_MText B) (ok_MText _ rfl)
/-- impl.MLookup$1 -/
noncomputable def Γ25 : Gam := Γ24.add 146 con_MLk1
theorem g25 (B : List (Nat × Go.Addr)) : GamOk Tryz.prog (tab B) Γ25 := (g24 B).walk (hT B) (hF B) (f := 23) rfl (by kernel_rfl) Tryz.func23 (k_impl_MLookup_1 B) (ok_MLk1 _)
/-- stringslite.HasPrefix -/
noncomputable def Γ26 : Gam := Γ25.add 198 con_HasPrefix
theorem g26 (B : List (Nat × Go.Addr)) : GamOk Tryz.prog (tab B) Γ26 := (g25 B).walk (hT B) (hF B) (f := 50) rfl (by kernel_rfl) Tryz.func50 (k_stringslite_HasPrefix B) (ok_HasPrefix0 _)
/-- strings.HasPrefix -/
noncomputable def Γ27 : Gam := Γ26.add 158 con_HasPrefix
theorem g27 (B : List (Nat × Go.Addr)) : GamOk Tryz.prog (tab B) Γ27 := (g26 B).walk (hT B) (hF B) (f := 37) rfl (by kernel_rfl) Tryz.func37 (k_strings_HasPrefix B) (ok_HasPrefix _ rfl)
/-- dmarc.zzIndex -/
noncomputable def Γ28 : Gam := Γ27.add 161 con_zzIndex
theorem g28 (B : List (Nat × Go.Addr)) : GamOk Tryz.prog (tab B) Γ28 := (g27 B).walk (hT B) (hF B) (f := 55) rfl (by kernel_rfl) Tryz.func55 (k_dmarc_zzIndex B) (dm_ok_zzIndex _)
/-- dmarc.zzSplit -/
noncomputable def Γ29 : Gam := Γ28.addS 154 con_zzSplit
theorem g29 (B : List (Nat × Go.Addr)) : GamOk Tryz.prog (tab B) Γ29 := (g28 B).walkS (hT B) (hF B) (f := 43) rfl (by kernel_rfl) Tryz.func43 (k_dmarc_zzSplit B) (dm_ok_zzSplit _ rfl)
/-- dmarc.zzCut2 -/
noncomputable def Γ30 : Gam := Γ29.add 159 con_dmCut2
theorem g30 (B : List (Nat × Go.Addr)) : GamOk Tryz.prog (tab B) Γ30 := (g29 B).walk (hT B) (hF B) (f := 51) rfl (by kernel_rfl) Tryz.func51 (k_dmarc_zzCut2 B) (dm_ok_zzCut2 _)
/-- dmarc.zzIsSpace -/
noncomputable def Γ31 : Gam := Γ30.add 168 con_zzIsSpace
theorem g31 (B : List (Nat × Go.Addr)) : GamOk Tryz.prog (tab B) Γ31 := (g30 B).walk (hT B) (hF B) (f := 62) rfl (by kernel_rfl) Tryz.func62 (k_dmarc_zzIsSpace B) (dm_ok_zzIsSpace _)
/-- dmarc.zzTrimSpace -/
noncomputable def Γ32 : Gam := Γ31.add 160 con_zzTrimSpace
theorem g32 (B : List (Nat × Go.Addr)) : GamOk Tryz.prog (tab B) Γ32 := (g31 B).walk (hT B) (hF B) (f := 52) rfl (by kernel_rfl) Tryz.func52 (k_dmarc_zzTrimSpace B) (dm_ok_zzTrimSpace _ rfl)
/-- errors.New -/
noncomputable def Γ33 : Gam := Γ32.add 50 con_errorsNew
theorem g33 (B : List (Nat × Go.Addr)) : GamOk Tryz.prog (tab B) Γ33 := (g32 B).walk (hT B) (hF B) (f := 36) rfl (by kernel_rfl) Tryz.func36 (k_errors_New B) (ok_errorsNew _)
/-- dmarc.parseParams -/
noncomputable def Γ34 : Gam := Γ33.add 149 con_dmParams
theorem g34 (B : List (Nat × Go.Addr)) : GamOk Tryz.prog (tab B) Γ34 := (g33 B).walk (hT B) (hF B) (f := 38) rfl (by kernel_rfl) Tryz.func38 (k_dmarc_parseParams B) (ok_dmParams _ rfl rfl rfl rfl)
/-- dmarc.parsePolicy -/
noncomputable def Γ35 : Gam := Γ34.add 150 con_dmPolicy
theorem g35 (B : List (Nat × Go.Addr)) : GamOk Tryz.prog (tab B) Γ35 := (g34 B).walk (hT B) (hF B) (f := 39) rfl (by kernel_rfl) Tryz.func39 (k_dmarc_parsePolicy B) (ok_dmPolicy _ rfl)
/-- dmarc.parseAlignmentMode -/
noncomputable def Γ36 : Gam := Γ35.add 151 con_dmAlign
theorem g36 (B : List (Nat × Go.Addr)) : GamOk Tryz.prog (tab B) Γ36 := (g35 B).walk (hT B) (hF B) (f := 40) rfl (by kernel_rfl) Tryz.func40 (k_dmarc_parseAlignmentMode B) (ok_dmAlign _ rfl)
/-- dmarc.parseFailureOptions -/
noncomputable def Γ37 : Gam := Γ36.add 152 con_dmFo
theorem g37 (B : List (Nat × Go.Addr)) : GamOk Tryz.prog (tab B) Γ37 := (g36 B).walk (hT B) (hF B) (f := 41) rfl (by kernel_rfl) Tryz.func41 (k_dmarc_parseFailureOptions B) (ok_dmFo _ rfl rfl rfl)
/-- strconv.Atoi -/
noncomputable def Γ38 : Gam := Γ37.add 153 con_Atoi
theorem g38 (B : List (Nat × Go.Addr)) : GamOk Tryz.prog (tab B) Γ38 := (g37 B).add (hF B) (f := 42) rfl (by kernel_rfl) (ok_Atoi ⟨_, _, _, _, by kernel_rfl, by kernel_rfl, by kernel_rfl, fun s h1 v h2 w => Any.strconv_Atoi_ok Tryz.laysC172 s h1 v h2 w, fun s h1 h2 ev w h3 h4 => (Any.strconv_Atoi_syntax Tryz.laysC172 s h1 (badAt_eq h2) ev w h3 h4).mono (fun _ _ ⟨_, h, _, _, hb⟩ => ⟨_, h, hb⟩), fun s h1 h2 ev w h3 h4 => (Any.strconv_Atoi_range Tryz.laysC172 s h1 h2 ev w h3 h4).mono (fun _ _ ⟨_, h, _, _, hb⟩ => ⟨_, h, hb⟩)⟩)
/-- dmarc.parseURIList -/
noncomputable def Γ39 : Gam := Γ38.add 155 con_dmURIs
theorem g39 (B : List (Nat × Go.Addr)) : GamOk Tryz.prog (tab B) Γ39 := (g38 B).walk (hT B) (hF B) (f := 44) rfl (by kernel_rfl) Tryz.func44 (k_dmarc_parseURIList B) (ok_dmURIs _ rfl rfl)
/-- dmarc.Parse -/
noncomputable def Γ40 : Gam := Γ39.add 142 con_dmParse
theorem g40 (B : List (Nat × Go.Addr)) : GamOk Tryz.prog (tab B) Γ40 := (g39 B).walk (hT B) (hF B) (f := 26) rfl (by kernel_rfl) Tryz.func26 (k_dmarc_Parse B) (ok_dmParse _ rfl rfl rfl rfl rfl rfl rfl rfl)
/-- impl.failed).Temporary -/
noncomputable def Γ41 : Gam := Γ40.add 185 con_fTmp
theorem g41 (B : List (Nat × Go.Addr)) : GamOk Tryz.prog (tab B) Γ41 := (g40 B).walk (hT B) (hF B) (f := 143) rfl (by kernel_rfl) Tryz.func143 (k_impl_failed_Temporary B) (ok_fTmp _)
/-- impl.failed).NotFound -/
noncomputable def Γ42 : Gam := Γ41.add 184 con_fNot
theorem g42 (B : List (Nat × Go.Addr)) : GamOk Tryz.prog (tab B) Γ42 := (g41 B).walk (hT B) (hF B) (f := 142) rfl (by kernel_rfl) Tryz.func142 (k_impl_failed_NotFound B) (ok_fNot _)
/-- impl.failed).Error -/
noncomputable def Γ43 : Gam := Γ42.add 183 con_fErr
theorem g43 (B : List (Nat × Go.Addr)) : GamOk Tryz.prog (tab B) Γ43 := (g42 B).walk (hT B) (hF B) (f := 141) rfl (by kernel_rfl) Tryz.func141 (k_impl_failed_Error B) (ok_fErr _)
/-- dmarc.LookupWithOptions -/
noncomputable def Γ44 : Gam := Γ43.addS 145 con_LWO
theorem g44 (B : List (Nat × Go.Addr)) : GamOk Tryz.prog (tab B) Γ44 := (g43 B).walkS (hT B) (hF B) (f := 22) rfl (by kernel_rfl) Tryz.func22 (k_dmarc_LookupWithOptions B) (ok_LWO _ rfl rfl rfl rfl rfl rfl rfl rfl rfl rfl)
/-- impl.recordOf -/
noncomputable def Γ45 : Gam := Γ44.add 143 con_recordOf
theorem g45 (B : List (Nat × Go.Addr)) : GamOk Tryz.prog (tab B) Γ45 := (g44 B).walk (hT B) (hF B) (f := 24) rfl (by kernel_rfl) Tryz.func24 (k_impl_recordOf B) (ok_recordOf _)
/-- dmarc.IsTempFail -/
noncomputable def Γ46 : Gam := Γ45.add 147 con_IsTemp
theorem g46 (B : List (Nat × Go.Addr)) : GamOk Tryz.prog (tab B) Γ46 := (g45 B).walk (hT B) (hF B) (f := 25) rfl (by kernel_rfl) Tryz.func25 (k_dmarc_IsTempFail B) (ok_IsTemp _)
/-- impl.MLookup -/
noncomputable def Γ47 : Gam := Γ46.add 140 con_MLookup
theorem g47 (B : List (Nat × Go.Addr)) : GamOk Tryz.prog (tab B) Γ47 := (g46 B).walk (hT B) (hF B) (f := 10) rfl (by kernel_rfl) Tryz.func10 (k_impl_MLookup B) (ok_MLookup _ rfl rfl rfl)
/-- impl.MParse -/
noncomputable def Γ48 : Gam := Γ47.add 133 con_MParse
theorem g48 (B : List (Nat × Go.Addr)) : GamOk Tryz.prog (tab B) Γ48 := (g47 B).walk (hT B) (hF B) (f := 11) rfl (by kernel_rfl) Tryz.func11 (k_impl_MParse B) (ok_MParse _ rfl rfl)
/-- spec.MailTexts -/
noncomputable def Γ49 : Gam := Γ48.add 116 con_MailTexts
theorem g49 (B : List (Nat × Go.Addr)) : GamOk Tryz.prog (tab B) Γ49 := (g48 B).walk (hT B) (hF B) (f := 27) rfl (by kernel_rfl) Tryz.func27 (k_spec_MailTexts B) (ok_MailTexts _)
/-- spec.MSame -/
noncomputable def Γ50 : Gam := Γ49.add 136 con_MSame
theorem g50 (B : List (Nat × Go.Addr)) : GamOk Tryz.prog (tab B) Γ50 := (g49 B).walk (hT B) (hF B) (f := 12) rfl (by kernel_rfl) Tryz.func12 (k_spec_MSame B) (ok_MSame _ rfl)
/-- impl.AParse -/
noncomputable def Γ51 : Gam := Γ50.add 144 con_AParse0
theorem g51 (B : List (Nat × Go.Addr)) : GamOk Tryz.prog (tab B) Γ51 := (g50 B).add (hF B) (f := 28) rfl (by kernel_rfl) (ok_AParse0 (gI_ok (mthsB_spec (by kernel_rfl)) (hT B) (hF B) (tbA_ok B) 60 8) (f := 28) rfl)
/-- laws.awake -/
noncomputable def Γ52 : Gam := Γ51.add 137 con_awake
theorem g52 (B : List (Nat × Go.Addr)) : GamOk Tryz.prog (tab B) Γ52 := (g51 B).walk (hT B) (hF B) (f := 13) rfl (by kernel_rfl) Tryz.func13 (k_laws_awake B) (ok_awake _ rfl rfl)
/-- laws.FnDmarcLookup -/
noncomputable def Γ53 : Gam := Γ52.add 130 con_FnDmarcLookup
theorem g53 (B : List (Nat × Go.Addr)) : GamOk Tryz.prog (tab B) Γ53 := (g52 B).walk (hT B) (hF B) (f := 3) rfl (by kernel_rfl) Tryz.func3 (k_laws_FnDmarcLookup B) (ok_FnDmarcLookup _ rfl rfl rfl rfl rfl rfl rfl rfl rfl rfl)
theorem ok_FnDmarcLookup (B : List (Nat × Go.Addr)) : ∀ args r, con_FnDmarcLookup args = some r → OkCall Tryz.prog (tab B) 3 args r := fun args r h => ((g53 B).fn 3 130 args r rfl h).2

end Go.Proofs.YtopbibccfdnmeabGreatDoor
