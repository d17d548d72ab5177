/- The contracts of the functions of this program, one behind the other. -/
import Derived.Test.YthiehlcbjcejcaaGreatDoorSeat
import Derived.Test.YthiehlcbjcejcaaGreatDoorTryzShelf
import Derived.Test.YthiehlcbjcejcaaGreatDoorWe
set_option linter.all false
namespace Go.Proofs.YthiehlcbjcejcaaGreatDoor
open Wax
def ms : List (Nat × String × Nat) := []
theorem hT : injB tab.tys = true := by kernel_rfl
theorem hF : injB tab.fns = true := by kernel_rfl
theorem g0 : GamOk Tryz.prog tab (gam0 ms) := mthsB_spec (by kernel_rfl)
theorem tbA_ok : TbOk Tryz.prog tab tbA := (.cons (f := 73) rfl (by kernel_rfl) Tryz.func73 k_authres_zzIsSpace (.cons (f := 71) rfl (by kernel_rfl) Tryz.func71 k_authres_zzTrimSpace (.cons (f := 83) rfl (by kernel_rfl) Tryz.func83 k_authres_zzIndex (.cons (f := 70) rfl (by kernel_rfl) Tryz.func70 k_authres_zzSplit (.cons (f := 94) rfl (by kernel_rfl) Tryz.func94 k_authres_zzCut (.cons (f := 87) rfl (by kernel_rfl) Tryz.func87 k_authres_zzToLower (.cons (f := 85) rfl (by kernel_rfl) Tryz.func85 k_authres_zzFields (.cons (f := 86) rfl (by kernel_rfl) Tryz.func86 k_authres_parseParam (.cons (f := 88) rfl (by kernel_rfl) Tryz.func88 k_authres_newResults (.cons (f := 97) rfl (by kernel_rfl) Tryz.func97 k_authres_newResults_3 (.cons (f := 164) rfl (by kernel_rfl) Tryz.func164 k_authres_DKIMResult_parse (.cons (f := 84) rfl (by kernel_rfl) Tryz.func84 k_strings_indexFunc (.cons (f := 72) rfl (by kernel_rfl) Tryz.func72 k_strings_IndexFunc (.cons (f := 74) rfl (by kernel_rfl) Tryz.func74 k_authres_parseResult (.cons (f := 59) rfl (by kernel_rfl) Tryz.func59 k_authres_Parse (.cons (f := 60) rfl (by kernel_rfl) Tryz.func60 k_impl_resultOf (.cons (f := 37) rfl (by kernel_rfl) Tryz.func37 k_impl_AParse .nil)))))))))))))))))
/-- spec.MailKeyword -/
noncomputable def Γ1 : Gam := (gam0 ms).add 99 con_MailKeyword
theorem g1 : GamOk Tryz.prog tab Γ1 := g0.walk hT hF (f := 24) rfl (by kernel_rfl) Tryz.func24 k_spec_MailKeyword (ok_MailKeyword _)
/-- spec.mnumber -/
noncomputable def Γ2 : Gam := Γ1.add 103 con_mnumber
theorem g2 : GamOk Tryz.prog tab Γ2 := g1.walk hT hF (f := 44) rfl (by kernel_rfl) Tryz.func44 k_spec_mnumber (ok_mnumber _)
/-- spec.mpolicy -/
noncomputable def Γ3 : Gam := Γ2.add 106 con_mpolicy
theorem g3 : GamOk Tryz.prog tab Γ3 := g2.walk hT hF (f := 41) rfl (by kernel_rfl) Tryz.func41 k_spec_mpolicy (ok_mpolicy _)
/-- spec.MailSplit -/
noncomputable def Γ4 : Gam := Γ3.add 101 con_MailSplit
theorem g4 : GamOk Tryz.prog tab Γ4 := g3.walk hT hF (f := 38) rfl (by kernel_rfl) Tryz.func38 k_spec_MailSplit (ok_MailSplit _)
/-- spec.MailAny -/
noncomputable def Γ5 : Gam := Γ4.add 100 con_MailAny
theorem g5 : GamOk Tryz.prog tab Γ5 := g4.walk hT hF (f := 31) rfl (by kernel_rfl) Tryz.func31 k_spec_MailAny (ok_MailAny _)
/-- spec.MPut$1 -/
noncomputable def Γ6 : Gam := Γ5.add 108 con_MPut1
theorem g6 : GamOk Tryz.prog tab Γ6 := g5.walk hT hF (f := 43) rfl (by kernel_rfl) Tryz.func43 k_spec_MPut_1 (ok_MPut1 _ rfl)
/-- spec.MPut$2 -/
noncomputable def Γ7 : Gam := Γ6.add 109 con_MPut2
theorem g7 : GamOk Tryz.prog tab Γ7 := g6.walk hT hF (f := 45) rfl (by kernel_rfl) Tryz.func45 k_spec_MPut_2 (ok_MPut2 _)
/-- spec.MailHalves -/
noncomputable def Γ8 : Gam := Γ7.add 102 con_MailHalves
theorem g8 : GamOk Tryz.prog tab Γ8 := g7.walk hT hF (f := 40) rfl (by kernel_rfl) Tryz.func40 k_spec_MailHalves (ok_MailHalves _)
/-- spec.MailToken -/
noncomputable def Γ9 : Gam := Γ8.add 104 con_MailToken
theorem g9 : GamOk Tryz.prog tab Γ9 := g8.walk hT hF (f := 62) rfl (by kernel_rfl) Tryz.func62 k_spec_MailToken (ok_MailToken _ rfl)
/-- spec.MailDomain -/
noncomputable def Γ10 : Gam := Γ9.add 105 con_MailDomain
theorem g10 : GamOk Tryz.prog tab Γ10 := g9.walk hT hF (f := 28) rfl (by kernel_rfl) Tryz.func28 k_spec_MailDomain (ok_MailDomain _ rfl)
/-- spec.muri -/
noncomputable def Γ11 : Gam := Γ10.add 110 con_muri
theorem g11 : GamOk Tryz.prog tab Γ11 := g10.walk hT hF (f := 46) rfl (by kernel_rfl) Tryz.func46 k_spec_muri (ok_muri _ rfl rfl rfl rfl rfl)
/-- spec.mlist -/
noncomputable def Γ12 : Gam := Γ11.add 107 con_mlist
theorem g12 : GamOk Tryz.prog tab Γ12 := g11.walk hT hF (f := 42) rfl (by kernel_rfl) Tryz.func42 k_spec_mlist (ok_mlist _ rfl rfl rfl rfl)
/-- spec.MPut -/
noncomputable def Γ13 : Gam := Γ12.addS 111 con_MPut
theorem g13 : GamOk Tryz.prog tab Γ13 := g12.walkS hT hF (f := 25) rfl (by kernel_rfl) Tryz.func25 k_spec_MPut (ok_MPut _ rfl rfl rfl)
/-- spec.MailLower -/
noncomputable def Γ14 : Gam := Γ13.add 112 con_MailLower
theorem g14 : GamOk Tryz.prog tab Γ14 := g13.walk hT hF (f := 26) rfl (by kernel_rfl) Tryz.func26 k_spec_MailLower (ok_MailLower _)
/-- laws.number -/
noncomputable def Γ15 : Gam := Γ14.add 139 con_number
theorem g15 : GamOk Tryz.prog tab Γ15 := g14.walk hT hF (f := 27) rfl (by kernel_rfl) Tryz.func27 k_laws_number (ok_number _)
/-- dmarc.zzIndex -/
noncomputable def Γ16 : Gam := Γ15.add 161 con_zzIndex
theorem g16 : GamOk Tryz.prog tab Γ16 := g15.walk hT hF (f := 69) rfl (by kernel_rfl) Tryz.func69 k_dmarc_zzIndex (dm_ok_zzIndex _)
/-- dmarc.zzSplit -/
noncomputable def Γ17 : Gam := Γ16.addS 154 con_zzSplit
theorem g17 : GamOk Tryz.prog tab Γ17 := g16.walkS hT hF (f := 57) rfl (by kernel_rfl) Tryz.func57 k_dmarc_zzSplit (dm_ok_zzSplit _ rfl)
/-- dmarc.zzCut2 -/
noncomputable def Γ18 : Gam := Γ17.add 159 con_dmCut2
theorem g18 : GamOk Tryz.prog tab Γ18 := g17.walk hT hF (f := 65) rfl (by kernel_rfl) Tryz.func65 k_dmarc_zzCut2 (dm_ok_zzCut2 _)
/-- dmarc.zzIsSpace -/
noncomputable def Γ19 : Gam := Γ18.add 168 con_zzIsSpace
theorem g19 : GamOk Tryz.prog tab Γ19 := g18.walk hT hF (f := 77) rfl (by kernel_rfl) Tryz.func77 k_dmarc_zzIsSpace (dm_ok_zzIsSpace _)
/-- dmarc.zzTrimSpace -/
noncomputable def Γ20 : Gam := Γ19.add 160 con_zzTrimSpace
theorem g20 : GamOk Tryz.prog tab Γ20 := g19.walk hT hF (f := 66) rfl (by kernel_rfl) Tryz.func66 k_dmarc_zzTrimSpace (dm_ok_zzTrimSpace _ rfl)
/-- errors.New -/
noncomputable def Γ21 : Gam := Γ20.add 50 con_errorsNew
theorem g21 : GamOk Tryz.prog tab Γ21 := g20.walk hT hF (f := 52) rfl (by kernel_rfl) Tryz.func52 k_errors_New (ok_errorsNew _)
/-- dmarc.parseParams -/
noncomputable def Γ22 : Gam := Γ21.add 149 con_dmParams
theorem g22 : GamOk Tryz.prog tab Γ22 := g21.walk hT hF (f := 51) rfl (by kernel_rfl) Tryz.func51 k_dmarc_parseParams (ok_dmParams _ rfl rfl rfl rfl)
/-- dmarc.parsePolicy -/
noncomputable def Γ23 : Gam := Γ22.add 150 con_dmPolicy
theorem g23 : GamOk Tryz.prog tab Γ23 := g22.walk hT hF (f := 53) rfl (by kernel_rfl) Tryz.func53 k_dmarc_parsePolicy (ok_dmPolicy _ rfl)
/-- dmarc.parseAlignmentMode -/
noncomputable def Γ24 : Gam := Γ23.add 151 con_dmAlign
theorem g24 : GamOk Tryz.prog tab Γ24 := g23.walk hT hF (f := 54) rfl (by kernel_rfl) Tryz.func54 k_dmarc_parseAlignmentMode (ok_dmAlign _ rfl)
/-- dmarc.parseFailureOptions -/
noncomputable def Γ25 : Gam := Γ24.add 152 con_dmFo
theorem g25 : GamOk Tryz.prog tab Γ25 := g24.walk hT hF (f := 55) rfl (by kernel_rfl) Tryz.func55 k_dmarc_parseFailureOptions (ok_dmFo _ rfl rfl rfl)
/-- strconv.Atoi -/
noncomputable def Γ26 : Gam := Γ25.add 153 con_Atoi
theorem g26 : GamOk Tryz.prog tab Γ26 := g25.add hF (f := 56) rfl (by kernel_rfl) (ok_Atoi ⟨_, _, _, _, by kernel_rfl, by kernel_rfl, by kernel_rfl, fun s h1 v h2 w => Any.strconv_Atoi_ok Tryz.laysC172 s h1 v h2 w, fun s h1 h2 ev w h3 h4 => (Any.strconv_Atoi_syntax Tryz.laysC172 s h1 (badAt_eq h2) ev w h3 h4).mono (fun _ _ ⟨_, h, _, _, hb⟩ => ⟨_, h, hb⟩), fun s h1 h2 ev w h3 h4 => (Any.strconv_Atoi_range Tryz.laysC172 s h1 h2 ev w h3 h4).mono (fun _ _ ⟨_, h, _, _, hb⟩ => ⟨_, h, hb⟩)⟩)
/-- dmarc.parseURIList -/
noncomputable def Γ27 : Gam := Γ26.add 155 con_dmURIs
theorem g27 : GamOk Tryz.prog tab Γ27 := g26.walk hT hF (f := 58) rfl (by kernel_rfl) Tryz.func58 k_dmarc_parseURIList (ok_dmURIs _ rfl rfl)
/-- dmarc.Parse -/
noncomputable def Γ28 : Gam := Γ27.add 142 con_dmParse
theorem g28 : GamOk Tryz.prog tab Γ28 := g27.walk hT hF (f := 32) rfl (by kernel_rfl) Tryz.func32 k_dmarc_Parse (ok_dmParse _ rfl rfl rfl rfl rfl rfl rfl rfl)
/-- impl.recordOf -/
noncomputable def Γ29 : Gam := Γ28.add 143 con_recordOf
theorem g29 : GamOk Tryz.prog tab Γ29 := g28.walk hT hF (f := 33) rfl (by kernel_rfl) Tryz.func33 k_impl_recordOf (ok_recordOf _)
/-- impl.MParse -/
noncomputable def Γ30 : Gam := Γ29.add 133 con_MParse
theorem g30 : GamOk Tryz.prog tab Γ30 := g29.walk hT hF (f := 17) rfl (by kernel_rfl) Tryz.func17 k_impl_MParse (ok_MParse _ rfl rfl)
/-- impl.AParse -/
noncomputable def Γ31 : Gam := Γ30.add 144 con_AParse0
theorem g31 : GamOk Tryz.prog tab Γ31 := g30.add hF (f := 37) rfl (by kernel_rfl) (ok_AParse0 (gI_ok (mthsB_spec (by kernel_rfl)) hT hF tbA_ok 60 8) (f := 37) rfl)
/-- laws.awake -/
noncomputable def Γ32 : Gam := Γ31.add 137 con_awake
theorem g32 : GamOk Tryz.prog tab Γ32 := g31.walk hT hF (f := 21) rfl (by kernel_rfl) Tryz.func21 k_laws_awake (ok_awake _ rfl rfl)
/-- laws.FnDmarcValues -/
noncomputable def Γ33 : Gam := Γ32.add 127 con_FnDmarcValues
theorem g33 : GamOk Tryz.prog tab Γ33 := g32.walk hT hF (f := 10) rfl (by kernel_rfl) Tryz.func10 k_laws_FnDmarcValues (ok_FnDmarcValues _ rfl rfl rfl rfl rfl rfl)
theorem ok_FnDmarcValues : ∀ args r, con_FnDmarcValues args = some r → OkCall Tryz.prog tab 10 args r := fun args r h => (g33.fn 10 127 args r rfl h).2
end Go.Proofs.YthiehlcbjcejcaaGreatDoor
