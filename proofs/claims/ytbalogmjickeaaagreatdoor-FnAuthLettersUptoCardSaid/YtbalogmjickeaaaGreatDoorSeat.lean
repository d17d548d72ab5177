/- This program has these functions. -/
import Derived.Test.YtbalogmjickeaaaGreatDoorChecked
import Derived.Test.YtbalogmjickeaaaGreatDoorWg
set_option linter.all false
namespace Go.Proofs.YtbalogmjickeaaaGreatDoor
open Wax

def tab : Tab := ⟨[(3, 218), (5, 232), (6, 231), (7, 219), (9, 220), (10, 204), (11, 203), (12, 144), (13, 207), (14, 212), (15, 202), (16, 137), (17, 213), (18, 214), (19, 215), (20, 216), (21, 217), (22, 209), (23, 208), (24, 206), (25, 222), (26, 223), (27, 99), (30, 102), (33, 104), (34, 105), (35, 156), (36, 157), (37, 133), (38, 112), (39, 200), (40, 201), (41, 205), (42, 210), (43, 221), (44, 100), (45, 227), (46, 228), (47, 226), (48, 224), (49, 229), (51, 162), (52, 163), (53, 164), (54, 165), (55, 50), (56, 166), (57, 167), (58, 142), (59, 143), (60, 211), (61, 225), (62, 169), (63, 197), (64, 170), (65, 171), (66, 172), (67, 173), (68, 49), (69, 48), (70, 149), (71, 150), (72, 151), (73, 152), (74, 153), (75, 154), (76, 155), (77, 174), (78, 175), (79, 176), (80, 177), (81, 178), (82, 179), (83, 180), (84, 181), (85, 182), (88, 55), (89, 159), (90, 160), (93, 161), (97, 168), (116, 74), (154, 187), (156, 188), (158, 189), (160, 190), (162, 191), (163, 158), (164, 192), (165, 198), (166, 199), (168, 193), (170, 194), (172, 195), (174, 196), (175, 90)], [(102, 8), (106, 9), (109, 10), (112, 11), (115, 12), (118, 13), (121, 14), (124, 7), (127, 15), (141, 3), (184, 4)], [(0, [.ifc 3 .junk]), (1, [.ifc 3 .junk]), (2, [.ifc 3 .junk]), (3, [.int .u64 1, .int .u64 10, .int .u64 100, .int .u64 1000, .int .u64 10000, .int .u64 100000, .int .u64 1000000, .int .u64 10000000, .int .u64 100000000, .int .u64 1000000000, .int .u64 10000000000, .int .u64 100000000000, .int .u64 1000000000000, .int .u64 10000000000000, .int .u64 100000000000000, .int .u64 1000000000000000, .int .u64 10000000000000000, .int .u64 100000000000000000, .int .u64 1000000000000000000, .int .u64 10000000000000000000])]⟩

theorem k_laws_zzFits4 : compFn Tryz.prog tab l_laws_zzFits4 Tryz.f60 = some c_laws_zzFits4 := by kernel_rfl
theorem k_laws_zzFits3 : compFn Tryz.prog tab l_laws_zzFits3 Tryz.f42 = some c_laws_zzFits3 := by kernel_rfl
theorem k_laws_zzFits2 : compFn Tryz.prog tab l_laws_zzFits2 Tryz.f22 = some c_laws_zzFits2 := by kernel_rfl
theorem k_spec_AOnly : compFn Tryz.prog tab l_spec_AOnly Tryz.f23 = some c_spec_AOnly := by kernel_rfl
theorem k_spec_MailHalves : compFn Tryz.prog tab l_spec_MailHalves Tryz.f30 = some c_spec_MailHalves := by kernel_rfl
theorem k_spec_MailAny : compFn Tryz.prog tab l_spec_MailAny Tryz.f44 = some c_spec_MailAny := by kernel_rfl
theorem k_spec_MailToken : compFn Tryz.prog tab l_spec_MailToken Tryz.f33 = some c_spec_MailToken := by kernel_rfl
theorem k_spec_MailKeyword : compFn Tryz.prog tab l_spec_MailKeyword Tryz.f27 = some c_spec_MailKeyword := by kernel_rfl
theorem k_spec_MailDomain : compFn Tryz.prog tab l_spec_MailDomain Tryz.f34 = some c_spec_MailDomain := by kernel_rfl
theorem k_spec_APlain : compFn Tryz.prog tab l_spec_APlain Tryz.f10 = some c_spec_APlain := by kernel_rfl
theorem k_spec_MailLower : compFn Tryz.prog tab l_spec_MailLower Tryz.f38 = some c_spec_MailLower := by kernel_rfl
theorem k_spec_AMethods : compFn Tryz.prog tab l_spec_AMethods Tryz.f39 = some c_spec_AMethods := by kernel_rfl
theorem k_spec_AProps : compFn Tryz.prog tab l_spec_AProps Tryz.f40 = some c_spec_AProps := by kernel_rfl
theorem k_spec_AValues : compFn Tryz.prog tab l_spec_AValues Tryz.f11 = some c_spec_AValues := by kernel_rfl
theorem k_spec_AFits : compFn Tryz.prog tab l_spec_AFits Tryz.f19 = some c_spec_AFits := by kernel_rfl
theorem k_spec_AInfoOf : compFn Tryz.prog tab l_spec_AInfoOf Tryz.f24 = some c_spec_AInfoOf := by kernel_rfl
theorem k_laws_letters : compFn Tryz.prog tab l_laws_letters Tryz.f25 = some c_laws_letters := by kernel_rfl
theorem k_authres_zzIndex : compFn Tryz.prog tab l_authres_zzIndex Tryz.f62 = some c_authres_zzIndex := by kernel_rfl
theorem k_authres_zzSplit : compFn Tryz.prog tab l_authres_zzSplit Tryz.f51 = some c_authres_zzSplit := by kernel_rfl
theorem k_authres_zzIsSpace : compFn Tryz.prog tab l_authres_zzIsSpace Tryz.f54 = some c_authres_zzIsSpace := by kernel_rfl
theorem k_authres_zzTrimSpace : compFn Tryz.prog tab l_authres_zzTrimSpace Tryz.f52 = some c_authres_zzTrimSpace := by kernel_rfl
theorem k_strings_indexFunc : compFn Tryz.prog tab l_strings_indexFunc Tryz.f63 = some c_strings_indexFunc := by kernel_rfl
theorem k_strings_IndexFunc : compFn Tryz.prog tab l_strings_IndexFunc Tryz.f53 = some c_strings_IndexFunc := by kernel_rfl
theorem k_errors_New : compFn Tryz.prog tab l_errors_New Tryz.f55 = some c_errors_New := by kernel_rfl
theorem k_authres_zzFields : compFn Tryz.prog tab l_authres_zzFields Tryz.f64 = some c_authres_zzFields := by kernel_rfl
theorem k_authres_zzCut : compFn Tryz.prog tab l_authres_zzCut Tryz.f77 = some c_authres_zzCut := by kernel_rfl
theorem k_authres_zzToLower : compFn Tryz.prog tab l_authres_zzToLower Tryz.f66 = some c_authres_zzToLower := by kernel_rfl
theorem k_authres_parseParam : compFn Tryz.prog tab l_authres_parseParam Tryz.f65 = some c_authres_parseParam := by kernel_rfl
theorem k_authres_newResults : compFn Tryz.prog tab l_authres_newResults Tryz.f67 = some c_authres_newResults := by kernel_rfl
theorem k_authres_newResults_1 : compFn Tryz.prog tab l_authres_newResults_1 Tryz.f78 = some c_authres_newResults_1 := by kernel_rfl
theorem k_authres_newResults_2 : compFn Tryz.prog tab l_authres_newResults_2 Tryz.f79 = some c_authres_newResults_2 := by kernel_rfl
theorem k_authres_newResults_3 : compFn Tryz.prog tab l_authres_newResults_3 Tryz.f80 = some c_authres_newResults_3 := by kernel_rfl
theorem k_authres_newResults_4 : compFn Tryz.prog tab l_authres_newResults_4 Tryz.f81 = some c_authres_newResults_4 := by kernel_rfl
theorem k_authres_newResults_5 : compFn Tryz.prog tab l_authres_newResults_5 Tryz.f82 = some c_authres_newResults_5 := by kernel_rfl
theorem k_authres_newResults_6 : compFn Tryz.prog tab l_authres_newResults_6 Tryz.f83 = some c_authres_newResults_6 := by kernel_rfl
theorem k_authres_newResults_7 : compFn Tryz.prog tab l_authres_newResults_7 Tryz.f84 = some c_authres_newResults_7 := by kernel_rfl
theorem k_authres_newResults_8 : compFn Tryz.prog tab l_authres_newResults_8 Tryz.f85 = some c_authres_newResults_8 := by kernel_rfl
theorem k_authres_AuthResult_parse : compFn Tryz.prog tab l_authres_AuthResult_parse Tryz.f154 = some c_authres_AuthResult_parse := by kernel_rfl
theorem k_authres_DKIMResult_parse : compFn Tryz.prog tab l_authres_DKIMResult_parse Tryz.f156 = some c_authres_DKIMResult_parse := by kernel_rfl
theorem k_authres_DomainKeysResult_parse : compFn Tryz.prog tab l_authres_DomainKeysResult_parse Tryz.f158 = some c_authres_DomainKeysResult_parse := by kernel_rfl
theorem k_authres_IPRevResult_parse : compFn Tryz.prog tab l_authres_IPRevResult_parse Tryz.f160 = some c_authres_IPRevResult_parse := by kernel_rfl
theorem k_maps_Keys : compFn Tryz.prog tab l_maps_Keys Tryz.f69 = some c_maps_Keys := by kernel_rfl
theorem k_stringslite_HasPrefix : compFn Tryz.prog tab l_stringslite_HasPrefix Tryz.f165 = some c_stringslite_HasPrefix := by kernel_rfl
theorem k_strings_HasPrefix : compFn Tryz.prog tab l_strings_HasPrefix Tryz.f163 = some c_strings_HasPrefix := by kernel_rfl
theorem k_stringslite_TrimPrefix : compFn Tryz.prog tab l_stringslite_TrimPrefix Tryz.f166 = some c_stringslite_TrimPrefix := by kernel_rfl
theorem k_strings_TrimPrefix : compFn Tryz.prog tab l_strings_TrimPrefix Tryz.f164 = some c_strings_TrimPrefix := by kernel_rfl
theorem k_authres_SenderIDResult_parse : compFn Tryz.prog tab l_authres_SenderIDResult_parse Tryz.f162 = some c_authres_SenderIDResult_parse := by kernel_rfl
theorem k_authres_SPFResult_parse : compFn Tryz.prog tab l_authres_SPFResult_parse Tryz.f168 = some c_authres_SPFResult_parse := by kernel_rfl
theorem k_authres_DMARCResult_parse : compFn Tryz.prog tab l_authres_DMARCResult_parse Tryz.f170 = some c_authres_DMARCResult_parse := by kernel_rfl
theorem k_authres_ARCResult_parse : compFn Tryz.prog tab l_authres_ARCResult_parse Tryz.f172 = some c_authres_ARCResult_parse := by kernel_rfl
theorem k_authres_GenericResult_parse : compFn Tryz.prog tab l_authres_GenericResult_parse Tryz.f174 = some c_authres_GenericResult_parse := by kernel_rfl
theorem k_authres_parseResult : compFn Tryz.prog tab l_authres_parseResult Tryz.f56 = some c_authres_parseResult := by kernel_rfl
theorem k_authres_Parse : compFn Tryz.prog tab l_authres_Parse Tryz.f35 = some c_authres_Parse := by kernel_rfl
theorem k_impl_paramsOf : compFn Tryz.prog tab l_impl_paramsOf Tryz.f57 = some c_impl_paramsOf := by kernel_rfl
theorem k_impl_resultOf : compFn Tryz.prog tab l_impl_resultOf Tryz.f36 = some c_impl_resultOf := by kernel_rfl
theorem k_impl_AParse : compFn Tryz.prog tab l_impl_AParse Tryz.f12 = some c_impl_AParse := by kernel_rfl
theorem k_spec_ASame : compFn Tryz.prog tab l_spec_ASame Tryz.f15 = some c_spec_ASame := by kernel_rfl
theorem k_dmarc_zzIndex : compFn Tryz.prog tab l_dmarc_zzIndex Tryz.f93 = some c_dmarc_zzIndex := by kernel_rfl
theorem k_dmarc_zzSplit : compFn Tryz.prog tab l_dmarc_zzSplit Tryz.f75 = some c_dmarc_zzSplit := by kernel_rfl
theorem k_dmarc_zzCut2 : compFn Tryz.prog tab l_dmarc_zzCut2 Tryz.f89 = some c_dmarc_zzCut2 := by kernel_rfl
theorem k_dmarc_zzIsSpace : compFn Tryz.prog tab l_dmarc_zzIsSpace Tryz.f97 = some c_dmarc_zzIsSpace := by kernel_rfl
theorem k_dmarc_zzTrimSpace : compFn Tryz.prog tab l_dmarc_zzTrimSpace Tryz.f90 = some c_dmarc_zzTrimSpace := by kernel_rfl
theorem k_dmarc_parseParams : compFn Tryz.prog tab l_dmarc_parseParams Tryz.f70 = some c_dmarc_parseParams := by kernel_rfl
theorem k_dmarc_parsePolicy : compFn Tryz.prog tab l_dmarc_parsePolicy Tryz.f71 = some c_dmarc_parsePolicy := by kernel_rfl
theorem k_dmarc_parseAlignmentMode : compFn Tryz.prog tab l_dmarc_parseAlignmentMode Tryz.f72 = some c_dmarc_parseAlignmentMode := by kernel_rfl
theorem k_dmarc_parseFailureOptions : compFn Tryz.prog tab l_dmarc_parseFailureOptions Tryz.f73 = some c_dmarc_parseFailureOptions := by kernel_rfl
theorem k_dmarc_parseURIList : compFn Tryz.prog tab l_dmarc_parseURIList Tryz.f76 = some c_dmarc_parseURIList := by kernel_rfl
theorem k_dmarc_Parse : compFn Tryz.prog tab l_dmarc_Parse Tryz.f58 = some c_dmarc_Parse := by kernel_rfl
theorem k_impl_recordOf : compFn Tryz.prog tab l_impl_recordOf Tryz.f59 = some c_impl_recordOf := by kernel_rfl
theorem k_impl_MParse : compFn Tryz.prog tab l_impl_MParse Tryz.f37 = some c_impl_MParse := by kernel_rfl
theorem k_laws_awake : compFn Tryz.prog tab l_laws_awake Tryz.f16 = some c_laws_awake := by kernel_rfl
theorem k_laws_FnAuthLetters : compFn Tryz.prog tab l_laws_FnAuthLetters Tryz.f5 = some c_laws_FnAuthLetters := by kernel_rfl
end Go.Proofs.YtbalogmjickeaaaGreatDoor
