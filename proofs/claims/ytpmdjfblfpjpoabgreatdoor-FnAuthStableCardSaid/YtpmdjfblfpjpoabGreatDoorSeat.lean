/- This program has these functions. -/
import Derived.Test.YtpmdjfblfpjpoabGreatDoorChecked
import Derived.Test.YtpmdjfblfpjpoabGreatDoorWh
set_option linter.all false
namespace Go.Proofs.YtpmdjfblfpjpoabGreatDoor
open Wax

def tab : Tab := ⟨[(3, 263), (4, 144), (5, 204), (6, 215), (7, 248), (8, 137), (9, 233), (10, 217), (11, 156), (12, 157), (13, 102), (14, 104), (15, 105), (16, 203), (17, 99), (18, 112), (19, 200), (20, 201), (21, 206), (22, 133), (23, 235), (24, 236), (25, 202), (26, 162), (27, 163), (28, 164), (29, 165), (30, 50), (31, 166), (32, 167), (33, 100), (34, 142), (35, 143), (36, 237), (37, 238), (38, 169), (39, 197), (40, 170), (41, 171), (42, 172), (43, 173), (44, 49), (45, 48), (46, 149), (47, 150), (48, 151), (49, 152), (50, 153), (51, 154), (52, 155), (53, 240), (54, 241), (55, 242), (56, 174), (57, 175), (58, 176), (59, 177), (60, 178), (61, 179), (62, 180), (63, 181), (64, 182), (66, 55), (67, 159), (68, 160), (71, 161), (74, 243), (75, 244), (76, 245), (77, 246), (78, 247), (80, 168), (99, 74), (136, 251), (137, 187), (138, 252), (139, 188), (140, 253), (141, 189), (142, 254), (143, 190), (144, 255), (145, 191), (146, 158), (147, 192), (148, 198), (149, 199), (150, 256), (151, 193), (152, 257), (153, 194), (154, 259), (155, 195), (156, 258), (157, 196), (158, 90)], [(68, 8), (72, 9), (75, 10), (78, 11), (81, 12), (84, 13), (87, 14), (90, 7), (93, 15), (111, 3), (156, 4)], [(0, [.ifc 3 .junk]), (1, [.ifc 3 .junk]), (2, [.ifc 3 .junk]), (3, [.int .u64 1, .int .u64 10, .int .u64 100, .int .u64 1000, .int .u64 10000, .int .u64 100000, .int .u64 1000000, .int .u64 10000000, .int .u64 100000000, .int .u64 1000000000, .int .u64 10000000000, .int .u64 100000000000, .int .u64 1000000000000, .int .u64 10000000000000, .int .u64 100000000000000, .int .u64 1000000000000000, .int .u64 10000000000000000, .int .u64 100000000000000000, .int .u64 1000000000000000000, .int .u64 10000000000000000000])]⟩

theorem k_authres_zzIndex : compFn Tryz.prog tab l_authres_zzIndex Tryz.f38 = some c_authres_zzIndex := by kernel_rfl
theorem k_authres_zzSplit : compFn Tryz.prog tab l_authres_zzSplit Tryz.f26 = some c_authres_zzSplit := by kernel_rfl
theorem k_authres_zzIsSpace : compFn Tryz.prog tab l_authres_zzIsSpace Tryz.f29 = some c_authres_zzIsSpace := by kernel_rfl
theorem k_authres_zzTrimSpace : compFn Tryz.prog tab l_authres_zzTrimSpace Tryz.f27 = some c_authres_zzTrimSpace := by kernel_rfl
theorem k_strings_indexFunc : compFn Tryz.prog tab l_strings_indexFunc Tryz.f39 = some c_strings_indexFunc := by kernel_rfl
theorem k_strings_IndexFunc : compFn Tryz.prog tab l_strings_IndexFunc Tryz.f28 = some c_strings_IndexFunc := by kernel_rfl
theorem k_errors_New : compFn Tryz.prog tab l_errors_New Tryz.f30 = some c_errors_New := by kernel_rfl
theorem k_authres_zzFields : compFn Tryz.prog tab l_authres_zzFields Tryz.f40 = some c_authres_zzFields := by kernel_rfl
theorem k_authres_zzCut : compFn Tryz.prog tab l_authres_zzCut Tryz.f56 = some c_authres_zzCut := by kernel_rfl
theorem k_authres_zzToLower : compFn Tryz.prog tab l_authres_zzToLower Tryz.f42 = some c_authres_zzToLower := by kernel_rfl
theorem k_authres_parseParam : compFn Tryz.prog tab l_authres_parseParam Tryz.f41 = some c_authres_parseParam := by kernel_rfl
theorem k_authres_newResults : compFn Tryz.prog tab l_authres_newResults Tryz.f43 = some c_authres_newResults := by kernel_rfl
theorem k_authres_newResults_1 : compFn Tryz.prog tab l_authres_newResults_1 Tryz.f57 = some c_authres_newResults_1 := by kernel_rfl
theorem k_authres_newResults_2 : compFn Tryz.prog tab l_authres_newResults_2 Tryz.f58 = some c_authres_newResults_2 := by kernel_rfl
theorem k_authres_newResults_3 : compFn Tryz.prog tab l_authres_newResults_3 Tryz.f59 = some c_authres_newResults_3 := by kernel_rfl
theorem k_authres_newResults_4 : compFn Tryz.prog tab l_authres_newResults_4 Tryz.f60 = some c_authres_newResults_4 := by kernel_rfl
theorem k_authres_newResults_5 : compFn Tryz.prog tab l_authres_newResults_5 Tryz.f61 = some c_authres_newResults_5 := by kernel_rfl
theorem k_authres_newResults_6 : compFn Tryz.prog tab l_authres_newResults_6 Tryz.f62 = some c_authres_newResults_6 := by kernel_rfl
theorem k_authres_newResults_7 : compFn Tryz.prog tab l_authres_newResults_7 Tryz.f63 = some c_authres_newResults_7 := by kernel_rfl
theorem k_authres_newResults_8 : compFn Tryz.prog tab l_authres_newResults_8 Tryz.f64 = some c_authres_newResults_8 := by kernel_rfl
theorem k_authres_AuthResult_parse : compFn Tryz.prog tab l_authres_AuthResult_parse Tryz.f137 = some c_authres_AuthResult_parse := by kernel_rfl
theorem k_authres_DKIMResult_parse : compFn Tryz.prog tab l_authres_DKIMResult_parse Tryz.f139 = some c_authres_DKIMResult_parse := by kernel_rfl
theorem k_authres_DomainKeysResult_parse : compFn Tryz.prog tab l_authres_DomainKeysResult_parse Tryz.f141 = some c_authres_DomainKeysResult_parse := by kernel_rfl
theorem k_authres_IPRevResult_parse : compFn Tryz.prog tab l_authres_IPRevResult_parse Tryz.f143 = some c_authres_IPRevResult_parse := by kernel_rfl
theorem k_maps_Keys : compFn Tryz.prog tab l_maps_Keys Tryz.f45 = some c_maps_Keys := by kernel_rfl
theorem k_stringslite_HasPrefix : compFn Tryz.prog tab l_stringslite_HasPrefix Tryz.f148 = some c_stringslite_HasPrefix := by kernel_rfl
theorem k_strings_HasPrefix : compFn Tryz.prog tab l_strings_HasPrefix Tryz.f146 = some c_strings_HasPrefix := by kernel_rfl
theorem k_stringslite_TrimPrefix : compFn Tryz.prog tab l_stringslite_TrimPrefix Tryz.f149 = some c_stringslite_TrimPrefix := by kernel_rfl
theorem k_strings_TrimPrefix : compFn Tryz.prog tab l_strings_TrimPrefix Tryz.f147 = some c_strings_TrimPrefix := by kernel_rfl
theorem k_authres_SenderIDResult_parse : compFn Tryz.prog tab l_authres_SenderIDResult_parse Tryz.f145 = some c_authres_SenderIDResult_parse := by kernel_rfl
theorem k_authres_SPFResult_parse : compFn Tryz.prog tab l_authres_SPFResult_parse Tryz.f151 = some c_authres_SPFResult_parse := by kernel_rfl
theorem k_authres_DMARCResult_parse : compFn Tryz.prog tab l_authres_DMARCResult_parse Tryz.f153 = some c_authres_DMARCResult_parse := by kernel_rfl
theorem k_authres_ARCResult_parse : compFn Tryz.prog tab l_authres_ARCResult_parse Tryz.f155 = some c_authres_ARCResult_parse := by kernel_rfl
theorem k_authres_GenericResult_parse : compFn Tryz.prog tab l_authres_GenericResult_parse Tryz.f157 = some c_authres_GenericResult_parse := by kernel_rfl
theorem k_authres_parseResult : compFn Tryz.prog tab l_authres_parseResult Tryz.f31 = some c_authres_parseResult := by kernel_rfl
theorem k_authres_Parse : compFn Tryz.prog tab l_authres_Parse Tryz.f11 = some c_authres_Parse := by kernel_rfl
theorem k_impl_paramsOf : compFn Tryz.prog tab l_impl_paramsOf Tryz.f32 = some c_impl_paramsOf := by kernel_rfl
theorem k_impl_resultOf : compFn Tryz.prog tab l_impl_resultOf Tryz.f12 = some c_impl_resultOf := by kernel_rfl
theorem k_impl_AParse : compFn Tryz.prog tab l_impl_AParse Tryz.f4 = some c_impl_AParse := by kernel_rfl
theorem k_spec_MailHalves : compFn Tryz.prog tab l_spec_MailHalves Tryz.f13 = some c_spec_MailHalves := by kernel_rfl
theorem k_spec_MailAny : compFn Tryz.prog tab l_spec_MailAny Tryz.f33 = some c_spec_MailAny := by kernel_rfl
theorem k_spec_MailToken : compFn Tryz.prog tab l_spec_MailToken Tryz.f14 = some c_spec_MailToken := by kernel_rfl
theorem k_spec_MailKeyword : compFn Tryz.prog tab l_spec_MailKeyword Tryz.f17 = some c_spec_MailKeyword := by kernel_rfl
theorem k_spec_MailDomain : compFn Tryz.prog tab l_spec_MailDomain Tryz.f15 = some c_spec_MailDomain := by kernel_rfl
theorem k_spec_APlain : compFn Tryz.prog tab l_spec_APlain Tryz.f5 = some c_spec_APlain := by kernel_rfl
theorem k_spec_MailLower : compFn Tryz.prog tab l_spec_MailLower Tryz.f18 = some c_spec_MailLower := by kernel_rfl
theorem k_spec_AMethods : compFn Tryz.prog tab l_spec_AMethods Tryz.f19 = some c_spec_AMethods := by kernel_rfl
theorem k_spec_AProps : compFn Tryz.prog tab l_spec_AProps Tryz.f20 = some c_spec_AProps := by kernel_rfl
theorem k_spec_AValues : compFn Tryz.prog tab l_spec_AValues Tryz.f16 = some c_spec_AValues := by kernel_rfl
theorem k_spec_AFits : compFn Tryz.prog tab l_spec_AFits Tryz.f6 = some c_spec_AFits := by kernel_rfl
theorem k_spec_AInfoOf : compFn Tryz.prog tab l_spec_AInfoOf Tryz.f21 = some c_spec_AInfoOf := by kernel_rfl
theorem k_spec_AMute : compFn Tryz.prog tab l_spec_AMute Tryz.f7 = some c_spec_AMute := by kernel_rfl
theorem k_impl_resultFor : compFn Tryz.prog tab l_impl_resultFor Tryz.f23 = some c_impl_resultFor := by kernel_rfl
theorem k_authres_resultMethod : compFn Tryz.prog tab l_authres_resultMethod Tryz.f36 = some c_authres_resultMethod := by kernel_rfl
theorem k_authres_tspecial : compFn Tryz.prog tab l_authres_tspecial Tryz.f74 = some c_authres_tspecial := by kernel_rfl
theorem k_authres_zzQuotes : compFn Tryz.prog tab l_authres_zzQuotes Tryz.f75 = some c_authres_zzQuotes := by kernel_rfl
theorem k_authres_formatValue : compFn Tryz.prog tab l_authres_formatValue Tryz.f54 = some c_authres_formatValue := by kernel_rfl
theorem k_authres_addressOk : compFn Tryz.prog tab l_authres_addressOk Tryz.f76 = some c_authres_addressOk := by kernel_rfl
theorem k_authres_zzIsLetter : compFn Tryz.prog tab l_authres_zzIsLetter Tryz.f77 = some c_authres_zzIsLetter := by kernel_rfl
theorem k_authres_zzIsDigit : compFn Tryz.prog tab l_authres_zzIsDigit Tryz.f78 = some c_authres_zzIsDigit := by kernel_rfl
theorem k_authres_formatPvalue : compFn Tryz.prog tab l_authres_formatPvalue Tryz.f55 = some c_authres_formatPvalue := by kernel_rfl
theorem k_authres_formatParams : compFn Tryz.prog tab l_authres_formatParams Tryz.f37 = some c_authres_formatParams := by kernel_rfl
theorem k_authres_AuthResult_format : compFn Tryz.prog tab l_authres_AuthResult_format Tryz.f136 = some c_authres_AuthResult_format := by kernel_rfl
theorem k_authres_DKIMResult_format : compFn Tryz.prog tab l_authres_DKIMResult_format Tryz.f138 = some c_authres_DKIMResult_format := by kernel_rfl
theorem k_authres_DomainKeysResult_format : compFn Tryz.prog tab l_authres_DomainKeysResult_format Tryz.f140 = some c_authres_DomainKeysResult_format := by kernel_rfl
theorem k_authres_IPRevResult_format : compFn Tryz.prog tab l_authres_IPRevResult_format Tryz.f142 = some c_authres_IPRevResult_format := by kernel_rfl
theorem k_authres_SenderIDResult_format : compFn Tryz.prog tab l_authres_SenderIDResult_format Tryz.f144 = some c_authres_SenderIDResult_format := by kernel_rfl
theorem k_authres_SPFResult_format : compFn Tryz.prog tab l_authres_SPFResult_format Tryz.f150 = some c_authres_SPFResult_format := by kernel_rfl
theorem k_authres_DMARCResult_format : compFn Tryz.prog tab l_authres_DMARCResult_format Tryz.f152 = some c_authres_DMARCResult_format := by kernel_rfl
theorem k_authres_GenericResult_format : compFn Tryz.prog tab l_authres_GenericResult_format Tryz.f156 = some c_authres_GenericResult_format := by kernel_rfl
theorem k_authres_Format : compFn Tryz.prog tab l_authres_Format Tryz.f24 = some c_authres_Format := by kernel_rfl
theorem k_impl_AFormat : compFn Tryz.prog tab l_impl_AFormat Tryz.f9 = some c_impl_AFormat := by kernel_rfl
theorem k_spec_ASame : compFn Tryz.prog tab l_spec_ASame Tryz.f25 = some c_spec_ASame := by kernel_rfl
theorem k_spec_ASames : compFn Tryz.prog tab l_spec_ASames Tryz.f10 = some c_spec_ASames := by kernel_rfl
theorem k_dmarc_zzIndex : compFn Tryz.prog tab l_dmarc_zzIndex Tryz.f71 = some c_dmarc_zzIndex := by kernel_rfl
theorem k_dmarc_zzSplit : compFn Tryz.prog tab l_dmarc_zzSplit Tryz.f51 = some c_dmarc_zzSplit := by kernel_rfl
theorem k_dmarc_zzCut2 : compFn Tryz.prog tab l_dmarc_zzCut2 Tryz.f67 = some c_dmarc_zzCut2 := by kernel_rfl
theorem k_dmarc_zzIsSpace : compFn Tryz.prog tab l_dmarc_zzIsSpace Tryz.f80 = some c_dmarc_zzIsSpace := by kernel_rfl
theorem k_dmarc_zzTrimSpace : compFn Tryz.prog tab l_dmarc_zzTrimSpace Tryz.f68 = some c_dmarc_zzTrimSpace := by kernel_rfl
theorem k_dmarc_parseParams : compFn Tryz.prog tab l_dmarc_parseParams Tryz.f46 = some c_dmarc_parseParams := by kernel_rfl
theorem k_dmarc_parsePolicy : compFn Tryz.prog tab l_dmarc_parsePolicy Tryz.f47 = some c_dmarc_parsePolicy := by kernel_rfl
theorem k_dmarc_parseAlignmentMode : compFn Tryz.prog tab l_dmarc_parseAlignmentMode Tryz.f48 = some c_dmarc_parseAlignmentMode := by kernel_rfl
theorem k_dmarc_parseFailureOptions : compFn Tryz.prog tab l_dmarc_parseFailureOptions Tryz.f49 = some c_dmarc_parseFailureOptions := by kernel_rfl
theorem k_dmarc_parseURIList : compFn Tryz.prog tab l_dmarc_parseURIList Tryz.f52 = some c_dmarc_parseURIList := by kernel_rfl
theorem k_dmarc_Parse : compFn Tryz.prog tab l_dmarc_Parse Tryz.f34 = some c_dmarc_Parse := by kernel_rfl
theorem k_impl_recordOf : compFn Tryz.prog tab l_impl_recordOf Tryz.f35 = some c_impl_recordOf := by kernel_rfl
theorem k_impl_MParse : compFn Tryz.prog tab l_impl_MParse Tryz.f22 = some c_impl_MParse := by kernel_rfl
theorem k_laws_awake : compFn Tryz.prog tab l_laws_awake Tryz.f8 = some c_laws_awake := by kernel_rfl
theorem k_laws_FnAuthStable : compFn Tryz.prog tab l_laws_FnAuthStable Tryz.f3 = some c_laws_FnAuthStable := by kernel_rfl
end Go.Proofs.YtpmdjfblfpjpoabGreatDoor
