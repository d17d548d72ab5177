/- This program has these functions. -/
import Derived.Test.YtbalogmjickeaabGreatDoorChecked
import Derived.Test.YtbalogmjickeaabGreatDoorWh
set_option linter.all false
namespace Go.Proofs.YtbalogmjickeaabGreatDoor
open Wax

def tab : Tab := ⟨[(3, 230), (4, 260), (5, 261), (6, 239), (7, 262), (9, 213), (10, 214), (11, 204), (12, 215), (13, 216), (14, 144), (15, 207), (16, 217), (17, 137), (18, 248), (19, 233), (20, 234), (21, 249), (22, 209), (23, 208), (24, 203), (25, 201), (26, 250), (27, 99), (28, 112), (29, 102), (30, 104), (31, 105), (32, 200), (33, 205), (34, 206), (35, 156), (36, 157), (37, 202), (38, 133), (39, 235), (40, 236), (41, 227), (42, 228), (43, 226), (44, 224), (45, 229), (46, 210), (47, 100), (48, 162), (49, 163), (50, 164), (51, 165), (52, 50), (53, 166), (54, 167), (55, 142), (56, 143), (57, 237), (58, 238), (59, 225), (60, 211), (61, 169), (62, 197), (63, 170), (64, 171), (65, 172), (66, 173), (67, 49), (68, 48), (69, 149), (70, 150), (71, 151), (72, 152), (73, 153), (74, 154), (75, 155), (76, 240), (77, 241), (78, 242), (79, 174), (80, 175), (81, 176), (82, 177), (83, 178), (84, 179), (85, 180), (86, 181), (87, 182), (89, 55), (90, 159), (91, 160), (94, 161), (97, 243), (98, 244), (99, 245), (100, 246), (101, 247), (103, 168), (122, 74), (159, 251), (160, 187), (161, 252), (162, 188), (163, 253), (164, 189), (165, 254), (166, 190), (167, 255), (168, 191), (169, 158), (170, 192), (171, 198), (172, 199), (173, 256), (174, 193), (175, 257), (176, 194), (177, 259), (178, 195), (179, 258), (180, 196), (181, 90)], [(95, 8), (99, 9), (102, 10), (105, 11), (108, 12), (111, 13), (114, 14), (117, 7), (120, 15), (138, 3), (182, 4)], [(0, [.ifc 3 .junk]), (1, [.ifc 3 .junk]), (2, [.ifc 3 .junk]), (3, [.int .u64 1, .int .u64 10, .int .u64 100, .int .u64 1000, .int .u64 10000, .int .u64 100000, .int .u64 1000000, .int .u64 10000000, .int .u64 100000000, .int .u64 1000000000, .int .u64 10000000000, .int .u64 100000000000, .int .u64 1000000000000, .int .u64 10000000000000, .int .u64 100000000000000, .int .u64 1000000000000000, .int .u64 10000000000000000, .int .u64 100000000000000000, .int .u64 1000000000000000000, .int .u64 10000000000000000000])]⟩

theorem k_laws_zzFits4 : compFn Tryz.prog tab l_laws_zzFits4 Tryz.f60 = some c_laws_zzFits4 := by kernel_rfl
theorem k_laws_zzFits3 : compFn Tryz.prog tab l_laws_zzFits3 Tryz.f46 = some c_laws_zzFits3 := by kernel_rfl
theorem k_laws_zzFits2 : compFn Tryz.prog tab l_laws_zzFits2 Tryz.f22 = some c_laws_zzFits2 := by kernel_rfl
theorem k_spec_AOnly : compFn Tryz.prog tab l_spec_AOnly Tryz.f23 = some c_spec_AOnly := by kernel_rfl
theorem k_spec_MailHalves : compFn Tryz.prog tab l_spec_MailHalves Tryz.f29 = some c_spec_MailHalves := by kernel_rfl
theorem k_spec_MailAny : compFn Tryz.prog tab l_spec_MailAny Tryz.f47 = some c_spec_MailAny := by kernel_rfl
theorem k_spec_MailToken : compFn Tryz.prog tab l_spec_MailToken Tryz.f30 = some c_spec_MailToken := by kernel_rfl
theorem k_spec_MailKeyword : compFn Tryz.prog tab l_spec_MailKeyword Tryz.f27 = some c_spec_MailKeyword := by kernel_rfl
theorem k_spec_MailDomain : compFn Tryz.prog tab l_spec_MailDomain Tryz.f31 = some c_spec_MailDomain := by kernel_rfl
theorem k_spec_APlain : compFn Tryz.prog tab l_spec_APlain Tryz.f11 = some c_spec_APlain := by kernel_rfl
theorem k_impl_resultFor : compFn Tryz.prog tab l_impl_resultFor Tryz.f39 = some c_impl_resultFor := by kernel_rfl
theorem k_authres_resultMethod : compFn Tryz.prog tab l_authres_resultMethod Tryz.f57 = some c_authres_resultMethod := by kernel_rfl
theorem k_authres_tspecial : compFn Tryz.prog tab l_authres_tspecial Tryz.f97 = some c_authres_tspecial := by kernel_rfl
theorem k_authres_zzQuotes : compFn Tryz.prog tab l_authres_zzQuotes Tryz.f98 = some c_authres_zzQuotes := by kernel_rfl
theorem k_authres_formatValue : compFn Tryz.prog tab l_authres_formatValue Tryz.f77 = some c_authres_formatValue := by kernel_rfl
theorem k_authres_addressOk : compFn Tryz.prog tab l_authres_addressOk Tryz.f99 = some c_authres_addressOk := by kernel_rfl
theorem k_authres_zzIsLetter : compFn Tryz.prog tab l_authres_zzIsLetter Tryz.f100 = some c_authres_zzIsLetter := by kernel_rfl
theorem k_authres_zzIsDigit : compFn Tryz.prog tab l_authres_zzIsDigit Tryz.f101 = some c_authres_zzIsDigit := by kernel_rfl
theorem k_authres_formatPvalue : compFn Tryz.prog tab l_authres_formatPvalue Tryz.f78 = some c_authres_formatPvalue := by kernel_rfl
theorem k_authres_formatParams : compFn Tryz.prog tab l_authres_formatParams Tryz.f58 = some c_authres_formatParams := by kernel_rfl
theorem k_authres_AuthResult_format : compFn Tryz.prog tab l_authres_AuthResult_format Tryz.f159 = some c_authres_AuthResult_format := by kernel_rfl
theorem k_authres_DKIMResult_format : compFn Tryz.prog tab l_authres_DKIMResult_format Tryz.f161 = some c_authres_DKIMResult_format := by kernel_rfl
theorem k_authres_DomainKeysResult_format : compFn Tryz.prog tab l_authres_DomainKeysResult_format Tryz.f163 = some c_authres_DomainKeysResult_format := by kernel_rfl
theorem k_authres_IPRevResult_format : compFn Tryz.prog tab l_authres_IPRevResult_format Tryz.f165 = some c_authres_IPRevResult_format := by kernel_rfl
theorem k_authres_zzToLower : compFn Tryz.prog tab l_authres_zzToLower Tryz.f65 = some c_authres_zzToLower := by kernel_rfl
theorem k_authres_SenderIDResult_format : compFn Tryz.prog tab l_authres_SenderIDResult_format Tryz.f167 = some c_authres_SenderIDResult_format := by kernel_rfl
theorem k_authres_SPFResult_format : compFn Tryz.prog tab l_authres_SPFResult_format Tryz.f173 = some c_authres_SPFResult_format := by kernel_rfl
theorem k_authres_DMARCResult_format : compFn Tryz.prog tab l_authres_DMARCResult_format Tryz.f175 = some c_authres_DMARCResult_format := by kernel_rfl
theorem k_authres_GenericResult_format : compFn Tryz.prog tab l_authres_GenericResult_format Tryz.f179 = some c_authres_GenericResult_format := by kernel_rfl
theorem k_authres_Format : compFn Tryz.prog tab l_authres_Format Tryz.f40 = some c_authres_Format := by kernel_rfl
theorem k_impl_AFormat : compFn Tryz.prog tab l_impl_AFormat Tryz.f19 = some c_impl_AFormat := by kernel_rfl
theorem k_spec_areader_has : compFn Tryz.prog tab l_spec_areader_has Tryz.f44 = some c_spec_areader_has := by kernel_rfl
theorem k_spec_areader_word : compFn Tryz.prog tab l_spec_areader_word Tryz.f43 = some c_spec_areader_word := by kernel_rfl
theorem k_spec_areader_blank : compFn Tryz.prog tab l_spec_areader_blank Tryz.f41 = some c_spec_areader_blank := by kernel_rfl
theorem k_spec_areader_quoted : compFn Tryz.prog tab l_spec_areader_quoted Tryz.f59 = some c_spec_areader_quoted := by kernel_rfl
theorem k_spec_areader_value : compFn Tryz.prog tab l_spec_areader_value Tryz.f42 = some c_spec_areader_value := by kernel_rfl
theorem k_spec_MailLower : compFn Tryz.prog tab l_spec_MailLower Tryz.f28 = some c_spec_MailLower := by kernel_rfl
theorem k_spec_areader_info : compFn Tryz.prog tab l_spec_areader_info Tryz.f45 = some c_spec_areader_info := by kernel_rfl
theorem k_spec_ARead : compFn Tryz.prog tab l_spec_ARead Tryz.f20 = some c_spec_ARead := by kernel_rfl
theorem k_spec_AMethods : compFn Tryz.prog tab l_spec_AMethods Tryz.f32 = some c_spec_AMethods := by kernel_rfl
theorem k_spec_AProps : compFn Tryz.prog tab l_spec_AProps Tryz.f25 = some c_spec_AProps := by kernel_rfl
theorem k_spec_AInfoOf : compFn Tryz.prog tab l_spec_AInfoOf Tryz.f34 = some c_spec_AInfoOf := by kernel_rfl
theorem k_spec_AAgree : compFn Tryz.prog tab l_spec_AAgree Tryz.f21 = some c_spec_AAgree := by kernel_rfl
theorem k_authres_zzIndex : compFn Tryz.prog tab l_authres_zzIndex Tryz.f61 = some c_authres_zzIndex := by kernel_rfl
theorem k_authres_zzSplit : compFn Tryz.prog tab l_authres_zzSplit Tryz.f48 = some c_authres_zzSplit := by kernel_rfl
theorem k_authres_zzIsSpace : compFn Tryz.prog tab l_authres_zzIsSpace Tryz.f51 = some c_authres_zzIsSpace := by kernel_rfl
theorem k_authres_zzTrimSpace : compFn Tryz.prog tab l_authres_zzTrimSpace Tryz.f49 = some c_authres_zzTrimSpace := by kernel_rfl
theorem k_strings_indexFunc : compFn Tryz.prog tab l_strings_indexFunc Tryz.f62 = some c_strings_indexFunc := by kernel_rfl
theorem k_strings_IndexFunc : compFn Tryz.prog tab l_strings_IndexFunc Tryz.f50 = some c_strings_IndexFunc := by kernel_rfl
theorem k_errors_New : compFn Tryz.prog tab l_errors_New Tryz.f52 = some c_errors_New := by kernel_rfl
theorem k_authres_zzFields : compFn Tryz.prog tab l_authres_zzFields Tryz.f63 = some c_authres_zzFields := by kernel_rfl
theorem k_authres_zzCut : compFn Tryz.prog tab l_authres_zzCut Tryz.f79 = some c_authres_zzCut := by kernel_rfl
theorem k_authres_parseParam : compFn Tryz.prog tab l_authres_parseParam Tryz.f64 = some c_authres_parseParam := by kernel_rfl
theorem k_authres_newResults : compFn Tryz.prog tab l_authres_newResults Tryz.f66 = some c_authres_newResults := by kernel_rfl
theorem k_authres_newResults_1 : compFn Tryz.prog tab l_authres_newResults_1 Tryz.f80 = some c_authres_newResults_1 := by kernel_rfl
theorem k_authres_newResults_2 : compFn Tryz.prog tab l_authres_newResults_2 Tryz.f81 = some c_authres_newResults_2 := by kernel_rfl
theorem k_authres_newResults_3 : compFn Tryz.prog tab l_authres_newResults_3 Tryz.f82 = some c_authres_newResults_3 := by kernel_rfl
theorem k_authres_newResults_4 : compFn Tryz.prog tab l_authres_newResults_4 Tryz.f83 = some c_authres_newResults_4 := by kernel_rfl
theorem k_authres_newResults_5 : compFn Tryz.prog tab l_authres_newResults_5 Tryz.f84 = some c_authres_newResults_5 := by kernel_rfl
theorem k_authres_newResults_6 : compFn Tryz.prog tab l_authres_newResults_6 Tryz.f85 = some c_authres_newResults_6 := by kernel_rfl
theorem k_authres_newResults_7 : compFn Tryz.prog tab l_authres_newResults_7 Tryz.f86 = some c_authres_newResults_7 := by kernel_rfl
theorem k_authres_newResults_8 : compFn Tryz.prog tab l_authres_newResults_8 Tryz.f87 = some c_authres_newResults_8 := by kernel_rfl
theorem k_authres_AuthResult_parse : compFn Tryz.prog tab l_authres_AuthResult_parse Tryz.f160 = some c_authres_AuthResult_parse := by kernel_rfl
theorem k_authres_DKIMResult_parse : compFn Tryz.prog tab l_authres_DKIMResult_parse Tryz.f162 = some c_authres_DKIMResult_parse := by kernel_rfl
theorem k_authres_DomainKeysResult_parse : compFn Tryz.prog tab l_authres_DomainKeysResult_parse Tryz.f164 = some c_authres_DomainKeysResult_parse := by kernel_rfl
theorem k_authres_IPRevResult_parse : compFn Tryz.prog tab l_authres_IPRevResult_parse Tryz.f166 = some c_authres_IPRevResult_parse := by kernel_rfl
theorem k_maps_Keys : compFn Tryz.prog tab l_maps_Keys Tryz.f68 = some c_maps_Keys := by kernel_rfl
theorem k_stringslite_HasPrefix : compFn Tryz.prog tab l_stringslite_HasPrefix Tryz.f171 = some c_stringslite_HasPrefix := by kernel_rfl
theorem k_strings_HasPrefix : compFn Tryz.prog tab l_strings_HasPrefix Tryz.f169 = some c_strings_HasPrefix := by kernel_rfl
theorem k_stringslite_TrimPrefix : compFn Tryz.prog tab l_stringslite_TrimPrefix Tryz.f172 = some c_stringslite_TrimPrefix := by kernel_rfl
theorem k_strings_TrimPrefix : compFn Tryz.prog tab l_strings_TrimPrefix Tryz.f170 = some c_strings_TrimPrefix := by kernel_rfl
theorem k_authres_SenderIDResult_parse : compFn Tryz.prog tab l_authres_SenderIDResult_parse Tryz.f168 = some c_authres_SenderIDResult_parse := by kernel_rfl
theorem k_authres_SPFResult_parse : compFn Tryz.prog tab l_authres_SPFResult_parse Tryz.f174 = some c_authres_SPFResult_parse := by kernel_rfl
theorem k_authres_DMARCResult_parse : compFn Tryz.prog tab l_authres_DMARCResult_parse Tryz.f176 = some c_authres_DMARCResult_parse := by kernel_rfl
theorem k_authres_ARCResult_parse : compFn Tryz.prog tab l_authres_ARCResult_parse Tryz.f178 = some c_authres_ARCResult_parse := by kernel_rfl
theorem k_authres_GenericResult_parse : compFn Tryz.prog tab l_authres_GenericResult_parse Tryz.f180 = some c_authres_GenericResult_parse := by kernel_rfl
theorem k_authres_parseResult : compFn Tryz.prog tab l_authres_parseResult Tryz.f53 = some c_authres_parseResult := by kernel_rfl
theorem k_authres_Parse : compFn Tryz.prog tab l_authres_Parse Tryz.f35 = some c_authres_Parse := by kernel_rfl
theorem k_impl_paramsOf : compFn Tryz.prog tab l_impl_paramsOf Tryz.f54 = some c_impl_paramsOf := by kernel_rfl
theorem k_impl_resultOf : compFn Tryz.prog tab l_impl_resultOf Tryz.f36 = some c_impl_resultOf := by kernel_rfl
theorem k_impl_AParse : compFn Tryz.prog tab l_impl_AParse Tryz.f14 = some c_impl_AParse := by kernel_rfl
theorem k_dmarc_zzIndex : compFn Tryz.prog tab l_dmarc_zzIndex Tryz.f94 = some c_dmarc_zzIndex := by kernel_rfl
theorem k_dmarc_zzSplit : compFn Tryz.prog tab l_dmarc_zzSplit Tryz.f74 = some c_dmarc_zzSplit := by kernel_rfl
theorem k_dmarc_zzCut2 : compFn Tryz.prog tab l_dmarc_zzCut2 Tryz.f90 = some c_dmarc_zzCut2 := by kernel_rfl
theorem k_dmarc_zzIsSpace : compFn Tryz.prog tab l_dmarc_zzIsSpace Tryz.f103 = some c_dmarc_zzIsSpace := by kernel_rfl
theorem k_dmarc_zzTrimSpace : compFn Tryz.prog tab l_dmarc_zzTrimSpace Tryz.f91 = some c_dmarc_zzTrimSpace := by kernel_rfl
theorem k_dmarc_parseParams : compFn Tryz.prog tab l_dmarc_parseParams Tryz.f69 = some c_dmarc_parseParams := by kernel_rfl
theorem k_dmarc_parsePolicy : compFn Tryz.prog tab l_dmarc_parsePolicy Tryz.f70 = some c_dmarc_parsePolicy := by kernel_rfl
theorem k_dmarc_parseAlignmentMode : compFn Tryz.prog tab l_dmarc_parseAlignmentMode Tryz.f71 = some c_dmarc_parseAlignmentMode := by kernel_rfl
theorem k_dmarc_parseFailureOptions : compFn Tryz.prog tab l_dmarc_parseFailureOptions Tryz.f72 = some c_dmarc_parseFailureOptions := by kernel_rfl
theorem k_dmarc_parseURIList : compFn Tryz.prog tab l_dmarc_parseURIList Tryz.f75 = some c_dmarc_parseURIList := by kernel_rfl
theorem k_dmarc_Parse : compFn Tryz.prog tab l_dmarc_Parse Tryz.f55 = some c_dmarc_Parse := by kernel_rfl
theorem k_impl_recordOf : compFn Tryz.prog tab l_impl_recordOf Tryz.f56 = some c_impl_recordOf := by kernel_rfl
theorem k_impl_MParse : compFn Tryz.prog tab l_impl_MParse Tryz.f38 = some c_impl_MParse := by kernel_rfl
theorem k_laws_awake : compFn Tryz.prog tab l_laws_awake Tryz.f17 = some c_laws_awake := by kernel_rfl
theorem k_spec_AQuotes : compFn Tryz.prog tab l_spec_AQuotes Tryz.f26 = some c_spec_AQuotes := by kernel_rfl
theorem k_spec_AValues : compFn Tryz.prog tab l_spec_AValues Tryz.f24 = some c_spec_AValues := by kernel_rfl
theorem k_laws_FnAuthQuoted : compFn Tryz.prog tab l_laws_FnAuthQuoted Tryz.f7 = some c_laws_FnAuthQuoted := by kernel_rfl
end Go.Proofs.YtbalogmjickeaabGreatDoor
