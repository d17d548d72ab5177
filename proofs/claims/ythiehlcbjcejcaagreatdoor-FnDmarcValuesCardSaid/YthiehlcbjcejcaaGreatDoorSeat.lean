/- This program has these functions. -/
import Derived.Test.YthiehlcbjcejcaaGreatDoorChecked
import Derived.Test.YthiehlcbjcejcaaGreatDoorWe
set_option linter.all false
namespace Go.Proofs.YthiehlcbjcejcaaGreatDoor
open Wax

def tab : Tab := ⟨[(3, 120), (4, 121), (5, 122), (6, 123), (7, 124), (8, 125), (9, 126), (10, 127), (11, 128), (12, 129), (13, 130), (14, 131), (15, 119), (16, 132), (17, 133), (18, 134), (19, 135), (20, 136), (21, 137), (22, 138), (23, 113), (24, 99), (25, 111), (26, 112), (27, 139), (28, 105), (29, 140), (30, 141), (31, 100), (32, 142), (33, 143), (34, 114), (35, 115), (36, 116), (37, 144), (38, 101), (39, 117), (40, 102), (41, 106), (42, 107), (43, 108), (44, 103), (45, 109), (46, 110), (47, 145), (48, 146), (49, 147), (50, 148), (51, 149), (52, 50), (53, 150), (54, 151), (55, 152), (56, 153), (57, 154), (58, 155), (59, 156), (60, 157), (61, 118), (62, 104), (63, 158), (64, 32), (65, 159), (66, 160), (69, 161), (70, 162), (71, 163), (72, 164), (73, 165), (74, 166), (75, 167), (76, 198), (77, 168), (83, 169), (84, 197), (85, 170), (86, 171), (87, 172), (88, 173), (89, 49), (90, 48), (93, 74), (94, 174), (95, 175), (96, 176), (97, 177), (98, 178), (99, 179), (100, 180), (101, 181), (102, 182), (105, 55), (156, 183), (157, 184), (158, 185), (159, 186), (160, 90), (162, 187), (164, 188), (166, 189), (168, 190), (170, 191), (171, 192), (172, 199), (174, 193), (176, 194), (178, 195), (180, 196)], [(127, 3), (136, 8), (140, 9), (143, 10), (146, 11), (149, 12), (152, 13), (155, 14), (158, 7), (161, 15), (169, 4)], [(1, [.ifc 3 .junk]), (2, [.ifc 3 .junk]), (3, [.ifc 3 .junk]), (4, [.int .u64 1, .int .u64 10, .int .u64 100, .int .u64 1000, .int .u64 10000, .int .u64 100000, .int .u64 1000000, .int .u64 10000000, .int .u64 100000000, .int .u64 1000000000, .int .u64 10000000000, .int .u64 100000000000, .int .u64 1000000000000, .int .u64 10000000000000, .int .u64 100000000000000, .int .u64 1000000000000000, .int .u64 10000000000000000, .int .u64 100000000000000000, .int .u64 1000000000000000000, .int .u64 10000000000000000000])]⟩

theorem k_authres_zzIsSpace : compFn Tryz.prog tab l_authres_zzIsSpace Tryz.f73 = some c_authres_zzIsSpace := by kernel_rfl
theorem k_authres_zzTrimSpace : compFn Tryz.prog tab l_authres_zzTrimSpace Tryz.f71 = some c_authres_zzTrimSpace := by kernel_rfl
theorem k_authres_zzIndex : compFn Tryz.prog tab l_authres_zzIndex Tryz.f83 = some c_authres_zzIndex := by kernel_rfl
theorem k_authres_zzSplit : compFn Tryz.prog tab l_authres_zzSplit Tryz.f70 = some c_authres_zzSplit := by kernel_rfl
theorem k_authres_zzCut : compFn Tryz.prog tab l_authres_zzCut Tryz.f94 = some c_authres_zzCut := by kernel_rfl
theorem k_authres_zzToLower : compFn Tryz.prog tab l_authres_zzToLower Tryz.f87 = some c_authres_zzToLower := by kernel_rfl
theorem k_authres_zzFields : compFn Tryz.prog tab l_authres_zzFields Tryz.f85 = some c_authres_zzFields := by kernel_rfl
theorem k_authres_parseParam : compFn Tryz.prog tab l_authres_parseParam Tryz.f86 = some c_authres_parseParam := by kernel_rfl
theorem k_authres_newResults : compFn Tryz.prog tab l_authres_newResults Tryz.f88 = some c_authres_newResults := by kernel_rfl
theorem k_authres_newResults_3 : compFn Tryz.prog tab l_authres_newResults_3 Tryz.f97 = some c_authres_newResults_3 := by kernel_rfl
theorem k_authres_DKIMResult_parse : compFn Tryz.prog tab l_authres_DKIMResult_parse Tryz.f164 = some c_authres_DKIMResult_parse := by kernel_rfl
theorem k_strings_indexFunc : compFn Tryz.prog tab l_strings_indexFunc Tryz.f84 = some c_strings_indexFunc := by kernel_rfl
theorem k_strings_IndexFunc : compFn Tryz.prog tab l_strings_IndexFunc Tryz.f72 = some c_strings_IndexFunc := by kernel_rfl
theorem k_authres_parseResult : compFn Tryz.prog tab l_authres_parseResult Tryz.f74 = some c_authres_parseResult := by kernel_rfl
theorem k_authres_Parse : compFn Tryz.prog tab l_authres_Parse Tryz.f59 = some c_authres_Parse := by kernel_rfl
theorem k_impl_resultOf : compFn Tryz.prog tab l_impl_resultOf Tryz.f60 = some c_impl_resultOf := by kernel_rfl
theorem k_impl_AParse : compFn Tryz.prog tab l_impl_AParse Tryz.f37 = some c_impl_AParse := by kernel_rfl
theorem k_spec_MailKeyword : compFn Tryz.prog tab l_spec_MailKeyword Tryz.f24 = some c_spec_MailKeyword := by kernel_rfl
theorem k_spec_mnumber : compFn Tryz.prog tab l_spec_mnumber Tryz.f44 = some c_spec_mnumber := by kernel_rfl
theorem k_spec_mpolicy : compFn Tryz.prog tab l_spec_mpolicy Tryz.f41 = some c_spec_mpolicy := by kernel_rfl
theorem k_spec_MailSplit : compFn Tryz.prog tab l_spec_MailSplit Tryz.f38 = some c_spec_MailSplit := by kernel_rfl
theorem k_spec_MailAny : compFn Tryz.prog tab l_spec_MailAny Tryz.f31 = some c_spec_MailAny := by kernel_rfl
theorem k_spec_MPut_1 : compFn Tryz.prog tab l_spec_MPut_1 Tryz.f43 = some c_spec_MPut_1 := by kernel_rfl
theorem k_spec_MPut_2 : compFn Tryz.prog tab l_spec_MPut_2 Tryz.f45 = some c_spec_MPut_2 := by kernel_rfl
theorem k_spec_MailHalves : compFn Tryz.prog tab l_spec_MailHalves Tryz.f40 = some c_spec_MailHalves := by kernel_rfl
theorem k_spec_MailToken : compFn Tryz.prog tab l_spec_MailToken Tryz.f62 = some c_spec_MailToken := by kernel_rfl
theorem k_spec_MailDomain : compFn Tryz.prog tab l_spec_MailDomain Tryz.f28 = some c_spec_MailDomain := by kernel_rfl
theorem k_spec_muri : compFn Tryz.prog tab l_spec_muri Tryz.f46 = some c_spec_muri := by kernel_rfl
theorem k_spec_mlist : compFn Tryz.prog tab l_spec_mlist Tryz.f42 = some c_spec_mlist := by kernel_rfl
theorem k_spec_MPut : compFn Tryz.prog tab l_spec_MPut Tryz.f25 = some c_spec_MPut := by kernel_rfl
theorem k_spec_MailLower : compFn Tryz.prog tab l_spec_MailLower Tryz.f26 = some c_spec_MailLower := by kernel_rfl
theorem k_laws_number : compFn Tryz.prog tab l_laws_number Tryz.f27 = some c_laws_number := by kernel_rfl
theorem k_dmarc_zzIndex : compFn Tryz.prog tab l_dmarc_zzIndex Tryz.f69 = some c_dmarc_zzIndex := by kernel_rfl
theorem k_dmarc_zzSplit : compFn Tryz.prog tab l_dmarc_zzSplit Tryz.f57 = some c_dmarc_zzSplit := by kernel_rfl
theorem k_dmarc_zzCut2 : compFn Tryz.prog tab l_dmarc_zzCut2 Tryz.f65 = some c_dmarc_zzCut2 := by kernel_rfl
theorem k_dmarc_zzIsSpace : compFn Tryz.prog tab l_dmarc_zzIsSpace Tryz.f77 = some c_dmarc_zzIsSpace := by kernel_rfl
theorem k_dmarc_zzTrimSpace : compFn Tryz.prog tab l_dmarc_zzTrimSpace Tryz.f66 = some c_dmarc_zzTrimSpace := by kernel_rfl
theorem k_errors_New : compFn Tryz.prog tab l_errors_New Tryz.f52 = some c_errors_New := by kernel_rfl
theorem k_dmarc_parseParams : compFn Tryz.prog tab l_dmarc_parseParams Tryz.f51 = some c_dmarc_parseParams := by kernel_rfl
theorem k_dmarc_parsePolicy : compFn Tryz.prog tab l_dmarc_parsePolicy Tryz.f53 = some c_dmarc_parsePolicy := by kernel_rfl
theorem k_dmarc_parseAlignmentMode : compFn Tryz.prog tab l_dmarc_parseAlignmentMode Tryz.f54 = some c_dmarc_parseAlignmentMode := by kernel_rfl
theorem k_dmarc_parseFailureOptions : compFn Tryz.prog tab l_dmarc_parseFailureOptions Tryz.f55 = some c_dmarc_parseFailureOptions := by kernel_rfl
theorem k_dmarc_parseURIList : compFn Tryz.prog tab l_dmarc_parseURIList Tryz.f58 = some c_dmarc_parseURIList := by kernel_rfl
theorem k_dmarc_Parse : compFn Tryz.prog tab l_dmarc_Parse Tryz.f32 = some c_dmarc_Parse := by kernel_rfl
theorem k_impl_recordOf : compFn Tryz.prog tab l_impl_recordOf Tryz.f33 = some c_impl_recordOf := by kernel_rfl
theorem k_impl_MParse : compFn Tryz.prog tab l_impl_MParse Tryz.f17 = some c_impl_MParse := by kernel_rfl
theorem k_laws_awake : compFn Tryz.prog tab l_laws_awake Tryz.f21 = some c_laws_awake := by kernel_rfl
theorem k_laws_FnDmarcValues : compFn Tryz.prog tab l_laws_FnDmarcValues Tryz.f10 = some c_laws_FnDmarcValues := by kernel_rfl
end Go.Proofs.YthiehlcbjcejcaaGreatDoor
