/- This program has these functions. -/
import Derived.Test.YtopbibccfdnmeabGreatDoorChecked
import Derived.Test.YtopbibccfdnmeabGreatDoorWg
set_option linter.all false
namespace Go.Proofs.YtopbibccfdnmeabGreatDoor
open Wax

def tab (B : List (Nat × Go.Addr)) : Tab := ⟨[(3, 130), (4, 131), (5, 141), (6, 105), (7, 132), (8, 112), (9, 134), (10, 140), (11, 133), (12, 136), (13, 137), (14, 119), (15, 148), (16, 99), (17, 111), (18, 113), (19, 100), (20, 114), (21, 115), (22, 145), (23, 146), (24, 143), (25, 147), (26, 142), (27, 116), (28, 144), (29, 32), (30, 106), (31, 107), (32, 108), (33, 103), (34, 109), (35, 110), (36, 50), (37, 158), (38, 149), (39, 150), (40, 151), (41, 152), (42, 153), (43, 154), (44, 155), (45, 156), (46, 157), (47, 101), (48, 102), (49, 104), (50, 198), (51, 159), (52, 160), (55, 161), (56, 162), (57, 163), (58, 164), (59, 165), (60, 166), (61, 167), (62, 168), (68, 169), (69, 197), (70, 170), (71, 171), (72, 172), (73, 173), (74, 49), (75, 48), (78, 74), (79, 174), (80, 175), (81, 176), (82, 177), (83, 178), (84, 179), (85, 180), (86, 181), (87, 182), (89, 240), (90, 55), (141, 183), (142, 184), (143, 185), (144, 186), (145, 90), (146, 251), (147, 187), (148, 252), (149, 188), (150, 253), (151, 189), (152, 254), (153, 190), (154, 255), (155, 191), (156, 192), (157, 199), (158, 256), (159, 193), (160, 257), (161, 194), (162, 259), (163, 195), (164, 258), (165, 196)], [(58, 16), (81, 17), (116, 3), (125, 8), (129, 9), (132, 10), (135, 11), (138, 12), (141, 13), (144, 14), (147, 7), (150, 15), (158, 4)], [(0, [.ifc 3 (.gp 2)]), (1, [.ifc 3 (.gp 1)]), (2, [.ifc 3 .junk]), (3, [.ifc 3 .junk]), (4, [.int .u64 1, .int .u64 10, .int .u64 100, .int .u64 1000, .int .u64 10000, .int .u64 100000, .int .u64 1000000, .int .u64 10000000, .int .u64 100000000, .int .u64 1000000000, .int .u64 10000000000, .int .u64 100000000000, .int .u64 1000000000000, .int .u64 10000000000000, .int .u64 100000000000000, .int .u64 1000000000000000, .int .u64 10000000000000000, .int .u64 100000000000000000, .int .u64 1000000000000000000, .int .u64 10000000000000000000])], B, gcA, [(116, 3), (81, 17), (58, 16)]⟩

theorem k_authres_zzIsSpace (B : List (Nat × Go.Addr)) : compFn Tryz.prog (tab B) l_authres_zzIsSpace Tryz.f59 = some c_authres_zzIsSpace := by kernel_rfl
theorem k_authres_zzTrimSpace (B : List (Nat × Go.Addr)) : compFn Tryz.prog (tab B) l_authres_zzTrimSpace Tryz.f57 = some c_authres_zzTrimSpace := by kernel_rfl
theorem k_authres_zzIndex (B : List (Nat × Go.Addr)) : compFn Tryz.prog (tab B) l_authres_zzIndex Tryz.f68 = some c_authres_zzIndex := by kernel_rfl
theorem k_authres_zzSplit (B : List (Nat × Go.Addr)) : compFn Tryz.prog (tab B) l_authres_zzSplit Tryz.f56 = some c_authres_zzSplit := by kernel_rfl
theorem k_authres_zzCut (B : List (Nat × Go.Addr)) : compFn Tryz.prog (tab B) l_authres_zzCut Tryz.f79 = some c_authres_zzCut := by kernel_rfl
theorem k_authres_zzToLower (B : List (Nat × Go.Addr)) : compFn Tryz.prog (tab B) l_authres_zzToLower Tryz.f72 = some c_authres_zzToLower := by kernel_rfl
theorem k_authres_zzFields (B : List (Nat × Go.Addr)) : compFn Tryz.prog (tab B) l_authres_zzFields Tryz.f70 = some c_authres_zzFields := by kernel_rfl
theorem k_authres_parseParam (B : List (Nat × Go.Addr)) : compFn Tryz.prog (tab B) l_authres_parseParam Tryz.f71 = some c_authres_parseParam := by kernel_rfl
theorem k_authres_newResults (B : List (Nat × Go.Addr)) : compFn Tryz.prog (tab B) l_authres_newResults Tryz.f73 = some c_authres_newResults := by kernel_rfl
theorem k_authres_newResults_3 (B : List (Nat × Go.Addr)) : compFn Tryz.prog (tab B) l_authres_newResults_3 Tryz.f82 = some c_authres_newResults_3 := by kernel_rfl
theorem k_authres_DKIMResult_parse (B : List (Nat × Go.Addr)) : compFn Tryz.prog (tab B) l_authres_DKIMResult_parse Tryz.f149 = some c_authres_DKIMResult_parse := by kernel_rfl
theorem k_strings_indexFunc (B : List (Nat × Go.Addr)) : compFn Tryz.prog (tab B) l_strings_indexFunc Tryz.f69 = some c_strings_indexFunc := by kernel_rfl
theorem k_strings_IndexFunc (B : List (Nat × Go.Addr)) : compFn Tryz.prog (tab B) l_strings_IndexFunc Tryz.f58 = some c_strings_IndexFunc := by kernel_rfl
theorem k_authres_parseResult (B : List (Nat × Go.Addr)) : compFn Tryz.prog (tab B) l_authres_parseResult Tryz.f60 = some c_authres_parseResult := by kernel_rfl
theorem k_authres_Parse (B : List (Nat × Go.Addr)) : compFn Tryz.prog (tab B) l_authres_Parse Tryz.f45 = some c_authres_Parse := by kernel_rfl
theorem k_impl_resultOf (B : List (Nat × Go.Addr)) : compFn Tryz.prog (tab B) l_impl_resultOf Tryz.f46 = some c_impl_resultOf := by kernel_rfl
theorem k_impl_AParse (B : List (Nat × Go.Addr)) : compFn Tryz.prog (tab B) l_impl_AParse Tryz.f28 = some c_impl_AParse := by kernel_rfl
theorem k_laws_zzFits14 (B : List (Nat × Go.Addr)) : compFn Tryz.prog (tab B) l_laws_zzFits14 Tryz.f14 = some c_laws_zzFits14 := by kernel_rfl
theorem k_laws_zzFits13 (B : List (Nat × Go.Addr)) : compFn Tryz.prog (tab B) l_laws_zzFits13 Tryz.f4 = some c_laws_zzFits13 := by kernel_rfl
theorem k_laws_zzFits7 (B : List (Nat × Go.Addr)) : compFn Tryz.prog (tab B) l_laws_zzFits7 Tryz.f29 = some c_laws_zzFits7 := by kernel_rfl
theorem k_laws_zzFits16 (B : List (Nat × Go.Addr)) : compFn Tryz.prog (tab B) l_laws_zzFits16 Tryz.f15 = some c_laws_zzFits16 := by kernel_rfl
theorem k_laws_zzFits15 (B : List (Nat × Go.Addr)) : compFn Tryz.prog (tab B) l_laws_zzFits15 Tryz.f5 = some c_laws_zzFits15 := by kernel_rfl
theorem k_spec_MailKeyword (B : List (Nat × Go.Addr)) : compFn Tryz.prog (tab B) l_spec_MailKeyword Tryz.f16 = some c_spec_MailKeyword := by kernel_rfl
theorem k_spec_MailDomain (B : List (Nat × Go.Addr)) : compFn Tryz.prog (tab B) l_spec_MailDomain Tryz.f6 = some c_spec_MailDomain := by kernel_rfl
theorem k_spec_MailLower (B : List (Nat × Go.Addr)) : compFn Tryz.prog (tab B) l_spec_MailLower Tryz.f8 = some c_spec_MailLower := by kernel_rfl
theorem k_spec_MailAny (B : List (Nat × Go.Addr)) : compFn Tryz.prog (tab B) l_spec_MailAny Tryz.f19 = some c_spec_MailAny := by kernel_rfl
theorem k_spec_mnumber (B : List (Nat × Go.Addr)) : compFn Tryz.prog (tab B) l_spec_mnumber Tryz.f33 = some c_spec_mnumber := by kernel_rfl
theorem k_spec_mpolicy (B : List (Nat × Go.Addr)) : compFn Tryz.prog (tab B) l_spec_mpolicy Tryz.f30 = some c_spec_mpolicy := by kernel_rfl
theorem k_spec_MailSplit (B : List (Nat × Go.Addr)) : compFn Tryz.prog (tab B) l_spec_MailSplit Tryz.f47 = some c_spec_MailSplit := by kernel_rfl
theorem k_spec_MPut_1 (B : List (Nat × Go.Addr)) : compFn Tryz.prog (tab B) l_spec_MPut_1 Tryz.f32 = some c_spec_MPut_1 := by kernel_rfl
theorem k_spec_MPut_2 (B : List (Nat × Go.Addr)) : compFn Tryz.prog (tab B) l_spec_MPut_2 Tryz.f34 = some c_spec_MPut_2 := by kernel_rfl
theorem k_spec_MailHalves (B : List (Nat × Go.Addr)) : compFn Tryz.prog (tab B) l_spec_MailHalves Tryz.f48 = some c_spec_MailHalves := by kernel_rfl
theorem k_spec_MailToken (B : List (Nat × Go.Addr)) : compFn Tryz.prog (tab B) l_spec_MailToken Tryz.f49 = some c_spec_MailToken := by kernel_rfl
theorem k_spec_muri (B : List (Nat × Go.Addr)) : compFn Tryz.prog (tab B) l_spec_muri Tryz.f35 = some c_spec_muri := by kernel_rfl
theorem k_spec_mlist (B : List (Nat × Go.Addr)) : compFn Tryz.prog (tab B) l_spec_mlist Tryz.f31 = some c_spec_mlist := by kernel_rfl
theorem k_spec_MPut (B : List (Nat × Go.Addr)) : compFn Tryz.prog (tab B) l_spec_MPut Tryz.f17 = some c_spec_MPut := by kernel_rfl
theorem k_spec_MKnown (B : List (Nat × Go.Addr)) : compFn Tryz.prog (tab B) l_spec_MKnown Tryz.f18 = some c_spec_MKnown := by kernel_rfl
theorem k_spec_MRight (B : List (Nat × Go.Addr)) : compFn Tryz.prog (tab B) l_spec_MRight Tryz.f7 = some c_spec_MRight := by kernel_rfl
theorem k_spec_MSpace (B : List (Nat × Go.Addr)) : compFn Tryz.prog (tab B) l_spec_MSpace Tryz.f21 = some c_spec_MSpace := by kernel_rfl
theorem k_spec_MText_1 (B : List (Nat × Go.Addr)) : compFn Tryz.prog (tab B) l_spec_MText_1 Tryz.f20 = some c_spec_MText_1 := by kernel_rfl
theorem k_spec_MText (B : List (Nat × Go.Addr)) : compFn Tryz.prog (tab B) l_spec_MText Tryz.f9 = some c_spec_MText := by kernel_rfl
theorem k_impl_MLookup_1 (B : List (Nat × Go.Addr)) : compFn Tryz.prog (tab B) l_impl_MLookup_1 Tryz.f23 = some c_impl_MLookup_1 := by kernel_rfl
theorem k_stringslite_HasPrefix (B : List (Nat × Go.Addr)) : compFn Tryz.prog (tab B) l_stringslite_HasPrefix Tryz.f50 = some c_stringslite_HasPrefix := by kernel_rfl
theorem k_strings_HasPrefix (B : List (Nat × Go.Addr)) : compFn Tryz.prog (tab B) l_strings_HasPrefix Tryz.f37 = some c_strings_HasPrefix := by kernel_rfl
theorem k_dmarc_zzIndex (B : List (Nat × Go.Addr)) : compFn Tryz.prog (tab B) l_dmarc_zzIndex Tryz.f55 = some c_dmarc_zzIndex := by kernel_rfl
theorem k_dmarc_zzSplit (B : List (Nat × Go.Addr)) : compFn Tryz.prog (tab B) l_dmarc_zzSplit Tryz.f43 = some c_dmarc_zzSplit := by kernel_rfl
theorem k_dmarc_zzCut2 (B : List (Nat × Go.Addr)) : compFn Tryz.prog (tab B) l_dmarc_zzCut2 Tryz.f51 = some c_dmarc_zzCut2 := by kernel_rfl
theorem k_dmarc_zzIsSpace (B : List (Nat × Go.Addr)) : compFn Tryz.prog (tab B) l_dmarc_zzIsSpace Tryz.f62 = some c_dmarc_zzIsSpace := by kernel_rfl
theorem k_dmarc_zzTrimSpace (B : List (Nat × Go.Addr)) : compFn Tryz.prog (tab B) l_dmarc_zzTrimSpace Tryz.f52 = some c_dmarc_zzTrimSpace := by kernel_rfl
theorem k_errors_New (B : List (Nat × Go.Addr)) : compFn Tryz.prog (tab B) l_errors_New Tryz.f36 = some c_errors_New := by kernel_rfl
theorem k_dmarc_parseParams (B : List (Nat × Go.Addr)) : compFn Tryz.prog (tab B) l_dmarc_parseParams Tryz.f38 = some c_dmarc_parseParams := by kernel_rfl
theorem k_dmarc_parsePolicy (B : List (Nat × Go.Addr)) : compFn Tryz.prog (tab B) l_dmarc_parsePolicy Tryz.f39 = some c_dmarc_parsePolicy := by kernel_rfl
theorem k_dmarc_parseAlignmentMode (B : List (Nat × Go.Addr)) : compFn Tryz.prog (tab B) l_dmarc_parseAlignmentMode Tryz.f40 = some c_dmarc_parseAlignmentMode := by kernel_rfl
theorem k_dmarc_parseFailureOptions (B : List (Nat × Go.Addr)) : compFn Tryz.prog (tab B) l_dmarc_parseFailureOptions Tryz.f41 = some c_dmarc_parseFailureOptions := by kernel_rfl
theorem k_dmarc_parseURIList (B : List (Nat × Go.Addr)) : compFn Tryz.prog (tab B) l_dmarc_parseURIList Tryz.f44 = some c_dmarc_parseURIList := by kernel_rfl
theorem k_dmarc_Parse (B : List (Nat × Go.Addr)) : compFn Tryz.prog (tab B) l_dmarc_Parse Tryz.f26 = some c_dmarc_Parse := by kernel_rfl
theorem k_impl_failed_Temporary (B : List (Nat × Go.Addr)) : compFn Tryz.prog (tab B) l_impl_failed_Temporary Tryz.f143 = some c_impl_failed_Temporary := by kernel_rfl
theorem k_impl_failed_NotFound (B : List (Nat × Go.Addr)) : compFn Tryz.prog (tab B) l_impl_failed_NotFound Tryz.f142 = some c_impl_failed_NotFound := by kernel_rfl
theorem k_impl_failed_Error (B : List (Nat × Go.Addr)) : compFn Tryz.prog (tab B) l_impl_failed_Error Tryz.f141 = some c_impl_failed_Error := by kernel_rfl
theorem k_dmarc_LookupWithOptions (B : List (Nat × Go.Addr)) : compFn Tryz.prog (tab B) l_dmarc_LookupWithOptions Tryz.f22 = some c_dmarc_LookupWithOptions := by kernel_rfl
theorem k_impl_recordOf (B : List (Nat × Go.Addr)) : compFn Tryz.prog (tab B) l_impl_recordOf Tryz.f24 = some c_impl_recordOf := by kernel_rfl
theorem k_dmarc_IsTempFail (B : List (Nat × Go.Addr)) : compFn Tryz.prog (tab B) l_dmarc_IsTempFail Tryz.f25 = some c_dmarc_IsTempFail := by kernel_rfl
theorem k_impl_MLookup (B : List (Nat × Go.Addr)) : compFn Tryz.prog (tab B) l_impl_MLookup Tryz.f10 = some c_impl_MLookup := by kernel_rfl
theorem k_impl_MParse (B : List (Nat × Go.Addr)) : compFn Tryz.prog (tab B) l_impl_MParse Tryz.f11 = some c_impl_MParse := by kernel_rfl
theorem k_spec_MailTexts (B : List (Nat × Go.Addr)) : compFn Tryz.prog (tab B) l_spec_MailTexts Tryz.f27 = some c_spec_MailTexts := by kernel_rfl
theorem k_spec_MSame (B : List (Nat × Go.Addr)) : compFn Tryz.prog (tab B) l_spec_MSame Tryz.f12 = some c_spec_MSame := by kernel_rfl
theorem k_laws_awake (B : List (Nat × Go.Addr)) : compFn Tryz.prog (tab B) l_laws_awake Tryz.f13 = some c_laws_awake := by kernel_rfl
theorem k_laws_FnDmarcLookup (B : List (Nat × Go.Addr)) : compFn Tryz.prog (tab B) l_laws_FnDmarcLookup Tryz.f3 = some c_laws_FnDmarcLookup := by kernel_rfl
end Go.Proofs.YtopbibccfdnmeabGreatDoor
