/- This program has these functions. -/
import Derived.Test.YtopbibccfdnmeaaGreatDoorChecked
import Derived.Test.YtopbibccfdnmeaaGreatDoorWg
set_option linter.all false
namespace Go.Proofs.YtopbibccfdnmeaaGreatDoor
open Wax

def tab (B : List (Nat × Go.Addr)) : Tab := ⟨[(3, 129), (4, 131), (5, 105), (6, 132), (7, 134), (8, 140), (9, 133), (10, 136), (11, 137), (12, 119), (13, 99), (14, 111), (15, 112), (16, 113), (17, 100), (18, 114), (19, 115), (20, 145), (21, 146), (22, 143), (23, 147), (24, 142), (25, 116), (26, 144), (27, 106), (28, 107), (29, 108), (30, 103), (31, 109), (32, 110), (33, 50), (34, 158), (35, 149), (36, 150), (37, 151), (38, 152), (39, 153), (40, 154), (41, 155), (42, 156), (43, 157), (44, 101), (45, 102), (46, 104), (47, 198), (48, 159), (49, 160), (52, 161), (53, 162), (54, 163), (55, 164), (56, 165), (57, 166), (58, 167), (59, 168), (65, 169), (66, 197), (67, 170), (68, 171), (69, 172), (70, 173), (71, 49), (72, 48), (75, 74), (76, 174), (77, 175), (78, 176), (79, 177), (80, 178), (81, 179), (82, 180), (83, 181), (84, 182), (86, 240), (87, 55), (138, 183), (139, 184), (140, 185), (141, 186), (142, 90), (143, 251), (144, 187), (145, 252), (146, 188), (147, 253), (148, 189), (149, 254), (150, 190), (151, 255), (152, 191), (153, 192), (154, 199), (155, 256), (156, 193), (157, 257), (158, 194), (159, 259), (160, 195), (161, 258), (162, 196)], [(56, 16), (78, 17), (113, 3), (122, 8), (126, 9), (129, 10), (132, 11), (135, 12), (138, 13), (141, 14), (144, 7), (147, 15), (155, 4)], [(0, [.ifc 3 (.gp 2)]), (1, [.ifc 3 (.gp 1)]), (2, [.ifc 3 .junk]), (3, [.ifc 3 .junk]), (4, [.int .u64 1, .int .u64 10, .int .u64 100, .int .u64 1000, .int .u64 10000, .int .u64 100000, .int .u64 1000000, .int .u64 10000000, .int .u64 100000000, .int .u64 1000000000, .int .u64 10000000000, .int .u64 100000000000, .int .u64 1000000000000, .int .u64 10000000000000, .int .u64 100000000000000, .int .u64 1000000000000000, .int .u64 10000000000000000, .int .u64 100000000000000000, .int .u64 1000000000000000000, .int .u64 10000000000000000000])], B, [(113, 3), (78, 17), (56, 16)]⟩

theorem k_authres_zzIsSpace (B : List (Nat × Go.Addr)) : compFn Tryz.prog (tab B) l_authres_zzIsSpace Tryz.f56 = some c_authres_zzIsSpace := by kernel_rfl
theorem k_authres_zzTrimSpace (B : List (Nat × Go.Addr)) : compFn Tryz.prog (tab B) l_authres_zzTrimSpace Tryz.f54 = some c_authres_zzTrimSpace := by kernel_rfl
theorem k_authres_zzIndex (B : List (Nat × Go.Addr)) : compFn Tryz.prog (tab B) l_authres_zzIndex Tryz.f65 = some c_authres_zzIndex := by kernel_rfl
theorem k_authres_zzSplit (B : List (Nat × Go.Addr)) : compFn Tryz.prog (tab B) l_authres_zzSplit Tryz.f53 = some c_authres_zzSplit := by kernel_rfl
theorem k_authres_zzCut (B : List (Nat × Go.Addr)) : compFn Tryz.prog (tab B) l_authres_zzCut Tryz.f76 = some c_authres_zzCut := by kernel_rfl
theorem k_authres_zzToLower (B : List (Nat × Go.Addr)) : compFn Tryz.prog (tab B) l_authres_zzToLower Tryz.f69 = some c_authres_zzToLower := by kernel_rfl
theorem k_authres_zzFields (B : List (Nat × Go.Addr)) : compFn Tryz.prog (tab B) l_authres_zzFields Tryz.f67 = some c_authres_zzFields := by kernel_rfl
theorem k_authres_parseParam (B : List (Nat × Go.Addr)) : compFn Tryz.prog (tab B) l_authres_parseParam Tryz.f68 = some c_authres_parseParam := by kernel_rfl
theorem k_authres_newResults (B : List (Nat × Go.Addr)) : compFn Tryz.prog (tab B) l_authres_newResults Tryz.f70 = some c_authres_newResults := by kernel_rfl
theorem k_authres_newResults_3 (B : List (Nat × Go.Addr)) : compFn Tryz.prog (tab B) l_authres_newResults_3 Tryz.f79 = some c_authres_newResults_3 := by kernel_rfl
theorem k_authres_DKIMResult_parse (B : List (Nat × Go.Addr)) : compFn Tryz.prog (tab B) l_authres_DKIMResult_parse Tryz.f146 = some c_authres_DKIMResult_parse := by kernel_rfl
theorem k_strings_indexFunc (B : List (Nat × Go.Addr)) : compFn Tryz.prog (tab B) l_strings_indexFunc Tryz.f66 = some c_strings_indexFunc := by kernel_rfl
theorem k_strings_IndexFunc (B : List (Nat × Go.Addr)) : compFn Tryz.prog (tab B) l_strings_IndexFunc Tryz.f55 = some c_strings_IndexFunc := by kernel_rfl
theorem k_authres_parseResult (B : List (Nat × Go.Addr)) : compFn Tryz.prog (tab B) l_authres_parseResult Tryz.f57 = some c_authres_parseResult := by kernel_rfl
theorem k_authres_Parse (B : List (Nat × Go.Addr)) : compFn Tryz.prog (tab B) l_authres_Parse Tryz.f42 = some c_authres_Parse := by kernel_rfl
theorem k_impl_resultOf (B : List (Nat × Go.Addr)) : compFn Tryz.prog (tab B) l_impl_resultOf Tryz.f43 = some c_impl_resultOf := by kernel_rfl
theorem k_impl_AParse (B : List (Nat × Go.Addr)) : compFn Tryz.prog (tab B) l_impl_AParse Tryz.f26 = some c_impl_AParse := by kernel_rfl
theorem k_laws_zzFits14 (B : List (Nat × Go.Addr)) : compFn Tryz.prog (tab B) l_laws_zzFits14 Tryz.f12 = some c_laws_zzFits14 := by kernel_rfl
theorem k_laws_zzFits13 (B : List (Nat × Go.Addr)) : compFn Tryz.prog (tab B) l_laws_zzFits13 Tryz.f4 = some c_laws_zzFits13 := by kernel_rfl
theorem k_spec_MailKeyword (B : List (Nat × Go.Addr)) : compFn Tryz.prog (tab B) l_spec_MailKeyword Tryz.f13 = some c_spec_MailKeyword := by kernel_rfl
theorem k_spec_MailDomain (B : List (Nat × Go.Addr)) : compFn Tryz.prog (tab B) l_spec_MailDomain Tryz.f5 = some c_spec_MailDomain := by kernel_rfl
theorem k_spec_MailAny (B : List (Nat × Go.Addr)) : compFn Tryz.prog (tab B) l_spec_MailAny Tryz.f17 = some c_spec_MailAny := by kernel_rfl
theorem k_spec_mnumber (B : List (Nat × Go.Addr)) : compFn Tryz.prog (tab B) l_spec_mnumber Tryz.f30 = some c_spec_mnumber := by kernel_rfl
theorem k_spec_mpolicy (B : List (Nat × Go.Addr)) : compFn Tryz.prog (tab B) l_spec_mpolicy Tryz.f27 = some c_spec_mpolicy := by kernel_rfl
theorem k_spec_MailSplit (B : List (Nat × Go.Addr)) : compFn Tryz.prog (tab B) l_spec_MailSplit Tryz.f44 = some c_spec_MailSplit := by kernel_rfl
theorem k_spec_MPut_1 (B : List (Nat × Go.Addr)) : compFn Tryz.prog (tab B) l_spec_MPut_1 Tryz.f29 = some c_spec_MPut_1 := by kernel_rfl
theorem k_spec_MPut_2 (B : List (Nat × Go.Addr)) : compFn Tryz.prog (tab B) l_spec_MPut_2 Tryz.f31 = some c_spec_MPut_2 := by kernel_rfl
theorem k_spec_MailHalves (B : List (Nat × Go.Addr)) : compFn Tryz.prog (tab B) l_spec_MailHalves Tryz.f45 = some c_spec_MailHalves := by kernel_rfl
theorem k_spec_MailToken (B : List (Nat × Go.Addr)) : compFn Tryz.prog (tab B) l_spec_MailToken Tryz.f46 = some c_spec_MailToken := by kernel_rfl
theorem k_spec_muri (B : List (Nat × Go.Addr)) : compFn Tryz.prog (tab B) l_spec_muri Tryz.f32 = some c_spec_muri := by kernel_rfl
theorem k_spec_mlist (B : List (Nat × Go.Addr)) : compFn Tryz.prog (tab B) l_spec_mlist Tryz.f28 = some c_spec_mlist := by kernel_rfl
theorem k_spec_MPut (B : List (Nat × Go.Addr)) : compFn Tryz.prog (tab B) l_spec_MPut Tryz.f14 = some c_spec_MPut := by kernel_rfl
theorem k_spec_MailLower (B : List (Nat × Go.Addr)) : compFn Tryz.prog (tab B) l_spec_MailLower Tryz.f15 = some c_spec_MailLower := by kernel_rfl
theorem k_spec_MKnown (B : List (Nat × Go.Addr)) : compFn Tryz.prog (tab B) l_spec_MKnown Tryz.f16 = some c_spec_MKnown := by kernel_rfl
theorem k_spec_MRight (B : List (Nat × Go.Addr)) : compFn Tryz.prog (tab B) l_spec_MRight Tryz.f6 = some c_spec_MRight := by kernel_rfl
theorem k_spec_MSpace (B : List (Nat × Go.Addr)) : compFn Tryz.prog (tab B) l_spec_MSpace Tryz.f19 = some c_spec_MSpace := by kernel_rfl
theorem k_spec_MText_1 (B : List (Nat × Go.Addr)) : compFn Tryz.prog (tab B) l_spec_MText_1 Tryz.f18 = some c_spec_MText_1 := by kernel_rfl
theorem k_spec_MText (B : List (Nat × Go.Addr)) : compFn Tryz.prog (tab B) l_spec_MText Tryz.f7 = some c_spec_MText := by kernel_rfl
theorem k_impl_MLookup_1 (B : List (Nat × Go.Addr)) : compFn Tryz.prog (tab B) l_impl_MLookup_1 Tryz.f21 = some c_impl_MLookup_1 := by kernel_rfl
theorem k_stringslite_HasPrefix (B : List (Nat × Go.Addr)) : compFn Tryz.prog (tab B) l_stringslite_HasPrefix Tryz.f47 = some c_stringslite_HasPrefix := by kernel_rfl
theorem k_strings_HasPrefix (B : List (Nat × Go.Addr)) : compFn Tryz.prog (tab B) l_strings_HasPrefix Tryz.f34 = some c_strings_HasPrefix := by kernel_rfl
theorem k_dmarc_zzIndex (B : List (Nat × Go.Addr)) : compFn Tryz.prog (tab B) l_dmarc_zzIndex Tryz.f52 = some c_dmarc_zzIndex := by kernel_rfl
theorem k_dmarc_zzSplit (B : List (Nat × Go.Addr)) : compFn Tryz.prog (tab B) l_dmarc_zzSplit Tryz.f40 = some c_dmarc_zzSplit := by kernel_rfl
theorem k_dmarc_zzCut2 (B : List (Nat × Go.Addr)) : compFn Tryz.prog (tab B) l_dmarc_zzCut2 Tryz.f48 = some c_dmarc_zzCut2 := by kernel_rfl
theorem k_dmarc_zzIsSpace (B : List (Nat × Go.Addr)) : compFn Tryz.prog (tab B) l_dmarc_zzIsSpace Tryz.f59 = some c_dmarc_zzIsSpace := by kernel_rfl
theorem k_dmarc_zzTrimSpace (B : List (Nat × Go.Addr)) : compFn Tryz.prog (tab B) l_dmarc_zzTrimSpace Tryz.f49 = some c_dmarc_zzTrimSpace := by kernel_rfl
theorem k_errors_New (B : List (Nat × Go.Addr)) : compFn Tryz.prog (tab B) l_errors_New Tryz.f33 = some c_errors_New := by kernel_rfl
theorem k_dmarc_parseParams (B : List (Nat × Go.Addr)) : compFn Tryz.prog (tab B) l_dmarc_parseParams Tryz.f35 = some c_dmarc_parseParams := by kernel_rfl
theorem k_dmarc_parsePolicy (B : List (Nat × Go.Addr)) : compFn Tryz.prog (tab B) l_dmarc_parsePolicy Tryz.f36 = some c_dmarc_parsePolicy := by kernel_rfl
theorem k_dmarc_parseAlignmentMode (B : List (Nat × Go.Addr)) : compFn Tryz.prog (tab B) l_dmarc_parseAlignmentMode Tryz.f37 = some c_dmarc_parseAlignmentMode := by kernel_rfl
theorem k_dmarc_parseFailureOptions (B : List (Nat × Go.Addr)) : compFn Tryz.prog (tab B) l_dmarc_parseFailureOptions Tryz.f38 = some c_dmarc_parseFailureOptions := by kernel_rfl
theorem k_dmarc_parseURIList (B : List (Nat × Go.Addr)) : compFn Tryz.prog (tab B) l_dmarc_parseURIList Tryz.f41 = some c_dmarc_parseURIList := by kernel_rfl
theorem k_dmarc_Parse (B : List (Nat × Go.Addr)) : compFn Tryz.prog (tab B) l_dmarc_Parse Tryz.f24 = some c_dmarc_Parse := by kernel_rfl
theorem k_dmarc_LookupWithOptions (B : List (Nat × Go.Addr)) : compFn Tryz.prog (tab B) l_dmarc_LookupWithOptions Tryz.f20 = some c_dmarc_LookupWithOptions := by kernel_rfl
theorem k_impl_recordOf (B : List (Nat × Go.Addr)) : compFn Tryz.prog (tab B) l_impl_recordOf Tryz.f22 = some c_impl_recordOf := by kernel_rfl
theorem k_impl_MLookup (B : List (Nat × Go.Addr)) : compFn Tryz.prog (tab B) l_impl_MLookup Tryz.f8 = some c_impl_MLookup := by kernel_rfl
theorem k_impl_MParse (B : List (Nat × Go.Addr)) : compFn Tryz.prog (tab B) l_impl_MParse Tryz.f9 = some c_impl_MParse := by kernel_rfl
theorem k_spec_MailTexts (B : List (Nat × Go.Addr)) : compFn Tryz.prog (tab B) l_spec_MailTexts Tryz.f25 = some c_spec_MailTexts := by kernel_rfl
theorem k_spec_MSame (B : List (Nat × Go.Addr)) : compFn Tryz.prog (tab B) l_spec_MSame Tryz.f10 = some c_spec_MSame := by kernel_rfl
theorem k_laws_awake (B : List (Nat × Go.Addr)) : compFn Tryz.prog (tab B) l_laws_awake Tryz.f11 = some c_laws_awake := by kernel_rfl
theorem k_laws_FnDmarcAmong (B : List (Nat × Go.Addr)) : compFn Tryz.prog (tab B) l_laws_FnDmarcAmong Tryz.f3 = some c_laws_FnDmarcAmong := by kernel_rfl
end Go.Proofs.YtopbibccfdnmeaaGreatDoor
