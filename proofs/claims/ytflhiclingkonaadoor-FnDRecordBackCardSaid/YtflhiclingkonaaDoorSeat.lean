/- This program has these functions. -/
import Derived.Test.YtflhiclingkonaaDoorChecked
import Derived.Test.YtflhiclingkonaaDoorWg
set_option linter.all false
namespace Go.Proofs.YtflhiclingkonaaDoor
open Wax

def tab : Tab := ⟨[(3, 91), (6, 98), (7, 71), (9, 10), (10, 11), (11, 88), (12, 89), (17, 27), (18, 94), (19, 95), (20, 96), (21, 97), (22, 66), (23, 67), (24, 68), (25, 69), (26, 35), (27, 7), (28, 70), (29, 54), (30, 51), (31, 6), (32, 8), (33, 81), (34, 82), (35, 76), (36, 77), (37, 83), (38, 52), (39, 84), (40, 86), (41, 85), (42, 87), (44, 3), (46, 1), (47, 32), (48, 92), (49, 59), (50, 13), (51, 2), (52, 60), (53, 64), (54, 65), (55, 14), (56, 45), (57, 46), (58, 75), (59, 78), (60, 79), (61, 80), (63, 93), (64, 58), (65, 15), (66, 63), (67, 24), (68, 47), (69, 49), (70, 48), (71, 72), (72, 73), (73, 74), (77, 57), (78, 26), (79, 61), (80, 62), (81, 25), (82, 16), (83, 18), (84, 50), (87, 55), (88, 22), (95, 23), (163, 30), (165, 31), (166, 17), (167, 21), (168, 19), (169, 20), (176, 90)], [(64, 6), (112, 5), (124, 1), (127, 2), (150, 3), (165, 4)], [(3, [.int .u64 1, .int .u64 10, .int .u64 100, .int .u64 1000, .int .u64 10000, .int .u64 100000, .int .u64 1000000, .int .u64 10000000, .int .u64 100000000, .int .u64 1000000000, .int .u64 10000000000, .int .u64 100000000000, .int .u64 1000000000000, .int .u64 10000000000000, .int .u64 100000000000000, .int .u64 1000000000000000, .int .u64 10000000000000000, .int .u64 100000000000000000, .int .u64 1000000000000000000, .int .u64 10000000000000000000])]⟩

theorem k_dkim_zzIndex : compFn Tryd.prog tab l_dkim_zzIndex Tryd.f88 = some c_dkim_zzIndex := by kernel_rfl
theorem k_dkim_zzSplit : compFn Tryd.prog tab l_dkim_zzSplit Tryd.f81 = some c_dkim_zzSplit := by kernel_rfl
theorem k_dkim_zzIsSpace : compFn Tryd.prog tab l_dkim_zzIsSpace Tryd.f95 = some c_dkim_zzIsSpace := by kernel_rfl
theorem k_dkim_stripWhitespace : compFn Tryd.prog tab l_dkim_stripWhitespace Tryd.f78 = some c_dkim_stripWhitespace := by kernel_rfl
theorem k_dkim_parseTagList : compFn Tryd.prog tab l_dkim_parseTagList Tryd.f67 = some c_dkim_parseTagList := by kernel_rfl
theorem k_dkim_TagList : compFn Tryd.prog tab l_dkim_TagList Tryd.f55 = some c_dkim_TagList := by kernel_rfl
theorem k_impl_DList : compFn Tryd.prog tab l_impl_DList Tryd.f27 = some c_impl_DList := by kernel_rfl
theorem k_dkim_canonicalizers : compFn Tryd.prog tab l_dkim_canonicalizers Tryd.f65 = some c_dkim_canonicalizers := by kernel_rfl
theorem k_dkim_simpleCanonicalizer_CanonicalizeHeader : compFn Tryd.prog tab l_dkim_simpleCanonicalizer_CanonicalizeHeader Tryd.f163 = some c_dkim_simpleCanonicalizer_CanonicalizeHeader := by kernel_rfl
theorem k_dkim_zzCut : compFn Tryd.prog tab l_dkim_zzCut Tryd.f82 = some c_dkim_zzCut := by kernel_rfl
theorem k_dkim_zzToLower : compFn Tryd.prog tab l_dkim_zzToLower Tryd.f166 = some c_dkim_zzToLower := by kernel_rfl
theorem k_dkim_zzTrimSpace : compFn Tryd.prog tab l_dkim_zzTrimSpace Tryd.f83 = some c_dkim_zzTrimSpace := by kernel_rfl
theorem k_dkim_relaxedCanonicalizer_CanonicalizeHeader_1 : compFn Tryd.prog tab l_dkim_relaxedCanonicalizer_CanonicalizeHeader_1 Tryd.f169 = some c_dkim_relaxedCanonicalizer_CanonicalizeHeader_1 := by kernel_rfl
theorem k_strings_FieldsFunc : compFn Tryd.prog tab l_strings_FieldsFunc Tryd.f168 = some c_strings_FieldsFunc := by kernel_rfl
theorem k_dkim_relaxedCanonicalizer_CanonicalizeHeader : compFn Tryd.prog tab l_dkim_relaxedCanonicalizer_CanonicalizeHeader Tryd.f165 = some c_dkim_relaxedCanonicalizer_CanonicalizeHeader := by kernel_rfl
theorem k_dkim_CanonicalHeader : compFn Tryd.prog tab l_dkim_CanonicalHeader Tryd.f50 = some c_dkim_CanonicalHeader := by kernel_rfl
theorem k_impl_DCanonField : compFn Tryd.prog tab l_impl_DCanonField Tryd.f32 = some c_impl_DCanonField := by kernel_rfl
theorem k_laws_dAwake : compFn Tryd.prog tab l_laws_dAwake Tryd.f10 = some c_laws_dAwake := by kernel_rfl
theorem k_laws_zzFits7 : compFn Tryd.prog tab l_laws_zzFits7 Tryd.f47 = some c_laws_zzFits7 := by kernel_rfl
theorem k_laws_zzFits10 : compFn Tryd.prog tab l_laws_zzFits10 Tryd.f18 = some c_laws_zzFits10 := by kernel_rfl
theorem k_spec_DPlain : compFn Tryd.prog tab l_spec_DPlain Tryd.f31 = some c_spec_DPlain := by kernel_rfl
theorem k_laws_dShort : compFn Tryd.prog tab l_laws_dShort Tryd.f9 = some c_laws_dShort := by kernel_rfl
theorem k_laws_dOptions : compFn Tryd.prog tab l_laws_dOptions Tryd.f19 = some c_laws_dOptions := by kernel_rfl
theorem k_laws_dKeyed : compFn Tryd.prog tab l_laws_dKeyed Tryd.f20 = some c_laws_dKeyed := by kernel_rfl
theorem k_dkim_zzEncode : compFn Tryd.prog tab l_dkim_zzEncode Tryd.f63 = some c_dkim_zzEncode := by kernel_rfl
theorem k_dkim_Encode : compFn Tryd.prog tab l_dkim_Encode Tryd.f48 = some c_dkim_Encode := by kernel_rfl
theorem k_impl_DPublic : compFn Tryd.prog tab l_impl_DPublic Tryd.f21 = some c_impl_DPublic := by kernel_rfl
theorem k_errors_New : compFn Tryd.prog tab l_errors_New Tryd.f84 = some c_errors_New := by kernel_rfl
theorem k_dkim_parseHeaderParams : compFn Tryd.prog tab l_dkim_parseHeaderParams Tryd.f68 = some c_dkim_parseHeaderParams := by kernel_rfl
theorem k_slices_Clone : compFn Tryd.prog tab l_slices_Clone Tryd.f35 = some c_slices_Clone := by kernel_rfl
theorem k_impl_sizeOf : compFn Tryd.prog tab l_impl_sizeOf Tryd.f36 = some c_impl_sizeOf := by kernel_rfl
theorem k_impl_DRecord_1 : compFn Tryd.prog tab l_impl_DRecord_1 Tryd.f34 = some c_impl_DRecord_1 := by kernel_rfl
theorem k_dkim_zzReplaceAll : compFn Tryd.prog tab l_dkim_zzReplaceAll Tryd.f71 = some c_dkim_zzReplaceAll := by kernel_rfl
theorem k_dkim_zzDecode : compFn Tryd.prog tab l_dkim_zzDecode Tryd.f72 = some c_dkim_zzDecode := by kernel_rfl
theorem k_errors_errorString_Error : compFn Tryd.prog tab l_errors_errorString_Error Tryd.f176 = some c_errors_errorString_Error := by kernel_rfl
theorem k_dkim_parsePublicKey : compFn Tryd.prog tab l_dkim_parsePublicKey Tryd.f58 = some c_dkim_parsePublicKey := by kernel_rfl
theorem k_dkim_ParseRecord : compFn Tryd.prog tab l_dkim_ParseRecord Tryd.f33 = some c_dkim_ParseRecord := by kernel_rfl
theorem k_dkim_IsPermFail : compFn Tryd.prog tab l_dkim_IsPermFail Tryd.f59 = some c_dkim_IsPermFail := by kernel_rfl
theorem k_impl_codeOf : compFn Tryd.prog tab l_impl_codeOf Tryd.f37 = some c_impl_codeOf := by kernel_rfl
theorem k_impl_DRecord : compFn Tryd.prog tab l_impl_DRecord Tryd.f11 = some c_impl_DRecord := by kernel_rfl
theorem k_laws_FnDRecordBack : compFn Tryd.prog tab l_laws_FnDRecordBack Tryd.f6 = some c_laws_FnDRecordBack := by kernel_rfl
end Go.Proofs.YtflhiclingkonaaDoor
