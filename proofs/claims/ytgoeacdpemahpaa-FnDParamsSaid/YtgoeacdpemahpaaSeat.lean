/- This program has these functions. -/
import Derived.Test.YtgoeacdpemahpaaChecked
import Derived.Test.YtgoeacdpemahpaaWe
namespace Go.Proofs.Ytgoeacdpemahpaa
open Wax

def tab : Tab := ⟨[(3, 43), (4, 29), (5, 44), (6, 56), (7, 32), (8, 10), (9, 11), (10, 27), (11, 8), (12, 4), (13, 9), (14, 12), (15, 35), (16, 33), (17, 34), (18, 51), (19, 52), (20, 53), (21, 6), (22, 7), (23, 1), (24, 13), (25, 2), (26, 3), (27, 5), (28, 37), (29, 36), (30, 28), (31, 45), (32, 46), (33, 54), (34, 14), (35, 15), (36, 38), (37, 39), (38, 47), (39, 49), (40, 48), (41, 24), (42, 17), (43, 40), (44, 41), (45, 25), (46, 16), (47, 18), (48, 50), (51, 55), (52, 26), (53, 42), (54, 22), (55, 23), (93, 30), (95, 31), (96, 21), (97, 19), (98, 20)], [(71, 1), (74, 2), (90, 3)]⟩

theorem k_spec_DPlain : compFn Try.prog tab l_spec_DPlain Try.f21 = some c_spec_DPlain := by kernel_rfl
theorem k_laws_dShort : compFn Try.prog tab l_laws_dShort Try.f8 = some c_laws_dShort := by kernel_rfl
theorem k_dkim_zzIndex : compFn Try.prog tab l_dkim_zzIndex Try.f54 = some c_dkim_zzIndex := by kernel_rfl
theorem k_dkim_zzSplit : compFn Try.prog tab l_dkim_zzSplit Try.f45 = some c_dkim_zzSplit := by kernel_rfl
theorem k_dkim_zzIsSpace : compFn Try.prog tab l_dkim_zzIsSpace Try.f55 = some c_dkim_zzIsSpace := by kernel_rfl
theorem k_dkim_stripWhitespace : compFn Try.prog tab l_dkim_stripWhitespace Try.f52 = some c_dkim_stripWhitespace := by kernel_rfl
theorem k_dkim_parseTagList : compFn Try.prog tab l_dkim_parseTagList Try.f41 = some c_dkim_parseTagList := by kernel_rfl
theorem k_dkim_TagList : compFn Try.prog tab l_dkim_TagList Try.f34 = some c_dkim_TagList := by kernel_rfl
theorem k_impl_DList : compFn Try.prog tab l_impl_DList Try.f22 = some c_impl_DList := by kernel_rfl
theorem k_dkim_canonicalizers : compFn Try.prog tab l_dkim_canonicalizers Try.f35 = some c_dkim_canonicalizers := by kernel_rfl
theorem k_dkim_simpleCanonicalizer_CanonicalizeHeader : compFn Try.prog tab l_dkim_simpleCanonicalizer_CanonicalizeHeader Try.f93 = some c_dkim_simpleCanonicalizer_CanonicalizeHeader := by kernel_rfl
theorem k_dkim_zzCut : compFn Try.prog tab l_dkim_zzCut Try.f46 = some c_dkim_zzCut := by kernel_rfl
theorem k_dkim_zzToLower : compFn Try.prog tab l_dkim_zzToLower Try.f42 = some c_dkim_zzToLower := by kernel_rfl
theorem k_dkim_zzTrimSpace : compFn Try.prog tab l_dkim_zzTrimSpace Try.f47 = some c_dkim_zzTrimSpace := by kernel_rfl
theorem k_dkim_relaxedCanonicalizer_CanonicalizeHeader_1 : compFn Try.prog tab l_dkim_relaxedCanonicalizer_CanonicalizeHeader_1 Try.f98 = some c_dkim_relaxedCanonicalizer_CanonicalizeHeader_1 := by kernel_rfl
theorem k_strings_FieldsFunc : compFn Try.prog tab l_strings_FieldsFunc Try.f97 = some c_strings_FieldsFunc := by kernel_rfl
theorem k_dkim_relaxedCanonicalizer_CanonicalizeHeader : compFn Try.prog tab l_dkim_relaxedCanonicalizer_CanonicalizeHeader Try.f95 = some c_dkim_relaxedCanonicalizer_CanonicalizeHeader := by kernel_rfl
theorem k_dkim_CanonicalHeader : compFn Try.prog tab l_dkim_CanonicalHeader Try.f24 = some c_dkim_CanonicalHeader := by kernel_rfl
theorem k_impl_DCanonField : compFn Try.prog tab l_impl_DCanonField Try.f11 = some c_impl_DCanonField := by kernel_rfl
theorem k_laws_dAwake : compFn Try.prog tab l_laws_dAwake Try.f9 = some c_laws_dAwake := by kernel_rfl
theorem k_errors_New : compFn Try.prog tab l_errors_New Try.f48 = some c_errors_New := by kernel_rfl
theorem k_dkim_parseHeaderParams : compFn Try.prog tab l_dkim_parseHeaderParams Try.f38 = some c_dkim_parseHeaderParams := by kernel_rfl
theorem k_maps_Keys : compFn Try.prog tab l_maps_Keys Try.f40 = some c_maps_Keys := by kernel_rfl
theorem k_dkim_Params : compFn Try.prog tab l_dkim_Params Try.f31 = some c_dkim_Params := by kernel_rfl
theorem k_impl_pairsOf : compFn Try.prog tab l_impl_pairsOf Try.f32 = some c_impl_pairsOf := by kernel_rfl
theorem k_impl_DParams : compFn Try.prog tab l_impl_DParams Try.f18 = some c_impl_DParams := by kernel_rfl
theorem k_spec_dCut : compFn Try.prog tab l_spec_dCut Try.f25 = some c_spec_dCut := by kernel_rfl
theorem k_spec_dBlank : compFn Try.prog tab l_spec_dBlank Try.f23 = some c_spec_dBlank := by kernel_rfl
theorem k_spec_DTrim : compFn Try.prog tab l_spec_DTrim Try.f26 = some c_spec_DTrim := by kernel_rfl
theorem k_spec_DSplit : compFn Try.prog tab l_spec_DSplit Try.f33 = some c_spec_DSplit := by kernel_rfl
theorem k_spec_DTags : compFn Try.prog tab l_spec_DTags Try.f19 = some c_spec_DTags := by kernel_rfl
theorem k_laws_dSamePairs : compFn Try.prog tab l_laws_dSamePairs Try.f20 = some c_laws_dSamePairs := by kernel_rfl
theorem k_laws_FnDParams : compFn Try.prog tab l_laws_FnDParams Try.f6 = some c_laws_FnDParams := by kernel_rfl
end Go.Proofs.Ytgoeacdpemahpaa
