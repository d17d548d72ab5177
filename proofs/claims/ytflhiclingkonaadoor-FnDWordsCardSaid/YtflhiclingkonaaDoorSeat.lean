/- This program has these functions. -/
import Derived.Test.YtflhiclingkonaaDoorChecked
import Derived.Test.YtflhiclingkonaaDoorWe
namespace Go.Proofs.YtflhiclingkonaaDoor
open Wax

def tab : Tab := ⟨[(7, 71), (9, 10), (10, 11), (17, 27), (22, 66), (23, 67), (24, 68), (25, 69), (26, 35), (27, 7), (28, 70), (29, 54), (30, 51), (31, 6), (32, 8), (38, 52), (44, 3), (46, 1), (47, 32), (49, 59), (50, 13), (51, 2), (52, 60), (53, 64), (54, 65), (55, 14), (56, 45), (57, 46), (64, 58), (65, 15), (66, 63), (67, 24), (68, 47), (69, 49), (70, 48), (77, 57), (78, 26), (79, 61), (80, 62), (81, 25), (82, 16), (83, 18), (84, 50), (87, 55), (88, 22), (95, 23), (163, 30), (165, 31), (166, 17), (167, 21), (168, 19), (169, 20)], [(124, 1), (127, 2), (150, 3), (165, 4)], [(1, [.ifc 3 .junk]), (2, [.ifc 3 .junk])]⟩

theorem k_spec_DPlain : compFn Tryd.prog tab l_spec_DPlain Tryd.f31 = some c_spec_DPlain := by kernel_rfl
theorem k_laws_dShort : compFn Tryd.prog tab l_laws_dShort Tryd.f9 = some c_laws_dShort := by kernel_rfl
theorem k_dkim_zzIndex : compFn Tryd.prog tab l_dkim_zzIndex Tryd.f88 = some c_dkim_zzIndex := by kernel_rfl
theorem k_dkim_zzSplit : compFn Tryd.prog tab l_dkim_zzSplit Tryd.f81 = some c_dkim_zzSplit := by kernel_rfl
theorem k_dkim_zzIsSpace : compFn Tryd.prog tab l_dkim_zzIsSpace Tryd.f95 = some c_dkim_zzIsSpace := by kernel_rfl
theorem k_dkim_stripWhitespace : compFn Tryd.prog tab l_dkim_stripWhitespace Tryd.f78 = some c_dkim_stripWhitespace := by kernel_rfl
theorem k_dkim_parseTagList : compFn Tryd.prog tab l_dkim_parseTagList Tryd.f67 = some c_dkim_parseTagList := by kernel_rfl
theorem k_dkim_TagList : compFn Tryd.prog tab l_dkim_TagList Tryd.f55 = some c_dkim_TagList := by kernel_rfl
theorem k_impl_DList : compFn Tryd.prog tab l_impl_DList Tryd.f27 = some c_impl_DList := by kernel_rfl
theorem k_dkim_canonicalizers : compFn Tryd.prog tab l_dkim_canonicalizers Tryd.f65 = some c_dkim_canonicalizers := by kernel_rfl
theorem k_dkim_simpleCanonicalizer_CanonicalizeHeader : compFn Tryd.prog tab l_dkim_simpleCanonicalizer_CanonicalizeHeader Tryd.f163 = some c_dkim_simpleCanonicalizer_CanonicalizeHeader := by kernel_rfl
theorem k_dkim_zzCut : compFn Tryd.prog tab l_dkim_zzCut Tryd.f82 = some c_dkim_zzCut := by kernel_rfl
theorem k_dkim_zzToLower : compFn Tryd.prog tab l_dkim_zzToLower Tryd.f166 = some c_dkim_zzToLower := by kernel_rfl
theorem k_dkim_zzTrimSpace : compFn Tryd.prog tab l_dkim_zzTrimSpace Tryd.f83 = some c_dkim_zzTrimSpace := by kernel_rfl
theorem k_dkim_relaxedCanonicalizer_CanonicalizeHeader_1 : compFn Tryd.prog tab l_dkim_relaxedCanonicalizer_CanonicalizeHeader_1 Tryd.f169 = some c_dkim_relaxedCanonicalizer_CanonicalizeHeader_1 := by kernel_rfl
theorem k_strings_FieldsFunc : compFn Tryd.prog tab l_strings_FieldsFunc Tryd.f168 = some c_strings_FieldsFunc := by kernel_rfl
theorem k_dkim_relaxedCanonicalizer_CanonicalizeHeader : compFn Tryd.prog tab l_dkim_relaxedCanonicalizer_CanonicalizeHeader Tryd.f165 = some c_dkim_relaxedCanonicalizer_CanonicalizeHeader := by kernel_rfl
theorem k_dkim_CanonicalHeader : compFn Tryd.prog tab l_dkim_CanonicalHeader Tryd.f50 = some c_dkim_CanonicalHeader := by kernel_rfl
theorem k_impl_DCanonField : compFn Tryd.prog tab l_impl_DCanonField Tryd.f32 = some c_impl_DCanonField := by kernel_rfl
theorem k_laws_dAwake : compFn Tryd.prog tab l_laws_dAwake Tryd.f10 = some c_laws_dAwake := by kernel_rfl
theorem k_laws_dSameTexts : compFn Tryd.prog tab l_laws_dSameTexts Tryd.f26 = some c_laws_dSameTexts := by kernel_rfl
theorem k_dkim_zzCut2 : compFn Tryd.prog tab l_dkim_zzCut2 Tryd.f77 = some c_dkim_zzCut2 := by kernel_rfl
theorem k_dkim_parseCanonicalization : compFn Tryd.prog tab l_dkim_parseCanonicalization Tryd.f64 = some c_dkim_parseCanonicalization := by kernel_rfl
theorem k_dkim_Forms : compFn Tryd.prog tab l_dkim_Forms Tryd.f49 = some c_dkim_Forms := by kernel_rfl
theorem k_impl_DForms : compFn Tryd.prog tab l_impl_DForms Tryd.f22 = some c_impl_DForms := by kernel_rfl
theorem k_spec_dCut : compFn Tryd.prog tab l_spec_dCut Tryd.f51 = some c_spec_dCut := by kernel_rfl
theorem k_spec_dBlank : compFn Tryd.prog tab l_spec_dBlank Tryd.f46 = some c_spec_dBlank := by kernel_rfl
theorem k_spec_DStrip : compFn Tryd.prog tab l_spec_DStrip Tryd.f17 = some c_spec_DStrip := by kernel_rfl
theorem k_spec_DFormsOf_1 : compFn Tryd.prog tab l_spec_DFormsOf_1 Tryd.f52 = some c_spec_DFormsOf_1 := by kernel_rfl
theorem k_spec_DFormsOf : compFn Tryd.prog tab l_spec_DFormsOf Tryd.f23 = some c_spec_DFormsOf := by kernel_rfl
theorem k_dkim_Unix : compFn Tryd.prog tab l_dkim_Unix Tryd.f80 = some c_dkim_Unix := by kernel_rfl
theorem k_dkim_parseTime : compFn Tryd.prog tab l_dkim_parseTime Tryd.f66 = some c_dkim_parseTime := by kernel_rfl
theorem k_dkim_Number : compFn Tryd.prog tab l_dkim_Number Tryd.f53 = some c_dkim_Number := by kernel_rfl
theorem k_dkim_Time_Unix : compFn Tryd.prog tab l_dkim_Time_Unix Tryd.f54 = some c_dkim_Time_Unix := by kernel_rfl
theorem k_impl_DNumber : compFn Tryd.prog tab l_impl_DNumber Tryd.f24 = some c_impl_DNumber := by kernel_rfl
theorem k_spec_DWhole : compFn Tryd.prog tab l_spec_DWhole Tryd.f25 = some c_spec_DWhole := by kernel_rfl
theorem k_spec_DSplit : compFn Tryd.prog tab l_spec_DSplit Tryd.f29 = some c_spec_DSplit := by kernel_rfl
theorem k_spec_DParts : compFn Tryd.prog tab l_spec_DParts Tryd.f28 = some c_spec_DParts := by kernel_rfl
theorem k_laws_FnDWords : compFn Tryd.prog tab l_laws_FnDWords Tryd.f7 = some c_laws_FnDWords := by kernel_rfl
end Go.Proofs.YtflhiclingkonaaDoor
