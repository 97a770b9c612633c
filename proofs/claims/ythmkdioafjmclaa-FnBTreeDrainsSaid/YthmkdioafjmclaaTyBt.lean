import Derived.Test.YthmkdioafjmclaaSlMap
import Derived.Test.YthmkdioafjmclaaProg
namespace Go.Proofs.Ythmkdioafjmclaa.Ty
open Go.Proofs.Ythmkdioafjmclaa.Sl
set_option maxRecDepth 100000
theorem sc3 : scal Try.prog 3 = true := by kernel_rfl
theorem ik3 : intK Try.prog 3 = some .i64 := by kernel_rfl
theorem un3 : (Try.prog.underlying 3).isSome = true := by kernel_rfl
theorem sc4 : scal Try.prog 4 = true := by kernel_rfl
theorem sc52 : scal Try.prog 52 = true := by kernel_rfl
theorem sl52 : slcE Try.prog 52 = some (55, 2, 16) := by kernel_rfl
theorem z52 : zeroC Try.prog 52 = some [.slice none 0 0] := by kernel_rfl
theorem sl53 : slcE Try.prog 53 = some (57, 8, 64) := by kernel_rfl
theorem ag55 : aggS Try.prog 55 = some 2 := by kernel_rfl
theorem fo55_0 : fldO Try.prog 55 0 = some 0 := by kernel_rfl
theorem z55 : zeroC Try.prog 55 = some [.int .i64 0, .int .i64 0] := by kernel_rfl
theorem ag57 : aggS Try.prog 57 = some 8 := by kernel_rfl
theorem fo57_0 : fldO Try.prog 57 0 = some 0 := by kernel_rfl
theorem fo57_1 : fldO Try.prog 57 1 = some 1 := by kernel_rfl
theorem fo57_2 : fldO Try.prog 57 2 = some 2 := by kernel_rfl
theorem fo57_3 : fldO Try.prog 57 3 = some 4 := by kernel_rfl
theorem fo57_4 : fldO Try.prog 57 4 = some 5 := by kernel_rfl
theorem fo57_5 : fldO Try.prog 57 5 = some 6 := by kernel_rfl
theorem z57 : zeroC Try.prog 57 = some [.int .i64 0, .int .i64 0, .int .i64 0, .int .i64 0, .int .i64 0, .int .i64 0, .int .i64 0, .bool false] := by kernel_rfl
theorem sl58 : slcE Try.prog 58 = some (62, 6, 64) := by kernel_rfl
theorem ag62 : aggS Try.prog 62 = some 6 := by kernel_rfl
theorem fo62_1 : fldO Try.prog 62 1 = some 1 := by kernel_rfl
theorem fo62_2 : fldO Try.prog 62 2 = some 2 := by kernel_rfl
theorem fo62_3 : fldO Try.prog 62 3 = some 3 := by kernel_rfl
theorem fo62_4 : fldO Try.prog 62 4 = some 5 := by kernel_rfl
theorem z62 : zeroC Try.prog 62 = some [.int .i64 0, .bool false, .int .i64 0, .int .i64 0, .int .i64 0, .slice none 0 0] := by kernel_rfl
theorem sc115 : scal Try.prog 115 = true := by kernel_rfl
theorem sc117 : scal Try.prog 117 = true := by kernel_rfl
theorem sl118 : slcE Try.prog 118 = some (115, 1, 8) := by kernel_rfl
theorem sc165 : scal Try.prog 165 = true := by kernel_rfl
theorem sc167 : scal Try.prog 167 = true := by kernel_rfl
theorem fo170_0 : fldO Try.prog 170 0 = some 0 := by kernel_rfl
theorem fo170_1 : fldO Try.prog 170 1 = some 1 := by kernel_rfl
theorem sc171 : scal Try.prog 171 = true := by kernel_rfl
theorem ip171 : isPtr Try.prog 171 = true := by kernel_rfl
theorem z171 : zeroC Try.prog 171 = some [.pointer none] := by kernel_rfl
theorem sc172 : scal Try.prog 172 = true := by kernel_rfl
theorem fo174_0 : fldO Try.prog 174 0 = some 0 := by kernel_rfl
theorem fo174_1 : fldO Try.prog 174 1 = some 1 := by kernel_rfl
theorem fo174_2 : fldO Try.prog 174 2 = some 2 := by kernel_rfl
theorem fo174_3 : fldO Try.prog 174 3 = some 3 := by kernel_rfl
theorem sc205 : scal Try.prog 205 = true := by kernel_rfl
theorem sl205 : slcE Try.prog 205 = some (171, 1, 8) := by kernel_rfl
theorem fo208_1 : fldO Try.prog 208 1 = some 0 := by kernel_rfl
theorem sc210 : scal Try.prog 210 = true := by kernel_rfl
theorem sl210 : slcE Try.prog 210 = some (55, 2, 16) := by kernel_rfl
theorem sc211 : scal Try.prog 211 = true := by kernel_rfl
theorem sl211 : slcE Try.prog 211 = some (171, 1, 8) := by kernel_rfl
theorem fo213_0 : fldO Try.prog 213 0 = some 0 := by kernel_rfl
theorem fo213_1 : fldO Try.prog 213 1 = some 1 := by kernel_rfl
theorem fo213_2 : fldO Try.prog 213 2 = some 2 := by kernel_rfl
theorem z213 : zeroC Try.prog 213 = some [.slice none 0 0, .slice none 0 0, .pointer none] := by kernel_rfl
theorem ik228 : intK Try.prog 228 = some .u64 := by kernel_rfl
theorem un228 : (Try.prog.underlying 228).isSome = true := by kernel_rfl
theorem ag251 : aggS Try.prog 251 = some 3 := by kernel_rfl
theorem fo251_1 : fldO Try.prog 251 1 = some 2 := by kernel_rfl
theorem z251 : zeroC Try.prog 251 = some [.int .i64 0, .int .i64 0, .bool false] := by kernel_rfl
theorem mixed : Try.prog.follows .mixedOrders = true := by kernel_rfl
end Go.Proofs.Ythmkdioafjmclaa.Ty
namespace Go.Proofs.Ythmkdioafjmclaa.Ty2
open Go.Proofs.Ythmkdioafjmclaa.Sl
set_option maxRecDepth 100000
theorem bo4 : isBool Try.prog 4 = true := by kernel_rfl
end Go.Proofs.Ythmkdioafjmclaa.Ty2
