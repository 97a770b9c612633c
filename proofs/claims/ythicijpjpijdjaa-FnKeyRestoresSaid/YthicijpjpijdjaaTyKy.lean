import Derived.Test.YthicijpjpijdjaaSlMap
import Derived.Test.YthicijpjpijdjaaProg
namespace Go.Proofs.Ythicijpjpijdjaa.Ty
open Go.Proofs.Ythicijpjpijdjaa.Sl
set_option maxRecDepth 100000
theorem sc2 : scal Try.prog 2 = true := by kernel_rfl
theorem sc3 : scal Try.prog 3 = true := by kernel_rfl
theorem ik3 : intK Try.prog 3 = some .i64 := by kernel_rfl
theorem un3 : (Try.prog.underlying 3).isSome = true := by kernel_rfl
theorem sc4 : scal Try.prog 4 = true := by kernel_rfl
theorem ik5 : intK Try.prog 5 = some .u8 := by kernel_rfl
theorem un5 : (Try.prog.underlying 5).isSome = true := by kernel_rfl
theorem st9 : isStr Try.prog 9 = true := by kernel_rfl
theorem sc22 : scal Try.prog 22 = true := by kernel_rfl
theorem sl22 : slcE Try.prog 22 = some (38, 7, 56) := by kernel_rfl
theorem sl23 : slcE Try.prog 23 = some (47, 6, 48) := by kernel_rfl
theorem sc24 : scal Try.prog 24 = true := by kernel_rfl
theorem sl24 : slcE Try.prog 24 = some (42, 10, 112) := by kernel_rfl
theorem z24 : zeroC Try.prog 24 = some [.slice none 0 0] := by kernel_rfl
theorem ag32 : aggS Try.prog 32 = some 2 := by kernel_rfl
theorem fo32_0 : fldO Try.prog 32 0 = some 0 := by kernel_rfl
theorem fs32_0 : fldS Try.prog 32 0 = some 0 := by kernel_rfl
theorem fo32_1 : fldO Try.prog 32 1 = some 1 := by kernel_rfl
theorem z32 : zeroC Try.prog 32 = some [.int .i64 0, .int .i64 0] := by kernel_rfl
theorem sc33 : scal Try.prog 33 = true := by kernel_rfl
theorem sl33 : slcE Try.prog 33 = some (53, 4, 48) := by kernel_rfl
theorem ag35 : aggS Try.prog 35 = some 3 := by kernel_rfl
theorem fo35_0 : fldO Try.prog 35 0 = some 0 := by kernel_rfl
theorem fo35_1 : fldO Try.prog 35 1 = some 2 := by kernel_rfl
theorem z35 : zeroC Try.prog 35 = some [.int .i64 0, .int .i64 0, .slice none 0 0] := by kernel_rfl
theorem ag38 : aggS Try.prog 38 = some 7 := by kernel_rfl
theorem fo38_0 : fldO Try.prog 38 0 = some 0 := by kernel_rfl
theorem fo38_1 : fldO Try.prog 38 1 = some 1 := by kernel_rfl
theorem fo38_2 : fldO Try.prog 38 2 = some 3 := by kernel_rfl
theorem fo38_3 : fldO Try.prog 38 3 = some 5 := by kernel_rfl
theorem fo38_4 : fldO Try.prog 38 4 = some 6 := by kernel_rfl
theorem z38 : zeroC Try.prog 38 = some [.int .i64 0, .int .i64 0, .int .i64 0, .int .i64 0, .int .i64 0, .int .i64 0, .int .i64 0] := by kernel_rfl
theorem sc40 : scal Try.prog 40 = true := by kernel_rfl
theorem sl40 : slcE Try.prog 40 = some (32, 2, 16) := by kernel_rfl
theorem ag42 : aggS Try.prog 42 = some 10 := by kernel_rfl
theorem fo42_0 : fldO Try.prog 42 0 = some 0 := by kernel_rfl
theorem fo42_1 : fldO Try.prog 42 1 = some 1 := by kernel_rfl
theorem fo42_2 : fldO Try.prog 42 2 = some 3 := by kernel_rfl
theorem fo42_3 : fldO Try.prog 42 3 = some 5 := by kernel_rfl
theorem fo42_4 : fldO Try.prog 42 4 = some 6 := by kernel_rfl
theorem fo42_5 : fldO Try.prog 42 5 = some 7 := by kernel_rfl
theorem z42 : zeroC Try.prog 42 = some [.bool false, .int .i64 0, .int .i64 0, .int .i64 0, .int .i64 0, .int .i64 0, .slice none 0 0, .int .i64 0, .int .i64 0, .slice none 0 0] := by kernel_rfl
theorem ag47 : aggS Try.prog 47 = some 6 := by kernel_rfl
theorem fo47_0 : fldO Try.prog 47 0 = some 0 := by kernel_rfl
theorem fo47_1 : fldO Try.prog 47 1 = some 2 := by kernel_rfl
theorem fo47_2 : fldO Try.prog 47 2 = some 4 := by kernel_rfl
theorem fo47_3 : fldO Try.prog 47 3 = some 5 := by kernel_rfl
theorem z47 : zeroC Try.prog 47 = some [.int .i64 0, .int .i64 0, .int .i64 0, .int .i64 0, .int .i64 0, .bool false] := by kernel_rfl
theorem ag53 : aggS Try.prog 53 = some 4 := by kernel_rfl
theorem fo53_0 : fldO Try.prog 53 0 = some 0 := by kernel_rfl
theorem fo53_1 : fldO Try.prog 53 1 = some 1 := by kernel_rfl
theorem fo53_2 : fldO Try.prog 53 2 = some 3 := by kernel_rfl
theorem z53 : zeroC Try.prog 53 = some [.int .i64 0, .int .i64 0, .int .i64 0, .slice none 0 0] := by kernel_rfl
theorem sc76 : scal Try.prog 76 = true := by kernel_rfl
theorem ag78 : aggS Try.prog 78 = some 1 := by kernel_rfl
theorem fo78_0 : fldO Try.prog 78 0 = some 0 := by kernel_rfl
theorem z78 : zeroC Try.prog 78 = some [.pointer none] := by kernel_rfl
theorem by80 : isBytes Try.prog 80 = some 5 := by kernel_rfl
theorem ag81 : aggS Try.prog 81 = some 2 := by kernel_rfl
theorem fo81_0 : fldO Try.prog 81 0 = some 0 := by kernel_rfl
theorem fo81_1 : fldO Try.prog 81 1 = some 1 := by kernel_rfl
theorem z81 : zeroC Try.prog 81 = some [.int .i64 0, .int .i64 0] := by kernel_rfl
theorem sc82 : scal Try.prog 82 = true := by kernel_rfl
theorem sl82 : slcE Try.prog 82 = some (135, 4, 48) := by kernel_rfl
theorem ag84 : aggS Try.prog 84 = some 3 := by kernel_rfl
theorem fo84_0 : fldO Try.prog 84 0 = some 0 := by kernel_rfl
theorem fo84_1 : fldO Try.prog 84 1 = some 2 := by kernel_rfl
theorem z84 : zeroC Try.prog 84 = some [.int .i64 0, .int .i64 0, .slice none 0 0] := by kernel_rfl
theorem if112 : isIfc Try.prog 112 = true := by kernel_rfl
theorem sc132 : scal Try.prog 132 = true := by kernel_rfl
theorem sl132 : slcE Try.prog 132 = some (81, 2, 16) := by kernel_rfl
theorem ag135 : aggS Try.prog 135 = some 4 := by kernel_rfl
theorem fo135_0 : fldO Try.prog 135 0 = some 0 := by kernel_rfl
theorem fo135_1 : fldO Try.prog 135 1 = some 1 := by kernel_rfl
theorem fo135_2 : fldO Try.prog 135 2 = some 3 := by kernel_rfl
theorem z135 : zeroC Try.prog 135 = some [.int .i64 0, .int .i64 0, .int .i64 0, .slice none 0 0] := by kernel_rfl
theorem sc145 : scal Try.prog 145 = true := by kernel_rfl
theorem ip149 : isPtr Try.prog 149 = true := by kernel_rfl
theorem sc151 : scal Try.prog 151 = true := by kernel_rfl
theorem sl151 : slcE Try.prog 151 = some (155, 4, 48) := by kernel_rfl
theorem fo153_1 : fldO Try.prog 153 1 = some 1 := by kernel_rfl
theorem fo153_2 : fldO Try.prog 153 2 = some 3 := by kernel_rfl
theorem ag155 : aggS Try.prog 155 = some 4 := by kernel_rfl
theorem fo155_0 : fldO Try.prog 155 0 = some 0 := by kernel_rfl
theorem fo155_1 : fldO Try.prog 155 1 = some 1 := by kernel_rfl
theorem fo155_2 : fldO Try.prog 155 2 = some 3 := by kernel_rfl
theorem z155 : zeroC Try.prog 155 = some [.int .i64 0, .int .i64 0, .int .i64 0, .slice none 0 0] := by kernel_rfl
theorem ni247 : (match Try.prog.underlying 247 with | some (.interface _) => false | none => false | _ => true) = true := by kernel_rfl
theorem ik251 : intK Try.prog 251 = some .u64 := by kernel_rfl
theorem un275 : (Try.prog.underlying 275).isSome = true := by kernel_rfl
theorem mixed : Try.prog.follows .mixedOrders = true := by kernel_rfl
end Go.Proofs.Ythicijpjpijdjaa.Ty
namespace Go.Proofs.Ythicijpjpijdjaa.Ty2
open Go.Proofs.Ythicijpjpijdjaa.Sl
set_option maxRecDepth 100000
theorem bo4 : isBool Try.prog 4 = true := by kernel_rfl
end Go.Proofs.Ythicijpjpijdjaa.Ty2
