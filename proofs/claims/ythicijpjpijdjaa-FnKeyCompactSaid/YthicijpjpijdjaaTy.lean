import Derived.Test.YthicijpjpijdjaaSlMore
import Derived.Test.YthicijpjpijdjaaProg
namespace Go.Proofs.Ythicijpjpijdjaa.Ty
open Go.Proofs.Ythicijpjpijdjaa.Sl
set_option maxRecDepth 100000
theorem sc1 : scal Try.prog 1 = true := by kernel_rfl
theorem ni1 : (match Try.prog.underlying 1 with | some (.interface _) => false | none => false | _ => true) = true := by kernel_rfl
theorem z1 : zeroC Try.prog 1 = some [.nilFunc] := by kernel_rfl
theorem sc2 : scal Try.prog 2 = true := by kernel_rfl
theorem ik2 : intK Try.prog 2 = some .i64 := by kernel_rfl
theorem un2 : (Try.prog.underlying 2).isSome = true := by kernel_rfl
theorem ni2 : (match Try.prog.underlying 2 with | some (.interface _) => false | none => false | _ => true) = true := by kernel_rfl
theorem z2 : zeroC Try.prog 2 = some [.int .i64 0] := by kernel_rfl
theorem sc3 : scal Try.prog 3 = true := by kernel_rfl
theorem ik3 : intK Try.prog 3 = some .i64 := by kernel_rfl
theorem un3 : (Try.prog.underlying 3).isSome = true := by kernel_rfl
theorem ni3 : (match Try.prog.underlying 3 with | some (.interface _) => false | none => false | _ => true) = true := by kernel_rfl
theorem z3 : zeroC Try.prog 3 = some [.int .i64 0] := by kernel_rfl
theorem sc4 : scal Try.prog 4 = true := by kernel_rfl
theorem ni4 : (match Try.prog.underlying 4 with | some (.interface _) => false | none => false | _ => true) = true := by kernel_rfl
theorem z4 : zeroC Try.prog 4 = some [.bool false] := by kernel_rfl
theorem sc5 : scal Try.prog 5 = true := by kernel_rfl
theorem ik5 : intK Try.prog 5 = some .u8 := by kernel_rfl
theorem un5 : (Try.prog.underlying 5).isSome = true := by kernel_rfl
theorem ni5 : (match Try.prog.underlying 5 with | some (.interface _) => false | none => false | _ => true) = true := by kernel_rfl
theorem z5 : zeroC Try.prog 5 = some [.int .u8 0] := by kernel_rfl
theorem sc6 : scal Try.prog 6 = true := by kernel_rfl
theorem ik6 : intK Try.prog 6 = some .u8 := by kernel_rfl
theorem un6 : (Try.prog.underlying 6).isSome = true := by kernel_rfl
theorem ni6 : (match Try.prog.underlying 6 with | some (.interface _) => false | none => false | _ => true) = true := by kernel_rfl
theorem z6 : zeroC Try.prog 6 = some [.int .u8 0] := by kernel_rfl
theorem ag7 : aggS Try.prog 7 = some 4 := by kernel_rfl
theorem fo7_0 : fldO Try.prog 7 0 = some 0 := by kernel_rfl
theorem fs7_0 : fldS Try.prog 7 0 = some 0 := by kernel_rfl
theorem fo7_1 : fldO Try.prog 7 1 = some 1 := by kernel_rfl
theorem fs7_1 : fldS Try.prog 7 1 = some 1 := by kernel_rfl
theorem fo7_2 : fldO Try.prog 7 2 = some 2 := by kernel_rfl
theorem fs7_2 : fldS Try.prog 7 2 = some 2 := by kernel_rfl
theorem fo7_3 : fldO Try.prog 7 3 = some 3 := by kernel_rfl
theorem fs7_3 : fldS Try.prog 7 3 = some 3 := by kernel_rfl
theorem ni7 : (match Try.prog.underlying 7 with | some (.interface _) => false | none => false | _ => true) = true := by kernel_rfl
theorem z7 : zeroC Try.prog 7 = some [.int .i64 0, .int .i64 0, .bool false, .int .u8 0] := by kernel_rfl
theorem ag8 : aggS Try.prog 8 = some 4 := by kernel_rfl
theorem fo8_0 : fldO Try.prog 8 0 = some 0 := by kernel_rfl
theorem fs8_0 : fldS Try.prog 8 0 = some 0 := by kernel_rfl
theorem fo8_1 : fldO Try.prog 8 1 = some 1 := by kernel_rfl
theorem fs8_1 : fldS Try.prog 8 1 = some 1 := by kernel_rfl
theorem fo8_2 : fldO Try.prog 8 2 = some 2 := by kernel_rfl
theorem fs8_2 : fldS Try.prog 8 2 = some 2 := by kernel_rfl
theorem fo8_3 : fldO Try.prog 8 3 = some 3 := by kernel_rfl
theorem fs8_3 : fldS Try.prog 8 3 = some 3 := by kernel_rfl
theorem ni8 : (match Try.prog.underlying 8 with | some (.interface _) => false | none => false | _ => true) = true := by kernel_rfl
theorem z8 : zeroC Try.prog 8 = some [.int .i64 0, .int .i64 0, .bool false, .int .u8 0] := by kernel_rfl
theorem sc9 : scal Try.prog 9 = true := by kernel_rfl
theorem st9 : isStr Try.prog 9 = true := by kernel_rfl
theorem ni9 : (match Try.prog.underlying 9 with | some (.interface _) => false | none => false | _ => true) = true := by kernel_rfl
theorem z9 : zeroC Try.prog 9 = some [.string ⟨#[]⟩] := by kernel_rfl
theorem sc10 : scal Try.prog 10 = true := by kernel_rfl
theorem st10 : isStr Try.prog 10 = true := by kernel_rfl
theorem ni10 : (match Try.prog.underlying 10 with | some (.interface _) => false | none => false | _ => true) = true := by kernel_rfl
theorem z10 : zeroC Try.prog 10 = some [.string ⟨#[]⟩] := by kernel_rfl
theorem sc11 : scal Try.prog 11 = true := by kernel_rfl
theorem st11 : isStr Try.prog 11 = true := by kernel_rfl
theorem ni11 : (match Try.prog.underlying 11 with | some (.interface _) => false | none => false | _ => true) = true := by kernel_rfl
theorem z11 : zeroC Try.prog 11 = some [.string ⟨#[]⟩] := by kernel_rfl
theorem sc12 : scal Try.prog 12 = true := by kernel_rfl
theorem ik12 : intK Try.prog 12 = some .u64 := by kernel_rfl
theorem un12 : (Try.prog.underlying 12).isSome = true := by kernel_rfl
theorem ni12 : (match Try.prog.underlying 12 with | some (.interface _) => false | none => false | _ => true) = true := by kernel_rfl
theorem z12 : zeroC Try.prog 12 = some [.int .u64 0] := by kernel_rfl
theorem ag13 : aggS Try.prog 13 = some 2 := by kernel_rfl
theorem fo13_0 : fldO Try.prog 13 0 = some 0 := by kernel_rfl
theorem fs13_0 : fldS Try.prog 13 0 = some 0 := by kernel_rfl
theorem fo13_1 : fldO Try.prog 13 1 = some 1 := by kernel_rfl
theorem fs13_1 : fldS Try.prog 13 1 = some 1 := by kernel_rfl
theorem ni13 : (match Try.prog.underlying 13 with | some (.interface _) => false | none => false | _ => true) = true := by kernel_rfl
theorem z13 : zeroC Try.prog 13 = some [.string ⟨#[]⟩, .int .u64 0] := by kernel_rfl
theorem ag14 : aggS Try.prog 14 = some 2 := by kernel_rfl
theorem fo14_0 : fldO Try.prog 14 0 = some 0 := by kernel_rfl
theorem fs14_0 : fldS Try.prog 14 0 = some 0 := by kernel_rfl
theorem fo14_1 : fldO Try.prog 14 1 = some 1 := by kernel_rfl
theorem fs14_1 : fldS Try.prog 14 1 = some 1 := by kernel_rfl
theorem ni14 : (match Try.prog.underlying 14 with | some (.interface _) => false | none => false | _ => true) = true := by kernel_rfl
theorem z14 : zeroC Try.prog 14 = some [.string ⟨#[]⟩, .int .u64 0] := by kernel_rfl
theorem sc15 : scal Try.prog 15 = true := by kernel_rfl
theorem ip15 : isPtr Try.prog 15 = true := by kernel_rfl
theorem ni15 : (match Try.prog.underlying 15 with | some (.interface _) => false | none => false | _ => true) = true := by kernel_rfl
theorem z15 : zeroC Try.prog 15 = some [.pointer none] := by kernel_rfl
theorem sc16 : scal Try.prog 16 = true := by kernel_rfl
theorem ip16 : isPtr Try.prog 16 = true := by kernel_rfl
theorem ni16 : (match Try.prog.underlying 16 with | some (.interface _) => false | none => false | _ => true) = true := by kernel_rfl
theorem z16 : zeroC Try.prog 16 = some [.pointer none] := by kernel_rfl
theorem sc17 : scal Try.prog 17 = true := by kernel_rfl
theorem ip17 : isPtr Try.prog 17 = true := by kernel_rfl
theorem ni17 : (match Try.prog.underlying 17 with | some (.interface _) => false | none => false | _ => true) = true := by kernel_rfl
theorem z17 : zeroC Try.prog 17 = some [.pointer none] := by kernel_rfl
theorem ag18 : aggS Try.prog 18 = some 1 := by kernel_rfl
theorem fo18_0 : fldO Try.prog 18 0 = some 0 := by kernel_rfl
theorem fs18_0 : fldS Try.prog 18 0 = some 0 := by kernel_rfl
theorem ni18 : (match Try.prog.underlying 18 with | some (.interface _) => false | none => false | _ => true) = true := by kernel_rfl
theorem z18 : zeroC Try.prog 18 = some [.pointer none] := by kernel_rfl
theorem ag19 : aggS Try.prog 19 = some 1 := by kernel_rfl
theorem fo19_0 : fldO Try.prog 19 0 = some 0 := by kernel_rfl
theorem fs19_0 : fldS Try.prog 19 0 = some 0 := by kernel_rfl
theorem ni19 : (match Try.prog.underlying 19 with | some (.interface _) => false | none => false | _ => true) = true := by kernel_rfl
theorem z19 : zeroC Try.prog 19 = some [.pointer none] := by kernel_rfl
theorem sc20 : scal Try.prog 20 = true := by kernel_rfl
theorem if20 : isIfc Try.prog 20 = true := by kernel_rfl
theorem z20 : zeroC Try.prog 20 = some [.nilIface] := by kernel_rfl
theorem sc21 : scal Try.prog 21 = true := by kernel_rfl
theorem ik21 : intK Try.prog 21 = some .i32 := by kernel_rfl
theorem un21 : (Try.prog.underlying 21).isSome = true := by kernel_rfl
theorem ni21 : (match Try.prog.underlying 21 with | some (.interface _) => false | none => false | _ => true) = true := by kernel_rfl
theorem z21 : zeroC Try.prog 21 = some [.int .i32 0] := by kernel_rfl
theorem sc22 : scal Try.prog 22 = true := by kernel_rfl
theorem sl22 : slcE Try.prog 22 = some (38, 7, 56) := by kernel_rfl
theorem is22 : isSlc Try.prog 22 = true := by kernel_rfl
theorem ni22 : (match Try.prog.underlying 22 with | some (.interface _) => false | none => false | _ => true) = true := by kernel_rfl
theorem z22 : zeroC Try.prog 22 = some [.slice none 0 0] := by kernel_rfl
theorem sc23 : scal Try.prog 23 = true := by kernel_rfl
theorem sl23 : slcE Try.prog 23 = some (47, 6, 48) := by kernel_rfl
theorem is23 : isSlc Try.prog 23 = true := by kernel_rfl
theorem ni23 : (match Try.prog.underlying 23 with | some (.interface _) => false | none => false | _ => true) = true := by kernel_rfl
theorem z23 : zeroC Try.prog 23 = some [.slice none 0 0] := by kernel_rfl
theorem sc24 : scal Try.prog 24 = true := by kernel_rfl
theorem sl24 : slcE Try.prog 24 = some (42, 10, 112) := by kernel_rfl
theorem is24 : isSlc Try.prog 24 = true := by kernel_rfl
theorem ni24 : (match Try.prog.underlying 24 with | some (.interface _) => false | none => false | _ => true) = true := by kernel_rfl
theorem z24 : zeroC Try.prog 24 = some [.slice none 0 0] := by kernel_rfl
theorem sc26 : scal Try.prog 26 = true := by kernel_rfl
theorem ni26 : (match Try.prog.underlying 26 with | some (.interface _) => false | none => false | _ => true) = true := by kernel_rfl
theorem z26 : zeroC Try.prog 26 = some [.nilFunc] := by kernel_rfl
theorem sc27 : scal Try.prog 27 = true := by kernel_rfl
theorem ni27 : (match Try.prog.underlying 27 with | some (.interface _) => false | none => false | _ => true) = true := by kernel_rfl
theorem z27 : zeroC Try.prog 27 = some [.nilFunc] := by kernel_rfl
theorem sc28 : scal Try.prog 28 = true := by kernel_rfl
theorem ni28 : (match Try.prog.underlying 28 with | some (.interface _) => false | none => false | _ => true) = true := by kernel_rfl
theorem z28 : zeroC Try.prog 28 = some [.nilFunc] := by kernel_rfl
theorem sc30 : scal Try.prog 30 = true := by kernel_rfl
theorem ni30 : (match Try.prog.underlying 30 with | some (.interface _) => false | none => false | _ => true) = true := by kernel_rfl
theorem z30 : zeroC Try.prog 30 = some [.nilFunc] := by kernel_rfl
theorem ag31 : aggS Try.prog 31 = some 2 := by kernel_rfl
theorem fo31_0 : fldO Try.prog 31 0 = some 0 := by kernel_rfl
theorem fs31_0 : fldS Try.prog 31 0 = some 0 := by kernel_rfl
theorem fo31_1 : fldO Try.prog 31 1 = some 1 := by kernel_rfl
theorem fs31_1 : fldS Try.prog 31 1 = some 1 := by kernel_rfl
theorem ni31 : (match Try.prog.underlying 31 with | some (.interface _) => false | none => false | _ => true) = true := by kernel_rfl
theorem z31 : zeroC Try.prog 31 = some [.int .i64 0, .int .i64 0] := by kernel_rfl
theorem ag32 : aggS Try.prog 32 = some 2 := by kernel_rfl
theorem fo32_0 : fldO Try.prog 32 0 = some 0 := by kernel_rfl
theorem fs32_0 : fldS Try.prog 32 0 = some 0 := by kernel_rfl
theorem fo32_1 : fldO Try.prog 32 1 = some 1 := by kernel_rfl
theorem fs32_1 : fldS Try.prog 32 1 = some 1 := by kernel_rfl
theorem ni32 : (match Try.prog.underlying 32 with | some (.interface _) => false | none => false | _ => true) = true := by kernel_rfl
theorem z32 : zeroC Try.prog 32 = some [.int .i64 0, .int .i64 0] := by kernel_rfl
theorem sc33 : scal Try.prog 33 = true := by kernel_rfl
theorem sl33 : slcE Try.prog 33 = some (53, 4, 48) := by kernel_rfl
theorem is33 : isSlc Try.prog 33 = true := by kernel_rfl
theorem ni33 : (match Try.prog.underlying 33 with | some (.interface _) => false | none => false | _ => true) = true := by kernel_rfl
theorem z33 : zeroC Try.prog 33 = some [.slice none 0 0] := by kernel_rfl
theorem ag34 : aggS Try.prog 34 = some 3 := by kernel_rfl
theorem fo34_0 : fldO Try.prog 34 0 = some 0 := by kernel_rfl
theorem fa34_0 : fldA Try.prog 34 0 = some (0, 2) := by kernel_rfl
theorem fo34_1 : fldO Try.prog 34 1 = some 2 := by kernel_rfl
theorem fs34_1 : fldS Try.prog 34 1 = some 2 := by kernel_rfl
theorem ni34 : (match Try.prog.underlying 34 with | some (.interface _) => false | none => false | _ => true) = true := by kernel_rfl
theorem z34 : zeroC Try.prog 34 = some [.int .i64 0, .int .i64 0, .slice none 0 0] := by kernel_rfl
theorem ag35 : aggS Try.prog 35 = some 3 := by kernel_rfl
theorem fo35_0 : fldO Try.prog 35 0 = some 0 := by kernel_rfl
theorem fa35_0 : fldA Try.prog 35 0 = some (0, 2) := by kernel_rfl
theorem fo35_1 : fldO Try.prog 35 1 = some 2 := by kernel_rfl
theorem fs35_1 : fldS Try.prog 35 1 = some 2 := by kernel_rfl
theorem ni35 : (match Try.prog.underlying 35 with | some (.interface _) => false | none => false | _ => true) = true := by kernel_rfl
theorem z35 : zeroC Try.prog 35 = some [.int .i64 0, .int .i64 0, .slice none 0 0] := by kernel_rfl
theorem sc36 : scal Try.prog 36 = true := by kernel_rfl
theorem ni36 : (match Try.prog.underlying 36 with | some (.interface _) => false | none => false | _ => true) = true := by kernel_rfl
theorem z36 : zeroC Try.prog 36 = some [.nilFunc] := by kernel_rfl
theorem ag37 : aggS Try.prog 37 = some 7 := by kernel_rfl
theorem fo37_0 : fldO Try.prog 37 0 = some 0 := by kernel_rfl
theorem fs37_0 : fldS Try.prog 37 0 = some 0 := by kernel_rfl
theorem fo37_1 : fldO Try.prog 37 1 = some 1 := by kernel_rfl
theorem fa37_1 : fldA Try.prog 37 1 = some (1, 2) := by kernel_rfl
theorem fo37_2 : fldO Try.prog 37 2 = some 3 := by kernel_rfl
theorem fa37_2 : fldA Try.prog 37 2 = some (3, 2) := by kernel_rfl
theorem fo37_3 : fldO Try.prog 37 3 = some 5 := by kernel_rfl
theorem fs37_3 : fldS Try.prog 37 3 = some 5 := by kernel_rfl
theorem fo37_4 : fldO Try.prog 37 4 = some 6 := by kernel_rfl
theorem fs37_4 : fldS Try.prog 37 4 = some 6 := by kernel_rfl
theorem ni37 : (match Try.prog.underlying 37 with | some (.interface _) => false | none => false | _ => true) = true := by kernel_rfl
theorem z37 : zeroC Try.prog 37 = some [.int .i64 0, .int .i64 0, .int .i64 0, .int .i64 0, .int .i64 0, .int .i64 0, .int .i64 0] := by kernel_rfl
theorem ag38 : aggS Try.prog 38 = some 7 := by kernel_rfl
theorem fo38_0 : fldO Try.prog 38 0 = some 0 := by kernel_rfl
theorem fs38_0 : fldS Try.prog 38 0 = some 0 := by kernel_rfl
theorem fo38_1 : fldO Try.prog 38 1 = some 1 := by kernel_rfl
theorem fa38_1 : fldA Try.prog 38 1 = some (1, 2) := by kernel_rfl
theorem fo38_2 : fldO Try.prog 38 2 = some 3 := by kernel_rfl
theorem fa38_2 : fldA Try.prog 38 2 = some (3, 2) := by kernel_rfl
theorem fo38_3 : fldO Try.prog 38 3 = some 5 := by kernel_rfl
theorem fs38_3 : fldS Try.prog 38 3 = some 5 := by kernel_rfl
theorem fo38_4 : fldO Try.prog 38 4 = some 6 := by kernel_rfl
theorem fs38_4 : fldS Try.prog 38 4 = some 6 := by kernel_rfl
theorem ni38 : (match Try.prog.underlying 38 with | some (.interface _) => false | none => false | _ => true) = true := by kernel_rfl
theorem z38 : zeroC Try.prog 38 = some [.int .i64 0, .int .i64 0, .int .i64 0, .int .i64 0, .int .i64 0, .int .i64 0, .int .i64 0] := by kernel_rfl
theorem sc39 : scal Try.prog 39 = true := by kernel_rfl
theorem ni39 : (match Try.prog.underlying 39 with | some (.interface _) => false | none => false | _ => true) = true := by kernel_rfl
theorem z39 : zeroC Try.prog 39 = some [.nilFunc] := by kernel_rfl
theorem sc40 : scal Try.prog 40 = true := by kernel_rfl
theorem sl40 : slcE Try.prog 40 = some (32, 2, 16) := by kernel_rfl
theorem is40 : isSlc Try.prog 40 = true := by kernel_rfl
theorem ni40 : (match Try.prog.underlying 40 with | some (.interface _) => false | none => false | _ => true) = true := by kernel_rfl
theorem z40 : zeroC Try.prog 40 = some [.slice none 0 0] := by kernel_rfl
theorem ag41 : aggS Try.prog 41 = some 10 := by kernel_rfl
theorem fo41_0 : fldO Try.prog 41 0 = some 0 := by kernel_rfl
theorem fs41_0 : fldS Try.prog 41 0 = some 0 := by kernel_rfl
theorem fo41_1 : fldO Try.prog 41 1 = some 1 := by kernel_rfl
theorem fa41_1 : fldA Try.prog 41 1 = some (1, 2) := by kernel_rfl
theorem fo41_2 : fldO Try.prog 41 2 = some 3 := by kernel_rfl
theorem fa41_2 : fldA Try.prog 41 2 = some (3, 2) := by kernel_rfl
theorem fo41_3 : fldO Try.prog 41 3 = some 5 := by kernel_rfl
theorem fs41_3 : fldS Try.prog 41 3 = some 5 := by kernel_rfl
theorem fo41_4 : fldO Try.prog 41 4 = some 6 := by kernel_rfl
theorem fs41_4 : fldS Try.prog 41 4 = some 6 := by kernel_rfl
theorem fo41_5 : fldO Try.prog 41 5 = some 7 := by kernel_rfl
theorem fa41_5 : fldA Try.prog 41 5 = some (7, 3) := by kernel_rfl
theorem ni41 : (match Try.prog.underlying 41 with | some (.interface _) => false | none => false | _ => true) = true := by kernel_rfl
theorem z41 : zeroC Try.prog 41 = some [.bool false, .int .i64 0, .int .i64 0, .int .i64 0, .int .i64 0, .int .i64 0, .slice none 0 0, .int .i64 0, .int .i64 0, .slice none 0 0] := by kernel_rfl
theorem ag42 : aggS Try.prog 42 = some 10 := by kernel_rfl
theorem fo42_0 : fldO Try.prog 42 0 = some 0 := by kernel_rfl
theorem fs42_0 : fldS Try.prog 42 0 = some 0 := by kernel_rfl
theorem fo42_1 : fldO Try.prog 42 1 = some 1 := by kernel_rfl
theorem fa42_1 : fldA Try.prog 42 1 = some (1, 2) := by kernel_rfl
theorem fo42_2 : fldO Try.prog 42 2 = some 3 := by kernel_rfl
theorem fa42_2 : fldA Try.prog 42 2 = some (3, 2) := by kernel_rfl
theorem fo42_3 : fldO Try.prog 42 3 = some 5 := by kernel_rfl
theorem fs42_3 : fldS Try.prog 42 3 = some 5 := by kernel_rfl
theorem fo42_4 : fldO Try.prog 42 4 = some 6 := by kernel_rfl
theorem fs42_4 : fldS Try.prog 42 4 = some 6 := by kernel_rfl
theorem fo42_5 : fldO Try.prog 42 5 = some 7 := by kernel_rfl
theorem fa42_5 : fldA Try.prog 42 5 = some (7, 3) := by kernel_rfl
theorem ni42 : (match Try.prog.underlying 42 with | some (.interface _) => false | none => false | _ => true) = true := by kernel_rfl
theorem z42 : zeroC Try.prog 42 = some [.bool false, .int .i64 0, .int .i64 0, .int .i64 0, .int .i64 0, .int .i64 0, .slice none 0 0, .int .i64 0, .int .i64 0, .slice none 0 0] := by kernel_rfl
theorem sc43 : scal Try.prog 43 = true := by kernel_rfl
theorem ni43 : (match Try.prog.underlying 43 with | some (.interface _) => false | none => false | _ => true) = true := by kernel_rfl
theorem z43 : zeroC Try.prog 43 = some [.nilFunc] := by kernel_rfl
theorem sc44 : scal Try.prog 44 = true := by kernel_rfl
theorem ni44 : (match Try.prog.underlying 44 with | some (.interface _) => false | none => false | _ => true) = true := by kernel_rfl
theorem z44 : zeroC Try.prog 44 = some [.nilFunc] := by kernel_rfl
theorem sc45 : scal Try.prog 45 = true := by kernel_rfl
theorem ni45 : (match Try.prog.underlying 45 with | some (.interface _) => false | none => false | _ => true) = true := by kernel_rfl
theorem z45 : zeroC Try.prog 45 = some [.nilFunc] := by kernel_rfl
theorem ag46 : aggS Try.prog 46 = some 6 := by kernel_rfl
theorem fo46_0 : fldO Try.prog 46 0 = some 0 := by kernel_rfl
theorem fa46_0 : fldA Try.prog 46 0 = some (0, 2) := by kernel_rfl
theorem fo46_1 : fldO Try.prog 46 1 = some 2 := by kernel_rfl
theorem fa46_1 : fldA Try.prog 46 1 = some (2, 2) := by kernel_rfl
theorem fo46_2 : fldO Try.prog 46 2 = some 4 := by kernel_rfl
theorem fs46_2 : fldS Try.prog 46 2 = some 4 := by kernel_rfl
theorem fo46_3 : fldO Try.prog 46 3 = some 5 := by kernel_rfl
theorem fs46_3 : fldS Try.prog 46 3 = some 5 := by kernel_rfl
theorem ni46 : (match Try.prog.underlying 46 with | some (.interface _) => false | none => false | _ => true) = true := by kernel_rfl
theorem z46 : zeroC Try.prog 46 = some [.int .i64 0, .int .i64 0, .int .i64 0, .int .i64 0, .int .i64 0, .bool false] := by kernel_rfl
theorem ag47 : aggS Try.prog 47 = some 6 := by kernel_rfl
theorem fo47_0 : fldO Try.prog 47 0 = some 0 := by kernel_rfl
theorem fa47_0 : fldA Try.prog 47 0 = some (0, 2) := by kernel_rfl
theorem fo47_1 : fldO Try.prog 47 1 = some 2 := by kernel_rfl
theorem fa47_1 : fldA Try.prog 47 1 = some (2, 2) := by kernel_rfl
theorem fo47_2 : fldO Try.prog 47 2 = some 4 := by kernel_rfl
theorem fs47_2 : fldS Try.prog 47 2 = some 4 := by kernel_rfl
theorem fo47_3 : fldO Try.prog 47 3 = some 5 := by kernel_rfl
theorem fs47_3 : fldS Try.prog 47 3 = some 5 := by kernel_rfl
theorem ni47 : (match Try.prog.underlying 47 with | some (.interface _) => false | none => false | _ => true) = true := by kernel_rfl
theorem z47 : zeroC Try.prog 47 = some [.int .i64 0, .int .i64 0, .int .i64 0, .int .i64 0, .int .i64 0, .bool false] := by kernel_rfl
theorem sc48 : scal Try.prog 48 = true := by kernel_rfl
theorem ni48 : (match Try.prog.underlying 48 with | some (.interface _) => false | none => false | _ => true) = true := by kernel_rfl
theorem z48 : zeroC Try.prog 48 = some [.nilFunc] := by kernel_rfl
theorem sc49 : scal Try.prog 49 = true := by kernel_rfl
theorem ni49 : (match Try.prog.underlying 49 with | some (.interface _) => false | none => false | _ => true) = true := by kernel_rfl
theorem z49 : zeroC Try.prog 49 = some [.nilFunc] := by kernel_rfl
theorem sc50 : scal Try.prog 50 = true := by kernel_rfl
theorem ni50 : (match Try.prog.underlying 50 with | some (.interface _) => false | none => false | _ => true) = true := by kernel_rfl
theorem z50 : zeroC Try.prog 50 = some [.nilFunc] := by kernel_rfl
theorem sc51 : scal Try.prog 51 = true := by kernel_rfl
theorem ni51 : (match Try.prog.underlying 51 with | some (.interface _) => false | none => false | _ => true) = true := by kernel_rfl
theorem z51 : zeroC Try.prog 51 = some [.nilFunc] := by kernel_rfl
theorem ag52 : aggS Try.prog 52 = some 4 := by kernel_rfl
theorem fo52_0 : fldO Try.prog 52 0 = some 0 := by kernel_rfl
theorem fs52_0 : fldS Try.prog 52 0 = some 0 := by kernel_rfl
theorem fo52_1 : fldO Try.prog 52 1 = some 1 := by kernel_rfl
theorem fa52_1 : fldA Try.prog 52 1 = some (1, 2) := by kernel_rfl
theorem fo52_2 : fldO Try.prog 52 2 = some 3 := by kernel_rfl
theorem fs52_2 : fldS Try.prog 52 2 = some 3 := by kernel_rfl
theorem ni52 : (match Try.prog.underlying 52 with | some (.interface _) => false | none => false | _ => true) = true := by kernel_rfl
theorem z52 : zeroC Try.prog 52 = some [.int .i64 0, .int .i64 0, .int .i64 0, .slice none 0 0] := by kernel_rfl
theorem ag53 : aggS Try.prog 53 = some 4 := by kernel_rfl
theorem fo53_0 : fldO Try.prog 53 0 = some 0 := by kernel_rfl
theorem fs53_0 : fldS Try.prog 53 0 = some 0 := by kernel_rfl
theorem fo53_1 : fldO Try.prog 53 1 = some 1 := by kernel_rfl
theorem fa53_1 : fldA Try.prog 53 1 = some (1, 2) := by kernel_rfl
theorem fo53_2 : fldO Try.prog 53 2 = some 3 := by kernel_rfl
theorem fs53_2 : fldS Try.prog 53 2 = some 3 := by kernel_rfl
theorem ni53 : (match Try.prog.underlying 53 with | some (.interface _) => false | none => false | _ => true) = true := by kernel_rfl
theorem z53 : zeroC Try.prog 53 = some [.int .i64 0, .int .i64 0, .int .i64 0, .slice none 0 0] := by kernel_rfl
theorem sc54 : scal Try.prog 54 = true := by kernel_rfl
theorem ni54 : (match Try.prog.underlying 54 with | some (.interface _) => false | none => false | _ => true) = true := by kernel_rfl
theorem z54 : zeroC Try.prog 54 = some [.nilFunc] := by kernel_rfl
theorem sc55 : scal Try.prog 55 = true := by kernel_rfl
theorem sl55 : slcE Try.prog 55 = some (102, 7, 80) := by kernel_rfl
theorem is55 : isSlc Try.prog 55 = true := by kernel_rfl
theorem ni55 : (match Try.prog.underlying 55 with | some (.interface _) => false | none => false | _ => true) = true := by kernel_rfl
theorem z55 : zeroC Try.prog 55 = some [.slice none 0 0] := by kernel_rfl
theorem sc56 : scal Try.prog 56 = true := by kernel_rfl
theorem sl56 : slcE Try.prog 56 = some (58, 21, 208) := by kernel_rfl
theorem is56 : isSlc Try.prog 56 = true := by kernel_rfl
theorem ni56 : (match Try.prog.underlying 56 with | some (.interface _) => false | none => false | _ => true) = true := by kernel_rfl
theorem z56 : zeroC Try.prog 56 = some [.slice none 0 0] := by kernel_rfl
theorem ag57 : aggS Try.prog 57 = some 21 := by kernel_rfl
theorem fo57_0 : fldO Try.prog 57 0 = some 0 := by kernel_rfl
theorem fs57_0 : fldS Try.prog 57 0 = some 0 := by kernel_rfl
theorem fo57_1 : fldO Try.prog 57 1 = some 1 := by kernel_rfl
theorem fs57_1 : fldS Try.prog 57 1 = some 1 := by kernel_rfl
theorem fo57_2 : fldO Try.prog 57 2 = some 2 := by kernel_rfl
theorem fs57_2 : fldS Try.prog 57 2 = some 2 := by kernel_rfl
theorem fo57_3 : fldO Try.prog 57 3 = some 3 := by kernel_rfl
theorem fs57_3 : fldS Try.prog 57 3 = some 3 := by kernel_rfl
theorem fo57_4 : fldO Try.prog 57 4 = some 4 := by kernel_rfl
theorem fs57_4 : fldS Try.prog 57 4 = some 4 := by kernel_rfl
theorem fo57_5 : fldO Try.prog 57 5 = some 5 := by kernel_rfl
theorem fs57_5 : fldS Try.prog 57 5 = some 5 := by kernel_rfl
theorem fo57_6 : fldO Try.prog 57 6 = some 6 := by kernel_rfl
theorem fs57_6 : fldS Try.prog 57 6 = some 6 := by kernel_rfl
theorem fo57_7 : fldO Try.prog 57 7 = some 7 := by kernel_rfl
theorem fs57_7 : fldS Try.prog 57 7 = some 7 := by kernel_rfl
theorem fo57_8 : fldO Try.prog 57 8 = some 8 := by kernel_rfl
theorem fs57_8 : fldS Try.prog 57 8 = some 8 := by kernel_rfl
theorem fo57_9 : fldO Try.prog 57 9 = some 9 := by kernel_rfl
theorem fs57_9 : fldS Try.prog 57 9 = some 9 := by kernel_rfl
theorem fo57_10 : fldO Try.prog 57 10 = some 10 := by kernel_rfl
theorem fs57_10 : fldS Try.prog 57 10 = some 10 := by kernel_rfl
theorem fo57_11 : fldO Try.prog 57 11 = some 11 := by kernel_rfl
theorem fs57_11 : fldS Try.prog 57 11 = some 11 := by kernel_rfl
theorem fo57_12 : fldO Try.prog 57 12 = some 12 := by kernel_rfl
theorem fs57_12 : fldS Try.prog 57 12 = some 12 := by kernel_rfl
theorem fo57_13 : fldO Try.prog 57 13 = some 13 := by kernel_rfl
theorem fs57_13 : fldS Try.prog 57 13 = some 13 := by kernel_rfl
theorem fo57_14 : fldO Try.prog 57 14 = some 14 := by kernel_rfl
theorem fs57_14 : fldS Try.prog 57 14 = some 14 := by kernel_rfl
theorem fo57_15 : fldO Try.prog 57 15 = some 15 := by kernel_rfl
theorem fs57_15 : fldS Try.prog 57 15 = some 15 := by kernel_rfl
theorem fo57_16 : fldO Try.prog 57 16 = some 16 := by kernel_rfl
theorem fs57_16 : fldS Try.prog 57 16 = some 16 := by kernel_rfl
theorem fo57_17 : fldO Try.prog 57 17 = some 17 := by kernel_rfl
theorem fs57_17 : fldS Try.prog 57 17 = some 17 := by kernel_rfl
theorem fo57_18 : fldO Try.prog 57 18 = some 18 := by kernel_rfl
theorem fs57_18 : fldS Try.prog 57 18 = some 18 := by kernel_rfl
theorem fo57_19 : fldO Try.prog 57 19 = some 19 := by kernel_rfl
theorem fs57_19 : fldS Try.prog 57 19 = some 19 := by kernel_rfl
theorem fo57_20 : fldO Try.prog 57 20 = some 20 := by kernel_rfl
theorem fs57_20 : fldS Try.prog 57 20 = some 20 := by kernel_rfl
theorem ni57 : (match Try.prog.underlying 57 with | some (.interface _) => false | none => false | _ => true) = true := by kernel_rfl
theorem z57 : zeroC Try.prog 57 = some [.int .i64 0, .string ⟨#[]⟩, .string ⟨#[]⟩, .string ⟨#[]⟩, .int .i64 0, .int .i64 0, .int .i64 0, .int .i64 0, .int .i64 0, .int .i64 0, .int .i64 0, .int .i64 0, .int .i64 0, .bool false, .bool false, .bool false, .bool false, .bool false, .slice none 0 0, .slice none 0 0, .slice none 0 0] := by kernel_rfl
theorem ag58 : aggS Try.prog 58 = some 21 := by kernel_rfl
theorem fo58_0 : fldO Try.prog 58 0 = some 0 := by kernel_rfl
theorem fs58_0 : fldS Try.prog 58 0 = some 0 := by kernel_rfl
theorem fo58_1 : fldO Try.prog 58 1 = some 1 := by kernel_rfl
theorem fs58_1 : fldS Try.prog 58 1 = some 1 := by kernel_rfl
theorem fo58_2 : fldO Try.prog 58 2 = some 2 := by kernel_rfl
theorem fs58_2 : fldS Try.prog 58 2 = some 2 := by kernel_rfl
theorem fo58_3 : fldO Try.prog 58 3 = some 3 := by kernel_rfl
theorem fs58_3 : fldS Try.prog 58 3 = some 3 := by kernel_rfl
theorem fo58_4 : fldO Try.prog 58 4 = some 4 := by kernel_rfl
theorem fs58_4 : fldS Try.prog 58 4 = some 4 := by kernel_rfl
theorem fo58_5 : fldO Try.prog 58 5 = some 5 := by kernel_rfl
theorem fs58_5 : fldS Try.prog 58 5 = some 5 := by kernel_rfl
theorem fo58_6 : fldO Try.prog 58 6 = some 6 := by kernel_rfl
theorem fs58_6 : fldS Try.prog 58 6 = some 6 := by kernel_rfl
theorem fo58_7 : fldO Try.prog 58 7 = some 7 := by kernel_rfl
theorem fs58_7 : fldS Try.prog 58 7 = some 7 := by kernel_rfl
theorem fo58_8 : fldO Try.prog 58 8 = some 8 := by kernel_rfl
theorem fs58_8 : fldS Try.prog 58 8 = some 8 := by kernel_rfl
theorem fo58_9 : fldO Try.prog 58 9 = some 9 := by kernel_rfl
theorem fs58_9 : fldS Try.prog 58 9 = some 9 := by kernel_rfl
theorem fo58_10 : fldO Try.prog 58 10 = some 10 := by kernel_rfl
theorem fs58_10 : fldS Try.prog 58 10 = some 10 := by kernel_rfl
theorem fo58_11 : fldO Try.prog 58 11 = some 11 := by kernel_rfl
theorem fs58_11 : fldS Try.prog 58 11 = some 11 := by kernel_rfl
theorem fo58_12 : fldO Try.prog 58 12 = some 12 := by kernel_rfl
theorem fs58_12 : fldS Try.prog 58 12 = some 12 := by kernel_rfl
theorem fo58_13 : fldO Try.prog 58 13 = some 13 := by kernel_rfl
theorem fs58_13 : fldS Try.prog 58 13 = some 13 := by kernel_rfl
theorem fo58_14 : fldO Try.prog 58 14 = some 14 := by kernel_rfl
theorem fs58_14 : fldS Try.prog 58 14 = some 14 := by kernel_rfl
theorem fo58_15 : fldO Try.prog 58 15 = some 15 := by kernel_rfl
theorem fs58_15 : fldS Try.prog 58 15 = some 15 := by kernel_rfl
theorem fo58_16 : fldO Try.prog 58 16 = some 16 := by kernel_rfl
theorem fs58_16 : fldS Try.prog 58 16 = some 16 := by kernel_rfl
theorem fo58_17 : fldO Try.prog 58 17 = some 17 := by kernel_rfl
theorem fs58_17 : fldS Try.prog 58 17 = some 17 := by kernel_rfl
theorem fo58_18 : fldO Try.prog 58 18 = some 18 := by kernel_rfl
theorem fs58_18 : fldS Try.prog 58 18 = some 18 := by kernel_rfl
theorem fo58_19 : fldO Try.prog 58 19 = some 19 := by kernel_rfl
theorem fs58_19 : fldS Try.prog 58 19 = some 19 := by kernel_rfl
theorem fo58_20 : fldO Try.prog 58 20 = some 20 := by kernel_rfl
theorem fs58_20 : fldS Try.prog 58 20 = some 20 := by kernel_rfl
theorem ni58 : (match Try.prog.underlying 58 with | some (.interface _) => false | none => false | _ => true) = true := by kernel_rfl
theorem z58 : zeroC Try.prog 58 = some [.int .i64 0, .string ⟨#[]⟩, .string ⟨#[]⟩, .string ⟨#[]⟩, .int .i64 0, .int .i64 0, .int .i64 0, .int .i64 0, .int .i64 0, .int .i64 0, .int .i64 0, .int .i64 0, .int .i64 0, .bool false, .bool false, .bool false, .bool false, .bool false, .slice none 0 0, .slice none 0 0, .slice none 0 0] := by kernel_rfl
theorem sc59 : scal Try.prog 59 = true := by kernel_rfl
theorem ni59 : (match Try.prog.underlying 59 with | some (.interface _) => false | none => false | _ => true) = true := by kernel_rfl
theorem z59 : zeroC Try.prog 59 = some [.nilFunc] := by kernel_rfl
theorem sc60 : scal Try.prog 60 = true := by kernel_rfl
theorem ni60 : (match Try.prog.underlying 60 with | some (.interface _) => false | none => false | _ => true) = true := by kernel_rfl
theorem z60 : zeroC Try.prog 60 = some [.nilFunc] := by kernel_rfl
theorem sc61 : scal Try.prog 61 = true := by kernel_rfl
theorem ni61 : (match Try.prog.underlying 61 with | some (.interface _) => false | none => false | _ => true) = true := by kernel_rfl
theorem z61 : zeroC Try.prog 61 = some [.nilFunc] := by kernel_rfl
theorem sc62 : scal Try.prog 62 = true := by kernel_rfl
theorem sl62 : slcE Try.prog 62 = some (9, 1, 16) := by kernel_rfl
theorem is62 : isSlc Try.prog 62 = true := by kernel_rfl
theorem ni62 : (match Try.prog.underlying 62 with | some (.interface _) => false | none => false | _ => true) = true := by kernel_rfl
theorem z62 : zeroC Try.prog 62 = some [.slice none 0 0] := by kernel_rfl
theorem sc63 : scal Try.prog 63 = true := by kernel_rfl
theorem sl63 : slcE Try.prog 63 = some (109, 6, 64) := by kernel_rfl
theorem is63 : isSlc Try.prog 63 = true := by kernel_rfl
theorem ni63 : (match Try.prog.underlying 63 with | some (.interface _) => false | none => false | _ => true) = true := by kernel_rfl
theorem z63 : zeroC Try.prog 63 = some [.slice none 0 0] := by kernel_rfl
theorem ag64 : aggS Try.prog 64 = some 2 := by kernel_rfl
theorem fo64_0 : fldO Try.prog 64 0 = some 0 := by kernel_rfl
theorem fs64_0 : fldS Try.prog 64 0 = some 0 := by kernel_rfl
theorem fo64_1 : fldO Try.prog 64 1 = some 1 := by kernel_rfl
theorem fs64_1 : fldS Try.prog 64 1 = some 1 := by kernel_rfl
theorem ni64 : (match Try.prog.underlying 64 with | some (.interface _) => false | none => false | _ => true) = true := by kernel_rfl
theorem z64 : zeroC Try.prog 64 = some [.int .i64 0, .slice none 0 0] := by kernel_rfl
theorem ag65 : aggS Try.prog 65 = some 2 := by kernel_rfl
theorem fo65_0 : fldO Try.prog 65 0 = some 0 := by kernel_rfl
theorem fs65_0 : fldS Try.prog 65 0 = some 0 := by kernel_rfl
theorem fo65_1 : fldO Try.prog 65 1 = some 1 := by kernel_rfl
theorem fs65_1 : fldS Try.prog 65 1 = some 1 := by kernel_rfl
theorem ni65 : (match Try.prog.underlying 65 with | some (.interface _) => false | none => false | _ => true) = true := by kernel_rfl
theorem z65 : zeroC Try.prog 65 = some [.int .i64 0, .slice none 0 0] := by kernel_rfl
theorem ag66 : aggS Try.prog 66 = some 3 := by kernel_rfl
theorem fo66_0 : fldO Try.prog 66 0 = some 0 := by kernel_rfl
theorem fs66_0 : fldS Try.prog 66 0 = some 0 := by kernel_rfl
theorem fo66_1 : fldO Try.prog 66 1 = some 1 := by kernel_rfl
theorem fa66_1 : fldA Try.prog 66 1 = some (1, 2) := by kernel_rfl
theorem ni66 : (match Try.prog.underlying 66 with | some (.interface _) => false | none => false | _ => true) = true := by kernel_rfl
theorem z66 : zeroC Try.prog 66 = some [.slice none 0 0, .int .i64 0, .slice none 0 0] := by kernel_rfl
theorem ag67 : aggS Try.prog 67 = some 3 := by kernel_rfl
theorem fo67_0 : fldO Try.prog 67 0 = some 0 := by kernel_rfl
theorem fs67_0 : fldS Try.prog 67 0 = some 0 := by kernel_rfl
theorem fo67_1 : fldO Try.prog 67 1 = some 1 := by kernel_rfl
theorem fa67_1 : fldA Try.prog 67 1 = some (1, 2) := by kernel_rfl
theorem ni67 : (match Try.prog.underlying 67 with | some (.interface _) => false | none => false | _ => true) = true := by kernel_rfl
theorem z67 : zeroC Try.prog 67 = some [.slice none 0 0, .int .i64 0, .slice none 0 0] := by kernel_rfl
theorem sc69 : scal Try.prog 69 = true := by kernel_rfl
theorem ni69 : (match Try.prog.underlying 69 with | some (.interface _) => false | none => false | _ => true) = true := by kernel_rfl
theorem z69 : zeroC Try.prog 69 = some [.nilFunc] := by kernel_rfl
theorem sc70 : scal Try.prog 70 = true := by kernel_rfl
theorem ni70 : (match Try.prog.underlying 70 with | some (.interface _) => false | none => false | _ => true) = true := by kernel_rfl
theorem z70 : zeroC Try.prog 70 = some [.nilFunc] := by kernel_rfl
theorem sc71 : scal Try.prog 71 = true := by kernel_rfl
theorem ni71 : (match Try.prog.underlying 71 with | some (.interface _) => false | none => false | _ => true) = true := by kernel_rfl
theorem z71 : zeroC Try.prog 71 = some [.nilFunc] := by kernel_rfl
theorem sc72 : scal Try.prog 72 = true := by kernel_rfl
theorem ni72 : (match Try.prog.underlying 72 with | some (.interface _) => false | none => false | _ => true) = true := by kernel_rfl
theorem z72 : zeroC Try.prog 72 = some [.nilFunc] := by kernel_rfl
theorem sc74 : scal Try.prog 74 = true := by kernel_rfl
theorem ni74 : (match Try.prog.underlying 74 with | some (.interface _) => false | none => false | _ => true) = true := by kernel_rfl
theorem z74 : zeroC Try.prog 74 = some [.nilFunc] := by kernel_rfl
theorem sc75 : scal Try.prog 75 = true := by kernel_rfl
theorem ni75 : (match Try.prog.underlying 75 with | some (.interface _) => false | none => false | _ => true) = true := by kernel_rfl
theorem z75 : zeroC Try.prog 75 = some [.nilFunc] := by kernel_rfl
theorem sc76 : scal Try.prog 76 = true := by kernel_rfl
theorem ip76 : isPtr Try.prog 76 = true := by kernel_rfl
theorem ni76 : (match Try.prog.underlying 76 with | some (.interface _) => false | none => false | _ => true) = true := by kernel_rfl
theorem z76 : zeroC Try.prog 76 = some [.pointer none] := by kernel_rfl
theorem ag77 : aggS Try.prog 77 = some 1 := by kernel_rfl
theorem fo77_0 : fldO Try.prog 77 0 = some 0 := by kernel_rfl
theorem fs77_0 : fldS Try.prog 77 0 = some 0 := by kernel_rfl
theorem ni77 : (match Try.prog.underlying 77 with | some (.interface _) => false | none => false | _ => true) = true := by kernel_rfl
theorem z77 : zeroC Try.prog 77 = some [.pointer none] := by kernel_rfl
theorem ag78 : aggS Try.prog 78 = some 1 := by kernel_rfl
theorem fo78_0 : fldO Try.prog 78 0 = some 0 := by kernel_rfl
theorem fs78_0 : fldS Try.prog 78 0 = some 0 := by kernel_rfl
theorem ni78 : (match Try.prog.underlying 78 with | some (.interface _) => false | none => false | _ => true) = true := by kernel_rfl
theorem z78 : zeroC Try.prog 78 = some [.pointer none] := by kernel_rfl
theorem sc79 : scal Try.prog 79 = true := by kernel_rfl
theorem ni79 : (match Try.prog.underlying 79 with | some (.interface _) => false | none => false | _ => true) = true := by kernel_rfl
theorem z79 : zeroC Try.prog 79 = some [.nilFunc] := by kernel_rfl
theorem sc80 : scal Try.prog 80 = true := by kernel_rfl
theorem sl80 : slcE Try.prog 80 = some (5, 1, 1) := by kernel_rfl
theorem is80 : isSlc Try.prog 80 = true := by kernel_rfl
theorem by80 : isBytes Try.prog 80 = some 5 := by kernel_rfl
theorem ni80 : (match Try.prog.underlying 80 with | some (.interface _) => false | none => false | _ => true) = true := by kernel_rfl
theorem z80 : zeroC Try.prog 80 = some [.slice none 0 0] := by kernel_rfl
theorem ag81 : aggS Try.prog 81 = some 2 := by kernel_rfl
theorem fo81_0 : fldO Try.prog 81 0 = some 0 := by kernel_rfl
theorem fs81_0 : fldS Try.prog 81 0 = some 0 := by kernel_rfl
theorem fo81_1 : fldO Try.prog 81 1 = some 1 := by kernel_rfl
theorem fs81_1 : fldS Try.prog 81 1 = some 1 := by kernel_rfl
theorem ni81 : (match Try.prog.underlying 81 with | some (.interface _) => false | none => false | _ => true) = true := by kernel_rfl
theorem z81 : zeroC Try.prog 81 = some [.int .i64 0, .int .i64 0] := by kernel_rfl
theorem sc82 : scal Try.prog 82 = true := by kernel_rfl
theorem sl82 : slcE Try.prog 82 = some (135, 4, 48) := by kernel_rfl
theorem is82 : isSlc Try.prog 82 = true := by kernel_rfl
theorem ni82 : (match Try.prog.underlying 82 with | some (.interface _) => false | none => false | _ => true) = true := by kernel_rfl
theorem z82 : zeroC Try.prog 82 = some [.slice none 0 0] := by kernel_rfl
theorem ag83 : aggS Try.prog 83 = some 3 := by kernel_rfl
theorem fo83_0 : fldO Try.prog 83 0 = some 0 := by kernel_rfl
theorem fa83_0 : fldA Try.prog 83 0 = some (0, 2) := by kernel_rfl
theorem fo83_1 : fldO Try.prog 83 1 = some 2 := by kernel_rfl
theorem fs83_1 : fldS Try.prog 83 1 = some 2 := by kernel_rfl
theorem ni83 : (match Try.prog.underlying 83 with | some (.interface _) => false | none => false | _ => true) = true := by kernel_rfl
theorem z83 : zeroC Try.prog 83 = some [.int .i64 0, .int .i64 0, .slice none 0 0] := by kernel_rfl
theorem ag84 : aggS Try.prog 84 = some 3 := by kernel_rfl
theorem fo84_0 : fldO Try.prog 84 0 = some 0 := by kernel_rfl
theorem fa84_0 : fldA Try.prog 84 0 = some (0, 2) := by kernel_rfl
theorem fo84_1 : fldO Try.prog 84 1 = some 2 := by kernel_rfl
theorem fs84_1 : fldS Try.prog 84 1 = some 2 := by kernel_rfl
theorem ni84 : (match Try.prog.underlying 84 with | some (.interface _) => false | none => false | _ => true) = true := by kernel_rfl
theorem z84 : zeroC Try.prog 84 = some [.int .i64 0, .int .i64 0, .slice none 0 0] := by kernel_rfl
theorem sc85 : scal Try.prog 85 = true := by kernel_rfl
theorem ni85 : (match Try.prog.underlying 85 with | some (.interface _) => false | none => false | _ => true) = true := by kernel_rfl
theorem z85 : zeroC Try.prog 85 = some [.nilFunc] := by kernel_rfl
theorem sc86 : scal Try.prog 86 = true := by kernel_rfl
theorem ni86 : (match Try.prog.underlying 86 with | some (.interface _) => false | none => false | _ => true) = true := by kernel_rfl
theorem z86 : zeroC Try.prog 86 = some [.nilFunc] := by kernel_rfl
theorem sc87 : scal Try.prog 87 = true := by kernel_rfl
theorem ni87 : (match Try.prog.underlying 87 with | some (.interface _) => false | none => false | _ => true) = true := by kernel_rfl
theorem z87 : zeroC Try.prog 87 = some [.nilFunc] := by kernel_rfl
theorem sc88 : scal Try.prog 88 = true := by kernel_rfl
theorem ip88 : isPtr Try.prog 88 = true := by kernel_rfl
theorem ni88 : (match Try.prog.underlying 88 with | some (.interface _) => false | none => false | _ => true) = true := by kernel_rfl
theorem z88 : zeroC Try.prog 88 = some [.pointer none] := by kernel_rfl
theorem sc89 : scal Try.prog 89 = true := by kernel_rfl
theorem ni89 : (match Try.prog.underlying 89 with | some (.interface _) => false | none => false | _ => true) = true := by kernel_rfl
theorem z89 : zeroC Try.prog 89 = some [.nilFunc] := by kernel_rfl
theorem sc90 : scal Try.prog 90 = true := by kernel_rfl
theorem ni90 : (match Try.prog.underlying 90 with | some (.interface _) => false | none => false | _ => true) = true := by kernel_rfl
theorem z90 : zeroC Try.prog 90 = some [.nilFunc] := by kernel_rfl
theorem sc91 : scal Try.prog 91 = true := by kernel_rfl
theorem ni91 : (match Try.prog.underlying 91 with | some (.interface _) => false | none => false | _ => true) = true := by kernel_rfl
theorem z91 : zeroC Try.prog 91 = some [.nilFunc] := by kernel_rfl
theorem sc92 : scal Try.prog 92 = true := by kernel_rfl
theorem ni92 : (match Try.prog.underlying 92 with | some (.interface _) => false | none => false | _ => true) = true := by kernel_rfl
theorem z92 : zeroC Try.prog 92 = some [.nilFunc] := by kernel_rfl
theorem sc93 : scal Try.prog 93 = true := by kernel_rfl
theorem sl93 : slcE Try.prog 93 = some (98, 5, 56) := by kernel_rfl
theorem is93 : isSlc Try.prog 93 = true := by kernel_rfl
theorem ni93 : (match Try.prog.underlying 93 with | some (.interface _) => false | none => false | _ => true) = true := by kernel_rfl
theorem z93 : zeroC Try.prog 93 = some [.slice none 0 0] := by kernel_rfl
theorem sc94 : scal Try.prog 94 = true := by kernel_rfl
theorem ni94 : (match Try.prog.underlying 94 with | some (.interface _) => false | none => false | _ => true) = true := by kernel_rfl
theorem z94 : zeroC Try.prog 94 = some [.nilFunc] := by kernel_rfl
theorem ag95 : aggS Try.prog 95 = some 3 := by kernel_rfl
theorem fo95_0 : fldO Try.prog 95 0 = some 0 := by kernel_rfl
theorem fs95_0 : fldS Try.prog 95 0 = some 0 := by kernel_rfl
theorem fo95_1 : fldO Try.prog 95 1 = some 1 := by kernel_rfl
theorem fs95_1 : fldS Try.prog 95 1 = some 1 := by kernel_rfl
theorem fo95_2 : fldO Try.prog 95 2 = some 2 := by kernel_rfl
theorem fs95_2 : fldS Try.prog 95 2 = some 2 := by kernel_rfl
theorem ni95 : (match Try.prog.underlying 95 with | some (.interface _) => false | none => false | _ => true) = true := by kernel_rfl
theorem z95 : zeroC Try.prog 95 = some [.string ⟨#[]⟩, .string ⟨#[]⟩, .bool false] := by kernel_rfl
theorem ag96 : aggS Try.prog 96 = some 3 := by kernel_rfl
theorem fo96_0 : fldO Try.prog 96 0 = some 0 := by kernel_rfl
theorem fs96_0 : fldS Try.prog 96 0 = some 0 := by kernel_rfl
theorem fo96_1 : fldO Try.prog 96 1 = some 1 := by kernel_rfl
theorem fs96_1 : fldS Try.prog 96 1 = some 1 := by kernel_rfl
theorem fo96_2 : fldO Try.prog 96 2 = some 2 := by kernel_rfl
theorem fs96_2 : fldS Try.prog 96 2 = some 2 := by kernel_rfl
theorem ni96 : (match Try.prog.underlying 96 with | some (.interface _) => false | none => false | _ => true) = true := by kernel_rfl
theorem z96 : zeroC Try.prog 96 = some [.string ⟨#[]⟩, .string ⟨#[]⟩, .bool false] := by kernel_rfl
theorem ag97 : aggS Try.prog 97 = some 5 := by kernel_rfl
theorem fo97_0 : fldO Try.prog 97 0 = some 0 := by kernel_rfl
theorem fa97_0 : fldA Try.prog 97 0 = some (0, 3) := by kernel_rfl
theorem fo97_1 : fldO Try.prog 97 1 = some 3 := by kernel_rfl
theorem fs97_1 : fldS Try.prog 97 1 = some 3 := by kernel_rfl
theorem fo97_2 : fldO Try.prog 97 2 = some 4 := by kernel_rfl
theorem fs97_2 : fldS Try.prog 97 2 = some 4 := by kernel_rfl
theorem ni97 : (match Try.prog.underlying 97 with | some (.interface _) => false | none => false | _ => true) = true := by kernel_rfl
theorem z97 : zeroC Try.prog 97 = some [.string ⟨#[]⟩, .string ⟨#[]⟩, .bool false, .int .i64 0, .int .i64 0] := by kernel_rfl
theorem ag98 : aggS Try.prog 98 = some 5 := by kernel_rfl
theorem fo98_0 : fldO Try.prog 98 0 = some 0 := by kernel_rfl
theorem fa98_0 : fldA Try.prog 98 0 = some (0, 3) := by kernel_rfl
theorem fo98_1 : fldO Try.prog 98 1 = some 3 := by kernel_rfl
theorem fs98_1 : fldS Try.prog 98 1 = some 3 := by kernel_rfl
theorem fo98_2 : fldO Try.prog 98 2 = some 4 := by kernel_rfl
theorem fs98_2 : fldS Try.prog 98 2 = some 4 := by kernel_rfl
theorem ni98 : (match Try.prog.underlying 98 with | some (.interface _) => false | none => false | _ => true) = true := by kernel_rfl
theorem z98 : zeroC Try.prog 98 = some [.string ⟨#[]⟩, .string ⟨#[]⟩, .bool false, .int .i64 0, .int .i64 0] := by kernel_rfl
theorem sc99 : scal Try.prog 99 = true := by kernel_rfl
theorem ni99 : (match Try.prog.underlying 99 with | some (.interface _) => false | none => false | _ => true) = true := by kernel_rfl
theorem z99 : zeroC Try.prog 99 = some [.nilFunc] := by kernel_rfl
theorem sc100 : scal Try.prog 100 = true := by kernel_rfl
theorem ni100 : (match Try.prog.underlying 100 with | some (.interface _) => false | none => false | _ => true) = true := by kernel_rfl
theorem z100 : zeroC Try.prog 100 = some [.nilFunc] := by kernel_rfl
theorem ag101 : aggS Try.prog 101 = some 7 := by kernel_rfl
theorem fo101_0 : fldO Try.prog 101 0 = some 0 := by kernel_rfl
theorem fs101_0 : fldS Try.prog 101 0 = some 0 := by kernel_rfl
theorem fo101_1 : fldO Try.prog 101 1 = some 1 := by kernel_rfl
theorem fs101_1 : fldS Try.prog 101 1 = some 1 := by kernel_rfl
theorem fo101_2 : fldO Try.prog 101 2 = some 2 := by kernel_rfl
theorem fs101_2 : fldS Try.prog 101 2 = some 2 := by kernel_rfl
theorem fo101_3 : fldO Try.prog 101 3 = some 3 := by kernel_rfl
theorem fs101_3 : fldS Try.prog 101 3 = some 3 := by kernel_rfl
theorem fo101_4 : fldO Try.prog 101 4 = some 4 := by kernel_rfl
theorem fs101_4 : fldS Try.prog 101 4 = some 4 := by kernel_rfl
theorem fo101_5 : fldO Try.prog 101 5 = some 5 := by kernel_rfl
theorem fs101_5 : fldS Try.prog 101 5 = some 5 := by kernel_rfl
theorem fo101_6 : fldO Try.prog 101 6 = some 6 := by kernel_rfl
theorem fs101_6 : fldS Try.prog 101 6 = some 6 := by kernel_rfl
theorem ni101 : (match Try.prog.underlying 101 with | some (.interface _) => false | none => false | _ => true) = true := by kernel_rfl
theorem z101 : zeroC Try.prog 101 = some [.int .i64 0, .int .i64 0, .string ⟨#[]⟩, .string ⟨#[]⟩, .int .i64 0, .string ⟨#[]⟩, .bool false] := by kernel_rfl
theorem ag102 : aggS Try.prog 102 = some 7 := by kernel_rfl
theorem fo102_0 : fldO Try.prog 102 0 = some 0 := by kernel_rfl
theorem fs102_0 : fldS Try.prog 102 0 = some 0 := by kernel_rfl
theorem fo102_1 : fldO Try.prog 102 1 = some 1 := by kernel_rfl
theorem fs102_1 : fldS Try.prog 102 1 = some 1 := by kernel_rfl
theorem fo102_2 : fldO Try.prog 102 2 = some 2 := by kernel_rfl
theorem fs102_2 : fldS Try.prog 102 2 = some 2 := by kernel_rfl
theorem fo102_3 : fldO Try.prog 102 3 = some 3 := by kernel_rfl
theorem fs102_3 : fldS Try.prog 102 3 = some 3 := by kernel_rfl
theorem fo102_4 : fldO Try.prog 102 4 = some 4 := by kernel_rfl
theorem fs102_4 : fldS Try.prog 102 4 = some 4 := by kernel_rfl
theorem fo102_5 : fldO Try.prog 102 5 = some 5 := by kernel_rfl
theorem fs102_5 : fldS Try.prog 102 5 = some 5 := by kernel_rfl
theorem fo102_6 : fldO Try.prog 102 6 = some 6 := by kernel_rfl
theorem fs102_6 : fldS Try.prog 102 6 = some 6 := by kernel_rfl
theorem ni102 : (match Try.prog.underlying 102 with | some (.interface _) => false | none => false | _ => true) = true := by kernel_rfl
theorem z102 : zeroC Try.prog 102 = some [.int .i64 0, .int .i64 0, .string ⟨#[]⟩, .string ⟨#[]⟩, .int .i64 0, .string ⟨#[]⟩, .bool false] := by kernel_rfl
theorem sc103 : scal Try.prog 103 = true := by kernel_rfl
theorem ni103 : (match Try.prog.underlying 103 with | some (.interface _) => false | none => false | _ => true) = true := by kernel_rfl
theorem z103 : zeroC Try.prog 103 = some [.nilFunc] := by kernel_rfl
theorem sc104 : scal Try.prog 104 = true := by kernel_rfl
theorem ni104 : (match Try.prog.underlying 104 with | some (.interface _) => false | none => false | _ => true) = true := by kernel_rfl
theorem z104 : zeroC Try.prog 104 = some [.nilFunc] := by kernel_rfl
theorem sc105 : scal Try.prog 105 = true := by kernel_rfl
theorem ni105 : (match Try.prog.underlying 105 with | some (.interface _) => false | none => false | _ => true) = true := by kernel_rfl
theorem z105 : zeroC Try.prog 105 = some [.nilFunc] := by kernel_rfl
theorem sc106 : scal Try.prog 106 = true := by kernel_rfl
theorem ni106 : (match Try.prog.underlying 106 with | some (.interface _) => false | none => false | _ => true) = true := by kernel_rfl
theorem z106 : zeroC Try.prog 106 = some [.nilFunc] := by kernel_rfl
theorem sc107 : scal Try.prog 107 = true := by kernel_rfl
theorem ni107 : (match Try.prog.underlying 107 with | some (.interface _) => false | none => false | _ => true) = true := by kernel_rfl
theorem z107 : zeroC Try.prog 107 = some [.nilFunc] := by kernel_rfl
theorem ag108 : aggS Try.prog 108 = some 6 := by kernel_rfl
theorem fo108_0 : fldO Try.prog 108 0 = some 0 := by kernel_rfl
theorem fa108_0 : fldA Try.prog 108 0 = some (0, 5) := by kernel_rfl
theorem fo108_1 : fldO Try.prog 108 1 = some 5 := by kernel_rfl
theorem fs108_1 : fldS Try.prog 108 1 = some 5 := by kernel_rfl
theorem ni108 : (match Try.prog.underlying 108 with | some (.interface _) => false | none => false | _ => true) = true := by kernel_rfl
theorem z108 : zeroC Try.prog 108 = some [.string ⟨#[]⟩, .string ⟨#[]⟩, .bool false, .int .i64 0, .int .i64 0, .int .i64 0] := by kernel_rfl
theorem ag109 : aggS Try.prog 109 = some 6 := by kernel_rfl
theorem fo109_0 : fldO Try.prog 109 0 = some 0 := by kernel_rfl
theorem fa109_0 : fldA Try.prog 109 0 = some (0, 5) := by kernel_rfl
theorem fo109_1 : fldO Try.prog 109 1 = some 5 := by kernel_rfl
theorem fs109_1 : fldS Try.prog 109 1 = some 5 := by kernel_rfl
theorem ni109 : (match Try.prog.underlying 109 with | some (.interface _) => false | none => false | _ => true) = true := by kernel_rfl
theorem z109 : zeroC Try.prog 109 = some [.string ⟨#[]⟩, .string ⟨#[]⟩, .bool false, .int .i64 0, .int .i64 0, .int .i64 0] := by kernel_rfl
theorem sc110 : scal Try.prog 110 = true := by kernel_rfl
theorem ni110 : (match Try.prog.underlying 110 with | some (.interface _) => false | none => false | _ => true) = true := by kernel_rfl
theorem z110 : zeroC Try.prog 110 = some [.nilFunc] := by kernel_rfl
theorem sc111 : scal Try.prog 111 = true := by kernel_rfl
theorem if111 : isIfc Try.prog 111 = true := by kernel_rfl
theorem z111 : zeroC Try.prog 111 = some [.nilIface] := by kernel_rfl
theorem sc112 : scal Try.prog 112 = true := by kernel_rfl
theorem if112 : isIfc Try.prog 112 = true := by kernel_rfl
theorem z112 : zeroC Try.prog 112 = some [.nilIface] := by kernel_rfl
theorem sc113 : scal Try.prog 113 = true := by kernel_rfl
theorem ni113 : (match Try.prog.underlying 113 with | some (.interface _) => false | none => false | _ => true) = true := by kernel_rfl
theorem z113 : zeroC Try.prog 113 = some [.nilFunc] := by kernel_rfl
theorem sc114 : scal Try.prog 114 = true := by kernel_rfl
theorem ip114 : isPtr Try.prog 114 = true := by kernel_rfl
theorem ni114 : (match Try.prog.underlying 114 with | some (.interface _) => false | none => false | _ => true) = true := by kernel_rfl
theorem z114 : zeroC Try.prog 114 = some [.pointer none] := by kernel_rfl
theorem sc115 : scal Try.prog 115 = true := by kernel_rfl
theorem ni115 : (match Try.prog.underlying 115 with | some (.interface _) => false | none => false | _ => true) = true := by kernel_rfl
theorem z115 : zeroC Try.prog 115 = some [.nilFunc] := by kernel_rfl
theorem sc116 : scal Try.prog 116 = true := by kernel_rfl
theorem ni116 : (match Try.prog.underlying 116 with | some (.interface _) => false | none => false | _ => true) = true := by kernel_rfl
theorem z116 : zeroC Try.prog 116 = some [.nilFunc] := by kernel_rfl
theorem sc117 : scal Try.prog 117 = true := by kernel_rfl
theorem ip117 : isPtr Try.prog 117 = true := by kernel_rfl
theorem ni117 : (match Try.prog.underlying 117 with | some (.interface _) => false | none => false | _ => true) = true := by kernel_rfl
theorem z117 : zeroC Try.prog 117 = some [.pointer none] := by kernel_rfl
theorem sc118 : scal Try.prog 118 = true := by kernel_rfl
theorem ni118 : (match Try.prog.underlying 118 with | some (.interface _) => false | none => false | _ => true) = true := by kernel_rfl
theorem z118 : zeroC Try.prog 118 = some [.nilFunc] := by kernel_rfl
theorem sc119 : scal Try.prog 119 = true := by kernel_rfl
theorem ni119 : (match Try.prog.underlying 119 with | some (.interface _) => false | none => false | _ => true) = true := by kernel_rfl
theorem z119 : zeroC Try.prog 119 = some [.nilFunc] := by kernel_rfl
theorem sc120 : scal Try.prog 120 = true := by kernel_rfl
theorem ip120 : isPtr Try.prog 120 = true := by kernel_rfl
theorem ni120 : (match Try.prog.underlying 120 with | some (.interface _) => false | none => false | _ => true) = true := by kernel_rfl
theorem z120 : zeroC Try.prog 120 = some [.pointer none] := by kernel_rfl
theorem sc121 : scal Try.prog 121 = true := by kernel_rfl
theorem ni121 : (match Try.prog.underlying 121 with | some (.interface _) => false | none => false | _ => true) = true := by kernel_rfl
theorem z121 : zeroC Try.prog 121 = some [.nilFunc] := by kernel_rfl
theorem sc122 : scal Try.prog 122 = true := by kernel_rfl
theorem ni122 : (match Try.prog.underlying 122 with | some (.interface _) => false | none => false | _ => true) = true := by kernel_rfl
theorem z122 : zeroC Try.prog 122 = some [.nilFunc] := by kernel_rfl
theorem sc123 : scal Try.prog 123 = true := by kernel_rfl
theorem ip123 : isPtr Try.prog 123 = true := by kernel_rfl
theorem ni123 : (match Try.prog.underlying 123 with | some (.interface _) => false | none => false | _ => true) = true := by kernel_rfl
theorem z123 : zeroC Try.prog 123 = some [.pointer none] := by kernel_rfl
theorem sc124 : scal Try.prog 124 = true := by kernel_rfl
theorem ni124 : (match Try.prog.underlying 124 with | some (.interface _) => false | none => false | _ => true) = true := by kernel_rfl
theorem z124 : zeroC Try.prog 124 = some [.nilFunc] := by kernel_rfl
theorem sc125 : scal Try.prog 125 = true := by kernel_rfl
theorem ni125 : (match Try.prog.underlying 125 with | some (.interface _) => false | none => false | _ => true) = true := by kernel_rfl
theorem z125 : zeroC Try.prog 125 = some [.nilFunc] := by kernel_rfl
theorem sc127 : scal Try.prog 127 = true := by kernel_rfl
theorem ni127 : (match Try.prog.underlying 127 with | some (.interface _) => false | none => false | _ => true) = true := by kernel_rfl
theorem z127 : zeroC Try.prog 127 = some [.nilFunc] := by kernel_rfl
theorem sc128 : scal Try.prog 128 = true := by kernel_rfl
theorem ni128 : (match Try.prog.underlying 128 with | some (.interface _) => false | none => false | _ => true) = true := by kernel_rfl
theorem z128 : zeroC Try.prog 128 = some [.nilFunc] := by kernel_rfl
theorem sc129 : scal Try.prog 129 = true := by kernel_rfl
theorem ni129 : (match Try.prog.underlying 129 with | some (.interface _) => false | none => false | _ => true) = true := by kernel_rfl
theorem z129 : zeroC Try.prog 129 = some [.nilFunc] := by kernel_rfl
theorem sc130 : scal Try.prog 130 = true := by kernel_rfl
theorem ni130 : (match Try.prog.underlying 130 with | some (.interface _) => false | none => false | _ => true) = true := by kernel_rfl
theorem z130 : zeroC Try.prog 130 = some [.nilFunc] := by kernel_rfl
theorem sc131 : scal Try.prog 131 = true := by kernel_rfl
theorem ni131 : (match Try.prog.underlying 131 with | some (.interface _) => false | none => false | _ => true) = true := by kernel_rfl
theorem z131 : zeroC Try.prog 131 = some [.nilFunc] := by kernel_rfl
theorem sc132 : scal Try.prog 132 = true := by kernel_rfl
theorem sl132 : slcE Try.prog 132 = some (81, 2, 16) := by kernel_rfl
theorem is132 : isSlc Try.prog 132 = true := by kernel_rfl
theorem ni132 : (match Try.prog.underlying 132 with | some (.interface _) => false | none => false | _ => true) = true := by kernel_rfl
theorem z132 : zeroC Try.prog 132 = some [.slice none 0 0] := by kernel_rfl
theorem sc133 : scal Try.prog 133 = true := by kernel_rfl
theorem ni133 : (match Try.prog.underlying 133 with | some (.interface _) => false | none => false | _ => true) = true := by kernel_rfl
theorem z133 : zeroC Try.prog 133 = some [.nilFunc] := by kernel_rfl
theorem ag134 : aggS Try.prog 134 = some 4 := by kernel_rfl
theorem fo134_0 : fldO Try.prog 134 0 = some 0 := by kernel_rfl
theorem fs134_0 : fldS Try.prog 134 0 = some 0 := by kernel_rfl
theorem fo134_1 : fldO Try.prog 134 1 = some 1 := by kernel_rfl
theorem fa134_1 : fldA Try.prog 134 1 = some (1, 2) := by kernel_rfl
theorem fo134_2 : fldO Try.prog 134 2 = some 3 := by kernel_rfl
theorem fs134_2 : fldS Try.prog 134 2 = some 3 := by kernel_rfl
theorem ni134 : (match Try.prog.underlying 134 with | some (.interface _) => false | none => false | _ => true) = true := by kernel_rfl
theorem z134 : zeroC Try.prog 134 = some [.int .i64 0, .int .i64 0, .int .i64 0, .slice none 0 0] := by kernel_rfl
theorem ag135 : aggS Try.prog 135 = some 4 := by kernel_rfl
theorem fo135_0 : fldO Try.prog 135 0 = some 0 := by kernel_rfl
theorem fs135_0 : fldS Try.prog 135 0 = some 0 := by kernel_rfl
theorem fo135_1 : fldO Try.prog 135 1 = some 1 := by kernel_rfl
theorem fa135_1 : fldA Try.prog 135 1 = some (1, 2) := by kernel_rfl
theorem fo135_2 : fldO Try.prog 135 2 = some 3 := by kernel_rfl
theorem fs135_2 : fldS Try.prog 135 2 = some 3 := by kernel_rfl
theorem ni135 : (match Try.prog.underlying 135 with | some (.interface _) => false | none => false | _ => true) = true := by kernel_rfl
theorem z135 : zeroC Try.prog 135 = some [.int .i64 0, .int .i64 0, .int .i64 0, .slice none 0 0] := by kernel_rfl
theorem sc136 : scal Try.prog 136 = true := by kernel_rfl
theorem ni136 : (match Try.prog.underlying 136 with | some (.interface _) => false | none => false | _ => true) = true := by kernel_rfl
theorem z136 : zeroC Try.prog 136 = some [.nilFunc] := by kernel_rfl
theorem sc137 : scal Try.prog 137 = true := by kernel_rfl
theorem ni137 : (match Try.prog.underlying 137 with | some (.interface _) => false | none => false | _ => true) = true := by kernel_rfl
theorem z137 : zeroC Try.prog 137 = some [.nilFunc] := by kernel_rfl
theorem sc138 : scal Try.prog 138 = true := by kernel_rfl
theorem ni138 : (match Try.prog.underlying 138 with | some (.interface _) => false | none => false | _ => true) = true := by kernel_rfl
theorem z138 : zeroC Try.prog 138 = some [.nilFunc] := by kernel_rfl
theorem sc140 : scal Try.prog 140 = true := by kernel_rfl
theorem ni140 : (match Try.prog.underlying 140 with | some (.interface _) => false | none => false | _ => true) = true := by kernel_rfl
theorem z140 : zeroC Try.prog 140 = some [.nilFunc] := by kernel_rfl
theorem sc141 : scal Try.prog 141 = true := by kernel_rfl
theorem ni141 : (match Try.prog.underlying 141 with | some (.interface _) => false | none => false | _ => true) = true := by kernel_rfl
theorem z141 : zeroC Try.prog 141 = some [.nilFunc] := by kernel_rfl
theorem sc142 : scal Try.prog 142 = true := by kernel_rfl
theorem ni142 : (match Try.prog.underlying 142 with | some (.interface _) => false | none => false | _ => true) = true := by kernel_rfl
theorem z142 : zeroC Try.prog 142 = some [.nilFunc] := by kernel_rfl
theorem sc143 : scal Try.prog 143 = true := by kernel_rfl
theorem ni143 : (match Try.prog.underlying 143 with | some (.interface _) => false | none => false | _ => true) = true := by kernel_rfl
theorem z143 : zeroC Try.prog 143 = some [.nilFunc] := by kernel_rfl
theorem sc144 : scal Try.prog 144 = true := by kernel_rfl
theorem ni144 : (match Try.prog.underlying 144 with | some (.interface _) => false | none => false | _ => true) = true := by kernel_rfl
theorem z144 : zeroC Try.prog 144 = some [.nilFunc] := by kernel_rfl
theorem sc145 : scal Try.prog 145 = true := by kernel_rfl
theorem ni145 : (match Try.prog.underlying 145 with | some (.interface _) => false | none => false | _ => true) = true := by kernel_rfl
theorem z145 : zeroC Try.prog 145 = some [.map none] := by kernel_rfl
theorem sc146 : scal Try.prog 146 = true := by kernel_rfl
theorem ni146 : (match Try.prog.underlying 146 with | some (.interface _) => false | none => false | _ => true) = true := by kernel_rfl
theorem z146 : zeroC Try.prog 146 = some [.nilFunc] := by kernel_rfl
theorem sc147 : scal Try.prog 147 = true := by kernel_rfl
theorem ni147 : (match Try.prog.underlying 147 with | some (.interface _) => false | none => false | _ => true) = true := by kernel_rfl
theorem z147 : zeroC Try.prog 147 = some [.nilFunc] := by kernel_rfl
theorem sc148 : scal Try.prog 148 = true := by kernel_rfl
theorem ni148 : (match Try.prog.underlying 148 with | some (.interface _) => false | none => false | _ => true) = true := by kernel_rfl
theorem z148 : zeroC Try.prog 148 = some [.nilFunc] := by kernel_rfl
theorem sc149 : scal Try.prog 149 = true := by kernel_rfl
theorem ip149 : isPtr Try.prog 149 = true := by kernel_rfl
theorem ni149 : (match Try.prog.underlying 149 with | some (.interface _) => false | none => false | _ => true) = true := by kernel_rfl
theorem z149 : zeroC Try.prog 149 = some [.pointer none] := by kernel_rfl
theorem sc150 : scal Try.prog 150 = true := by kernel_rfl
theorem ni150 : (match Try.prog.underlying 150 with | some (.interface _) => false | none => false | _ => true) = true := by kernel_rfl
theorem z150 : zeroC Try.prog 150 = some [.nilFunc] := by kernel_rfl
theorem sc151 : scal Try.prog 151 = true := by kernel_rfl
theorem sl151 : slcE Try.prog 151 = some (155, 4, 48) := by kernel_rfl
theorem is151 : isSlc Try.prog 151 = true := by kernel_rfl
theorem ni151 : (match Try.prog.underlying 151 with | some (.interface _) => false | none => false | _ => true) = true := by kernel_rfl
theorem z151 : zeroC Try.prog 151 = some [.slice none 0 0] := by kernel_rfl
theorem ag152 : aggS Try.prog 152 = some 4 := by kernel_rfl
theorem fo152_0 : fldO Try.prog 152 0 = some 0 := by kernel_rfl
theorem fs152_0 : fldS Try.prog 152 0 = some 0 := by kernel_rfl
theorem fo152_1 : fldO Try.prog 152 1 = some 1 := by kernel_rfl
theorem fa152_1 : fldA Try.prog 152 1 = some (1, 2) := by kernel_rfl
theorem fo152_2 : fldO Try.prog 152 2 = some 3 := by kernel_rfl
theorem fs152_2 : fldS Try.prog 152 2 = some 3 := by kernel_rfl
theorem ni152 : (match Try.prog.underlying 152 with | some (.interface _) => false | none => false | _ => true) = true := by kernel_rfl
theorem z152 : zeroC Try.prog 152 = some [.slice none 0 0, .int .i64 0, .int .i64 0, .slice none 0 0] := by kernel_rfl
theorem ag153 : aggS Try.prog 153 = some 4 := by kernel_rfl
theorem fo153_0 : fldO Try.prog 153 0 = some 0 := by kernel_rfl
theorem fs153_0 : fldS Try.prog 153 0 = some 0 := by kernel_rfl
theorem fo153_1 : fldO Try.prog 153 1 = some 1 := by kernel_rfl
theorem fa153_1 : fldA Try.prog 153 1 = some (1, 2) := by kernel_rfl
theorem fo153_2 : fldO Try.prog 153 2 = some 3 := by kernel_rfl
theorem fs153_2 : fldS Try.prog 153 2 = some 3 := by kernel_rfl
theorem ni153 : (match Try.prog.underlying 153 with | some (.interface _) => false | none => false | _ => true) = true := by kernel_rfl
theorem z153 : zeroC Try.prog 153 = some [.slice none 0 0, .int .i64 0, .int .i64 0, .slice none 0 0] := by kernel_rfl
theorem ag154 : aggS Try.prog 154 = some 4 := by kernel_rfl
theorem fo154_0 : fldO Try.prog 154 0 = some 0 := by kernel_rfl
theorem fs154_0 : fldS Try.prog 154 0 = some 0 := by kernel_rfl
theorem fo154_1 : fldO Try.prog 154 1 = some 1 := by kernel_rfl
theorem fa154_1 : fldA Try.prog 154 1 = some (1, 2) := by kernel_rfl
theorem fo154_2 : fldO Try.prog 154 2 = some 3 := by kernel_rfl
theorem fs154_2 : fldS Try.prog 154 2 = some 3 := by kernel_rfl
theorem ni154 : (match Try.prog.underlying 154 with | some (.interface _) => false | none => false | _ => true) = true := by kernel_rfl
theorem z154 : zeroC Try.prog 154 = some [.int .i64 0, .int .i64 0, .int .i64 0, .slice none 0 0] := by kernel_rfl
theorem ag155 : aggS Try.prog 155 = some 4 := by kernel_rfl
theorem fo155_0 : fldO Try.prog 155 0 = some 0 := by kernel_rfl
theorem fs155_0 : fldS Try.prog 155 0 = some 0 := by kernel_rfl
theorem fo155_1 : fldO Try.prog 155 1 = some 1 := by kernel_rfl
theorem fa155_1 : fldA Try.prog 155 1 = some (1, 2) := by kernel_rfl
theorem fo155_2 : fldO Try.prog 155 2 = some 3 := by kernel_rfl
theorem fs155_2 : fldS Try.prog 155 2 = some 3 := by kernel_rfl
theorem ni155 : (match Try.prog.underlying 155 with | some (.interface _) => false | none => false | _ => true) = true := by kernel_rfl
theorem z155 : zeroC Try.prog 155 = some [.int .i64 0, .int .i64 0, .int .i64 0, .slice none 0 0] := by kernel_rfl
theorem sc156 : scal Try.prog 156 = true := by kernel_rfl
theorem ni156 : (match Try.prog.underlying 156 with | some (.interface _) => false | none => false | _ => true) = true := by kernel_rfl
theorem z156 : zeroC Try.prog 156 = some [.nilFunc] := by kernel_rfl
theorem sc157 : scal Try.prog 157 = true := by kernel_rfl
theorem ni157 : (match Try.prog.underlying 157 with | some (.interface _) => false | none => false | _ => true) = true := by kernel_rfl
theorem z157 : zeroC Try.prog 157 = some [.nilFunc] := by kernel_rfl
theorem sc158 : scal Try.prog 158 = true := by kernel_rfl
theorem ni158 : (match Try.prog.underlying 158 with | some (.interface _) => false | none => false | _ => true) = true := by kernel_rfl
theorem z158 : zeroC Try.prog 158 = some [.nilFunc] := by kernel_rfl
theorem sc159 : scal Try.prog 159 = true := by kernel_rfl
theorem ip159 : isPtr Try.prog 159 = true := by kernel_rfl
theorem ni159 : (match Try.prog.underlying 159 with | some (.interface _) => false | none => false | _ => true) = true := by kernel_rfl
theorem z159 : zeroC Try.prog 159 = some [.pointer none] := by kernel_rfl
theorem sc160 : scal Try.prog 160 = true := by kernel_rfl
theorem ip160 : isPtr Try.prog 160 = true := by kernel_rfl
theorem ni160 : (match Try.prog.underlying 160 with | some (.interface _) => false | none => false | _ => true) = true := by kernel_rfl
theorem z160 : zeroC Try.prog 160 = some [.pointer none] := by kernel_rfl
theorem sc161 : scal Try.prog 161 = true := by kernel_rfl
theorem ni161 : (match Try.prog.underlying 161 with | some (.interface _) => false | none => false | _ => true) = true := by kernel_rfl
theorem z161 : zeroC Try.prog 161 = some [.nilFunc] := by kernel_rfl
theorem sc162 : scal Try.prog 162 = true := by kernel_rfl
theorem st162 : isStr Try.prog 162 = true := by kernel_rfl
theorem ni162 : (match Try.prog.underlying 162 with | some (.interface _) => false | none => false | _ => true) = true := by kernel_rfl
theorem z162 : zeroC Try.prog 162 = some [.string ⟨#[]⟩] := by kernel_rfl
theorem sc163 : scal Try.prog 163 = true := by kernel_rfl
theorem ni163 : (match Try.prog.underlying 163 with | some (.interface _) => false | none => false | _ => true) = true := by kernel_rfl
theorem z163 : zeroC Try.prog 163 = some [.nilFunc] := by kernel_rfl
theorem sc164 : scal Try.prog 164 = true := by kernel_rfl
theorem ik164 : intK Try.prog 164 = some .i32 := by kernel_rfl
theorem un164 : (Try.prog.underlying 164).isSome = true := by kernel_rfl
theorem ni164 : (match Try.prog.underlying 164 with | some (.interface _) => false | none => false | _ => true) = true := by kernel_rfl
theorem z164 : zeroC Try.prog 164 = some [.int .i32 0] := by kernel_rfl
theorem sc165 : scal Try.prog 165 = true := by kernel_rfl
theorem ni165 : (match Try.prog.underlying 165 with | some (.interface _) => false | none => false | _ => true) = true := by kernel_rfl
theorem z165 : zeroC Try.prog 165 = some [.nilFunc] := by kernel_rfl
theorem sc166 : scal Try.prog 166 = true := by kernel_rfl
theorem ik166 : intK Try.prog 166 = some .i32 := by kernel_rfl
theorem un166 : (Try.prog.underlying 166).isSome = true := by kernel_rfl
theorem ni166 : (match Try.prog.underlying 166 with | some (.interface _) => false | none => false | _ => true) = true := by kernel_rfl
theorem z166 : zeroC Try.prog 166 = some [.int .i32 0] := by kernel_rfl
theorem ag167 : aggS Try.prog 167 = some 13 := by kernel_rfl
theorem fo167_0 : fldO Try.prog 167 0 = some 0 := by kernel_rfl
theorem fs167_0 : fldS Try.prog 167 0 = some 0 := by kernel_rfl
theorem fo167_1 : fldO Try.prog 167 1 = some 1 := by kernel_rfl
theorem fs167_1 : fldS Try.prog 167 1 = some 1 := by kernel_rfl
theorem fo167_2 : fldO Try.prog 167 2 = some 2 := by kernel_rfl
theorem fs167_2 : fldS Try.prog 167 2 = some 2 := by kernel_rfl
theorem fo167_3 : fldO Try.prog 167 3 = some 3 := by kernel_rfl
theorem fs167_3 : fldS Try.prog 167 3 = some 3 := by kernel_rfl
theorem fo167_4 : fldO Try.prog 167 4 = some 4 := by kernel_rfl
theorem fs167_4 : fldS Try.prog 167 4 = some 4 := by kernel_rfl
theorem fo167_5 : fldO Try.prog 167 5 = some 5 := by kernel_rfl
theorem fs167_5 : fldS Try.prog 167 5 = some 5 := by kernel_rfl
theorem fo167_6 : fldO Try.prog 167 6 = some 6 := by kernel_rfl
theorem fs167_6 : fldS Try.prog 167 6 = some 6 := by kernel_rfl
theorem fo167_7 : fldO Try.prog 167 7 = some 7 := by kernel_rfl
theorem fs167_7 : fldS Try.prog 167 7 = some 7 := by kernel_rfl
theorem fo167_8 : fldO Try.prog 167 8 = some 8 := by kernel_rfl
theorem fs167_8 : fldS Try.prog 167 8 = some 8 := by kernel_rfl
theorem fo167_9 : fldO Try.prog 167 9 = some 9 := by kernel_rfl
theorem fs167_9 : fldS Try.prog 167 9 = some 9 := by kernel_rfl
theorem fo167_10 : fldO Try.prog 167 10 = some 10 := by kernel_rfl
theorem fs167_10 : fldS Try.prog 167 10 = some 10 := by kernel_rfl
theorem fo167_11 : fldO Try.prog 167 11 = some 11 := by kernel_rfl
theorem fs167_11 : fldS Try.prog 167 11 = some 11 := by kernel_rfl
theorem fo167_12 : fldO Try.prog 167 12 = some 12 := by kernel_rfl
theorem fs167_12 : fldS Try.prog 167 12 = some 12 := by kernel_rfl
theorem ni167 : (match Try.prog.underlying 167 with | some (.interface _) => false | none => false | _ => true) = true := by kernel_rfl
theorem z167 : zeroC Try.prog 167 = some [.slice none 0 0, .slice none 0 0, .int .i64 0, .int .i64 0, .int .i32 0, .int .i32 0, .bool false, .bool false, .bool false, .int .i64 0, .int .i64 0, .int .i64 0, .int .i64 0] := by kernel_rfl
theorem ag168 : aggS Try.prog 168 = some 13 := by kernel_rfl
theorem fo168_0 : fldO Try.prog 168 0 = some 0 := by kernel_rfl
theorem fs168_0 : fldS Try.prog 168 0 = some 0 := by kernel_rfl
theorem fo168_1 : fldO Try.prog 168 1 = some 1 := by kernel_rfl
theorem fs168_1 : fldS Try.prog 168 1 = some 1 := by kernel_rfl
theorem fo168_2 : fldO Try.prog 168 2 = some 2 := by kernel_rfl
theorem fs168_2 : fldS Try.prog 168 2 = some 2 := by kernel_rfl
theorem fo168_3 : fldO Try.prog 168 3 = some 3 := by kernel_rfl
theorem fs168_3 : fldS Try.prog 168 3 = some 3 := by kernel_rfl
theorem fo168_4 : fldO Try.prog 168 4 = some 4 := by kernel_rfl
theorem fs168_4 : fldS Try.prog 168 4 = some 4 := by kernel_rfl
theorem fo168_5 : fldO Try.prog 168 5 = some 5 := by kernel_rfl
theorem fs168_5 : fldS Try.prog 168 5 = some 5 := by kernel_rfl
theorem fo168_6 : fldO Try.prog 168 6 = some 6 := by kernel_rfl
theorem fs168_6 : fldS Try.prog 168 6 = some 6 := by kernel_rfl
theorem fo168_7 : fldO Try.prog 168 7 = some 7 := by kernel_rfl
theorem fs168_7 : fldS Try.prog 168 7 = some 7 := by kernel_rfl
theorem fo168_8 : fldO Try.prog 168 8 = some 8 := by kernel_rfl
theorem fs168_8 : fldS Try.prog 168 8 = some 8 := by kernel_rfl
theorem fo168_9 : fldO Try.prog 168 9 = some 9 := by kernel_rfl
theorem fs168_9 : fldS Try.prog 168 9 = some 9 := by kernel_rfl
theorem fo168_10 : fldO Try.prog 168 10 = some 10 := by kernel_rfl
theorem fs168_10 : fldS Try.prog 168 10 = some 10 := by kernel_rfl
theorem fo168_11 : fldO Try.prog 168 11 = some 11 := by kernel_rfl
theorem fs168_11 : fldS Try.prog 168 11 = some 11 := by kernel_rfl
theorem fo168_12 : fldO Try.prog 168 12 = some 12 := by kernel_rfl
theorem fs168_12 : fldS Try.prog 168 12 = some 12 := by kernel_rfl
theorem ni168 : (match Try.prog.underlying 168 with | some (.interface _) => false | none => false | _ => true) = true := by kernel_rfl
theorem z168 : zeroC Try.prog 168 = some [.slice none 0 0, .slice none 0 0, .int .i64 0, .int .i64 0, .int .i32 0, .int .i32 0, .bool false, .bool false, .bool false, .int .i64 0, .int .i64 0, .int .i64 0, .int .i64 0] := by kernel_rfl
theorem ag169 : aggS Try.prog 169 = some 6 := by kernel_rfl
theorem fo169_0 : fldO Try.prog 169 0 = some 0 := by kernel_rfl
theorem fs169_0 : fldS Try.prog 169 0 = some 0 := by kernel_rfl
theorem fo169_1 : fldO Try.prog 169 1 = some 1 := by kernel_rfl
theorem fs169_1 : fldS Try.prog 169 1 = some 1 := by kernel_rfl
theorem fo169_2 : fldO Try.prog 169 2 = some 2 := by kernel_rfl
theorem fs169_2 : fldS Try.prog 169 2 = some 2 := by kernel_rfl
theorem fo169_3 : fldO Try.prog 169 3 = some 3 := by kernel_rfl
theorem fs169_3 : fldS Try.prog 169 3 = some 3 := by kernel_rfl
theorem fo169_4 : fldO Try.prog 169 4 = some 4 := by kernel_rfl
theorem fs169_4 : fldS Try.prog 169 4 = some 4 := by kernel_rfl
theorem fo169_5 : fldO Try.prog 169 5 = some 5 := by kernel_rfl
theorem fs169_5 : fldS Try.prog 169 5 = some 5 := by kernel_rfl
theorem ni169 : (match Try.prog.underlying 169 with | some (.interface _) => false | none => false | _ => true) = true := by kernel_rfl
theorem z169 : zeroC Try.prog 169 = some [.slice none 0 0, .slice none 0 0, .int .i64 0, .bool false, .bool false, .bool false] := by kernel_rfl
theorem ag170 : aggS Try.prog 170 = some 6 := by kernel_rfl
theorem fo170_0 : fldO Try.prog 170 0 = some 0 := by kernel_rfl
theorem fs170_0 : fldS Try.prog 170 0 = some 0 := by kernel_rfl
theorem fo170_1 : fldO Try.prog 170 1 = some 1 := by kernel_rfl
theorem fs170_1 : fldS Try.prog 170 1 = some 1 := by kernel_rfl
theorem fo170_2 : fldO Try.prog 170 2 = some 2 := by kernel_rfl
theorem fs170_2 : fldS Try.prog 170 2 = some 2 := by kernel_rfl
theorem fo170_3 : fldO Try.prog 170 3 = some 3 := by kernel_rfl
theorem fs170_3 : fldS Try.prog 170 3 = some 3 := by kernel_rfl
theorem fo170_4 : fldO Try.prog 170 4 = some 4 := by kernel_rfl
theorem fs170_4 : fldS Try.prog 170 4 = some 4 := by kernel_rfl
theorem fo170_5 : fldO Try.prog 170 5 = some 5 := by kernel_rfl
theorem fs170_5 : fldS Try.prog 170 5 = some 5 := by kernel_rfl
theorem ni170 : (match Try.prog.underlying 170 with | some (.interface _) => false | none => false | _ => true) = true := by kernel_rfl
theorem z170 : zeroC Try.prog 170 = some [.slice none 0 0, .slice none 0 0, .int .i64 0, .bool false, .bool false, .bool false] := by kernel_rfl
theorem ag171 : aggS Try.prog 171 = some 3 := by kernel_rfl
theorem fo171_0 : fldO Try.prog 171 0 = some 0 := by kernel_rfl
theorem fs171_0 : fldS Try.prog 171 0 = some 0 := by kernel_rfl
theorem fo171_1 : fldO Try.prog 171 1 = some 1 := by kernel_rfl
theorem fs171_1 : fldS Try.prog 171 1 = some 1 := by kernel_rfl
theorem fo171_2 : fldO Try.prog 171 2 = some 2 := by kernel_rfl
theorem fs171_2 : fldS Try.prog 171 2 = some 2 := by kernel_rfl
theorem ni171 : (match Try.prog.underlying 171 with | some (.interface _) => false | none => false | _ => true) = true := by kernel_rfl
theorem z171 : zeroC Try.prog 171 = some [.slice none 0 0, .slice none 0 0, .bool false] := by kernel_rfl
theorem ag172 : aggS Try.prog 172 = some 3 := by kernel_rfl
theorem fo172_0 : fldO Try.prog 172 0 = some 0 := by kernel_rfl
theorem fs172_0 : fldS Try.prog 172 0 = some 0 := by kernel_rfl
theorem fo172_1 : fldO Try.prog 172 1 = some 1 := by kernel_rfl
theorem fs172_1 : fldS Try.prog 172 1 = some 1 := by kernel_rfl
theorem fo172_2 : fldO Try.prog 172 2 = some 2 := by kernel_rfl
theorem fs172_2 : fldS Try.prog 172 2 = some 2 := by kernel_rfl
theorem ni172 : (match Try.prog.underlying 172 with | some (.interface _) => false | none => false | _ => true) = true := by kernel_rfl
theorem z172 : zeroC Try.prog 172 = some [.slice none 0 0, .slice none 0 0, .bool false] := by kernel_rfl
theorem sc173 : scal Try.prog 173 = true := by kernel_rfl
theorem ni173 : (match Try.prog.underlying 173 with | some (.interface _) => false | none => false | _ => true) = true := by kernel_rfl
theorem z173 : zeroC Try.prog 173 = some [.map none] := by kernel_rfl
theorem sc174 : scal Try.prog 174 = true := by kernel_rfl
theorem if174 : isIfc Try.prog 174 = true := by kernel_rfl
theorem z174 : zeroC Try.prog 174 = some [.nilIface] := by kernel_rfl
theorem sc175 : scal Try.prog 175 = true := by kernel_rfl
theorem if175 : isIfc Try.prog 175 = true := by kernel_rfl
theorem z175 : zeroC Try.prog 175 = some [.nilIface] := by kernel_rfl
theorem sc177 : scal Try.prog 177 = true := by kernel_rfl
theorem ni177 : (match Try.prog.underlying 177 with | some (.interface _) => false | none => false | _ => true) = true := by kernel_rfl
theorem z177 : zeroC Try.prog 177 = some [.nilFunc] := by kernel_rfl
theorem sc178 : scal Try.prog 178 = true := by kernel_rfl
theorem sl178 : slcE Try.prog 178 = some (182, 1, 8) := by kernel_rfl
theorem is178 : isSlc Try.prog 178 = true := by kernel_rfl
theorem ni178 : (match Try.prog.underlying 178 with | some (.interface _) => false | none => false | _ => true) = true := by kernel_rfl
theorem z178 : zeroC Try.prog 178 = some [.slice none 0 0] := by kernel_rfl
theorem sc179 : scal Try.prog 179 = true := by kernel_rfl
theorem sl179 : slcE Try.prog 179 = some (199, 1, 8) := by kernel_rfl
theorem is179 : isSlc Try.prog 179 = true := by kernel_rfl
theorem ni179 : (match Try.prog.underlying 179 with | some (.interface _) => false | none => false | _ => true) = true := by kernel_rfl
theorem z179 : zeroC Try.prog 179 = some [.slice none 0 0] := by kernel_rfl
theorem ag180 : aggS Try.prog 180 = some 3 := by kernel_rfl
theorem fo180_0 : fldO Try.prog 180 0 = some 0 := by kernel_rfl
theorem fs180_0 : fldS Try.prog 180 0 = some 0 := by kernel_rfl
theorem fo180_1 : fldO Try.prog 180 1 = some 1 := by kernel_rfl
theorem fs180_1 : fldS Try.prog 180 1 = some 1 := by kernel_rfl
theorem fo180_2 : fldO Try.prog 180 2 = some 2 := by kernel_rfl
theorem fs180_2 : fldS Try.prog 180 2 = some 2 := by kernel_rfl
theorem ni180 : (match Try.prog.underlying 180 with | some (.interface _) => false | none => false | _ => true) = true := by kernel_rfl
theorem z180 : zeroC Try.prog 180 = some [.slice none 0 0, .slice none 0 0, .slice none 0 0] := by kernel_rfl
theorem ag181 : aggS Try.prog 181 = some 3 := by kernel_rfl
theorem fo181_0 : fldO Try.prog 181 0 = some 0 := by kernel_rfl
theorem fs181_0 : fldS Try.prog 181 0 = some 0 := by kernel_rfl
theorem fo181_1 : fldO Try.prog 181 1 = some 1 := by kernel_rfl
theorem fs181_1 : fldS Try.prog 181 1 = some 1 := by kernel_rfl
theorem fo181_2 : fldO Try.prog 181 2 = some 2 := by kernel_rfl
theorem fs181_2 : fldS Try.prog 181 2 = some 2 := by kernel_rfl
theorem ni181 : (match Try.prog.underlying 181 with | some (.interface _) => false | none => false | _ => true) = true := by kernel_rfl
theorem z181 : zeroC Try.prog 181 = some [.slice none 0 0, .slice none 0 0, .slice none 0 0] := by kernel_rfl
theorem sc182 : scal Try.prog 182 = true := by kernel_rfl
theorem ip182 : isPtr Try.prog 182 = true := by kernel_rfl
theorem ni182 : (match Try.prog.underlying 182 with | some (.interface _) => false | none => false | _ => true) = true := by kernel_rfl
theorem z182 : zeroC Try.prog 182 = some [.pointer none] := by kernel_rfl
theorem sc183 : scal Try.prog 183 = true := by kernel_rfl
theorem ni183 : (match Try.prog.underlying 183 with | some (.interface _) => false | none => false | _ => true) = true := by kernel_rfl
theorem z183 : zeroC Try.prog 183 = some [.nilFunc] := by kernel_rfl
theorem sc184 : scal Try.prog 184 = true := by kernel_rfl
theorem ni184 : (match Try.prog.underlying 184 with | some (.interface _) => false | none => false | _ => true) = true := by kernel_rfl
theorem z184 : zeroC Try.prog 184 = some [.nilFunc] := by kernel_rfl
theorem sc185 : scal Try.prog 185 = true := by kernel_rfl
theorem ni185 : (match Try.prog.underlying 185 with | some (.interface _) => false | none => false | _ => true) = true := by kernel_rfl
theorem z185 : zeroC Try.prog 185 = some [.nilFunc] := by kernel_rfl
theorem sc186 : scal Try.prog 186 = true := by kernel_rfl
theorem ni186 : (match Try.prog.underlying 186 with | some (.interface _) => false | none => false | _ => true) = true := by kernel_rfl
theorem z186 : zeroC Try.prog 186 = some [.nilFunc] := by kernel_rfl
theorem sc187 : scal Try.prog 187 = true := by kernel_rfl
theorem ni187 : (match Try.prog.underlying 187 with | some (.interface _) => false | none => false | _ => true) = true := by kernel_rfl
theorem z187 : zeroC Try.prog 187 = some [.nilFunc] := by kernel_rfl
theorem sc188 : scal Try.prog 188 = true := by kernel_rfl
theorem ni188 : (match Try.prog.underlying 188 with | some (.interface _) => false | none => false | _ => true) = true := by kernel_rfl
theorem z188 : zeroC Try.prog 188 = some [.nilFunc] := by kernel_rfl
theorem sc189 : scal Try.prog 189 = true := by kernel_rfl
theorem ni189 : (match Try.prog.underlying 189 with | some (.interface _) => false | none => false | _ => true) = true := by kernel_rfl
theorem z189 : zeroC Try.prog 189 = some [.nilFunc] := by kernel_rfl
theorem sc190 : scal Try.prog 190 = true := by kernel_rfl
theorem ni190 : (match Try.prog.underlying 190 with | some (.interface _) => false | none => false | _ => true) = true := by kernel_rfl
theorem z190 : zeroC Try.prog 190 = some [.nilFunc] := by kernel_rfl
theorem sc191 : scal Try.prog 191 = true := by kernel_rfl
theorem ni191 : (match Try.prog.underlying 191 with | some (.interface _) => false | none => false | _ => true) = true := by kernel_rfl
theorem z191 : zeroC Try.prog 191 = some [.nilFunc] := by kernel_rfl
theorem sc192 : scal Try.prog 192 = true := by kernel_rfl
theorem ni192 : (match Try.prog.underlying 192 with | some (.interface _) => false | none => false | _ => true) = true := by kernel_rfl
theorem z192 : zeroC Try.prog 192 = some [.nilFunc] := by kernel_rfl
theorem sc193 : scal Try.prog 193 = true := by kernel_rfl
theorem ni193 : (match Try.prog.underlying 193 with | some (.interface _) => false | none => false | _ => true) = true := by kernel_rfl
theorem z193 : zeroC Try.prog 193 = some [.nilFunc] := by kernel_rfl
theorem sc194 : scal Try.prog 194 = true := by kernel_rfl
theorem ni194 : (match Try.prog.underlying 194 with | some (.interface _) => false | none => false | _ => true) = true := by kernel_rfl
theorem z194 : zeroC Try.prog 194 = some [.nilFunc] := by kernel_rfl
theorem sc195 : scal Try.prog 195 = true := by kernel_rfl
theorem ik195 : intK Try.prog 195 = some .i32 := by kernel_rfl
theorem un195 : (Try.prog.underlying 195).isSome = true := by kernel_rfl
theorem ni195 : (match Try.prog.underlying 195 with | some (.interface _) => false | none => false | _ => true) = true := by kernel_rfl
theorem z195 : zeroC Try.prog 195 = some [.int .i32 0] := by kernel_rfl
theorem sc196 : scal Try.prog 196 = true := by kernel_rfl
theorem ik196 : intK Try.prog 196 = some .i32 := by kernel_rfl
theorem un196 : (Try.prog.underlying 196).isSome = true := by kernel_rfl
theorem ni196 : (match Try.prog.underlying 196 with | some (.interface _) => false | none => false | _ => true) = true := by kernel_rfl
theorem z196 : zeroC Try.prog 196 = some [.int .i32 0] := by kernel_rfl
theorem ag197 : aggS Try.prog 197 = some 5 := by kernel_rfl
theorem fo197_0 : fldO Try.prog 197 0 = some 0 := by kernel_rfl
theorem fs197_0 : fldS Try.prog 197 0 = some 0 := by kernel_rfl
theorem fo197_1 : fldO Try.prog 197 1 = some 1 := by kernel_rfl
theorem fs197_1 : fldS Try.prog 197 1 = some 1 := by kernel_rfl
theorem fo197_2 : fldO Try.prog 197 2 = some 2 := by kernel_rfl
theorem fs197_2 : fldS Try.prog 197 2 = some 2 := by kernel_rfl
theorem fo197_3 : fldO Try.prog 197 3 = some 3 := by kernel_rfl
theorem fs197_3 : fldS Try.prog 197 3 = some 3 := by kernel_rfl
theorem fo197_4 : fldO Try.prog 197 4 = some 4 := by kernel_rfl
theorem fs197_4 : fldS Try.prog 197 4 = some 4 := by kernel_rfl
theorem ni197 : (match Try.prog.underlying 197 with | some (.interface _) => false | none => false | _ => true) = true := by kernel_rfl
theorem z197 : zeroC Try.prog 197 = some [.int .i32 0, .int .i32 0, .slice none 0 0, .nilIface, .slice none 0 0] := by kernel_rfl
theorem ag198 : aggS Try.prog 198 = some 5 := by kernel_rfl
theorem fo198_0 : fldO Try.prog 198 0 = some 0 := by kernel_rfl
theorem fs198_0 : fldS Try.prog 198 0 = some 0 := by kernel_rfl
theorem fo198_1 : fldO Try.prog 198 1 = some 1 := by kernel_rfl
theorem fs198_1 : fldS Try.prog 198 1 = some 1 := by kernel_rfl
theorem fo198_2 : fldO Try.prog 198 2 = some 2 := by kernel_rfl
theorem fs198_2 : fldS Try.prog 198 2 = some 2 := by kernel_rfl
theorem fo198_3 : fldO Try.prog 198 3 = some 3 := by kernel_rfl
theorem fs198_3 : fldS Try.prog 198 3 = some 3 := by kernel_rfl
theorem fo198_4 : fldO Try.prog 198 4 = some 4 := by kernel_rfl
theorem fs198_4 : fldS Try.prog 198 4 = some 4 := by kernel_rfl
theorem ni198 : (match Try.prog.underlying 198 with | some (.interface _) => false | none => false | _ => true) = true := by kernel_rfl
theorem z198 : zeroC Try.prog 198 = some [.int .i32 0, .int .i32 0, .slice none 0 0, .nilIface, .slice none 0 0] := by kernel_rfl
theorem sc199 : scal Try.prog 199 = true := by kernel_rfl
theorem ip199 : isPtr Try.prog 199 = true := by kernel_rfl
theorem ni199 : (match Try.prog.underlying 199 with | some (.interface _) => false | none => false | _ => true) = true := by kernel_rfl
theorem z199 : zeroC Try.prog 199 = some [.pointer none] := by kernel_rfl
theorem sc200 : scal Try.prog 200 = true := by kernel_rfl
theorem ni200 : (match Try.prog.underlying 200 with | some (.interface _) => false | none => false | _ => true) = true := by kernel_rfl
theorem z200 : zeroC Try.prog 200 = some [.nilFunc] := by kernel_rfl
theorem sc201 : scal Try.prog 201 = true := by kernel_rfl
theorem ni201 : (match Try.prog.underlying 201 with | some (.interface _) => false | none => false | _ => true) = true := by kernel_rfl
theorem z201 : zeroC Try.prog 201 = some [.nilFunc] := by kernel_rfl
theorem sc202 : scal Try.prog 202 = true := by kernel_rfl
theorem ip202 : isPtr Try.prog 202 = true := by kernel_rfl
theorem ni202 : (match Try.prog.underlying 202 with | some (.interface _) => false | none => false | _ => true) = true := by kernel_rfl
theorem z202 : zeroC Try.prog 202 = some [.pointer none] := by kernel_rfl
theorem ag204 : aggS Try.prog 204 = some 1 := by kernel_rfl
theorem fo204_0 : fldO Try.prog 204 0 = some 0 := by kernel_rfl
theorem fs204_0 : fldS Try.prog 204 0 = some 0 := by kernel_rfl
theorem ni204 : (match Try.prog.underlying 204 with | some (.interface _) => false | none => false | _ => true) = true := by kernel_rfl
theorem z204 : zeroC Try.prog 204 = some [.nilIface] := by kernel_rfl
theorem ag205 : aggS Try.prog 205 = some 1 := by kernel_rfl
theorem fo205_0 : fldO Try.prog 205 0 = some 0 := by kernel_rfl
theorem fs205_0 : fldS Try.prog 205 0 = some 0 := by kernel_rfl
theorem ni205 : (match Try.prog.underlying 205 with | some (.interface _) => false | none => false | _ => true) = true := by kernel_rfl
theorem z205 : zeroC Try.prog 205 = some [.nilIface] := by kernel_rfl
theorem ag206 : aggS Try.prog 206 = some 1 := by kernel_rfl
theorem fo206_0 : fldO Try.prog 206 0 = some 0 := by kernel_rfl
theorem fs206_0 : fldS Try.prog 206 0 = some 0 := by kernel_rfl
theorem ni206 : (match Try.prog.underlying 206 with | some (.interface _) => false | none => false | _ => true) = true := by kernel_rfl
theorem z206 : zeroC Try.prog 206 = some [.pointer none] := by kernel_rfl
theorem ag207 : aggS Try.prog 207 = some 1 := by kernel_rfl
theorem fo207_0 : fldO Try.prog 207 0 = some 0 := by kernel_rfl
theorem fs207_0 : fldS Try.prog 207 0 = some 0 := by kernel_rfl
theorem ni207 : (match Try.prog.underlying 207 with | some (.interface _) => false | none => false | _ => true) = true := by kernel_rfl
theorem z207 : zeroC Try.prog 207 = some [.pointer none] := by kernel_rfl
theorem sc208 : scal Try.prog 208 = true := by kernel_rfl
theorem if208 : isIfc Try.prog 208 = true := by kernel_rfl
theorem z208 : zeroC Try.prog 208 = some [.nilIface] := by kernel_rfl
theorem sc209 : scal Try.prog 209 = true := by kernel_rfl
theorem if209 : isIfc Try.prog 209 = true := by kernel_rfl
theorem z209 : zeroC Try.prog 209 = some [.nilIface] := by kernel_rfl
theorem ag210 : aggS Try.prog 210 = some 2 := by kernel_rfl
theorem fo210_0 : fldO Try.prog 210 0 = some 0 := by kernel_rfl
theorem fs210_0 : fldS Try.prog 210 0 = some 0 := by kernel_rfl
theorem fo210_1 : fldO Try.prog 210 1 = some 1 := by kernel_rfl
theorem fs210_1 : fldS Try.prog 210 1 = some 1 := by kernel_rfl
theorem ni210 : (match Try.prog.underlying 210 with | some (.interface _) => false | none => false | _ => true) = true := by kernel_rfl
theorem z210 : zeroC Try.prog 210 = some [.nilIface, .nilIface] := by kernel_rfl
theorem ag211 : aggS Try.prog 211 = some 2 := by kernel_rfl
theorem fo211_0 : fldO Try.prog 211 0 = some 0 := by kernel_rfl
theorem fs211_0 : fldS Try.prog 211 0 = some 0 := by kernel_rfl
theorem fo211_1 : fldO Try.prog 211 1 = some 1 := by kernel_rfl
theorem fs211_1 : fldS Try.prog 211 1 = some 1 := by kernel_rfl
theorem ni211 : (match Try.prog.underlying 211 with | some (.interface _) => false | none => false | _ => true) = true := by kernel_rfl
theorem z211 : zeroC Try.prog 211 = some [.nilIface, .nilIface] := by kernel_rfl
theorem sc212 : scal Try.prog 212 = true := by kernel_rfl
theorem ni212 : (match Try.prog.underlying 212 with | some (.interface _) => false | none => false | _ => true) = true := by kernel_rfl
theorem z212 : zeroC Try.prog 212 = some [.nilFunc] := by kernel_rfl
theorem sc213 : scal Try.prog 213 = true := by kernel_rfl
theorem ni213 : (match Try.prog.underlying 213 with | some (.interface _) => false | none => false | _ => true) = true := by kernel_rfl
theorem z213 : zeroC Try.prog 213 = some [.nilFunc] := by kernel_rfl
theorem sc214 : scal Try.prog 214 = true := by kernel_rfl
theorem ni214 : (match Try.prog.underlying 214 with | some (.interface _) => false | none => false | _ => true) = true := by kernel_rfl
theorem z214 : zeroC Try.prog 214 = some [.nilFunc] := by kernel_rfl
theorem ag215 : aggS Try.prog 215 = some 0 := by kernel_rfl
theorem ni215 : (match Try.prog.underlying 215 with | some (.interface _) => false | none => false | _ => true) = true := by kernel_rfl
theorem z215 : zeroC Try.prog 215 = some [] := by kernel_rfl
theorem sc216 : scal Try.prog 216 = true := by kernel_rfl
theorem ip216 : isPtr Try.prog 216 = true := by kernel_rfl
theorem ni216 : (match Try.prog.underlying 216 with | some (.interface _) => false | none => false | _ => true) = true := by kernel_rfl
theorem z216 : zeroC Try.prog 216 = some [.pointer none] := by kernel_rfl
theorem ag218 : aggS Try.prog 218 = some 1 := by kernel_rfl
theorem fo218_0 : fldO Try.prog 218 0 = some 0 := by kernel_rfl
theorem fs218_0 : fldS Try.prog 218 0 = some 0 := by kernel_rfl
theorem ni218 : (match Try.prog.underlying 218 with | some (.interface _) => false | none => false | _ => true) = true := by kernel_rfl
theorem z218 : zeroC Try.prog 218 = some [.pointer none] := by kernel_rfl
theorem ag219 : aggS Try.prog 219 = some 1 := by kernel_rfl
theorem fo219_0 : fldO Try.prog 219 0 = some 0 := by kernel_rfl
theorem fs219_0 : fldS Try.prog 219 0 = some 0 := by kernel_rfl
theorem ni219 : (match Try.prog.underlying 219 with | some (.interface _) => false | none => false | _ => true) = true := by kernel_rfl
theorem z219 : zeroC Try.prog 219 = some [.pointer none] := by kernel_rfl
theorem sc221 : scal Try.prog 221 = true := by kernel_rfl
theorem ni221 : (match Try.prog.underlying 221 with | some (.interface _) => false | none => false | _ => true) = true := by kernel_rfl
theorem z221 : zeroC Try.prog 221 = some [.nilFunc] := by kernel_rfl
theorem sc222 : scal Try.prog 222 = true := by kernel_rfl
theorem ni222 : (match Try.prog.underlying 222 with | some (.interface _) => false | none => false | _ => true) = true := by kernel_rfl
theorem z222 : zeroC Try.prog 222 = some [.nilFunc] := by kernel_rfl
theorem sc223 : scal Try.prog 223 = true := by kernel_rfl
theorem ip223 : isPtr Try.prog 223 = true := by kernel_rfl
theorem ni223 : (match Try.prog.underlying 223 with | some (.interface _) => false | none => false | _ => true) = true := by kernel_rfl
theorem z223 : zeroC Try.prog 223 = some [.pointer none] := by kernel_rfl
theorem ag225 : aggS Try.prog 225 = some 1 := by kernel_rfl
theorem fo225_0 : fldO Try.prog 225 0 = some 0 := by kernel_rfl
theorem fs225_0 : fldS Try.prog 225 0 = some 0 := by kernel_rfl
theorem ni225 : (match Try.prog.underlying 225 with | some (.interface _) => false | none => false | _ => true) = true := by kernel_rfl
theorem z225 : zeroC Try.prog 225 = some [.pointer none] := by kernel_rfl
theorem ag226 : aggS Try.prog 226 = some 1 := by kernel_rfl
theorem fo226_0 : fldO Try.prog 226 0 = some 0 := by kernel_rfl
theorem fs226_0 : fldS Try.prog 226 0 = some 0 := by kernel_rfl
theorem ni226 : (match Try.prog.underlying 226 with | some (.interface _) => false | none => false | _ => true) = true := by kernel_rfl
theorem z226 : zeroC Try.prog 226 = some [.pointer none] := by kernel_rfl
theorem sc227 : scal Try.prog 227 = true := by kernel_rfl
theorem ip227 : isPtr Try.prog 227 = true := by kernel_rfl
theorem ni227 : (match Try.prog.underlying 227 with | some (.interface _) => false | none => false | _ => true) = true := by kernel_rfl
theorem z227 : zeroC Try.prog 227 = some [.pointer none] := by kernel_rfl
theorem ag228 : aggS Try.prog 228 = some 1 := by kernel_rfl
theorem fo228_0 : fldO Try.prog 228 0 = some 0 := by kernel_rfl
theorem fs228_0 : fldS Try.prog 228 0 = some 0 := by kernel_rfl
theorem ni228 : (match Try.prog.underlying 228 with | some (.interface _) => false | none => false | _ => true) = true := by kernel_rfl
theorem z228 : zeroC Try.prog 228 = some [.int .i64 0] := by kernel_rfl
theorem ag229 : aggS Try.prog 229 = some 1 := by kernel_rfl
theorem fo229_0 : fldO Try.prog 229 0 = some 0 := by kernel_rfl
theorem fs229_0 : fldS Try.prog 229 0 = some 0 := by kernel_rfl
theorem ni229 : (match Try.prog.underlying 229 with | some (.interface _) => false | none => false | _ => true) = true := by kernel_rfl
theorem z229 : zeroC Try.prog 229 = some [.int .i64 0] := by kernel_rfl
theorem sc230 : scal Try.prog 230 = true := by kernel_rfl
theorem ip230 : isPtr Try.prog 230 = true := by kernel_rfl
theorem ni230 : (match Try.prog.underlying 230 with | some (.interface _) => false | none => false | _ => true) = true := by kernel_rfl
theorem z230 : zeroC Try.prog 230 = some [.pointer none] := by kernel_rfl
theorem ag231 : aggS Try.prog 231 = some 1 := by kernel_rfl
theorem fo231_0 : fldO Try.prog 231 0 = some 0 := by kernel_rfl
theorem fs231_0 : fldS Try.prog 231 0 = some 0 := by kernel_rfl
theorem ni231 : (match Try.prog.underlying 231 with | some (.interface _) => false | none => false | _ => true) = true := by kernel_rfl
theorem z231 : zeroC Try.prog 231 = some [.int .i64 0] := by kernel_rfl
theorem ag232 : aggS Try.prog 232 = some 1 := by kernel_rfl
theorem fo232_0 : fldO Try.prog 232 0 = some 0 := by kernel_rfl
theorem fs232_0 : fldS Try.prog 232 0 = some 0 := by kernel_rfl
theorem ni232 : (match Try.prog.underlying 232 with | some (.interface _) => false | none => false | _ => true) = true := by kernel_rfl
theorem z232 : zeroC Try.prog 232 = some [.int .i64 0] := by kernel_rfl
theorem sc233 : scal Try.prog 233 = true := by kernel_rfl
theorem ip233 : isPtr Try.prog 233 = true := by kernel_rfl
theorem ni233 : (match Try.prog.underlying 233 with | some (.interface _) => false | none => false | _ => true) = true := by kernel_rfl
theorem z233 : zeroC Try.prog 233 = some [.pointer none] := by kernel_rfl
theorem ag234 : aggS Try.prog 234 = some 1 := by kernel_rfl
theorem fo234_0 : fldO Try.prog 234 0 = some 0 := by kernel_rfl
theorem fs234_0 : fldS Try.prog 234 0 = some 0 := by kernel_rfl
theorem ni234 : (match Try.prog.underlying 234 with | some (.interface _) => false | none => false | _ => true) = true := by kernel_rfl
theorem z234 : zeroC Try.prog 234 = some [.int .i64 0] := by kernel_rfl
theorem ag235 : aggS Try.prog 235 = some 1 := by kernel_rfl
theorem fo235_0 : fldO Try.prog 235 0 = some 0 := by kernel_rfl
theorem fs235_0 : fldS Try.prog 235 0 = some 0 := by kernel_rfl
theorem ni235 : (match Try.prog.underlying 235 with | some (.interface _) => false | none => false | _ => true) = true := by kernel_rfl
theorem z235 : zeroC Try.prog 235 = some [.int .i64 0] := by kernel_rfl
theorem sc236 : scal Try.prog 236 = true := by kernel_rfl
theorem ip236 : isPtr Try.prog 236 = true := by kernel_rfl
theorem ni236 : (match Try.prog.underlying 236 with | some (.interface _) => false | none => false | _ => true) = true := by kernel_rfl
theorem z236 : zeroC Try.prog 236 = some [.pointer none] := by kernel_rfl
theorem ag237 : aggS Try.prog 237 = some 1 := by kernel_rfl
theorem fo237_0 : fldO Try.prog 237 0 = some 0 := by kernel_rfl
theorem fs237_0 : fldS Try.prog 237 0 = some 0 := by kernel_rfl
theorem ni237 : (match Try.prog.underlying 237 with | some (.interface _) => false | none => false | _ => true) = true := by kernel_rfl
theorem z237 : zeroC Try.prog 237 = some [.slice none 0 0] := by kernel_rfl
theorem ag238 : aggS Try.prog 238 = some 1 := by kernel_rfl
theorem fo238_0 : fldO Try.prog 238 0 = some 0 := by kernel_rfl
theorem fs238_0 : fldS Try.prog 238 0 = some 0 := by kernel_rfl
theorem ni238 : (match Try.prog.underlying 238 with | some (.interface _) => false | none => false | _ => true) = true := by kernel_rfl
theorem z238 : zeroC Try.prog 238 = some [.slice none 0 0] := by kernel_rfl
theorem sc239 : scal Try.prog 239 = true := by kernel_rfl
theorem ip239 : isPtr Try.prog 239 = true := by kernel_rfl
theorem ni239 : (match Try.prog.underlying 239 with | some (.interface _) => false | none => false | _ => true) = true := by kernel_rfl
theorem z239 : zeroC Try.prog 239 = some [.pointer none] := by kernel_rfl
theorem ag240 : aggS Try.prog 240 = some 1 := by kernel_rfl
theorem fo240_0 : fldO Try.prog 240 0 = some 0 := by kernel_rfl
theorem fs240_0 : fldS Try.prog 240 0 = some 0 := by kernel_rfl
theorem ni240 : (match Try.prog.underlying 240 with | some (.interface _) => false | none => false | _ => true) = true := by kernel_rfl
theorem z240 : zeroC Try.prog 240 = some [.int .i64 0] := by kernel_rfl
theorem ag241 : aggS Try.prog 241 = some 1 := by kernel_rfl
theorem fo241_0 : fldO Try.prog 241 0 = some 0 := by kernel_rfl
theorem fs241_0 : fldS Try.prog 241 0 = some 0 := by kernel_rfl
theorem ni241 : (match Try.prog.underlying 241 with | some (.interface _) => false | none => false | _ => true) = true := by kernel_rfl
theorem z241 : zeroC Try.prog 241 = some [.int .i64 0] := by kernel_rfl
theorem sc242 : scal Try.prog 242 = true := by kernel_rfl
theorem ip242 : isPtr Try.prog 242 = true := by kernel_rfl
theorem ni242 : (match Try.prog.underlying 242 with | some (.interface _) => false | none => false | _ => true) = true := by kernel_rfl
theorem z242 : zeroC Try.prog 242 = some [.pointer none] := by kernel_rfl
theorem ag243 : aggS Try.prog 243 = some 1 := by kernel_rfl
theorem fo243_0 : fldO Try.prog 243 0 = some 0 := by kernel_rfl
theorem fs243_0 : fldS Try.prog 243 0 = some 0 := by kernel_rfl
theorem ni243 : (match Try.prog.underlying 243 with | some (.interface _) => false | none => false | _ => true) = true := by kernel_rfl
theorem z243 : zeroC Try.prog 243 = some [.pointer none] := by kernel_rfl
theorem ag244 : aggS Try.prog 244 = some 1 := by kernel_rfl
theorem fo244_0 : fldO Try.prog 244 0 = some 0 := by kernel_rfl
theorem fs244_0 : fldS Try.prog 244 0 = some 0 := by kernel_rfl
theorem ni244 : (match Try.prog.underlying 244 with | some (.interface _) => false | none => false | _ => true) = true := by kernel_rfl
theorem z244 : zeroC Try.prog 244 = some [.pointer none] := by kernel_rfl
theorem sc245 : scal Try.prog 245 = true := by kernel_rfl
theorem ip245 : isPtr Try.prog 245 = true := by kernel_rfl
theorem ni245 : (match Try.prog.underlying 245 with | some (.interface _) => false | none => false | _ => true) = true := by kernel_rfl
theorem z245 : zeroC Try.prog 245 = some [.pointer none] := by kernel_rfl
theorem sc246 : scal Try.prog 246 = true := by kernel_rfl
theorem ni246 : (match Try.prog.underlying 246 with | some (.interface _) => false | none => false | _ => true) = true := by kernel_rfl
theorem z246 : zeroC Try.prog 246 = some [.nilFunc] := by kernel_rfl
theorem sc247 : scal Try.prog 247 = true := by kernel_rfl
theorem st247 : isStr Try.prog 247 = true := by kernel_rfl
theorem ni247 : (match Try.prog.underlying 247 with | some (.interface _) => false | none => false | _ => true) = true := by kernel_rfl
theorem z247 : zeroC Try.prog 247 = some [.string ⟨#[]⟩] := by kernel_rfl
theorem sc248 : scal Try.prog 248 = true := by kernel_rfl
theorem ni248 : (match Try.prog.underlying 248 with | some (.interface _) => false | none => false | _ => true) = true := by kernel_rfl
theorem z248 : zeroC Try.prog 248 = some [.nilFunc] := by kernel_rfl
theorem sc249 : scal Try.prog 249 = true := by kernel_rfl
theorem ni249 : (match Try.prog.underlying 249 with | some (.interface _) => false | none => false | _ => true) = true := by kernel_rfl
theorem z249 : zeroC Try.prog 249 = some [.nilFunc] := by kernel_rfl
theorem sc250 : scal Try.prog 250 = true := by kernel_rfl
theorem ni250 : (match Try.prog.underlying 250 with | some (.interface _) => false | none => false | _ => true) = true := by kernel_rfl
theorem z250 : zeroC Try.prog 250 = some [.nilFunc] := by kernel_rfl
theorem sc251 : scal Try.prog 251 = true := by kernel_rfl
theorem ik251 : intK Try.prog 251 = some .u64 := by kernel_rfl
theorem un251 : (Try.prog.underlying 251).isSome = true := by kernel_rfl
theorem ni251 : (match Try.prog.underlying 251 with | some (.interface _) => false | none => false | _ => true) = true := by kernel_rfl
theorem z251 : zeroC Try.prog 251 = some [.int .u64 0] := by kernel_rfl
theorem sc253 : scal Try.prog 253 = true := by kernel_rfl
theorem ni253 : (match Try.prog.underlying 253 with | some (.interface _) => false | none => false | _ => true) = true := by kernel_rfl
theorem z253 : zeroC Try.prog 253 = some [.nilFunc] := by kernel_rfl
theorem sc254 : scal Try.prog 254 = true := by kernel_rfl
theorem ip254 : isPtr Try.prog 254 = true := by kernel_rfl
theorem ni254 : (match Try.prog.underlying 254 with | some (.interface _) => false | none => false | _ => true) = true := by kernel_rfl
theorem z254 : zeroC Try.prog 254 = some [.pointer none] := by kernel_rfl
theorem ag255 : aggS Try.prog 255 = some 3 := by kernel_rfl
theorem fo255_0 : fldO Try.prog 255 0 = some 0 := by kernel_rfl
theorem fa255_0 : fldA Try.prog 255 0 = some (0, 2) := by kernel_rfl
theorem fo255_1 : fldO Try.prog 255 1 = some 2 := by kernel_rfl
theorem fs255_1 : fldS Try.prog 255 1 = some 2 := by kernel_rfl
theorem ni255 : (match Try.prog.underlying 255 with | some (.interface _) => false | none => false | _ => true) = true := by kernel_rfl
theorem z255 : zeroC Try.prog 255 = some [.nilIface, .nilIface, .nilIface] := by kernel_rfl
theorem ag256 : aggS Try.prog 256 = some 3 := by kernel_rfl
theorem fo256_0 : fldO Try.prog 256 0 = some 0 := by kernel_rfl
theorem fa256_0 : fldA Try.prog 256 0 = some (0, 2) := by kernel_rfl
theorem fo256_1 : fldO Try.prog 256 1 = some 2 := by kernel_rfl
theorem fs256_1 : fldS Try.prog 256 1 = some 2 := by kernel_rfl
theorem ni256 : (match Try.prog.underlying 256 with | some (.interface _) => false | none => false | _ => true) = true := by kernel_rfl
theorem z256 : zeroC Try.prog 256 = some [.nilIface, .nilIface, .nilIface] := by kernel_rfl
theorem sc257 : scal Try.prog 257 = true := by kernel_rfl
theorem ik257 : intK Try.prog 257 = some .i64 := by kernel_rfl
theorem un257 : (Try.prog.underlying 257).isSome = true := by kernel_rfl
theorem ni257 : (match Try.prog.underlying 257 with | some (.interface _) => false | none => false | _ => true) = true := by kernel_rfl
theorem z257 : zeroC Try.prog 257 = some [.int .i64 0] := by kernel_rfl
theorem ag258 : aggS Try.prog 258 = some 8 := by kernel_rfl
theorem fo258_0 : fldO Try.prog 258 0 = some 0 := by kernel_rfl
theorem fa258_0 : fldA Try.prog 258 0 = some (0, 3) := by kernel_rfl
theorem fo258_1 : fldO Try.prog 258 1 = some 3 := by kernel_rfl
theorem fs258_1 : fldS Try.prog 258 1 = some 3 := by kernel_rfl
theorem fo258_2 : fldO Try.prog 258 2 = some 4 := by kernel_rfl
theorem fs258_2 : fldS Try.prog 258 2 = some 4 := by kernel_rfl
theorem fo258_3 : fldO Try.prog 258 3 = some 5 := by kernel_rfl
theorem fs258_3 : fldS Try.prog 258 3 = some 5 := by kernel_rfl
theorem fo258_4 : fldO Try.prog 258 4 = some 6 := by kernel_rfl
theorem fs258_4 : fldS Try.prog 258 4 = some 6 := by kernel_rfl
theorem fo258_5 : fldO Try.prog 258 5 = some 7 := by kernel_rfl
theorem fs258_5 : fldS Try.prog 258 5 = some 7 := by kernel_rfl
theorem ni258 : (match Try.prog.underlying 258 with | some (.interface _) => false | none => false | _ => true) = true := by kernel_rfl
theorem z258 : zeroC Try.prog 258 = some [.nilIface, .nilIface, .nilIface, .nilIface, .pointer none, .pointer none, .pointer none, .int .i64 0] := by kernel_rfl
theorem ag259 : aggS Try.prog 259 = some 8 := by kernel_rfl
theorem fo259_0 : fldO Try.prog 259 0 = some 0 := by kernel_rfl
theorem fa259_0 : fldA Try.prog 259 0 = some (0, 3) := by kernel_rfl
theorem fo259_1 : fldO Try.prog 259 1 = some 3 := by kernel_rfl
theorem fs259_1 : fldS Try.prog 259 1 = some 3 := by kernel_rfl
theorem fo259_2 : fldO Try.prog 259 2 = some 4 := by kernel_rfl
theorem fs259_2 : fldS Try.prog 259 2 = some 4 := by kernel_rfl
theorem fo259_3 : fldO Try.prog 259 3 = some 5 := by kernel_rfl
theorem fs259_3 : fldS Try.prog 259 3 = some 5 := by kernel_rfl
theorem fo259_4 : fldO Try.prog 259 4 = some 6 := by kernel_rfl
theorem fs259_4 : fldS Try.prog 259 4 = some 6 := by kernel_rfl
theorem fo259_5 : fldO Try.prog 259 5 = some 7 := by kernel_rfl
theorem fs259_5 : fldS Try.prog 259 5 = some 7 := by kernel_rfl
theorem ni259 : (match Try.prog.underlying 259 with | some (.interface _) => false | none => false | _ => true) = true := by kernel_rfl
theorem z259 : zeroC Try.prog 259 = some [.nilIface, .nilIface, .nilIface, .nilIface, .pointer none, .pointer none, .pointer none, .int .i64 0] := by kernel_rfl
theorem sc260 : scal Try.prog 260 = true := by kernel_rfl
theorem ip260 : isPtr Try.prog 260 = true := by kernel_rfl
theorem ni260 : (match Try.prog.underlying 260 with | some (.interface _) => false | none => false | _ => true) = true := by kernel_rfl
theorem z260 : zeroC Try.prog 260 = some [.pointer none] := by kernel_rfl
theorem ag261 : aggS Try.prog 261 = some 3 := by kernel_rfl
theorem fo261_0 : fldO Try.prog 261 0 = some 0 := by kernel_rfl
theorem fs261_0 : fldS Try.prog 261 0 = some 0 := by kernel_rfl
theorem fo261_1 : fldO Try.prog 261 1 = some 1 := by kernel_rfl
theorem fs261_1 : fldS Try.prog 261 1 = some 1 := by kernel_rfl
theorem fo261_2 : fldO Try.prog 261 2 = some 2 := by kernel_rfl
theorem fs261_2 : fldS Try.prog 261 2 = some 2 := by kernel_rfl
theorem ni261 : (match Try.prog.underlying 261 with | some (.interface _) => false | none => false | _ => true) = true := by kernel_rfl
theorem z261 : zeroC Try.prog 261 = some [.pointer none, .int .i64 0, .pointer none] := by kernel_rfl
theorem ag262 : aggS Try.prog 262 = some 3 := by kernel_rfl
theorem fo262_0 : fldO Try.prog 262 0 = some 0 := by kernel_rfl
theorem fs262_0 : fldS Try.prog 262 0 = some 0 := by kernel_rfl
theorem fo262_1 : fldO Try.prog 262 1 = some 1 := by kernel_rfl
theorem fs262_1 : fldS Try.prog 262 1 = some 1 := by kernel_rfl
theorem fo262_2 : fldO Try.prog 262 2 = some 2 := by kernel_rfl
theorem fs262_2 : fldS Try.prog 262 2 = some 2 := by kernel_rfl
theorem ni262 : (match Try.prog.underlying 262 with | some (.interface _) => false | none => false | _ => true) = true := by kernel_rfl
theorem z262 : zeroC Try.prog 262 = some [.pointer none, .int .i64 0, .pointer none] := by kernel_rfl
theorem sc263 : scal Try.prog 263 = true := by kernel_rfl
theorem st263 : isStr Try.prog 263 = true := by kernel_rfl
theorem ni263 : (match Try.prog.underlying 263 with | some (.interface _) => false | none => false | _ => true) = true := by kernel_rfl
theorem z263 : zeroC Try.prog 263 = some [.string ⟨#[]⟩] := by kernel_rfl
theorem sc264 : scal Try.prog 264 = true := by kernel_rfl
theorem ni264 : (match Try.prog.underlying 264 with | some (.interface _) => false | none => false | _ => true) = true := by kernel_rfl
theorem z264 : zeroC Try.prog 264 = some [.nilFunc] := by kernel_rfl
theorem sc265 : scal Try.prog 265 = true := by kernel_rfl
theorem ik265 : intK Try.prog 265 = some .i64 := by kernel_rfl
theorem un265 : (Try.prog.underlying 265).isSome = true := by kernel_rfl
theorem ni265 : (match Try.prog.underlying 265 with | some (.interface _) => false | none => false | _ => true) = true := by kernel_rfl
theorem z265 : zeroC Try.prog 265 = some [.int .i64 0] := by kernel_rfl
theorem sc267 : scal Try.prog 267 = true := by kernel_rfl
theorem ni267 : (match Try.prog.underlying 267 with | some (.interface _) => false | none => false | _ => true) = true := by kernel_rfl
theorem z267 : zeroC Try.prog 267 = some [.nilFunc] := by kernel_rfl
theorem sc268 : scal Try.prog 268 = true := by kernel_rfl
theorem ni268 : (match Try.prog.underlying 268 with | some (.interface _) => false | none => false | _ => true) = true := by kernel_rfl
theorem z268 : zeroC Try.prog 268 = some [.nilFunc] := by kernel_rfl
theorem sc269 : scal Try.prog 269 = true := by kernel_rfl
theorem ni269 : (match Try.prog.underlying 269 with | some (.interface _) => false | none => false | _ => true) = true := by kernel_rfl
theorem z269 : zeroC Try.prog 269 = some [.nilFunc] := by kernel_rfl
theorem sc271 : scal Try.prog 271 = true := by kernel_rfl
theorem ni271 : (match Try.prog.underlying 271 with | some (.interface _) => false | none => false | _ => true) = true := by kernel_rfl
theorem z271 : zeroC Try.prog 271 = some [.nilFunc] := by kernel_rfl
theorem sc272 : scal Try.prog 272 = true := by kernel_rfl
theorem ni272 : (match Try.prog.underlying 272 with | some (.interface _) => false | none => false | _ => true) = true := by kernel_rfl
theorem z272 : zeroC Try.prog 272 = some [.nilFunc] := by kernel_rfl
theorem sc273 : scal Try.prog 273 = true := by kernel_rfl
theorem ik273 : intK Try.prog 273 = some .u32 := by kernel_rfl
theorem un273 : (Try.prog.underlying 273).isSome = true := by kernel_rfl
theorem ni273 : (match Try.prog.underlying 273 with | some (.interface _) => false | none => false | _ => true) = true := by kernel_rfl
theorem z273 : zeroC Try.prog 273 = some [.int .u32 0] := by kernel_rfl
theorem sc274 : scal Try.prog 274 = true := by kernel_rfl
theorem ni274 : (match Try.prog.underlying 274 with | some (.interface _) => false | none => false | _ => true) = true := by kernel_rfl
theorem z274 : zeroC Try.prog 274 = some [.nilFunc] := by kernel_rfl
theorem sc275 : scal Try.prog 275 = true := by kernel_rfl
theorem ik275 : intK Try.prog 275 = some .u64 := by kernel_rfl
theorem un275 : (Try.prog.underlying 275).isSome = true := by kernel_rfl
theorem ni275 : (match Try.prog.underlying 275 with | some (.interface _) => false | none => false | _ => true) = true := by kernel_rfl
theorem z275 : zeroC Try.prog 275 = some [.int .u64 0] := by kernel_rfl
theorem sc276 : scal Try.prog 276 = true := by kernel_rfl
theorem ik276 : intK Try.prog 276 = some .u64 := by kernel_rfl
theorem un276 : (Try.prog.underlying 276).isSome = true := by kernel_rfl
theorem ni276 : (match Try.prog.underlying 276 with | some (.interface _) => false | none => false | _ => true) = true := by kernel_rfl
theorem z276 : zeroC Try.prog 276 = some [.int .u64 0] := by kernel_rfl
theorem sc277 : scal Try.prog 277 = true := by kernel_rfl
theorem ni277 : (match Try.prog.underlying 277 with | some (.interface _) => false | none => false | _ => true) = true := by kernel_rfl
theorem z277 : zeroC Try.prog 277 = some [.nilFunc] := by kernel_rfl
theorem sc278 : scal Try.prog 278 = true := by kernel_rfl
theorem ni278 : (match Try.prog.underlying 278 with | some (.interface _) => false | none => false | _ => true) = true := by kernel_rfl
theorem z278 : zeroC Try.prog 278 = some [.nilFunc] := by kernel_rfl
theorem sc279 : scal Try.prog 279 = true := by kernel_rfl
theorem ni279 : (match Try.prog.underlying 279 with | some (.interface _) => false | none => false | _ => true) = true := by kernel_rfl
theorem z279 : zeroC Try.prog 279 = some [.nilFunc] := by kernel_rfl
theorem sc280 : scal Try.prog 280 = true := by kernel_rfl
theorem ip280 : isPtr Try.prog 280 = true := by kernel_rfl
theorem ni280 : (match Try.prog.underlying 280 with | some (.interface _) => false | none => false | _ => true) = true := by kernel_rfl
theorem z280 : zeroC Try.prog 280 = some [.pointer none] := by kernel_rfl
theorem sc281 : scal Try.prog 281 = true := by kernel_rfl
theorem ni281 : (match Try.prog.underlying 281 with | some (.interface _) => false | none => false | _ => true) = true := by kernel_rfl
theorem z281 : zeroC Try.prog 281 = some [.nilFunc] := by kernel_rfl
theorem sc282 : scal Try.prog 282 = true := by kernel_rfl
theorem ip282 : isPtr Try.prog 282 = true := by kernel_rfl
theorem ni282 : (match Try.prog.underlying 282 with | some (.interface _) => false | none => false | _ => true) = true := by kernel_rfl
theorem z282 : zeroC Try.prog 282 = some [.pointer none] := by kernel_rfl
theorem sc283 : scal Try.prog 283 = true := by kernel_rfl
theorem ni283 : (match Try.prog.underlying 283 with | some (.interface _) => false | none => false | _ => true) = true := by kernel_rfl
theorem z283 : zeroC Try.prog 283 = some [.nilFunc] := by kernel_rfl
theorem sc284 : scal Try.prog 284 = true := by kernel_rfl
theorem ni284 : (match Try.prog.underlying 284 with | some (.interface _) => false | none => false | _ => true) = true := by kernel_rfl
theorem z284 : zeroC Try.prog 284 = some [.nilFunc] := by kernel_rfl
theorem ag285 : aggS Try.prog 285 = some 4 := by kernel_rfl
theorem fo285_0 : fldO Try.prog 285 0 = some 0 := by kernel_rfl
theorem fs285_0 : fldS Try.prog 285 0 = some 0 := by kernel_rfl
theorem fo285_1 : fldO Try.prog 285 1 = some 1 := by kernel_rfl
theorem fs285_1 : fldS Try.prog 285 1 = some 1 := by kernel_rfl
theorem fo285_2 : fldO Try.prog 285 2 = some 2 := by kernel_rfl
theorem fs285_2 : fldS Try.prog 285 2 = some 2 := by kernel_rfl
theorem fo285_3 : fldO Try.prog 285 3 = some 3 := by kernel_rfl
theorem fs285_3 : fldS Try.prog 285 3 = some 3 := by kernel_rfl
theorem ni285 : (match Try.prog.underlying 285 with | some (.interface _) => false | none => false | _ => true) = true := by kernel_rfl
theorem z285 : zeroC Try.prog 285 = some [.pointer none, .pointer none, .pointer none, .string ⟨#[]⟩] := by kernel_rfl
theorem ag286 : aggS Try.prog 286 = some 4 := by kernel_rfl
theorem fo286_0 : fldO Try.prog 286 0 = some 0 := by kernel_rfl
theorem fs286_0 : fldS Try.prog 286 0 = some 0 := by kernel_rfl
theorem fo286_1 : fldO Try.prog 286 1 = some 1 := by kernel_rfl
theorem fs286_1 : fldS Try.prog 286 1 = some 1 := by kernel_rfl
theorem fo286_2 : fldO Try.prog 286 2 = some 2 := by kernel_rfl
theorem fs286_2 : fldS Try.prog 286 2 = some 2 := by kernel_rfl
theorem fo286_3 : fldO Try.prog 286 3 = some 3 := by kernel_rfl
theorem fs286_3 : fldS Try.prog 286 3 = some 3 := by kernel_rfl
theorem ni286 : (match Try.prog.underlying 286 with | some (.interface _) => false | none => false | _ => true) = true := by kernel_rfl
theorem z286 : zeroC Try.prog 286 = some [.pointer none, .pointer none, .pointer none, .string ⟨#[]⟩] := by kernel_rfl
theorem ag287 : aggS Try.prog 287 = some 0 := by kernel_rfl
theorem ar287 : arrE Try.prog 287 = some (0, 1) := by kernel_rfl
theorem ni287 : (match Try.prog.underlying 287 with | some (.interface _) => false | none => false | _ => true) = true := by kernel_rfl
theorem z287 : zeroC Try.prog 287 = some [] := by kernel_rfl
theorem ag288 : aggS Try.prog 288 = some 0 := by kernel_rfl
theorem fa288_0 : fldA Try.prog 288 0 = some (0, 0) := by kernel_rfl
theorem ni288 : (match Try.prog.underlying 288 with | some (.interface _) => false | none => false | _ => true) = true := by kernel_rfl
theorem z288 : zeroC Try.prog 288 = some [] := by kernel_rfl
theorem ag289 : aggS Try.prog 289 = some 0 := by kernel_rfl
theorem fa289_0 : fldA Try.prog 289 0 = some (0, 0) := by kernel_rfl
theorem ni289 : (match Try.prog.underlying 289 with | some (.interface _) => false | none => false | _ => true) = true := by kernel_rfl
theorem z289 : zeroC Try.prog 289 = some [] := by kernel_rfl
theorem sc290 : scal Try.prog 290 = true := by kernel_rfl
theorem ni290 : (match Try.prog.underlying 290 with | some (.interface _) => false | none => false | _ => true) = true := by kernel_rfl
theorem z290 : zeroC Try.prog 290 = some [.nilFunc] := by kernel_rfl
theorem sc291 : scal Try.prog 291 = true := by kernel_rfl
theorem ik291 : intK Try.prog 291 = some .u8 := by kernel_rfl
theorem un291 : (Try.prog.underlying 291).isSome = true := by kernel_rfl
theorem ni291 : (match Try.prog.underlying 291 with | some (.interface _) => false | none => false | _ => true) = true := by kernel_rfl
theorem z291 : zeroC Try.prog 291 = some [.int .u8 0] := by kernel_rfl
theorem sc292 : scal Try.prog 292 = true := by kernel_rfl
theorem ik292 : intK Try.prog 292 = some .u8 := by kernel_rfl
theorem un292 : (Try.prog.underlying 292).isSome = true := by kernel_rfl
theorem ni292 : (match Try.prog.underlying 292 with | some (.interface _) => false | none => false | _ => true) = true := by kernel_rfl
theorem z292 : zeroC Try.prog 292 = some [.int .u8 0] := by kernel_rfl
theorem sc293 : scal Try.prog 293 = true := by kernel_rfl
theorem ni293 : (match Try.prog.underlying 293 with | some (.interface _) => false | none => false | _ => true) = true := by kernel_rfl
theorem z293 : zeroC Try.prog 293 = some [.nilFunc] := by kernel_rfl
theorem sc294 : scal Try.prog 294 = true := by kernel_rfl
theorem ip294 : isPtr Try.prog 294 = true := by kernel_rfl
theorem ni294 : (match Try.prog.underlying 294 with | some (.interface _) => false | none => false | _ => true) = true := by kernel_rfl
theorem z294 : zeroC Try.prog 294 = some [.pointer none] := by kernel_rfl
theorem sc295 : scal Try.prog 295 = true := by kernel_rfl
theorem ik295 : intK Try.prog 295 = some .i32 := by kernel_rfl
theorem un295 : (Try.prog.underlying 295).isSome = true := by kernel_rfl
theorem ni295 : (match Try.prog.underlying 295 with | some (.interface _) => false | none => false | _ => true) = true := by kernel_rfl
theorem z295 : zeroC Try.prog 295 = some [.int .i32 0] := by kernel_rfl
theorem sc296 : scal Try.prog 296 = true := by kernel_rfl
theorem ik296 : intK Try.prog 296 = some .i32 := by kernel_rfl
theorem un296 : (Try.prog.underlying 296).isSome = true := by kernel_rfl
theorem ni296 : (match Try.prog.underlying 296 with | some (.interface _) => false | none => false | _ => true) = true := by kernel_rfl
theorem z296 : zeroC Try.prog 296 = some [.int .i32 0] := by kernel_rfl
theorem ag297 : aggS Try.prog 297 = some 11 := by kernel_rfl
theorem fo297_0 : fldO Try.prog 297 0 = some 0 := by kernel_rfl
theorem fs297_0 : fldS Try.prog 297 0 = some 0 := by kernel_rfl
theorem fo297_1 : fldO Try.prog 297 1 = some 1 := by kernel_rfl
theorem fs297_1 : fldS Try.prog 297 1 = some 1 := by kernel_rfl
theorem fo297_2 : fldO Try.prog 297 2 = some 2 := by kernel_rfl
theorem fs297_2 : fldS Try.prog 297 2 = some 2 := by kernel_rfl
theorem fo297_3 : fldO Try.prog 297 3 = some 3 := by kernel_rfl
theorem fs297_3 : fldS Try.prog 297 3 = some 3 := by kernel_rfl
theorem fo297_4 : fldO Try.prog 297 4 = some 4 := by kernel_rfl
theorem fs297_4 : fldS Try.prog 297 4 = some 4 := by kernel_rfl
theorem fo297_5 : fldO Try.prog 297 5 = some 5 := by kernel_rfl
theorem fs297_5 : fldS Try.prog 297 5 = some 5 := by kernel_rfl
theorem fo297_6 : fldO Try.prog 297 6 = some 6 := by kernel_rfl
theorem fs297_6 : fldS Try.prog 297 6 = some 6 := by kernel_rfl
theorem fo297_7 : fldO Try.prog 297 7 = some 7 := by kernel_rfl
theorem fs297_7 : fldS Try.prog 297 7 = some 7 := by kernel_rfl
theorem fo297_8 : fldO Try.prog 297 8 = some 8 := by kernel_rfl
theorem fs297_8 : fldS Try.prog 297 8 = some 8 := by kernel_rfl
theorem fo297_9 : fldO Try.prog 297 9 = some 9 := by kernel_rfl
theorem fs297_9 : fldS Try.prog 297 9 = some 9 := by kernel_rfl
theorem fo297_10 : fldO Try.prog 297 10 = some 10 := by kernel_rfl
theorem fs297_10 : fldS Try.prog 297 10 = some 10 := by kernel_rfl
theorem ni297 : (match Try.prog.underlying 297 with | some (.interface _) => false | none => false | _ => true) = true := by kernel_rfl
theorem z297 : zeroC Try.prog 297 = some [.int .u64 0, .int .u64 0, .int .u32 0, .int .u8 0, .int .u8 0, .int .u8 0, .int .u8 0, .nilFunc, .pointer none, .int .i32 0, .int .i32 0] := by kernel_rfl
theorem ag298 : aggS Try.prog 298 = some 11 := by kernel_rfl
theorem fo298_0 : fldO Try.prog 298 0 = some 0 := by kernel_rfl
theorem fs298_0 : fldS Try.prog 298 0 = some 0 := by kernel_rfl
theorem fo298_1 : fldO Try.prog 298 1 = some 1 := by kernel_rfl
theorem fs298_1 : fldS Try.prog 298 1 = some 1 := by kernel_rfl
theorem fo298_2 : fldO Try.prog 298 2 = some 2 := by kernel_rfl
theorem fs298_2 : fldS Try.prog 298 2 = some 2 := by kernel_rfl
theorem fo298_3 : fldO Try.prog 298 3 = some 3 := by kernel_rfl
theorem fs298_3 : fldS Try.prog 298 3 = some 3 := by kernel_rfl
theorem fo298_4 : fldO Try.prog 298 4 = some 4 := by kernel_rfl
theorem fs298_4 : fldS Try.prog 298 4 = some 4 := by kernel_rfl
theorem fo298_5 : fldO Try.prog 298 5 = some 5 := by kernel_rfl
theorem fs298_5 : fldS Try.prog 298 5 = some 5 := by kernel_rfl
theorem fo298_6 : fldO Try.prog 298 6 = some 6 := by kernel_rfl
theorem fs298_6 : fldS Try.prog 298 6 = some 6 := by kernel_rfl
theorem fo298_7 : fldO Try.prog 298 7 = some 7 := by kernel_rfl
theorem fs298_7 : fldS Try.prog 298 7 = some 7 := by kernel_rfl
theorem fo298_8 : fldO Try.prog 298 8 = some 8 := by kernel_rfl
theorem fs298_8 : fldS Try.prog 298 8 = some 8 := by kernel_rfl
theorem fo298_9 : fldO Try.prog 298 9 = some 9 := by kernel_rfl
theorem fs298_9 : fldS Try.prog 298 9 = some 9 := by kernel_rfl
theorem fo298_10 : fldO Try.prog 298 10 = some 10 := by kernel_rfl
theorem fs298_10 : fldS Try.prog 298 10 = some 10 := by kernel_rfl
theorem ni298 : (match Try.prog.underlying 298 with | some (.interface _) => false | none => false | _ => true) = true := by kernel_rfl
theorem z298 : zeroC Try.prog 298 = some [.int .u64 0, .int .u64 0, .int .u32 0, .int .u8 0, .int .u8 0, .int .u8 0, .int .u8 0, .nilFunc, .pointer none, .int .i32 0, .int .i32 0] := by kernel_rfl
theorem sc299 : scal Try.prog 299 = true := by kernel_rfl
theorem ni299 : (match Try.prog.underlying 299 with | some (.interface _) => false | none => false | _ => true) = true := by kernel_rfl
theorem z299 : zeroC Try.prog 299 = some [.nilFunc] := by kernel_rfl
theorem sc300 : scal Try.prog 300 = true := by kernel_rfl
theorem ni300 : (match Try.prog.underlying 300 with | some (.interface _) => false | none => false | _ => true) = true := by kernel_rfl
theorem z300 : zeroC Try.prog 300 = some [.nilFunc] := by kernel_rfl
theorem sc301 : scal Try.prog 301 = true := by kernel_rfl
theorem ni301 : (match Try.prog.underlying 301 with | some (.interface _) => false | none => false | _ => true) = true := by kernel_rfl
theorem z301 : zeroC Try.prog 301 = some [.nilFunc] := by kernel_rfl
theorem sc302 : scal Try.prog 302 = true := by kernel_rfl
theorem ni302 : (match Try.prog.underlying 302 with | some (.interface _) => false | none => false | _ => true) = true := by kernel_rfl
theorem z302 : zeroC Try.prog 302 = some [.nilFunc] := by kernel_rfl
theorem sc303 : scal Try.prog 303 = true := by kernel_rfl
theorem ni303 : (match Try.prog.underlying 303 with | some (.interface _) => false | none => false | _ => true) = true := by kernel_rfl
theorem z303 : zeroC Try.prog 303 = some [.nilFunc] := by kernel_rfl
theorem sc304 : scal Try.prog 304 = true := by kernel_rfl
theorem ni304 : (match Try.prog.underlying 304 with | some (.interface _) => false | none => false | _ => true) = true := by kernel_rfl
theorem z304 : zeroC Try.prog 304 = some [.nilFunc] := by kernel_rfl
theorem sc305 : scal Try.prog 305 = true := by kernel_rfl
theorem ni305 : (match Try.prog.underlying 305 with | some (.interface _) => false | none => false | _ => true) = true := by kernel_rfl
theorem z305 : zeroC Try.prog 305 = some [.nilFunc] := by kernel_rfl
theorem sc306 : scal Try.prog 306 = true := by kernel_rfl
theorem ni306 : (match Try.prog.underlying 306 with | some (.interface _) => false | none => false | _ => true) = true := by kernel_rfl
theorem z306 : zeroC Try.prog 306 = some [.nilFunc] := by kernel_rfl
theorem ag307 : aggS Try.prog 307 = some 0 := by kernel_rfl
theorem ni307 : (match Try.prog.underlying 307 with | some (.interface _) => false | none => false | _ => true) = true := by kernel_rfl
theorem z307 : zeroC Try.prog 307 = some [] := by kernel_rfl
theorem sc308 : scal Try.prog 308 = true := by kernel_rfl
theorem ni308 : (match Try.prog.underlying 308 with | some (.interface _) => false | none => false | _ => true) = true := by kernel_rfl
theorem z308 : zeroC Try.prog 308 = some [.nilFunc] := by kernel_rfl
theorem sc309 : scal Try.prog 309 = true := by kernel_rfl
theorem ni309 : (match Try.prog.underlying 309 with | some (.interface _) => false | none => false | _ => true) = true := by kernel_rfl
theorem z309 : zeroC Try.prog 309 = some [.nilFunc] := by kernel_rfl
theorem sc310 : scal Try.prog 310 = true := by kernel_rfl
theorem ip310 : isPtr Try.prog 310 = true := by kernel_rfl
theorem ni310 : (match Try.prog.underlying 310 with | some (.interface _) => false | none => false | _ => true) = true := by kernel_rfl
theorem z310 : zeroC Try.prog 310 = some [.pointer none] := by kernel_rfl
theorem sc311 : scal Try.prog 311 = true := by kernel_rfl
theorem ip311 : isPtr Try.prog 311 = true := by kernel_rfl
theorem ni311 : (match Try.prog.underlying 311 with | some (.interface _) => false | none => false | _ => true) = true := by kernel_rfl
theorem z311 : zeroC Try.prog 311 = some [.pointer none] := by kernel_rfl
theorem sc312 : scal Try.prog 312 = true := by kernel_rfl
theorem ni312 : (match Try.prog.underlying 312 with | some (.interface _) => false | none => false | _ => true) = true := by kernel_rfl
theorem z312 : zeroC Try.prog 312 = some [.nilFunc] := by kernel_rfl
theorem sc313 : scal Try.prog 313 = true := by kernel_rfl
theorem ni313 : (match Try.prog.underlying 313 with | some (.interface _) => false | none => false | _ => true) = true := by kernel_rfl
theorem z313 : zeroC Try.prog 313 = some [.nilFunc] := by kernel_rfl
theorem sc314 : scal Try.prog 314 = true := by kernel_rfl
theorem ni314 : (match Try.prog.underlying 314 with | some (.interface _) => false | none => false | _ => true) = true := by kernel_rfl
theorem z314 : zeroC Try.prog 314 = some [.nilFunc] := by kernel_rfl
theorem sc315 : scal Try.prog 315 = true := by kernel_rfl
theorem ni315 : (match Try.prog.underlying 315 with | some (.interface _) => false | none => false | _ => true) = true := by kernel_rfl
theorem z315 : zeroC Try.prog 315 = some [.nilFunc] := by kernel_rfl
theorem sc316 : scal Try.prog 316 = true := by kernel_rfl
theorem ni316 : (match Try.prog.underlying 316 with | some (.interface _) => false | none => false | _ => true) = true := by kernel_rfl
theorem z316 : zeroC Try.prog 316 = some [.nilFunc] := by kernel_rfl
theorem sc317 : scal Try.prog 317 = true := by kernel_rfl
theorem ni317 : (match Try.prog.underlying 317 with | some (.interface _) => false | none => false | _ => true) = true := by kernel_rfl
theorem z317 : zeroC Try.prog 317 = some [.nilFunc] := by kernel_rfl
theorem sc318 : scal Try.prog 318 = true := by kernel_rfl
theorem ni318 : (match Try.prog.underlying 318 with | some (.interface _) => false | none => false | _ => true) = true := by kernel_rfl
theorem z318 : zeroC Try.prog 318 = some [.nilFunc] := by kernel_rfl
theorem sc319 : scal Try.prog 319 = true := by kernel_rfl
theorem ni319 : (match Try.prog.underlying 319 with | some (.interface _) => false | none => false | _ => true) = true := by kernel_rfl
theorem z319 : zeroC Try.prog 319 = some [.pointer none] := by kernel_rfl
theorem sc320 : scal Try.prog 320 = true := by kernel_rfl
theorem sl320 : slcE Try.prog 320 = some (311, 1, 8) := by kernel_rfl
theorem is320 : isSlc Try.prog 320 = true := by kernel_rfl
theorem ni320 : (match Try.prog.underlying 320 with | some (.interface _) => false | none => false | _ => true) = true := by kernel_rfl
theorem z320 : zeroC Try.prog 320 = some [.slice none 0 0] := by kernel_rfl
theorem sc321 : scal Try.prog 321 = true := by kernel_rfl
theorem sl321 : slcE Try.prog 321 = some (322, 0, 0) := by kernel_rfl
theorem is321 : isSlc Try.prog 321 = true := by kernel_rfl
theorem ni321 : (match Try.prog.underlying 321 with | some (.interface _) => false | none => false | _ => true) = true := by kernel_rfl
theorem z321 : zeroC Try.prog 321 = some [.slice none 0 0] := by kernel_rfl
theorem ag322 : aggS Try.prog 322 = some 0 := by kernel_rfl
theorem ni322 : (match Try.prog.underlying 322 with | some (.interface _) => false | none => false | _ => true) = true := by kernel_rfl
theorem z322 : zeroC Try.prog 322 = some [] := by kernel_rfl
theorem mixed : Try.prog.follows .mixedOrders = true := by kernel_rfl
end Go.Proofs.Ythicijpjpijdjaa.Ty
