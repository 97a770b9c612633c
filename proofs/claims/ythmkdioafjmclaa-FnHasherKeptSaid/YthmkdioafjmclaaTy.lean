import Derived.Test.YthmkdioafjmclaaSlMore
import Derived.Test.YthmkdioafjmclaaProg
namespace Go.Proofs.Ythmkdioafjmclaa.Ty
open Go.Proofs.Ythmkdioafjmclaa.Sl
set_option maxRecDepth 100000
theorem sc1 : scal Try.prog 1 = true := by kernel_rfl
theorem ni1 : (match Try.prog.underlying 1 with | some (.interface _) => false | none => false | _ => true) = true := by kernel_rfl
theorem z1 : zeroC Try.prog 1 = some [.nilFunc] := by kernel_rfl
theorem sc2 : scal Try.prog 2 = true := by kernel_rfl
theorem ik2 : intK Try.prog 2 = some .i64 := by kernel_rfl
theorem un2 : (Try.prog.underlying 2).isSome = true := by kernel_rfl
theorem ni2 : (match Try.prog.underlying 2 with | some (.interface _) => false | none => false | _ => true) = true := by kernel_rfl
theorem z2 : zeroC Try.prog 2 = some [.int .i64 0] := by kernel_rfl
theorem sc3 : scal Try.prog 3 = true := by kernel_rfl
theorem ik3 : intK Try.prog 3 = some .i64 := by kernel_rfl
theorem un3 : (Try.prog.underlying 3).isSome = true := by kernel_rfl
theorem ni3 : (match Try.prog.underlying 3 with | some (.interface _) => false | none => false | _ => true) = true := by kernel_rfl
theorem z3 : zeroC Try.prog 3 = some [.int .i64 0] := by kernel_rfl
theorem sc4 : scal Try.prog 4 = true := by kernel_rfl
theorem ni4 : (match Try.prog.underlying 4 with | some (.interface _) => false | none => false | _ => true) = true := by kernel_rfl
theorem z4 : zeroC Try.prog 4 = some [.bool false] := by kernel_rfl
theorem sc5 : scal Try.prog 5 = true := by kernel_rfl
theorem ik5 : intK Try.prog 5 = some .u8 := by kernel_rfl
theorem un5 : (Try.prog.underlying 5).isSome = true := by kernel_rfl
theorem ni5 : (match Try.prog.underlying 5 with | some (.interface _) => false | none => false | _ => true) = true := by kernel_rfl
theorem z5 : zeroC Try.prog 5 = some [.int .u8 0] := by kernel_rfl
theorem sc6 : scal Try.prog 6 = true := by kernel_rfl
theorem ik6 : intK Try.prog 6 = some .u8 := by kernel_rfl
theorem un6 : (Try.prog.underlying 6).isSome = true := by kernel_rfl
theorem ni6 : (match Try.prog.underlying 6 with | some (.interface _) => false | none => false | _ => true) = true := by kernel_rfl
theorem z6 : zeroC Try.prog 6 = some [.int .u8 0] := by kernel_rfl
theorem ag7 : aggS Try.prog 7 = some 4 := by kernel_rfl
theorem fo7_0 : fldO Try.prog 7 0 = some 0 := by kernel_rfl
theorem fs7_0 : fldS Try.prog 7 0 = some 0 := by kernel_rfl
theorem fo7_1 : fldO Try.prog 7 1 = some 1 := by kernel_rfl
theorem fs7_1 : fldS Try.prog 7 1 = some 1 := by kernel_rfl
theorem fo7_2 : fldO Try.prog 7 2 = some 2 := by kernel_rfl
theorem fs7_2 : fldS Try.prog 7 2 = some 2 := by kernel_rfl
theorem fo7_3 : fldO Try.prog 7 3 = some 3 := by kernel_rfl
theorem fs7_3 : fldS Try.prog 7 3 = some 3 := by kernel_rfl
theorem ni7 : (match Try.prog.underlying 7 with | some (.interface _) => false | none => false | _ => true) = true := by kernel_rfl
theorem z7 : zeroC Try.prog 7 = some [.int .i64 0, .int .i64 0, .bool false, .int .u8 0] := by kernel_rfl
theorem ag8 : aggS Try.prog 8 = some 4 := by kernel_rfl
theorem fo8_0 : fldO Try.prog 8 0 = some 0 := by kernel_rfl
theorem fs8_0 : fldS Try.prog 8 0 = some 0 := by kernel_rfl
theorem fo8_1 : fldO Try.prog 8 1 = some 1 := by kernel_rfl
theorem fs8_1 : fldS Try.prog 8 1 = some 1 := by kernel_rfl
theorem fo8_2 : fldO Try.prog 8 2 = some 2 := by kernel_rfl
theorem fs8_2 : fldS Try.prog 8 2 = some 2 := by kernel_rfl
theorem fo8_3 : fldO Try.prog 8 3 = some 3 := by kernel_rfl
theorem fs8_3 : fldS Try.prog 8 3 = some 3 := by kernel_rfl
theorem ni8 : (match Try.prog.underlying 8 with | some (.interface _) => false | none => false | _ => true) = true := by kernel_rfl
theorem z8 : zeroC Try.prog 8 = some [.int .i64 0, .int .i64 0, .bool false, .int .u8 0] := by kernel_rfl
theorem sc9 : scal Try.prog 9 = true := by kernel_rfl
theorem st9 : isStr Try.prog 9 = true := by kernel_rfl
theorem ni9 : (match Try.prog.underlying 9 with | some (.interface _) => false | none => false | _ => true) = true := by kernel_rfl
theorem z9 : zeroC Try.prog 9 = some [.string ⟨#[]⟩] := by kernel_rfl
theorem sc10 : scal Try.prog 10 = true := by kernel_rfl
theorem st10 : isStr Try.prog 10 = true := by kernel_rfl
theorem ni10 : (match Try.prog.underlying 10 with | some (.interface _) => false | none => false | _ => true) = true := by kernel_rfl
theorem z10 : zeroC Try.prog 10 = some [.string ⟨#[]⟩] := by kernel_rfl
theorem sc11 : scal Try.prog 11 = true := by kernel_rfl
theorem st11 : isStr Try.prog 11 = true := by kernel_rfl
theorem ni11 : (match Try.prog.underlying 11 with | some (.interface _) => false | none => false | _ => true) = true := by kernel_rfl
theorem z11 : zeroC Try.prog 11 = some [.string ⟨#[]⟩] := by kernel_rfl
theorem sc12 : scal Try.prog 12 = true := by kernel_rfl
theorem ik12 : intK Try.prog 12 = some .u64 := by kernel_rfl
theorem un12 : (Try.prog.underlying 12).isSome = true := by kernel_rfl
theorem ni12 : (match Try.prog.underlying 12 with | some (.interface _) => false | none => false | _ => true) = true := by kernel_rfl
theorem z12 : zeroC Try.prog 12 = some [.int .u64 0] := by kernel_rfl
theorem ag13 : aggS Try.prog 13 = some 2 := by kernel_rfl
theorem fo13_0 : fldO Try.prog 13 0 = some 0 := by kernel_rfl
theorem fs13_0 : fldS Try.prog 13 0 = some 0 := by kernel_rfl
theorem fo13_1 : fldO Try.prog 13 1 = some 1 := by kernel_rfl
theorem fs13_1 : fldS Try.prog 13 1 = some 1 := by kernel_rfl
theorem ni13 : (match Try.prog.underlying 13 with | some (.interface _) => false | none => false | _ => true) = true := by kernel_rfl
theorem z13 : zeroC Try.prog 13 = some [.string ⟨#[]⟩, .int .u64 0] := by kernel_rfl
theorem ag14 : aggS Try.prog 14 = some 2 := by kernel_rfl
theorem fo14_0 : fldO Try.prog 14 0 = some 0 := by kernel_rfl
theorem fs14_0 : fldS Try.prog 14 0 = some 0 := by kernel_rfl
theorem fo14_1 : fldO Try.prog 14 1 = some 1 := by kernel_rfl
theorem fs14_1 : fldS Try.prog 14 1 = some 1 := by kernel_rfl
theorem ni14 : (match Try.prog.underlying 14 with | some (.interface _) => false | none => false | _ => true) = true := by kernel_rfl
theorem z14 : zeroC Try.prog 14 = some [.string ⟨#[]⟩, .int .u64 0] := by kernel_rfl
theorem sc15 : scal Try.prog 15 = true := by kernel_rfl
theorem ip15 : isPtr Try.prog 15 = true := by kernel_rfl
theorem ni15 : (match Try.prog.underlying 15 with | some (.interface _) => false | none => false | _ => true) = true := by kernel_rfl
theorem z15 : zeroC Try.prog 15 = some [.pointer none] := by kernel_rfl
theorem sc16 : scal Try.prog 16 = true := by kernel_rfl
theorem ip16 : isPtr Try.prog 16 = true := by kernel_rfl
theorem ni16 : (match Try.prog.underlying 16 with | some (.interface _) => false | none => false | _ => true) = true := by kernel_rfl
theorem z16 : zeroC Try.prog 16 = some [.pointer none] := by kernel_rfl
theorem sc17 : scal Try.prog 17 = true := by kernel_rfl
theorem ip17 : isPtr Try.prog 17 = true := by kernel_rfl
theorem ni17 : (match Try.prog.underlying 17 with | some (.interface _) => false | none => false | _ => true) = true := by kernel_rfl
theorem z17 : zeroC Try.prog 17 = some [.pointer none] := by kernel_rfl
theorem ag18 : aggS Try.prog 18 = some 1 := by kernel_rfl
theorem fo18_0 : fldO Try.prog 18 0 = some 0 := by kernel_rfl
theorem fs18_0 : fldS Try.prog 18 0 = some 0 := by kernel_rfl
theorem ni18 : (match Try.prog.underlying 18 with | some (.interface _) => false | none => false | _ => true) = true := by kernel_rfl
theorem z18 : zeroC Try.prog 18 = some [.pointer none] := by kernel_rfl
theorem ag19 : aggS Try.prog 19 = some 1 := by kernel_rfl
theorem fo19_0 : fldO Try.prog 19 0 = some 0 := by kernel_rfl
theorem fs19_0 : fldS Try.prog 19 0 = some 0 := by kernel_rfl
theorem ni19 : (match Try.prog.underlying 19 with | some (.interface _) => false | none => false | _ => true) = true := by kernel_rfl
theorem z19 : zeroC Try.prog 19 = some [.pointer none] := by kernel_rfl
theorem sc20 : scal Try.prog 20 = true := by kernel_rfl
theorem if20 : isIfc Try.prog 20 = true := by kernel_rfl
theorem z20 : zeroC Try.prog 20 = some [.nilIface] := by kernel_rfl
theorem sc21 : scal Try.prog 21 = true := by kernel_rfl
theorem ik21 : intK Try.prog 21 = some .i32 := by kernel_rfl
theorem un21 : (Try.prog.underlying 21).isSome = true := by kernel_rfl
theorem ni21 : (match Try.prog.underlying 21 with | some (.interface _) => false | none => false | _ => true) = true := by kernel_rfl
theorem z21 : zeroC Try.prog 21 = some [.int .i32 0] := by kernel_rfl
theorem sc22 : scal Try.prog 22 = true := by kernel_rfl
theorem sl22 : slcE Try.prog 22 = some (32, 2, 24) := by kernel_rfl
theorem is22 : isSlc Try.prog 22 = true := by kernel_rfl
theorem ni22 : (match Try.prog.underlying 22 with | some (.interface _) => false | none => false | _ => true) = true := by kernel_rfl
theorem z22 : zeroC Try.prog 22 = some [.slice none 0 0] := by kernel_rfl
theorem sc23 : scal Try.prog 23 = true := by kernel_rfl
theorem ni23 : (match Try.prog.underlying 23 with | some (.interface _) => false | none => false | _ => true) = true := by kernel_rfl
theorem z23 : zeroC Try.prog 23 = some [.nilFunc] := by kernel_rfl
theorem sc24 : scal Try.prog 24 = true := by kernel_rfl
theorem ni24 : (match Try.prog.underlying 24 with | some (.interface _) => false | none => false | _ => true) = true := by kernel_rfl
theorem z24 : zeroC Try.prog 24 = some [.nilFunc] := by kernel_rfl
theorem sc25 : scal Try.prog 25 = true := by kernel_rfl
theorem ni25 : (match Try.prog.underlying 25 with | some (.interface _) => false | none => false | _ => true) = true := by kernel_rfl
theorem z25 : zeroC Try.prog 25 = some [.nilFunc] := by kernel_rfl
theorem sc26 : scal Try.prog 26 = true := by kernel_rfl
theorem sl26 : slcE Try.prog 26 = some (30, 2, 32) := by kernel_rfl
theorem is26 : isSlc Try.prog 26 = true := by kernel_rfl
theorem ni26 : (match Try.prog.underlying 26 with | some (.interface _) => false | none => false | _ => true) = true := by kernel_rfl
theorem z26 : zeroC Try.prog 26 = some [.slice none 0 0] := by kernel_rfl
theorem sc27 : scal Try.prog 27 = true := by kernel_rfl
theorem ni27 : (match Try.prog.underlying 27 with | some (.interface _) => false | none => false | _ => true) = true := by kernel_rfl
theorem z27 : zeroC Try.prog 27 = some [.nilFunc] := by kernel_rfl
theorem sc28 : scal Try.prog 28 = true := by kernel_rfl
theorem sl28 : slcE Try.prog 28 = some (9, 1, 16) := by kernel_rfl
theorem is28 : isSlc Try.prog 28 = true := by kernel_rfl
theorem ni28 : (match Try.prog.underlying 28 with | some (.interface _) => false | none => false | _ => true) = true := by kernel_rfl
theorem z28 : zeroC Try.prog 28 = some [.slice none 0 0] := by kernel_rfl
theorem ag29 : aggS Try.prog 29 = some 2 := by kernel_rfl
theorem fo29_0 : fldO Try.prog 29 0 = some 0 := by kernel_rfl
theorem fs29_0 : fldS Try.prog 29 0 = some 0 := by kernel_rfl
theorem fo29_1 : fldO Try.prog 29 1 = some 1 := by kernel_rfl
theorem fs29_1 : fldS Try.prog 29 1 = some 1 := by kernel_rfl
theorem ni29 : (match Try.prog.underlying 29 with | some (.interface _) => false | none => false | _ => true) = true := by kernel_rfl
theorem z29 : zeroC Try.prog 29 = some [.int .i64 0, .slice none 0 0] := by kernel_rfl
theorem ag30 : aggS Try.prog 30 = some 2 := by kernel_rfl
theorem fo30_0 : fldO Try.prog 30 0 = some 0 := by kernel_rfl
theorem fs30_0 : fldS Try.prog 30 0 = some 0 := by kernel_rfl
theorem fo30_1 : fldO Try.prog 30 1 = some 1 := by kernel_rfl
theorem fs30_1 : fldS Try.prog 30 1 = some 1 := by kernel_rfl
theorem ni30 : (match Try.prog.underlying 30 with | some (.interface _) => false | none => false | _ => true) = true := by kernel_rfl
theorem z30 : zeroC Try.prog 30 = some [.int .i64 0, .slice none 0 0] := by kernel_rfl
theorem ag31 : aggS Try.prog 31 = some 2 := by kernel_rfl
theorem fo31_0 : fldO Try.prog 31 0 = some 0 := by kernel_rfl
theorem fs31_0 : fldS Try.prog 31 0 = some 0 := by kernel_rfl
theorem fo31_1 : fldO Try.prog 31 1 = some 1 := by kernel_rfl
theorem fs31_1 : fldS Try.prog 31 1 = some 1 := by kernel_rfl
theorem ni31 : (match Try.prog.underlying 31 with | some (.interface _) => false | none => false | _ => true) = true := by kernel_rfl
theorem z31 : zeroC Try.prog 31 = some [.string ⟨#[]⟩, .bool false] := by kernel_rfl
theorem ag32 : aggS Try.prog 32 = some 2 := by kernel_rfl
theorem fo32_0 : fldO Try.prog 32 0 = some 0 := by kernel_rfl
theorem fs32_0 : fldS Try.prog 32 0 = some 0 := by kernel_rfl
theorem fo32_1 : fldO Try.prog 32 1 = some 1 := by kernel_rfl
theorem fs32_1 : fldS Try.prog 32 1 = some 1 := by kernel_rfl
theorem ni32 : (match Try.prog.underlying 32 with | some (.interface _) => false | none => false | _ => true) = true := by kernel_rfl
theorem z32 : zeroC Try.prog 32 = some [.string ⟨#[]⟩, .bool false] := by kernel_rfl
theorem sc33 : scal Try.prog 33 = true := by kernel_rfl
theorem sl33 : slcE Try.prog 33 = some (36, 3, 24) := by kernel_rfl
theorem is33 : isSlc Try.prog 33 = true := by kernel_rfl
theorem ni33 : (match Try.prog.underlying 33 with | some (.interface _) => false | none => false | _ => true) = true := by kernel_rfl
theorem z33 : zeroC Try.prog 33 = some [.slice none 0 0] := by kernel_rfl
theorem sc34 : scal Try.prog 34 = true := by kernel_rfl
theorem ni34 : (match Try.prog.underlying 34 with | some (.interface _) => false | none => false | _ => true) = true := by kernel_rfl
theorem z34 : zeroC Try.prog 34 = some [.nilFunc] := by kernel_rfl
theorem ag35 : aggS Try.prog 35 = some 3 := by kernel_rfl
theorem fo35_0 : fldO Try.prog 35 0 = some 0 := by kernel_rfl
theorem fs35_0 : fldS Try.prog 35 0 = some 0 := by kernel_rfl
theorem fo35_1 : fldO Try.prog 35 1 = some 1 := by kernel_rfl
theorem fs35_1 : fldS Try.prog 35 1 = some 1 := by kernel_rfl
theorem fo35_2 : fldO Try.prog 35 2 = some 2 := by kernel_rfl
theorem fs35_2 : fldS Try.prog 35 2 = some 2 := by kernel_rfl
theorem ni35 : (match Try.prog.underlying 35 with | some (.interface _) => false | none => false | _ => true) = true := by kernel_rfl
theorem z35 : zeroC Try.prog 35 = some [.int .i64 0, .int .i64 0, .int .i64 0] := by kernel_rfl
theorem ag36 : aggS Try.prog 36 = some 3 := by kernel_rfl
theorem fo36_0 : fldO Try.prog 36 0 = some 0 := by kernel_rfl
theorem fs36_0 : fldS Try.prog 36 0 = some 0 := by kernel_rfl
theorem fo36_1 : fldO Try.prog 36 1 = some 1 := by kernel_rfl
theorem fs36_1 : fldS Try.prog 36 1 = some 1 := by kernel_rfl
theorem fo36_2 : fldO Try.prog 36 2 = some 2 := by kernel_rfl
theorem fs36_2 : fldS Try.prog 36 2 = some 2 := by kernel_rfl
theorem ni36 : (match Try.prog.underlying 36 with | some (.interface _) => false | none => false | _ => true) = true := by kernel_rfl
theorem z36 : zeroC Try.prog 36 = some [.int .i64 0, .int .i64 0, .int .i64 0] := by kernel_rfl
theorem sc37 : scal Try.prog 37 = true := by kernel_rfl
theorem sl37 : slcE Try.prog 37 = some (40, 4, 32) := by kernel_rfl
theorem is37 : isSlc Try.prog 37 = true := by kernel_rfl
theorem ni37 : (match Try.prog.underlying 37 with | some (.interface _) => false | none => false | _ => true) = true := by kernel_rfl
theorem z37 : zeroC Try.prog 37 = some [.slice none 0 0] := by kernel_rfl
theorem sc38 : scal Try.prog 38 = true := by kernel_rfl
theorem ni38 : (match Try.prog.underlying 38 with | some (.interface _) => false | none => false | _ => true) = true := by kernel_rfl
theorem z38 : zeroC Try.prog 38 = some [.nilFunc] := by kernel_rfl
theorem ag39 : aggS Try.prog 39 = some 4 := by kernel_rfl
theorem fo39_0 : fldO Try.prog 39 0 = some 0 := by kernel_rfl
theorem fs39_0 : fldS Try.prog 39 0 = some 0 := by kernel_rfl
theorem fo39_1 : fldO Try.prog 39 1 = some 1 := by kernel_rfl
theorem fs39_1 : fldS Try.prog 39 1 = some 1 := by kernel_rfl
theorem fo39_2 : fldO Try.prog 39 2 = some 2 := by kernel_rfl
theorem fs39_2 : fldS Try.prog 39 2 = some 2 := by kernel_rfl
theorem fo39_3 : fldO Try.prog 39 3 = some 3 := by kernel_rfl
theorem fs39_3 : fldS Try.prog 39 3 = some 3 := by kernel_rfl
theorem ni39 : (match Try.prog.underlying 39 with | some (.interface _) => false | none => false | _ => true) = true := by kernel_rfl
theorem z39 : zeroC Try.prog 39 = some [.bool false, .int .i64 0, .int .i64 0, .int .i64 0] := by kernel_rfl
theorem ag40 : aggS Try.prog 40 = some 4 := by kernel_rfl
theorem fo40_0 : fldO Try.prog 40 0 = some 0 := by kernel_rfl
theorem fs40_0 : fldS Try.prog 40 0 = some 0 := by kernel_rfl
theorem fo40_1 : fldO Try.prog 40 1 = some 1 := by kernel_rfl
theorem fs40_1 : fldS Try.prog 40 1 = some 1 := by kernel_rfl
theorem fo40_2 : fldO Try.prog 40 2 = some 2 := by kernel_rfl
theorem fs40_2 : fldS Try.prog 40 2 = some 2 := by kernel_rfl
theorem fo40_3 : fldO Try.prog 40 3 = some 3 := by kernel_rfl
theorem fs40_3 : fldS Try.prog 40 3 = some 3 := by kernel_rfl
theorem ni40 : (match Try.prog.underlying 40 with | some (.interface _) => false | none => false | _ => true) = true := by kernel_rfl
theorem z40 : zeroC Try.prog 40 = some [.bool false, .int .i64 0, .int .i64 0, .int .i64 0] := by kernel_rfl
theorem sc41 : scal Try.prog 41 = true := by kernel_rfl
theorem sl41 : slcE Try.prog 41 = some (47, 2, 16) := by kernel_rfl
theorem is41 : isSlc Try.prog 41 = true := by kernel_rfl
theorem ni41 : (match Try.prog.underlying 41 with | some (.interface _) => false | none => false | _ => true) = true := by kernel_rfl
theorem z41 : zeroC Try.prog 41 = some [.slice none 0 0] := by kernel_rfl
theorem sc42 : scal Try.prog 42 = true := by kernel_rfl
theorem sl42 : slcE Try.prog 42 = some (106, 9, 88) := by kernel_rfl
theorem is42 : isSlc Try.prog 42 = true := by kernel_rfl
theorem ni42 : (match Try.prog.underlying 42 with | some (.interface _) => false | none => false | _ => true) = true := by kernel_rfl
theorem z42 : zeroC Try.prog 42 = some [.slice none 0 0] := by kernel_rfl
theorem sc43 : scal Try.prog 43 = true := by kernel_rfl
theorem ni43 : (match Try.prog.underlying 43 with | some (.interface _) => false | none => false | _ => true) = true := by kernel_rfl
theorem z43 : zeroC Try.prog 43 = some [.nilFunc] := by kernel_rfl
theorem sc44 : scal Try.prog 44 = true := by kernel_rfl
theorem ni44 : (match Try.prog.underlying 44 with | some (.interface _) => false | none => false | _ => true) = true := by kernel_rfl
theorem z44 : zeroC Try.prog 44 = some [.nilFunc] := by kernel_rfl
theorem sc45 : scal Try.prog 45 = true := by kernel_rfl
theorem ni45 : (match Try.prog.underlying 45 with | some (.interface _) => false | none => false | _ => true) = true := by kernel_rfl
theorem z45 : zeroC Try.prog 45 = some [.nilFunc] := by kernel_rfl
theorem ag46 : aggS Try.prog 46 = some 2 := by kernel_rfl
theorem fo46_0 : fldO Try.prog 46 0 = some 0 := by kernel_rfl
theorem fs46_0 : fldS Try.prog 46 0 = some 0 := by kernel_rfl
theorem fo46_1 : fldO Try.prog 46 1 = some 1 := by kernel_rfl
theorem fs46_1 : fldS Try.prog 46 1 = some 1 := by kernel_rfl
theorem ni46 : (match Try.prog.underlying 46 with | some (.interface _) => false | none => false | _ => true) = true := by kernel_rfl
theorem z46 : zeroC Try.prog 46 = some [.int .i64 0, .int .i64 0] := by kernel_rfl
theorem ag47 : aggS Try.prog 47 = some 2 := by kernel_rfl
theorem fo47_0 : fldO Try.prog 47 0 = some 0 := by kernel_rfl
theorem fs47_0 : fldS Try.prog 47 0 = some 0 := by kernel_rfl
theorem fo47_1 : fldO Try.prog 47 1 = some 1 := by kernel_rfl
theorem fs47_1 : fldS Try.prog 47 1 = some 1 := by kernel_rfl
theorem ni47 : (match Try.prog.underlying 47 with | some (.interface _) => false | none => false | _ => true) = true := by kernel_rfl
theorem z47 : zeroC Try.prog 47 = some [.int .i64 0, .int .i64 0] := by kernel_rfl
theorem sc48 : scal Try.prog 48 = true := by kernel_rfl
theorem ni48 : (match Try.prog.underlying 48 with | some (.interface _) => false | none => false | _ => true) = true := by kernel_rfl
theorem z48 : zeroC Try.prog 48 = some [.nilFunc] := by kernel_rfl
theorem sc49 : scal Try.prog 49 = true := by kernel_rfl
theorem ik49 : intK Try.prog 49 = some .u32 := by kernel_rfl
theorem un49 : (Try.prog.underlying 49).isSome = true := by kernel_rfl
theorem ni49 : (match Try.prog.underlying 49 with | some (.interface _) => false | none => false | _ => true) = true := by kernel_rfl
theorem z49 : zeroC Try.prog 49 = some [.int .u32 0] := by kernel_rfl
theorem sc50 : scal Try.prog 50 = true := by kernel_rfl
theorem ni50 : (match Try.prog.underlying 50 with | some (.interface _) => false | none => false | _ => true) = true := by kernel_rfl
theorem z50 : zeroC Try.prog 50 = some [.nilFunc] := by kernel_rfl
theorem sc51 : scal Try.prog 51 = true := by kernel_rfl
theorem ni51 : (match Try.prog.underlying 51 with | some (.interface _) => false | none => false | _ => true) = true := by kernel_rfl
theorem z51 : zeroC Try.prog 51 = some [.nilFunc] := by kernel_rfl
theorem sc52 : scal Try.prog 52 = true := by kernel_rfl
theorem sl52 : slcE Try.prog 52 = some (55, 2, 16) := by kernel_rfl
theorem is52 : isSlc Try.prog 52 = true := by kernel_rfl
theorem ni52 : (match Try.prog.underlying 52 with | some (.interface _) => false | none => false | _ => true) = true := by kernel_rfl
theorem z52 : zeroC Try.prog 52 = some [.slice none 0 0] := by kernel_rfl
theorem sc53 : scal Try.prog 53 = true := by kernel_rfl
theorem sl53 : slcE Try.prog 53 = some (57, 8, 64) := by kernel_rfl
theorem is53 : isSlc Try.prog 53 = true := by kernel_rfl
theorem ni53 : (match Try.prog.underlying 53 with | some (.interface _) => false | none => false | _ => true) = true := by kernel_rfl
theorem z53 : zeroC Try.prog 53 = some [.slice none 0 0] := by kernel_rfl
theorem ag54 : aggS Try.prog 54 = some 2 := by kernel_rfl
theorem fo54_0 : fldO Try.prog 54 0 = some 0 := by kernel_rfl
theorem fs54_0 : fldS Try.prog 54 0 = some 0 := by kernel_rfl
theorem fo54_1 : fldO Try.prog 54 1 = some 1 := by kernel_rfl
theorem fs54_1 : fldS Try.prog 54 1 = some 1 := by kernel_rfl
theorem ni54 : (match Try.prog.underlying 54 with | some (.interface _) => false | none => false | _ => true) = true := by kernel_rfl
theorem z54 : zeroC Try.prog 54 = some [.int .i64 0, .int .i64 0] := by kernel_rfl
theorem ag55 : aggS Try.prog 55 = some 2 := by kernel_rfl
theorem fo55_0 : fldO Try.prog 55 0 = some 0 := by kernel_rfl
theorem fs55_0 : fldS Try.prog 55 0 = some 0 := by kernel_rfl
theorem fo55_1 : fldO Try.prog 55 1 = some 1 := by kernel_rfl
theorem fs55_1 : fldS Try.prog 55 1 = some 1 := by kernel_rfl
theorem ni55 : (match Try.prog.underlying 55 with | some (.interface _) => false | none => false | _ => true) = true := by kernel_rfl
theorem z55 : zeroC Try.prog 55 = some [.int .i64 0, .int .i64 0] := by kernel_rfl
theorem ag56 : aggS Try.prog 56 = some 8 := by kernel_rfl
theorem fo56_0 : fldO Try.prog 56 0 = some 0 := by kernel_rfl
theorem fs56_0 : fldS Try.prog 56 0 = some 0 := by kernel_rfl
theorem fo56_1 : fldO Try.prog 56 1 = some 1 := by kernel_rfl
theorem fs56_1 : fldS Try.prog 56 1 = some 1 := by kernel_rfl
theorem fo56_2 : fldO Try.prog 56 2 = some 2 := by kernel_rfl
theorem fa56_2 : fldA Try.prog 56 2 = some (2, 2) := by kernel_rfl
theorem fo56_3 : fldO Try.prog 56 3 = some 4 := by kernel_rfl
theorem fs56_3 : fldS Try.prog 56 3 = some 4 := by kernel_rfl
theorem fo56_4 : fldO Try.prog 56 4 = some 5 := by kernel_rfl
theorem fs56_4 : fldS Try.prog 56 4 = some 5 := by kernel_rfl
theorem fo56_5 : fldO Try.prog 56 5 = some 6 := by kernel_rfl
theorem fs56_5 : fldS Try.prog 56 5 = some 6 := by kernel_rfl
theorem fo56_6 : fldO Try.prog 56 6 = some 7 := by kernel_rfl
theorem fs56_6 : fldS Try.prog 56 6 = some 7 := by kernel_rfl
theorem ni56 : (match Try.prog.underlying 56 with | some (.interface _) => false | none => false | _ => true) = true := by kernel_rfl
theorem z56 : zeroC Try.prog 56 = some [.int .i64 0, .int .i64 0, .int .i64 0, .int .i64 0, .int .i64 0, .int .i64 0, .int .i64 0, .bool false] := by kernel_rfl
theorem ag57 : aggS Try.prog 57 = some 8 := by kernel_rfl
theorem fo57_0 : fldO Try.prog 57 0 = some 0 := by kernel_rfl
theorem fs57_0 : fldS Try.prog 57 0 = some 0 := by kernel_rfl
theorem fo57_1 : fldO Try.prog 57 1 = some 1 := by kernel_rfl
theorem fs57_1 : fldS Try.prog 57 1 = some 1 := by kernel_rfl
theorem fo57_2 : fldO Try.prog 57 2 = some 2 := by kernel_rfl
theorem fa57_2 : fldA Try.prog 57 2 = some (2, 2) := by kernel_rfl
theorem fo57_3 : fldO Try.prog 57 3 = some 4 := by kernel_rfl
theorem fs57_3 : fldS Try.prog 57 3 = some 4 := by kernel_rfl
theorem fo57_4 : fldO Try.prog 57 4 = some 5 := by kernel_rfl
theorem fs57_4 : fldS Try.prog 57 4 = some 5 := by kernel_rfl
theorem fo57_5 : fldO Try.prog 57 5 = some 6 := by kernel_rfl
theorem fs57_5 : fldS Try.prog 57 5 = some 6 := by kernel_rfl
theorem fo57_6 : fldO Try.prog 57 6 = some 7 := by kernel_rfl
theorem fs57_6 : fldS Try.prog 57 6 = some 7 := by kernel_rfl
theorem ni57 : (match Try.prog.underlying 57 with | some (.interface _) => false | none => false | _ => true) = true := by kernel_rfl
theorem z57 : zeroC Try.prog 57 = some [.int .i64 0, .int .i64 0, .int .i64 0, .int .i64 0, .int .i64 0, .int .i64 0, .int .i64 0, .bool false] := by kernel_rfl
theorem sc58 : scal Try.prog 58 = true := by kernel_rfl
theorem sl58 : slcE Try.prog 58 = some (62, 6, 64) := by kernel_rfl
theorem is58 : isSlc Try.prog 58 = true := by kernel_rfl
theorem ni58 : (match Try.prog.underlying 58 with | some (.interface _) => false | none => false | _ => true) = true := by kernel_rfl
theorem z58 : zeroC Try.prog 58 = some [.slice none 0 0] := by kernel_rfl
theorem sc60 : scal Try.prog 60 = true := by kernel_rfl
theorem ni60 : (match Try.prog.underlying 60 with | some (.interface _) => false | none => false | _ => true) = true := by kernel_rfl
theorem z60 : zeroC Try.prog 60 = some [.nilFunc] := by kernel_rfl
theorem ag61 : aggS Try.prog 61 = some 6 := by kernel_rfl
theorem fo61_0 : fldO Try.prog 61 0 = some 0 := by kernel_rfl
theorem fs61_0 : fldS Try.prog 61 0 = some 0 := by kernel_rfl
theorem fo61_1 : fldO Try.prog 61 1 = some 1 := by kernel_rfl
theorem fs61_1 : fldS Try.prog 61 1 = some 1 := by kernel_rfl
theorem fo61_2 : fldO Try.prog 61 2 = some 2 := by kernel_rfl
theorem fs61_2 : fldS Try.prog 61 2 = some 2 := by kernel_rfl
theorem fo61_3 : fldO Try.prog 61 3 = some 3 := by kernel_rfl
theorem fa61_3 : fldA Try.prog 61 3 = some (3, 2) := by kernel_rfl
theorem fo61_4 : fldO Try.prog 61 4 = some 5 := by kernel_rfl
theorem fs61_4 : fldS Try.prog 61 4 = some 5 := by kernel_rfl
theorem ni61 : (match Try.prog.underlying 61 with | some (.interface _) => false | none => false | _ => true) = true := by kernel_rfl
theorem z61 : zeroC Try.prog 61 = some [.int .i64 0, .bool false, .int .i64 0, .int .i64 0, .int .i64 0, .slice none 0 0] := by kernel_rfl
theorem ag62 : aggS Try.prog 62 = some 6 := by kernel_rfl
theorem fo62_0 : fldO Try.prog 62 0 = some 0 := by kernel_rfl
theorem fs62_0 : fldS Try.prog 62 0 = some 0 := by kernel_rfl
theorem fo62_1 : fldO Try.prog 62 1 = some 1 := by kernel_rfl
theorem fs62_1 : fldS Try.prog 62 1 = some 1 := by kernel_rfl
theorem fo62_2 : fldO Try.prog 62 2 = some 2 := by kernel_rfl
theorem fs62_2 : fldS Try.prog 62 2 = some 2 := by kernel_rfl
theorem fo62_3 : fldO Try.prog 62 3 = some 3 := by kernel_rfl
theorem fa62_3 : fldA Try.prog 62 3 = some (3, 2) := by kernel_rfl
theorem fo62_4 : fldO Try.prog 62 4 = some 5 := by kernel_rfl
theorem fs62_4 : fldS Try.prog 62 4 = some 5 := by kernel_rfl
theorem ni62 : (match Try.prog.underlying 62 with | some (.interface _) => false | none => false | _ => true) = true := by kernel_rfl
theorem z62 : zeroC Try.prog 62 = some [.int .i64 0, .bool false, .int .i64 0, .int .i64 0, .int .i64 0, .slice none 0 0] := by kernel_rfl
theorem sc63 : scal Try.prog 63 = true := by kernel_rfl
theorem ni63 : (match Try.prog.underlying 63 with | some (.interface _) => false | none => false | _ => true) = true := by kernel_rfl
theorem z63 : zeroC Try.prog 63 = some [.nilFunc] := by kernel_rfl
theorem sc64 : scal Try.prog 64 = true := by kernel_rfl
theorem ni64 : (match Try.prog.underlying 64 with | some (.interface _) => false | none => false | _ => true) = true := by kernel_rfl
theorem z64 : zeroC Try.prog 64 = some [.nilFunc] := by kernel_rfl
theorem sc65 : scal Try.prog 65 = true := by kernel_rfl
theorem ni65 : (match Try.prog.underlying 65 with | some (.interface _) => false | none => false | _ => true) = true := by kernel_rfl
theorem z65 : zeroC Try.prog 65 = some [.nilFunc] := by kernel_rfl
theorem sc66 : scal Try.prog 66 = true := by kernel_rfl
theorem ni66 : (match Try.prog.underlying 66 with | some (.interface _) => false | none => false | _ => true) = true := by kernel_rfl
theorem z66 : zeroC Try.prog 66 = some [.nilFunc] := by kernel_rfl
theorem sc67 : scal Try.prog 67 = true := by kernel_rfl
theorem ni67 : (match Try.prog.underlying 67 with | some (.interface _) => false | none => false | _ => true) = true := by kernel_rfl
theorem z67 : zeroC Try.prog 67 = some [.nilFunc] := by kernel_rfl
theorem sc68 : scal Try.prog 68 = true := by kernel_rfl
theorem ni68 : (match Try.prog.underlying 68 with | some (.interface _) => false | none => false | _ => true) = true := by kernel_rfl
theorem z68 : zeroC Try.prog 68 = some [.nilFunc] := by kernel_rfl
theorem sc69 : scal Try.prog 69 = true := by kernel_rfl
theorem ni69 : (match Try.prog.underlying 69 with | some (.interface _) => false | none => false | _ => true) = true := by kernel_rfl
theorem z69 : zeroC Try.prog 69 = some [.nilFunc] := by kernel_rfl
theorem sc70 : scal Try.prog 70 = true := by kernel_rfl
theorem sl70 : slcE Try.prog 70 = some (3, 1, 8) := by kernel_rfl
theorem is70 : isSlc Try.prog 70 = true := by kernel_rfl
theorem ni70 : (match Try.prog.underlying 70 with | some (.interface _) => false | none => false | _ => true) = true := by kernel_rfl
theorem z70 : zeroC Try.prog 70 = some [.slice none 0 0] := by kernel_rfl
theorem ag71 : aggS Try.prog 71 = some 2 := by kernel_rfl
theorem ar71 : arrE Try.prog 71 = some (2, 1) := by kernel_rfl
theorem ni71 : (match Try.prog.underlying 71 with | some (.interface _) => false | none => false | _ => true) = true := by kernel_rfl
theorem z71 : zeroC Try.prog 71 = some [.int .i64 0, .int .i64 0] := by kernel_rfl
theorem ag72 : aggS Try.prog 72 = some 2 := by kernel_rfl
theorem ar72 : arrE Try.prog 72 = some (2, 1) := by kernel_rfl
theorem ni72 : (match Try.prog.underlying 72 with | some (.interface _) => false | none => false | _ => true) = true := by kernel_rfl
theorem z72 : zeroC Try.prog 72 = some [.slice none 0 0, .slice none 0 0] := by kernel_rfl
theorem sc73 : scal Try.prog 73 = true := by kernel_rfl
theorem ni73 : (match Try.prog.underlying 73 with | some (.interface _) => false | none => false | _ => true) = true := by kernel_rfl
theorem z73 : zeroC Try.prog 73 = some [.nilFunc] := by kernel_rfl
theorem sc74 : scal Try.prog 74 = true := by kernel_rfl
theorem ni74 : (match Try.prog.underlying 74 with | some (.interface _) => false | none => false | _ => true) = true := by kernel_rfl
theorem z74 : zeroC Try.prog 74 = some [.nilFunc] := by kernel_rfl
theorem sc75 : scal Try.prog 75 = true := by kernel_rfl
theorem ni75 : (match Try.prog.underlying 75 with | some (.interface _) => false | none => false | _ => true) = true := by kernel_rfl
theorem z75 : zeroC Try.prog 75 = some [.nilFunc] := by kernel_rfl
theorem sc76 : scal Try.prog 76 = true := by kernel_rfl
theorem ip76 : isPtr Try.prog 76 = true := by kernel_rfl
theorem ni76 : (match Try.prog.underlying 76 with | some (.interface _) => false | none => false | _ => true) = true := by kernel_rfl
theorem z76 : zeroC Try.prog 76 = some [.pointer none] := by kernel_rfl
theorem ag77 : aggS Try.prog 77 = some 1 := by kernel_rfl
theorem fo77_0 : fldO Try.prog 77 0 = some 0 := by kernel_rfl
theorem fs77_0 : fldS Try.prog 77 0 = some 0 := by kernel_rfl
theorem ni77 : (match Try.prog.underlying 77 with | some (.interface _) => false | none => false | _ => true) = true := by kernel_rfl
theorem z77 : zeroC Try.prog 77 = some [.slice none 0 0] := by kernel_rfl
theorem ag78 : aggS Try.prog 78 = some 1 := by kernel_rfl
theorem fo78_0 : fldO Try.prog 78 0 = some 0 := by kernel_rfl
theorem fs78_0 : fldS Try.prog 78 0 = some 0 := by kernel_rfl
theorem ni78 : (match Try.prog.underlying 78 with | some (.interface _) => false | none => false | _ => true) = true := by kernel_rfl
theorem z78 : zeroC Try.prog 78 = some [.slice none 0 0] := by kernel_rfl
theorem sc79 : scal Try.prog 79 = true := by kernel_rfl
theorem ip79 : isPtr Try.prog 79 = true := by kernel_rfl
theorem ni79 : (match Try.prog.underlying 79 with | some (.interface _) => false | none => false | _ => true) = true := by kernel_rfl
theorem z79 : zeroC Try.prog 79 = some [.pointer none] := by kernel_rfl
theorem sc80 : scal Try.prog 80 = true := by kernel_rfl
theorem ni80 : (match Try.prog.underlying 80 with | some (.interface _) => false | none => false | _ => true) = true := by kernel_rfl
theorem z80 : zeroC Try.prog 80 = some [.nilFunc] := by kernel_rfl
theorem sc81 : scal Try.prog 81 = true := by kernel_rfl
theorem if81 : isIfc Try.prog 81 = true := by kernel_rfl
theorem z81 : zeroC Try.prog 81 = some [.nilIface] := by kernel_rfl
theorem sc82 : scal Try.prog 82 = true := by kernel_rfl
theorem if82 : isIfc Try.prog 82 = true := by kernel_rfl
theorem z82 : zeroC Try.prog 82 = some [.nilIface] := by kernel_rfl
theorem sc83 : scal Try.prog 83 = true := by kernel_rfl
theorem ni83 : (match Try.prog.underlying 83 with | some (.interface _) => false | none => false | _ => true) = true := by kernel_rfl
theorem z83 : zeroC Try.prog 83 = some [.nilFunc] := by kernel_rfl
theorem sc85 : scal Try.prog 85 = true := by kernel_rfl
theorem ni85 : (match Try.prog.underlying 85 with | some (.interface _) => false | none => false | _ => true) = true := by kernel_rfl
theorem z85 : zeroC Try.prog 85 = some [.nilFunc] := by kernel_rfl
theorem sc86 : scal Try.prog 86 = true := by kernel_rfl
theorem sl86 : slcE Try.prog 86 = some (5, 1, 1) := by kernel_rfl
theorem is86 : isSlc Try.prog 86 = true := by kernel_rfl
theorem by86 : isBytes Try.prog 86 = some 5 := by kernel_rfl
theorem ni86 : (match Try.prog.underlying 86 with | some (.interface _) => false | none => false | _ => true) = true := by kernel_rfl
theorem z86 : zeroC Try.prog 86 = some [.slice none 0 0] := by kernel_rfl
theorem sc87 : scal Try.prog 87 = true := by kernel_rfl
theorem ip87 : isPtr Try.prog 87 = true := by kernel_rfl
theorem ni87 : (match Try.prog.underlying 87 with | some (.interface _) => false | none => false | _ => true) = true := by kernel_rfl
theorem z87 : zeroC Try.prog 87 = some [.pointer none] := by kernel_rfl
theorem sc88 : scal Try.prog 88 = true := by kernel_rfl
theorem ni88 : (match Try.prog.underlying 88 with | some (.interface _) => false | none => false | _ => true) = true := by kernel_rfl
theorem z88 : zeroC Try.prog 88 = some [.nilFunc] := by kernel_rfl
theorem sc89 : scal Try.prog 89 = true := by kernel_rfl
theorem ni89 : (match Try.prog.underlying 89 with | some (.interface _) => false | none => false | _ => true) = true := by kernel_rfl
theorem z89 : zeroC Try.prog 89 = some [.nilFunc] := by kernel_rfl
theorem sc90 : scal Try.prog 90 = true := by kernel_rfl
theorem ip90 : isPtr Try.prog 90 = true := by kernel_rfl
theorem ni90 : (match Try.prog.underlying 90 with | some (.interface _) => false | none => false | _ => true) = true := by kernel_rfl
theorem z90 : zeroC Try.prog 90 = some [.pointer none] := by kernel_rfl
theorem sc91 : scal Try.prog 91 = true := by kernel_rfl
theorem ni91 : (match Try.prog.underlying 91 with | some (.interface _) => false | none => false | _ => true) = true := by kernel_rfl
theorem z91 : zeroC Try.prog 91 = some [.nilFunc] := by kernel_rfl
theorem sc92 : scal Try.prog 92 = true := by kernel_rfl
theorem ik92 : intK Try.prog 92 = some .i64 := by kernel_rfl
theorem un92 : (Try.prog.underlying 92).isSome = true := by kernel_rfl
theorem ni92 : (match Try.prog.underlying 92 with | some (.interface _) => false | none => false | _ => true) = true := by kernel_rfl
theorem z92 : zeroC Try.prog 92 = some [.int .i64 0] := by kernel_rfl
theorem ag93 : aggS Try.prog 93 = some 3 := by kernel_rfl
theorem fo93_0 : fldO Try.prog 93 0 = some 0 := by kernel_rfl
theorem fs93_0 : fldS Try.prog 93 0 = some 0 := by kernel_rfl
theorem fo93_1 : fldO Try.prog 93 1 = some 1 := by kernel_rfl
theorem fs93_1 : fldS Try.prog 93 1 = some 1 := by kernel_rfl
theorem fo93_2 : fldO Try.prog 93 2 = some 2 := by kernel_rfl
theorem fs93_2 : fldS Try.prog 93 2 = some 2 := by kernel_rfl
theorem ni93 : (match Try.prog.underlying 93 with | some (.interface _) => false | none => false | _ => true) = true := by kernel_rfl
theorem z93 : zeroC Try.prog 93 = some [.int .i64 0, .int .i64 0, .bool false] := by kernel_rfl
theorem ag94 : aggS Try.prog 94 = some 3 := by kernel_rfl
theorem fo94_0 : fldO Try.prog 94 0 = some 0 := by kernel_rfl
theorem fs94_0 : fldS Try.prog 94 0 = some 0 := by kernel_rfl
theorem fo94_1 : fldO Try.prog 94 1 = some 1 := by kernel_rfl
theorem fs94_1 : fldS Try.prog 94 1 = some 1 := by kernel_rfl
theorem fo94_2 : fldO Try.prog 94 2 = some 2 := by kernel_rfl
theorem fs94_2 : fldS Try.prog 94 2 = some 2 := by kernel_rfl
theorem ni94 : (match Try.prog.underlying 94 with | some (.interface _) => false | none => false | _ => true) = true := by kernel_rfl
theorem z94 : zeroC Try.prog 94 = some [.int .i64 0, .int .i64 0, .bool false] := by kernel_rfl
theorem sc95 : scal Try.prog 95 = true := by kernel_rfl
theorem ni95 : (match Try.prog.underlying 95 with | some (.interface _) => false | none => false | _ => true) = true := by kernel_rfl
theorem z95 : zeroC Try.prog 95 = some [.nilFunc] := by kernel_rfl
theorem sc96 : scal Try.prog 96 = true := by kernel_rfl
theorem ni96 : (match Try.prog.underlying 96 with | some (.interface _) => false | none => false | _ => true) = true := by kernel_rfl
theorem z96 : zeroC Try.prog 96 = some [.nilFunc] := by kernel_rfl
theorem sc98 : scal Try.prog 98 = true := by kernel_rfl
theorem ni98 : (match Try.prog.underlying 98 with | some (.interface _) => false | none => false | _ => true) = true := by kernel_rfl
theorem z98 : zeroC Try.prog 98 = some [.nilFunc] := by kernel_rfl
theorem sc99 : scal Try.prog 99 = true := by kernel_rfl
theorem ni99 : (match Try.prog.underlying 99 with | some (.interface _) => false | none => false | _ => true) = true := by kernel_rfl
theorem z99 : zeroC Try.prog 99 = some [.nilFunc] := by kernel_rfl
theorem sc100 : scal Try.prog 100 = true := by kernel_rfl
theorem ni100 : (match Try.prog.underlying 100 with | some (.interface _) => false | none => false | _ => true) = true := by kernel_rfl
theorem z100 : zeroC Try.prog 100 = some [.nilFunc] := by kernel_rfl
theorem sc101 : scal Try.prog 101 = true := by kernel_rfl
theorem ni101 : (match Try.prog.underlying 101 with | some (.interface _) => false | none => false | _ => true) = true := by kernel_rfl
theorem z101 : zeroC Try.prog 101 = some [.nilFunc] := by kernel_rfl
theorem sc102 : scal Try.prog 102 = true := by kernel_rfl
theorem ni102 : (match Try.prog.underlying 102 with | some (.interface _) => false | none => false | _ => true) = true := by kernel_rfl
theorem z102 : zeroC Try.prog 102 = some [.nilFunc] := by kernel_rfl
theorem ag103 : aggS Try.prog 103 = some 6 := by kernel_rfl
theorem fo103_0 : fldO Try.prog 103 0 = some 0 := by kernel_rfl
theorem fs103_0 : fldS Try.prog 103 0 = some 0 := by kernel_rfl
theorem fo103_1 : fldO Try.prog 103 1 = some 1 := by kernel_rfl
theorem fs103_1 : fldS Try.prog 103 1 = some 1 := by kernel_rfl
theorem fo103_2 : fldO Try.prog 103 2 = some 2 := by kernel_rfl
theorem fs103_2 : fldS Try.prog 103 2 = some 2 := by kernel_rfl
theorem fo103_3 : fldO Try.prog 103 3 = some 3 := by kernel_rfl
theorem fs103_3 : fldS Try.prog 103 3 = some 3 := by kernel_rfl
theorem fo103_4 : fldO Try.prog 103 4 = some 4 := by kernel_rfl
theorem fs103_4 : fldS Try.prog 103 4 = some 4 := by kernel_rfl
theorem fo103_5 : fldO Try.prog 103 5 = some 5 := by kernel_rfl
theorem fs103_5 : fldS Try.prog 103 5 = some 5 := by kernel_rfl
theorem ni103 : (match Try.prog.underlying 103 with | some (.interface _) => false | none => false | _ => true) = true := by kernel_rfl
theorem z103 : zeroC Try.prog 103 = some [.string ⟨#[]⟩, .string ⟨#[]⟩, .int .i64 0, .int .i64 0, .int .i64 0, .int .i64 0] := by kernel_rfl
theorem ag104 : aggS Try.prog 104 = some 6 := by kernel_rfl
theorem fo104_0 : fldO Try.prog 104 0 = some 0 := by kernel_rfl
theorem fs104_0 : fldS Try.prog 104 0 = some 0 := by kernel_rfl
theorem fo104_1 : fldO Try.prog 104 1 = some 1 := by kernel_rfl
theorem fs104_1 : fldS Try.prog 104 1 = some 1 := by kernel_rfl
theorem fo104_2 : fldO Try.prog 104 2 = some 2 := by kernel_rfl
theorem fs104_2 : fldS Try.prog 104 2 = some 2 := by kernel_rfl
theorem fo104_3 : fldO Try.prog 104 3 = some 3 := by kernel_rfl
theorem fs104_3 : fldS Try.prog 104 3 = some 3 := by kernel_rfl
theorem fo104_4 : fldO Try.prog 104 4 = some 4 := by kernel_rfl
theorem fs104_4 : fldS Try.prog 104 4 = some 4 := by kernel_rfl
theorem fo104_5 : fldO Try.prog 104 5 = some 5 := by kernel_rfl
theorem fs104_5 : fldS Try.prog 104 5 = some 5 := by kernel_rfl
theorem ni104 : (match Try.prog.underlying 104 with | some (.interface _) => false | none => false | _ => true) = true := by kernel_rfl
theorem z104 : zeroC Try.prog 104 = some [.string ⟨#[]⟩, .string ⟨#[]⟩, .int .i64 0, .int .i64 0, .int .i64 0, .int .i64 0] := by kernel_rfl
theorem ag105 : aggS Try.prog 105 = some 9 := by kernel_rfl
theorem fo105_0 : fldO Try.prog 105 0 = some 0 := by kernel_rfl
theorem fa105_0 : fldA Try.prog 105 0 = some (0, 2) := by kernel_rfl
theorem fo105_1 : fldO Try.prog 105 1 = some 2 := by kernel_rfl
theorem fs105_1 : fldS Try.prog 105 1 = some 2 := by kernel_rfl
theorem fo105_2 : fldO Try.prog 105 2 = some 3 := by kernel_rfl
theorem fa105_2 : fldA Try.prog 105 2 = some (3, 6) := by kernel_rfl
theorem ni105 : (match Try.prog.underlying 105 with | some (.interface _) => false | none => false | _ => true) = true := by kernel_rfl
theorem z105 : zeroC Try.prog 105 = some [.int .i64 0, .int .i64 0, .bool false, .string ⟨#[]⟩, .string ⟨#[]⟩, .int .i64 0, .int .i64 0, .int .i64 0, .int .i64 0] := by kernel_rfl
theorem ag106 : aggS Try.prog 106 = some 9 := by kernel_rfl
theorem fo106_0 : fldO Try.prog 106 0 = some 0 := by kernel_rfl
theorem fa106_0 : fldA Try.prog 106 0 = some (0, 2) := by kernel_rfl
theorem fo106_1 : fldO Try.prog 106 1 = some 2 := by kernel_rfl
theorem fs106_1 : fldS Try.prog 106 1 = some 2 := by kernel_rfl
theorem fo106_2 : fldO Try.prog 106 2 = some 3 := by kernel_rfl
theorem fa106_2 : fldA Try.prog 106 2 = some (3, 6) := by kernel_rfl
theorem ni106 : (match Try.prog.underlying 106 with | some (.interface _) => false | none => false | _ => true) = true := by kernel_rfl
theorem z106 : zeroC Try.prog 106 = some [.int .i64 0, .int .i64 0, .bool false, .string ⟨#[]⟩, .string ⟨#[]⟩, .int .i64 0, .int .i64 0, .int .i64 0, .int .i64 0] := by kernel_rfl
theorem sc107 : scal Try.prog 107 = true := by kernel_rfl
theorem ni107 : (match Try.prog.underlying 107 with | some (.interface _) => false | none => false | _ => true) = true := by kernel_rfl
theorem z107 : zeroC Try.prog 107 = some [.nilFunc] := by kernel_rfl
theorem sc108 : scal Try.prog 108 = true := by kernel_rfl
theorem sl108 : slcE Try.prog 108 = some (41, 1, 24) := by kernel_rfl
theorem is108 : isSlc Try.prog 108 = true := by kernel_rfl
theorem ni108 : (match Try.prog.underlying 108 with | some (.interface _) => false | none => false | _ => true) = true := by kernel_rfl
theorem z108 : zeroC Try.prog 108 = some [.slice none 0 0] := by kernel_rfl
theorem sc109 : scal Try.prog 109 = true := by kernel_rfl
theorem ni109 : (match Try.prog.underlying 109 with | some (.interface _) => false | none => false | _ => true) = true := by kernel_rfl
theorem z109 : zeroC Try.prog 109 = some [.nilFunc] := by kernel_rfl
theorem sc110 : scal Try.prog 110 = true := by kernel_rfl
theorem ni110 : (match Try.prog.underlying 110 with | some (.interface _) => false | none => false | _ => true) = true := by kernel_rfl
theorem z110 : zeroC Try.prog 110 = some [.nilFunc] := by kernel_rfl
theorem sc111 : scal Try.prog 111 = true := by kernel_rfl
theorem sl111 : slcE Try.prog 111 = some (144, 2, 16) := by kernel_rfl
theorem is111 : isSlc Try.prog 111 = true := by kernel_rfl
theorem ni111 : (match Try.prog.underlying 111 with | some (.interface _) => false | none => false | _ => true) = true := by kernel_rfl
theorem z111 : zeroC Try.prog 111 = some [.slice none 0 0] := by kernel_rfl
theorem sc112 : scal Try.prog 112 = true := by kernel_rfl
theorem ni112 : (match Try.prog.underlying 112 with | some (.interface _) => false | none => false | _ => true) = true := by kernel_rfl
theorem z112 : zeroC Try.prog 112 = some [.nilFunc] := by kernel_rfl
theorem sc113 : scal Try.prog 113 = true := by kernel_rfl
theorem sl113 : slcE Try.prog 113 = some (164, 4, 32) := by kernel_rfl
theorem is113 : isSlc Try.prog 113 = true := by kernel_rfl
theorem ni113 : (match Try.prog.underlying 113 with | some (.interface _) => false | none => false | _ => true) = true := by kernel_rfl
theorem z113 : zeroC Try.prog 113 = some [.slice none 0 0] := by kernel_rfl
theorem sc114 : scal Try.prog 114 = true := by kernel_rfl
theorem ni114 : (match Try.prog.underlying 114 with | some (.interface _) => false | none => false | _ => true) = true := by kernel_rfl
theorem z114 : zeroC Try.prog 114 = some [.nilFunc] := by kernel_rfl
theorem sc115 : scal Try.prog 115 = true := by kernel_rfl
theorem ip115 : isPtr Try.prog 115 = true := by kernel_rfl
theorem ni115 : (match Try.prog.underlying 115 with | some (.interface _) => false | none => false | _ => true) = true := by kernel_rfl
theorem z115 : zeroC Try.prog 115 = some [.pointer none] := by kernel_rfl
theorem sc116 : scal Try.prog 116 = true := by kernel_rfl
theorem ni116 : (match Try.prog.underlying 116 with | some (.interface _) => false | none => false | _ => true) = true := by kernel_rfl
theorem z116 : zeroC Try.prog 116 = some [.nilFunc] := by kernel_rfl
theorem sc117 : scal Try.prog 117 = true := by kernel_rfl
theorem ni117 : (match Try.prog.underlying 117 with | some (.interface _) => false | none => false | _ => true) = true := by kernel_rfl
theorem z117 : zeroC Try.prog 117 = some [.nilFunc] := by kernel_rfl
theorem sc118 : scal Try.prog 118 = true := by kernel_rfl
theorem sl118 : slcE Try.prog 118 = some (115, 1, 8) := by kernel_rfl
theorem is118 : isSlc Try.prog 118 = true := by kernel_rfl
theorem ni118 : (match Try.prog.underlying 118 with | some (.interface _) => false | none => false | _ => true) = true := by kernel_rfl
theorem z118 : zeroC Try.prog 118 = some [.slice none 0 0] := by kernel_rfl
theorem sc119 : scal Try.prog 119 = true := by kernel_rfl
theorem ni119 : (match Try.prog.underlying 119 with | some (.interface _) => false | none => false | _ => true) = true := by kernel_rfl
theorem z119 : zeroC Try.prog 119 = some [.nilFunc] := by kernel_rfl
theorem sc120 : scal Try.prog 120 = true := by kernel_rfl
theorem ni120 : (match Try.prog.underlying 120 with | some (.interface _) => false | none => false | _ => true) = true := by kernel_rfl
theorem z120 : zeroC Try.prog 120 = some [.nilFunc] := by kernel_rfl
theorem sc121 : scal Try.prog 121 = true := by kernel_rfl
theorem if121 : isIfc Try.prog 121 = true := by kernel_rfl
theorem z121 : zeroC Try.prog 121 = some [.nilIface] := by kernel_rfl
theorem sc122 : scal Try.prog 122 = true := by kernel_rfl
theorem if122 : isIfc Try.prog 122 = true := by kernel_rfl
theorem z122 : zeroC Try.prog 122 = some [.nilIface] := by kernel_rfl
theorem sc123 : scal Try.prog 123 = true := by kernel_rfl
theorem ni123 : (match Try.prog.underlying 123 with | some (.interface _) => false | none => false | _ => true) = true := by kernel_rfl
theorem z123 : zeroC Try.prog 123 = some [.nilFunc] := by kernel_rfl
theorem ag124 : aggS Try.prog 124 = some 6 := by kernel_rfl
theorem fo124_0 : fldO Try.prog 124 0 = some 0 := by kernel_rfl
theorem fs124_0 : fldS Try.prog 124 0 = some 0 := by kernel_rfl
theorem fo124_1 : fldO Try.prog 124 1 = some 1 := by kernel_rfl
theorem fs124_1 : fldS Try.prog 124 1 = some 1 := by kernel_rfl
theorem fo124_2 : fldO Try.prog 124 2 = some 2 := by kernel_rfl
theorem fs124_2 : fldS Try.prog 124 2 = some 2 := by kernel_rfl
theorem fo124_3 : fldO Try.prog 124 3 = some 3 := by kernel_rfl
theorem fs124_3 : fldS Try.prog 124 3 = some 3 := by kernel_rfl
theorem fo124_4 : fldO Try.prog 124 4 = some 4 := by kernel_rfl
theorem fs124_4 : fldS Try.prog 124 4 = some 4 := by kernel_rfl
theorem fo124_5 : fldO Try.prog 124 5 = some 5 := by kernel_rfl
theorem fs124_5 : fldS Try.prog 124 5 = some 5 := by kernel_rfl
theorem ni124 : (match Try.prog.underlying 124 with | some (.interface _) => false | none => false | _ => true) = true := by kernel_rfl
theorem z124 : zeroC Try.prog 124 = some [.nilIface, .int .i64 0, .int .i64 0, .int .i64 0, .slice none 0 0, .int .i64 0] := by kernel_rfl
theorem ag125 : aggS Try.prog 125 = some 6 := by kernel_rfl
theorem fo125_0 : fldO Try.prog 125 0 = some 0 := by kernel_rfl
theorem fs125_0 : fldS Try.prog 125 0 = some 0 := by kernel_rfl
theorem fo125_1 : fldO Try.prog 125 1 = some 1 := by kernel_rfl
theorem fs125_1 : fldS Try.prog 125 1 = some 1 := by kernel_rfl
theorem fo125_2 : fldO Try.prog 125 2 = some 2 := by kernel_rfl
theorem fs125_2 : fldS Try.prog 125 2 = some 2 := by kernel_rfl
theorem fo125_3 : fldO Try.prog 125 3 = some 3 := by kernel_rfl
theorem fs125_3 : fldS Try.prog 125 3 = some 3 := by kernel_rfl
theorem fo125_4 : fldO Try.prog 125 4 = some 4 := by kernel_rfl
theorem fs125_4 : fldS Try.prog 125 4 = some 4 := by kernel_rfl
theorem fo125_5 : fldO Try.prog 125 5 = some 5 := by kernel_rfl
theorem fs125_5 : fldS Try.prog 125 5 = some 5 := by kernel_rfl
theorem ni125 : (match Try.prog.underlying 125 with | some (.interface _) => false | none => false | _ => true) = true := by kernel_rfl
theorem z125 : zeroC Try.prog 125 = some [.nilIface, .int .i64 0, .int .i64 0, .int .i64 0, .slice none 0 0, .int .i64 0] := by kernel_rfl
theorem sc126 : scal Try.prog 126 = true := by kernel_rfl
theorem ni126 : (match Try.prog.underlying 126 with | some (.interface _) => false | none => false | _ => true) = true := by kernel_rfl
theorem z126 : zeroC Try.prog 126 = some [.nilFunc] := by kernel_rfl
theorem sc128 : scal Try.prog 128 = true := by kernel_rfl
theorem ni128 : (match Try.prog.underlying 128 with | some (.interface _) => false | none => false | _ => true) = true := by kernel_rfl
theorem z128 : zeroC Try.prog 128 = some [.map none] := by kernel_rfl
theorem sc129 : scal Try.prog 129 = true := by kernel_rfl
theorem sl129 : slcE Try.prog 129 = some (90, 1, 8) := by kernel_rfl
theorem is129 : isSlc Try.prog 129 = true := by kernel_rfl
theorem ni129 : (match Try.prog.underlying 129 with | some (.interface _) => false | none => false | _ => true) = true := by kernel_rfl
theorem z129 : zeroC Try.prog 129 = some [.slice none 0 0] := by kernel_rfl
theorem sc130 : scal Try.prog 130 = true := by kernel_rfl
theorem sl130 : slcE Try.prog 130 = some (90, 1, 8) := by kernel_rfl
theorem is130 : isSlc Try.prog 130 = true := by kernel_rfl
theorem ni130 : (match Try.prog.underlying 130 with | some (.interface _) => false | none => false | _ => true) = true := by kernel_rfl
theorem z130 : zeroC Try.prog 130 = some [.slice none 0 0] := by kernel_rfl
theorem ag131 : aggS Try.prog 131 = some 2 := by kernel_rfl
theorem fo131_0 : fldO Try.prog 131 0 = some 0 := by kernel_rfl
theorem fs131_0 : fldS Try.prog 131 0 = some 0 := by kernel_rfl
theorem fo131_1 : fldO Try.prog 131 1 = some 1 := by kernel_rfl
theorem fs131_1 : fldS Try.prog 131 1 = some 1 := by kernel_rfl
theorem ni131 : (match Try.prog.underlying 131 with | some (.interface _) => false | none => false | _ => true) = true := by kernel_rfl
theorem z131 : zeroC Try.prog 131 = some [.map none, .slice none 0 0] := by kernel_rfl
theorem ag132 : aggS Try.prog 132 = some 2 := by kernel_rfl
theorem fo132_0 : fldO Try.prog 132 0 = some 0 := by kernel_rfl
theorem fs132_0 : fldS Try.prog 132 0 = some 0 := by kernel_rfl
theorem fo132_1 : fldO Try.prog 132 1 = some 1 := by kernel_rfl
theorem fs132_1 : fldS Try.prog 132 1 = some 1 := by kernel_rfl
theorem ni132 : (match Try.prog.underlying 132 with | some (.interface _) => false | none => false | _ => true) = true := by kernel_rfl
theorem z132 : zeroC Try.prog 132 = some [.map none, .slice none 0 0] := by kernel_rfl
theorem ag133 : aggS Try.prog 133 = some 5 := by kernel_rfl
theorem fo133_0 : fldO Try.prog 133 0 = some 0 := by kernel_rfl
theorem fs133_0 : fldS Try.prog 133 0 = some 0 := by kernel_rfl
theorem fo133_1 : fldO Try.prog 133 1 = some 1 := by kernel_rfl
theorem fa133_1 : fldA Try.prog 133 1 = some (1, 3) := by kernel_rfl
theorem fo133_2 : fldO Try.prog 133 2 = some 4 := by kernel_rfl
theorem fs133_2 : fldS Try.prog 133 2 = some 4 := by kernel_rfl
theorem ni133 : (match Try.prog.underlying 133 with | some (.interface _) => false | none => false | _ => true) = true := by kernel_rfl
theorem z133 : zeroC Try.prog 133 = some [.int .i64 0, .int .i64 0, .int .i64 0, .bool false, .int .i64 0] := by kernel_rfl
theorem ag134 : aggS Try.prog 134 = some 5 := by kernel_rfl
theorem fo134_0 : fldO Try.prog 134 0 = some 0 := by kernel_rfl
theorem fs134_0 : fldS Try.prog 134 0 = some 0 := by kernel_rfl
theorem fo134_1 : fldO Try.prog 134 1 = some 1 := by kernel_rfl
theorem fa134_1 : fldA Try.prog 134 1 = some (1, 3) := by kernel_rfl
theorem fo134_2 : fldO Try.prog 134 2 = some 4 := by kernel_rfl
theorem fs134_2 : fldS Try.prog 134 2 = some 4 := by kernel_rfl
theorem ni134 : (match Try.prog.underlying 134 with | some (.interface _) => false | none => false | _ => true) = true := by kernel_rfl
theorem z134 : zeroC Try.prog 134 = some [.int .i64 0, .int .i64 0, .int .i64 0, .bool false, .int .i64 0] := by kernel_rfl
theorem sc135 : scal Try.prog 135 = true := by kernel_rfl
theorem ni135 : (match Try.prog.underlying 135 with | some (.interface _) => false | none => false | _ => true) = true := by kernel_rfl
theorem z135 : zeroC Try.prog 135 = some [.nilFunc] := by kernel_rfl
theorem sc136 : scal Try.prog 136 = true := by kernel_rfl
theorem ip136 : isPtr Try.prog 136 = true := by kernel_rfl
theorem ni136 : (match Try.prog.underlying 136 with | some (.interface _) => false | none => false | _ => true) = true := by kernel_rfl
theorem z136 : zeroC Try.prog 136 = some [.pointer none] := by kernel_rfl
theorem sc137 : scal Try.prog 137 = true := by kernel_rfl
theorem ni137 : (match Try.prog.underlying 137 with | some (.interface _) => false | none => false | _ => true) = true := by kernel_rfl
theorem z137 : zeroC Try.prog 137 = some [.nilFunc] := by kernel_rfl
theorem sc138 : scal Try.prog 138 = true := by kernel_rfl
theorem ni138 : (match Try.prog.underlying 138 with | some (.interface _) => false | none => false | _ => true) = true := by kernel_rfl
theorem z138 : zeroC Try.prog 138 = some [.nilFunc] := by kernel_rfl
theorem sc139 : scal Try.prog 139 = true := by kernel_rfl
theorem ik139 : intK Try.prog 139 = some .i64 := by kernel_rfl
theorem un139 : (Try.prog.underlying 139).isSome = true := by kernel_rfl
theorem ni139 : (match Try.prog.underlying 139 with | some (.interface _) => false | none => false | _ => true) = true := by kernel_rfl
theorem z139 : zeroC Try.prog 139 = some [.int .i64 0] := by kernel_rfl
theorem sc140 : scal Try.prog 140 = true := by kernel_rfl
theorem ni140 : (match Try.prog.underlying 140 with | some (.interface _) => false | none => false | _ => true) = true := by kernel_rfl
theorem z140 : zeroC Try.prog 140 = some [.nilFunc] := by kernel_rfl
theorem sc141 : scal Try.prog 141 = true := by kernel_rfl
theorem ni141 : (match Try.prog.underlying 141 with | some (.interface _) => false | none => false | _ => true) = true := by kernel_rfl
theorem z141 : zeroC Try.prog 141 = some [.nilFunc] := by kernel_rfl
theorem sc142 : scal Try.prog 142 = true := by kernel_rfl
theorem ni142 : (match Try.prog.underlying 142 with | some (.interface _) => false | none => false | _ => true) = true := by kernel_rfl
theorem z142 : zeroC Try.prog 142 = some [.nilFunc] := by kernel_rfl
theorem sc143 : scal Try.prog 143 = true := by kernel_rfl
theorem ni143 : (match Try.prog.underlying 143 with | some (.interface _) => false | none => false | _ => true) = true := by kernel_rfl
theorem z143 : zeroC Try.prog 143 = some [.map none] := by kernel_rfl
theorem ag144 : aggS Try.prog 144 = some 2 := by kernel_rfl
theorem fo144_0 : fldO Try.prog 144 0 = some 0 := by kernel_rfl
theorem fs144_0 : fldS Try.prog 144 0 = some 0 := by kernel_rfl
theorem fo144_1 : fldO Try.prog 144 1 = some 1 := by kernel_rfl
theorem fs144_1 : fldS Try.prog 144 1 = some 1 := by kernel_rfl
theorem ni144 : (match Try.prog.underlying 144 with | some (.interface _) => false | none => false | _ => true) = true := by kernel_rfl
theorem z144 : zeroC Try.prog 144 = some [.int .i64 0, .int .i64 0] := by kernel_rfl
theorem ag145 : aggS Try.prog 145 = some 0 := by kernel_rfl
theorem ni145 : (match Try.prog.underlying 145 with | some (.interface _) => false | none => false | _ => true) = true := by kernel_rfl
theorem z145 : zeroC Try.prog 145 = some [] := by kernel_rfl
theorem sc146 : scal Try.prog 146 = true := by kernel_rfl
theorem ip146 : isPtr Try.prog 146 = true := by kernel_rfl
theorem ni146 : (match Try.prog.underlying 146 with | some (.interface _) => false | none => false | _ => true) = true := by kernel_rfl
theorem z146 : zeroC Try.prog 146 = some [.pointer none] := by kernel_rfl
theorem ag147 : aggS Try.prog 147 = some 4 := by kernel_rfl
theorem fo147_0 : fldO Try.prog 147 0 = some 0 := by kernel_rfl
theorem fs147_0 : fldS Try.prog 147 0 = some 0 := by kernel_rfl
theorem fo147_1 : fldO Try.prog 147 1 = some 1 := by kernel_rfl
theorem fs147_1 : fldS Try.prog 147 1 = some 1 := by kernel_rfl
theorem fo147_2 : fldO Try.prog 147 2 = some 2 := by kernel_rfl
theorem fs147_2 : fldS Try.prog 147 2 = some 2 := by kernel_rfl
theorem fo147_3 : fldO Try.prog 147 3 = some 3 := by kernel_rfl
theorem fs147_3 : fldS Try.prog 147 3 = some 3 := by kernel_rfl
theorem ni147 : (match Try.prog.underlying 147 with | some (.interface _) => false | none => false | _ => true) = true := by kernel_rfl
theorem z147 : zeroC Try.prog 147 = some [.pointer none, .int .i64 0, .int .i64 0, .map none] := by kernel_rfl
theorem ag148 : aggS Try.prog 148 = some 4 := by kernel_rfl
theorem fo148_0 : fldO Try.prog 148 0 = some 0 := by kernel_rfl
theorem fs148_0 : fldS Try.prog 148 0 = some 0 := by kernel_rfl
theorem fo148_1 : fldO Try.prog 148 1 = some 1 := by kernel_rfl
theorem fs148_1 : fldS Try.prog 148 1 = some 1 := by kernel_rfl
theorem fo148_2 : fldO Try.prog 148 2 = some 2 := by kernel_rfl
theorem fs148_2 : fldS Try.prog 148 2 = some 2 := by kernel_rfl
theorem fo148_3 : fldO Try.prog 148 3 = some 3 := by kernel_rfl
theorem fs148_3 : fldS Try.prog 148 3 = some 3 := by kernel_rfl
theorem ni148 : (match Try.prog.underlying 148 with | some (.interface _) => false | none => false | _ => true) = true := by kernel_rfl
theorem z148 : zeroC Try.prog 148 = some [.pointer none, .int .i64 0, .int .i64 0, .map none] := by kernel_rfl
theorem sc149 : scal Try.prog 149 = true := by kernel_rfl
theorem ni149 : (match Try.prog.underlying 149 with | some (.interface _) => false | none => false | _ => true) = true := by kernel_rfl
theorem z149 : zeroC Try.prog 149 = some [.nilFunc] := by kernel_rfl
theorem sc150 : scal Try.prog 150 = true := by kernel_rfl
theorem sl150 : slcE Try.prog 150 = some (86, 1, 24) := by kernel_rfl
theorem is150 : isSlc Try.prog 150 = true := by kernel_rfl
theorem ni150 : (match Try.prog.underlying 150 with | some (.interface _) => false | none => false | _ => true) = true := by kernel_rfl
theorem z150 : zeroC Try.prog 150 = some [.slice none 0 0] := by kernel_rfl
theorem sc152 : scal Try.prog 152 = true := by kernel_rfl
theorem ni152 : (match Try.prog.underlying 152 with | some (.interface _) => false | none => false | _ => true) = true := by kernel_rfl
theorem z152 : zeroC Try.prog 152 = some [.nilFunc] := by kernel_rfl
theorem sc153 : scal Try.prog 153 = true := by kernel_rfl
theorem ni153 : (match Try.prog.underlying 153 with | some (.interface _) => false | none => false | _ => true) = true := by kernel_rfl
theorem z153 : zeroC Try.prog 153 = some [.nilFunc] := by kernel_rfl
theorem ag154 : aggS Try.prog 154 = some 3 := by kernel_rfl
theorem fo154_0 : fldO Try.prog 154 0 = some 0 := by kernel_rfl
theorem fs154_0 : fldS Try.prog 154 0 = some 0 := by kernel_rfl
theorem fo154_1 : fldO Try.prog 154 1 = some 1 := by kernel_rfl
theorem fs154_1 : fldS Try.prog 154 1 = some 1 := by kernel_rfl
theorem fo154_2 : fldO Try.prog 154 2 = some 2 := by kernel_rfl
theorem fs154_2 : fldS Try.prog 154 2 = some 2 := by kernel_rfl
theorem ni154 : (match Try.prog.underlying 154 with | some (.interface _) => false | none => false | _ => true) = true := by kernel_rfl
theorem z154 : zeroC Try.prog 154 = some [.int .u32 0, .int .i64 0, .int .i64 0] := by kernel_rfl
theorem ag155 : aggS Try.prog 155 = some 3 := by kernel_rfl
theorem fo155_0 : fldO Try.prog 155 0 = some 0 := by kernel_rfl
theorem fs155_0 : fldS Try.prog 155 0 = some 0 := by kernel_rfl
theorem fo155_1 : fldO Try.prog 155 1 = some 1 := by kernel_rfl
theorem fs155_1 : fldS Try.prog 155 1 = some 1 := by kernel_rfl
theorem fo155_2 : fldO Try.prog 155 2 = some 2 := by kernel_rfl
theorem fs155_2 : fldS Try.prog 155 2 = some 2 := by kernel_rfl
theorem ni155 : (match Try.prog.underlying 155 with | some (.interface _) => false | none => false | _ => true) = true := by kernel_rfl
theorem z155 : zeroC Try.prog 155 = some [.int .u32 0, .int .i64 0, .int .i64 0] := by kernel_rfl
theorem sc156 : scal Try.prog 156 = true := by kernel_rfl
theorem ni156 : (match Try.prog.underlying 156 with | some (.interface _) => false | none => false | _ => true) = true := by kernel_rfl
theorem z156 : zeroC Try.prog 156 = some [.nilFunc] := by kernel_rfl
theorem sc157 : scal Try.prog 157 = true := by kernel_rfl
theorem ni157 : (match Try.prog.underlying 157 with | some (.interface _) => false | none => false | _ => true) = true := by kernel_rfl
theorem z157 : zeroC Try.prog 157 = some [.nilFunc] := by kernel_rfl
theorem ag158 : aggS Try.prog 158 = some 3 := by kernel_rfl
theorem fo158_0 : fldO Try.prog 158 0 = some 0 := by kernel_rfl
theorem fa158_0 : fldA Try.prog 158 0 = some (0, 2) := by kernel_rfl
theorem fo158_1 : fldO Try.prog 158 1 = some 2 := by kernel_rfl
theorem fs158_1 : fldS Try.prog 158 1 = some 2 := by kernel_rfl
theorem ni158 : (match Try.prog.underlying 158 with | some (.interface _) => false | none => false | _ => true) = true := by kernel_rfl
theorem z158 : zeroC Try.prog 158 = some [.int .i64 0, .int .i64 0, .bool false] := by kernel_rfl
theorem ag159 : aggS Try.prog 159 = some 3 := by kernel_rfl
theorem fo159_0 : fldO Try.prog 159 0 = some 0 := by kernel_rfl
theorem fa159_0 : fldA Try.prog 159 0 = some (0, 2) := by kernel_rfl
theorem fo159_1 : fldO Try.prog 159 1 = some 2 := by kernel_rfl
theorem fs159_1 : fldS Try.prog 159 1 = some 2 := by kernel_rfl
theorem ni159 : (match Try.prog.underlying 159 with | some (.interface _) => false | none => false | _ => true) = true := by kernel_rfl
theorem z159 : zeroC Try.prog 159 = some [.int .i64 0, .int .i64 0, .bool false] := by kernel_rfl
theorem sc160 : scal Try.prog 160 = true := by kernel_rfl
theorem ni160 : (match Try.prog.underlying 160 with | some (.interface _) => false | none => false | _ => true) = true := by kernel_rfl
theorem z160 : zeroC Try.prog 160 = some [.nilFunc] := by kernel_rfl
theorem sc161 : scal Try.prog 161 = true := by kernel_rfl
theorem ip161 : isPtr Try.prog 161 = true := by kernel_rfl
theorem ni161 : (match Try.prog.underlying 161 with | some (.interface _) => false | none => false | _ => true) = true := by kernel_rfl
theorem z161 : zeroC Try.prog 161 = some [.pointer none] := by kernel_rfl
theorem sc162 : scal Try.prog 162 = true := by kernel_rfl
theorem ni162 : (match Try.prog.underlying 162 with | some (.interface _) => false | none => false | _ => true) = true := by kernel_rfl
theorem z162 : zeroC Try.prog 162 = some [.nilFunc] := by kernel_rfl
theorem ag163 : aggS Try.prog 163 = some 4 := by kernel_rfl
theorem fo163_0 : fldO Try.prog 163 0 = some 0 := by kernel_rfl
theorem fa163_0 : fldA Try.prog 163 0 = some (0, 3) := by kernel_rfl
theorem fo163_1 : fldO Try.prog 163 1 = some 3 := by kernel_rfl
theorem fs163_1 : fldS Try.prog 163 1 = some 3 := by kernel_rfl
theorem ni163 : (match Try.prog.underlying 163 with | some (.interface _) => false | none => false | _ => true) = true := by kernel_rfl
theorem z163 : zeroC Try.prog 163 = some [.int .i64 0, .int .i64 0, .bool false, .pointer none] := by kernel_rfl
theorem ag164 : aggS Try.prog 164 = some 4 := by kernel_rfl
theorem fo164_0 : fldO Try.prog 164 0 = some 0 := by kernel_rfl
theorem fa164_0 : fldA Try.prog 164 0 = some (0, 3) := by kernel_rfl
theorem fo164_1 : fldO Try.prog 164 1 = some 3 := by kernel_rfl
theorem fs164_1 : fldS Try.prog 164 1 = some 3 := by kernel_rfl
theorem ni164 : (match Try.prog.underlying 164 with | some (.interface _) => false | none => false | _ => true) = true := by kernel_rfl
theorem z164 : zeroC Try.prog 164 = some [.int .i64 0, .int .i64 0, .bool false, .pointer none] := by kernel_rfl
theorem sc165 : scal Try.prog 165 = true := by kernel_rfl
theorem ni165 : (match Try.prog.underlying 165 with | some (.interface _) => false | none => false | _ => true) = true := by kernel_rfl
theorem z165 : zeroC Try.prog 165 = some [.nilFunc] := by kernel_rfl
theorem sc166 : scal Try.prog 166 = true := by kernel_rfl
theorem ni166 : (match Try.prog.underlying 166 with | some (.interface _) => false | none => false | _ => true) = true := by kernel_rfl
theorem z166 : zeroC Try.prog 166 = some [.nilFunc] := by kernel_rfl
theorem sc167 : scal Try.prog 167 = true := by kernel_rfl
theorem ip167 : isPtr Try.prog 167 = true := by kernel_rfl
theorem ni167 : (match Try.prog.underlying 167 with | some (.interface _) => false | none => false | _ => true) = true := by kernel_rfl
theorem z167 : zeroC Try.prog 167 = some [.pointer none] := by kernel_rfl
theorem sc168 : scal Try.prog 168 = true := by kernel_rfl
theorem ni168 : (match Try.prog.underlying 168 with | some (.interface _) => false | none => false | _ => true) = true := by kernel_rfl
theorem z168 : zeroC Try.prog 168 = some [.nilFunc] := by kernel_rfl
theorem ag169 : aggS Try.prog 169 = some 2 := by kernel_rfl
theorem fo169_0 : fldO Try.prog 169 0 = some 0 := by kernel_rfl
theorem fs169_0 : fldS Try.prog 169 0 = some 0 := by kernel_rfl
theorem fo169_1 : fldO Try.prog 169 1 = some 1 := by kernel_rfl
theorem fs169_1 : fldS Try.prog 169 1 = some 1 := by kernel_rfl
theorem ni169 : (match Try.prog.underlying 169 with | some (.interface _) => false | none => false | _ => true) = true := by kernel_rfl
theorem z169 : zeroC Try.prog 169 = some [.pointer none, .nilFunc] := by kernel_rfl
theorem ag170 : aggS Try.prog 170 = some 2 := by kernel_rfl
theorem fo170_0 : fldO Try.prog 170 0 = some 0 := by kernel_rfl
theorem fs170_0 : fldS Try.prog 170 0 = some 0 := by kernel_rfl
theorem fo170_1 : fldO Try.prog 170 1 = some 1 := by kernel_rfl
theorem fs170_1 : fldS Try.prog 170 1 = some 1 := by kernel_rfl
theorem ni170 : (match Try.prog.underlying 170 with | some (.interface _) => false | none => false | _ => true) = true := by kernel_rfl
theorem z170 : zeroC Try.prog 170 = some [.pointer none, .nilFunc] := by kernel_rfl
theorem sc171 : scal Try.prog 171 = true := by kernel_rfl
theorem ip171 : isPtr Try.prog 171 = true := by kernel_rfl
theorem ni171 : (match Try.prog.underlying 171 with | some (.interface _) => false | none => false | _ => true) = true := by kernel_rfl
theorem z171 : zeroC Try.prog 171 = some [.pointer none] := by kernel_rfl
theorem sc172 : scal Try.prog 172 = true := by kernel_rfl
theorem ip172 : isPtr Try.prog 172 = true := by kernel_rfl
theorem ni172 : (match Try.prog.underlying 172 with | some (.interface _) => false | none => false | _ => true) = true := by kernel_rfl
theorem z172 : zeroC Try.prog 172 = some [.pointer none] := by kernel_rfl
theorem ag173 : aggS Try.prog 173 = some 4 := by kernel_rfl
theorem fo173_0 : fldO Try.prog 173 0 = some 0 := by kernel_rfl
theorem fs173_0 : fldS Try.prog 173 0 = some 0 := by kernel_rfl
theorem fo173_1 : fldO Try.prog 173 1 = some 1 := by kernel_rfl
theorem fs173_1 : fldS Try.prog 173 1 = some 1 := by kernel_rfl
theorem fo173_2 : fldO Try.prog 173 2 = some 2 := by kernel_rfl
theorem fs173_2 : fldS Try.prog 173 2 = some 2 := by kernel_rfl
theorem fo173_3 : fldO Try.prog 173 3 = some 3 := by kernel_rfl
theorem fs173_3 : fldS Try.prog 173 3 = some 3 := by kernel_rfl
theorem ni173 : (match Try.prog.underlying 173 with | some (.interface _) => false | none => false | _ => true) = true := by kernel_rfl
theorem z173 : zeroC Try.prog 173 = some [.int .i64 0, .int .i64 0, .pointer none, .pointer none] := by kernel_rfl
theorem ag174 : aggS Try.prog 174 = some 4 := by kernel_rfl
theorem fo174_0 : fldO Try.prog 174 0 = some 0 := by kernel_rfl
theorem fs174_0 : fldS Try.prog 174 0 = some 0 := by kernel_rfl
theorem fo174_1 : fldO Try.prog 174 1 = some 1 := by kernel_rfl
theorem fs174_1 : fldS Try.prog 174 1 = some 1 := by kernel_rfl
theorem fo174_2 : fldO Try.prog 174 2 = some 2 := by kernel_rfl
theorem fs174_2 : fldS Try.prog 174 2 = some 2 := by kernel_rfl
theorem fo174_3 : fldO Try.prog 174 3 = some 3 := by kernel_rfl
theorem fs174_3 : fldS Try.prog 174 3 = some 3 := by kernel_rfl
theorem ni174 : (match Try.prog.underlying 174 with | some (.interface _) => false | none => false | _ => true) = true := by kernel_rfl
theorem z174 : zeroC Try.prog 174 = some [.int .i64 0, .int .i64 0, .pointer none, .pointer none] := by kernel_rfl
theorem sc176 : scal Try.prog 176 = true := by kernel_rfl
theorem ni176 : (match Try.prog.underlying 176 with | some (.interface _) => false | none => false | _ => true) = true := by kernel_rfl
theorem z176 : zeroC Try.prog 176 = some [.nilFunc] := by kernel_rfl
theorem sc177 : scal Try.prog 177 = true := by kernel_rfl
theorem ni177 : (match Try.prog.underlying 177 with | some (.interface _) => false | none => false | _ => true) = true := by kernel_rfl
theorem z177 : zeroC Try.prog 177 = some [.nilFunc] := by kernel_rfl
theorem sc178 : scal Try.prog 178 = true := by kernel_rfl
theorem ni178 : (match Try.prog.underlying 178 with | some (.interface _) => false | none => false | _ => true) = true := by kernel_rfl
theorem z178 : zeroC Try.prog 178 = some [.nilFunc] := by kernel_rfl
theorem sc179 : scal Try.prog 179 = true := by kernel_rfl
theorem ni179 : (match Try.prog.underlying 179 with | some (.interface _) => false | none => false | _ => true) = true := by kernel_rfl
theorem z179 : zeroC Try.prog 179 = some [.nilFunc] := by kernel_rfl
theorem sc180 : scal Try.prog 180 = true := by kernel_rfl
theorem ni180 : (match Try.prog.underlying 180 with | some (.interface _) => false | none => false | _ => true) = true := by kernel_rfl
theorem z180 : zeroC Try.prog 180 = some [.nilFunc] := by kernel_rfl
theorem sc181 : scal Try.prog 181 = true := by kernel_rfl
theorem ni181 : (match Try.prog.underlying 181 with | some (.interface _) => false | none => false | _ => true) = true := by kernel_rfl
theorem z181 : zeroC Try.prog 181 = some [.nilFunc] := by kernel_rfl
theorem sc182 : scal Try.prog 182 = true := by kernel_rfl
theorem if182 : isIfc Try.prog 182 = true := by kernel_rfl
theorem z182 : zeroC Try.prog 182 = some [.nilIface] := by kernel_rfl
theorem sc183 : scal Try.prog 183 = true := by kernel_rfl
theorem if183 : isIfc Try.prog 183 = true := by kernel_rfl
theorem z183 : zeroC Try.prog 183 = some [.nilIface] := by kernel_rfl
theorem sc184 : scal Try.prog 184 = true := by kernel_rfl
theorem ni184 : (match Try.prog.underlying 184 with | some (.interface _) => false | none => false | _ => true) = true := by kernel_rfl
theorem z184 : zeroC Try.prog 184 = some [.nilFunc] := by kernel_rfl
theorem sc185 : scal Try.prog 185 = true := by kernel_rfl
theorem ni185 : (match Try.prog.underlying 185 with | some (.interface _) => false | none => false | _ => true) = true := by kernel_rfl
theorem z185 : zeroC Try.prog 185 = some [.nilFunc] := by kernel_rfl
theorem sc186 : scal Try.prog 186 = true := by kernel_rfl
theorem ni186 : (match Try.prog.underlying 186 with | some (.interface _) => false | none => false | _ => true) = true := by kernel_rfl
theorem z186 : zeroC Try.prog 186 = some [.nilFunc] := by kernel_rfl
theorem sc187 : scal Try.prog 187 = true := by kernel_rfl
theorem ni187 : (match Try.prog.underlying 187 with | some (.interface _) => false | none => false | _ => true) = true := by kernel_rfl
theorem z187 : zeroC Try.prog 187 = some [.nilFunc] := by kernel_rfl
theorem sc188 : scal Try.prog 188 = true := by kernel_rfl
theorem ni188 : (match Try.prog.underlying 188 with | some (.interface _) => false | none => false | _ => true) = true := by kernel_rfl
theorem z188 : zeroC Try.prog 188 = some [.nilFunc] := by kernel_rfl
theorem sc189 : scal Try.prog 189 = true := by kernel_rfl
theorem if189 : isIfc Try.prog 189 = true := by kernel_rfl
theorem z189 : zeroC Try.prog 189 = some [.nilIface] := by kernel_rfl
theorem sc190 : scal Try.prog 190 = true := by kernel_rfl
theorem if190 : isIfc Try.prog 190 = true := by kernel_rfl
theorem z190 : zeroC Try.prog 190 = some [.nilIface] := by kernel_rfl
theorem sc191 : scal Try.prog 191 = true := by kernel_rfl
theorem ni191 : (match Try.prog.underlying 191 with | some (.interface _) => false | none => false | _ => true) = true := by kernel_rfl
theorem z191 : zeroC Try.prog 191 = some [.nilFunc] := by kernel_rfl
theorem sc192 : scal Try.prog 192 = true := by kernel_rfl
theorem ni192 : (match Try.prog.underlying 192 with | some (.interface _) => false | none => false | _ => true) = true := by kernel_rfl
theorem z192 : zeroC Try.prog 192 = some [.nilFunc] := by kernel_rfl
theorem sc194 : scal Try.prog 194 = true := by kernel_rfl
theorem ni194 : (match Try.prog.underlying 194 with | some (.interface _) => false | none => false | _ => true) = true := by kernel_rfl
theorem z194 : zeroC Try.prog 194 = some [.nilFunc] := by kernel_rfl
theorem sc195 : scal Try.prog 195 = true := by kernel_rfl
theorem ni195 : (match Try.prog.underlying 195 with | some (.interface _) => false | none => false | _ => true) = true := by kernel_rfl
theorem z195 : zeroC Try.prog 195 = some [.nilFunc] := by kernel_rfl
theorem sc196 : scal Try.prog 196 = true := by kernel_rfl
theorem ip196 : isPtr Try.prog 196 = true := by kernel_rfl
theorem ni196 : (match Try.prog.underlying 196 with | some (.interface _) => false | none => false | _ => true) = true := by kernel_rfl
theorem z196 : zeroC Try.prog 196 = some [.pointer none] := by kernel_rfl
theorem sc197 : scal Try.prog 197 = true := by kernel_rfl
theorem ni197 : (match Try.prog.underlying 197 with | some (.interface _) => false | none => false | _ => true) = true := by kernel_rfl
theorem z197 : zeroC Try.prog 197 = some [.nilFunc] := by kernel_rfl
theorem sc198 : scal Try.prog 198 = true := by kernel_rfl
theorem ni198 : (match Try.prog.underlying 198 with | some (.interface _) => false | none => false | _ => true) = true := by kernel_rfl
theorem z198 : zeroC Try.prog 198 = some [.nilFunc] := by kernel_rfl
theorem sc199 : scal Try.prog 199 = true := by kernel_rfl
theorem ni199 : (match Try.prog.underlying 199 with | some (.interface _) => false | none => false | _ => true) = true := by kernel_rfl
theorem z199 : zeroC Try.prog 199 = some [.nilFunc] := by kernel_rfl
theorem sc201 : scal Try.prog 201 = true := by kernel_rfl
theorem ni201 : (match Try.prog.underlying 201 with | some (.interface _) => false | none => false | _ => true) = true := by kernel_rfl
theorem z201 : zeroC Try.prog 201 = some [.nilFunc] := by kernel_rfl
theorem sc202 : scal Try.prog 202 = true := by kernel_rfl
theorem ni202 : (match Try.prog.underlying 202 with | some (.interface _) => false | none => false | _ => true) = true := by kernel_rfl
theorem z202 : zeroC Try.prog 202 = some [.nilFunc] := by kernel_rfl
theorem ag203 : aggS Try.prog 203 = some 6 := by kernel_rfl
theorem fo203_0 : fldO Try.prog 203 0 = some 0 := by kernel_rfl
theorem fs203_0 : fldS Try.prog 203 0 = some 0 := by kernel_rfl
theorem fo203_1 : fldO Try.prog 203 1 = some 1 := by kernel_rfl
theorem fs203_1 : fldS Try.prog 203 1 = some 1 := by kernel_rfl
theorem fo203_2 : fldO Try.prog 203 2 = some 2 := by kernel_rfl
theorem fs203_2 : fldS Try.prog 203 2 = some 2 := by kernel_rfl
theorem fo203_3 : fldO Try.prog 203 3 = some 3 := by kernel_rfl
theorem fs203_3 : fldS Try.prog 203 3 = some 3 := by kernel_rfl
theorem fo203_4 : fldO Try.prog 203 4 = some 4 := by kernel_rfl
theorem fs203_4 : fldS Try.prog 203 4 = some 4 := by kernel_rfl
theorem fo203_5 : fldO Try.prog 203 5 = some 5 := by kernel_rfl
theorem fs203_5 : fldS Try.prog 203 5 = some 5 := by kernel_rfl
theorem ni203 : (match Try.prog.underlying 203 with | some (.interface _) => false | none => false | _ => true) = true := by kernel_rfl
theorem z203 : zeroC Try.prog 203 = some [.slice none 0 0, .int .i64 0, .int .i64 0, .int .i64 0, .slice none 0 0, .int .i64 0] := by kernel_rfl
theorem ag204 : aggS Try.prog 204 = some 6 := by kernel_rfl
theorem fo204_0 : fldO Try.prog 204 0 = some 0 := by kernel_rfl
theorem fs204_0 : fldS Try.prog 204 0 = some 0 := by kernel_rfl
theorem fo204_1 : fldO Try.prog 204 1 = some 1 := by kernel_rfl
theorem fs204_1 : fldS Try.prog 204 1 = some 1 := by kernel_rfl
theorem fo204_2 : fldO Try.prog 204 2 = some 2 := by kernel_rfl
theorem fs204_2 : fldS Try.prog 204 2 = some 2 := by kernel_rfl
theorem fo204_3 : fldO Try.prog 204 3 = some 3 := by kernel_rfl
theorem fs204_3 : fldS Try.prog 204 3 = some 3 := by kernel_rfl
theorem fo204_4 : fldO Try.prog 204 4 = some 4 := by kernel_rfl
theorem fs204_4 : fldS Try.prog 204 4 = some 4 := by kernel_rfl
theorem fo204_5 : fldO Try.prog 204 5 = some 5 := by kernel_rfl
theorem fs204_5 : fldS Try.prog 204 5 = some 5 := by kernel_rfl
theorem ni204 : (match Try.prog.underlying 204 with | some (.interface _) => false | none => false | _ => true) = true := by kernel_rfl
theorem z204 : zeroC Try.prog 204 = some [.slice none 0 0, .int .i64 0, .int .i64 0, .int .i64 0, .slice none 0 0, .int .i64 0] := by kernel_rfl
theorem sc205 : scal Try.prog 205 = true := by kernel_rfl
theorem sl205 : slcE Try.prog 205 = some (171, 1, 8) := by kernel_rfl
theorem is205 : isSlc Try.prog 205 = true := by kernel_rfl
theorem ni205 : (match Try.prog.underlying 205 with | some (.interface _) => false | none => false | _ => true) = true := by kernel_rfl
theorem z205 : zeroC Try.prog 205 = some [.slice none 0 0] := by kernel_rfl
theorem ag206 : aggS Try.prog 206 = some 0 := by kernel_rfl
theorem ni206 : (match Try.prog.underlying 206 with | some (.interface _) => false | none => false | _ => true) = true := by kernel_rfl
theorem z206 : zeroC Try.prog 206 = some [] := by kernel_rfl
theorem ag207 : aggS Try.prog 207 = some 1 := by kernel_rfl
theorem fa207_0 : fldA Try.prog 207 0 = some (0, 0) := by kernel_rfl
theorem fo207_1 : fldO Try.prog 207 1 = some 0 := by kernel_rfl
theorem fs207_1 : fldS Try.prog 207 1 = some 0 := by kernel_rfl
theorem ni207 : (match Try.prog.underlying 207 with | some (.interface _) => false | none => false | _ => true) = true := by kernel_rfl
theorem z207 : zeroC Try.prog 207 = some [.slice none 0 0] := by kernel_rfl
theorem ag208 : aggS Try.prog 208 = some 1 := by kernel_rfl
theorem fa208_0 : fldA Try.prog 208 0 = some (0, 0) := by kernel_rfl
theorem fo208_1 : fldO Try.prog 208 1 = some 0 := by kernel_rfl
theorem fs208_1 : fldS Try.prog 208 1 = some 0 := by kernel_rfl
theorem ni208 : (match Try.prog.underlying 208 with | some (.interface _) => false | none => false | _ => true) = true := by kernel_rfl
theorem z208 : zeroC Try.prog 208 = some [.slice none 0 0] := by kernel_rfl
theorem sc209 : scal Try.prog 209 = true := by kernel_rfl
theorem ni209 : (match Try.prog.underlying 209 with | some (.interface _) => false | none => false | _ => true) = true := by kernel_rfl
theorem z209 : zeroC Try.prog 209 = some [.nilFunc] := by kernel_rfl
theorem sc210 : scal Try.prog 210 = true := by kernel_rfl
theorem sl210 : slcE Try.prog 210 = some (55, 2, 16) := by kernel_rfl
theorem is210 : isSlc Try.prog 210 = true := by kernel_rfl
theorem ni210 : (match Try.prog.underlying 210 with | some (.interface _) => false | none => false | _ => true) = true := by kernel_rfl
theorem z210 : zeroC Try.prog 210 = some [.slice none 0 0] := by kernel_rfl
theorem sc211 : scal Try.prog 211 = true := by kernel_rfl
theorem sl211 : slcE Try.prog 211 = some (171, 1, 8) := by kernel_rfl
theorem is211 : isSlc Try.prog 211 = true := by kernel_rfl
theorem ni211 : (match Try.prog.underlying 211 with | some (.interface _) => false | none => false | _ => true) = true := by kernel_rfl
theorem z211 : zeroC Try.prog 211 = some [.slice none 0 0] := by kernel_rfl
theorem ag212 : aggS Try.prog 212 = some 3 := by kernel_rfl
theorem fo212_0 : fldO Try.prog 212 0 = some 0 := by kernel_rfl
theorem fs212_0 : fldS Try.prog 212 0 = some 0 := by kernel_rfl
theorem fo212_1 : fldO Try.prog 212 1 = some 1 := by kernel_rfl
theorem fs212_1 : fldS Try.prog 212 1 = some 1 := by kernel_rfl
theorem fo212_2 : fldO Try.prog 212 2 = some 2 := by kernel_rfl
theorem fs212_2 : fldS Try.prog 212 2 = some 2 := by kernel_rfl
theorem ni212 : (match Try.prog.underlying 212 with | some (.interface _) => false | none => false | _ => true) = true := by kernel_rfl
theorem z212 : zeroC Try.prog 212 = some [.slice none 0 0, .slice none 0 0, .pointer none] := by kernel_rfl
theorem ag213 : aggS Try.prog 213 = some 3 := by kernel_rfl
theorem fo213_0 : fldO Try.prog 213 0 = some 0 := by kernel_rfl
theorem fs213_0 : fldS Try.prog 213 0 = some 0 := by kernel_rfl
theorem fo213_1 : fldO Try.prog 213 1 = some 1 := by kernel_rfl
theorem fs213_1 : fldS Try.prog 213 1 = some 1 := by kernel_rfl
theorem fo213_2 : fldO Try.prog 213 2 = some 2 := by kernel_rfl
theorem fs213_2 : fldS Try.prog 213 2 = some 2 := by kernel_rfl
theorem ni213 : (match Try.prog.underlying 213 with | some (.interface _) => false | none => false | _ => true) = true := by kernel_rfl
theorem z213 : zeroC Try.prog 213 = some [.slice none 0 0, .slice none 0 0, .pointer none] := by kernel_rfl
theorem sc214 : scal Try.prog 214 = true := by kernel_rfl
theorem ni214 : (match Try.prog.underlying 214 with | some (.interface _) => false | none => false | _ => true) = true := by kernel_rfl
theorem z214 : zeroC Try.prog 214 = some [.nilFunc] := by kernel_rfl
theorem sc216 : scal Try.prog 216 = true := by kernel_rfl
theorem ni216 : (match Try.prog.underlying 216 with | some (.interface _) => false | none => false | _ => true) = true := by kernel_rfl
theorem z216 : zeroC Try.prog 216 = some [.nilFunc] := by kernel_rfl
theorem sc217 : scal Try.prog 217 = true := by kernel_rfl
theorem ni217 : (match Try.prog.underlying 217 with | some (.interface _) => false | none => false | _ => true) = true := by kernel_rfl
theorem z217 : zeroC Try.prog 217 = some [.nilFunc] := by kernel_rfl
theorem sc218 : scal Try.prog 218 = true := by kernel_rfl
theorem ni218 : (match Try.prog.underlying 218 with | some (.interface _) => false | none => false | _ => true) = true := by kernel_rfl
theorem z218 : zeroC Try.prog 218 = some [.nilFunc] := by kernel_rfl
theorem sc219 : scal Try.prog 219 = true := by kernel_rfl
theorem ik219 : intK Try.prog 219 = some .i64 := by kernel_rfl
theorem un219 : (Try.prog.underlying 219).isSome = true := by kernel_rfl
theorem ni219 : (match Try.prog.underlying 219 with | some (.interface _) => false | none => false | _ => true) = true := by kernel_rfl
theorem z219 : zeroC Try.prog 219 = some [.int .i64 0] := by kernel_rfl
theorem sc220 : scal Try.prog 220 = true := by kernel_rfl
theorem ni220 : (match Try.prog.underlying 220 with | some (.interface _) => false | none => false | _ => true) = true := by kernel_rfl
theorem z220 : zeroC Try.prog 220 = some [.nilFunc] := by kernel_rfl
theorem sc221 : scal Try.prog 221 = true := by kernel_rfl
theorem ni221 : (match Try.prog.underlying 221 with | some (.interface _) => false | none => false | _ => true) = true := by kernel_rfl
theorem z221 : zeroC Try.prog 221 = some [.nilFunc] := by kernel_rfl
theorem sc222 : scal Try.prog 222 = true := by kernel_rfl
theorem ni222 : (match Try.prog.underlying 222 with | some (.interface _) => false | none => false | _ => true) = true := by kernel_rfl
theorem z222 : zeroC Try.prog 222 = some [.nilFunc] := by kernel_rfl
theorem sc223 : scal Try.prog 223 = true := by kernel_rfl
theorem ni223 : (match Try.prog.underlying 223 with | some (.interface _) => false | none => false | _ => true) = true := by kernel_rfl
theorem z223 : zeroC Try.prog 223 = some [.nilFunc] := by kernel_rfl
theorem sc224 : scal Try.prog 224 = true := by kernel_rfl
theorem ni224 : (match Try.prog.underlying 224 with | some (.interface _) => false | none => false | _ => true) = true := by kernel_rfl
theorem z224 : zeroC Try.prog 224 = some [.nilFunc] := by kernel_rfl
theorem sc225 : scal Try.prog 225 = true := by kernel_rfl
theorem ni225 : (match Try.prog.underlying 225 with | some (.interface _) => false | none => false | _ => true) = true := by kernel_rfl
theorem z225 : zeroC Try.prog 225 = some [.nilFunc] := by kernel_rfl
theorem ag226 : aggS Try.prog 226 = some 1 := by kernel_rfl
theorem fo226_0 : fldO Try.prog 226 0 = some 0 := by kernel_rfl
theorem fs226_0 : fldS Try.prog 226 0 = some 0 := by kernel_rfl
theorem ni226 : (match Try.prog.underlying 226 with | some (.interface _) => false | none => false | _ => true) = true := by kernel_rfl
theorem z226 : zeroC Try.prog 226 = some [.int .u32 0] := by kernel_rfl
theorem ag227 : aggS Try.prog 227 = some 1 := by kernel_rfl
theorem fo227_0 : fldO Try.prog 227 0 = some 0 := by kernel_rfl
theorem fs227_0 : fldS Try.prog 227 0 = some 0 := by kernel_rfl
theorem ni227 : (match Try.prog.underlying 227 with | some (.interface _) => false | none => false | _ => true) = true := by kernel_rfl
theorem z227 : zeroC Try.prog 227 = some [.int .u32 0] := by kernel_rfl
theorem sc228 : scal Try.prog 228 = true := by kernel_rfl
theorem ik228 : intK Try.prog 228 = some .u64 := by kernel_rfl
theorem un228 : (Try.prog.underlying 228).isSome = true := by kernel_rfl
theorem ni228 : (match Try.prog.underlying 228 with | some (.interface _) => false | none => false | _ => true) = true := by kernel_rfl
theorem z228 : zeroC Try.prog 228 = some [.int .u64 0] := by kernel_rfl
theorem sc229 : scal Try.prog 229 = true := by kernel_rfl
theorem ik229 : intK Try.prog 229 = some .i64 := by kernel_rfl
theorem un229 : (Try.prog.underlying 229).isSome = true := by kernel_rfl
theorem ni229 : (match Try.prog.underlying 229 with | some (.interface _) => false | none => false | _ => true) = true := by kernel_rfl
theorem z229 : zeroC Try.prog 229 = some [.int .i64 0] := by kernel_rfl
theorem ag230 : aggS Try.prog 230 = some 3 := by kernel_rfl
theorem fo230_0 : fldO Try.prog 230 0 = some 0 := by kernel_rfl
theorem fs230_0 : fldS Try.prog 230 0 = some 0 := by kernel_rfl
theorem fo230_1 : fldO Try.prog 230 1 = some 1 := by kernel_rfl
theorem fs230_1 : fldS Try.prog 230 1 = some 1 := by kernel_rfl
theorem fo230_2 : fldO Try.prog 230 2 = some 2 := by kernel_rfl
theorem fs230_2 : fldS Try.prog 230 2 = some 2 := by kernel_rfl
theorem ni230 : (match Try.prog.underlying 230 with | some (.interface _) => false | none => false | _ => true) = true := by kernel_rfl
theorem z230 : zeroC Try.prog 230 = some [.int .i64 0, .string ⟨#[]⟩, .bool false] := by kernel_rfl
theorem ag231 : aggS Try.prog 231 = some 3 := by kernel_rfl
theorem fo231_0 : fldO Try.prog 231 0 = some 0 := by kernel_rfl
theorem fs231_0 : fldS Try.prog 231 0 = some 0 := by kernel_rfl
theorem fo231_1 : fldO Try.prog 231 1 = some 1 := by kernel_rfl
theorem fs231_1 : fldS Try.prog 231 1 = some 1 := by kernel_rfl
theorem fo231_2 : fldO Try.prog 231 2 = some 2 := by kernel_rfl
theorem fs231_2 : fldS Try.prog 231 2 = some 2 := by kernel_rfl
theorem ni231 : (match Try.prog.underlying 231 with | some (.interface _) => false | none => false | _ => true) = true := by kernel_rfl
theorem z231 : zeroC Try.prog 231 = some [.int .i64 0, .string ⟨#[]⟩, .bool false] := by kernel_rfl
theorem sc232 : scal Try.prog 232 = true := by kernel_rfl
theorem if232 : isIfc Try.prog 232 = true := by kernel_rfl
theorem z232 : zeroC Try.prog 232 = some [.nilIface] := by kernel_rfl
theorem sc233 : scal Try.prog 233 = true := by kernel_rfl
theorem if233 : isIfc Try.prog 233 = true := by kernel_rfl
theorem z233 : zeroC Try.prog 233 = some [.nilIface] := by kernel_rfl
theorem sc234 : scal Try.prog 234 = true := by kernel_rfl
theorem ni234 : (match Try.prog.underlying 234 with | some (.interface _) => false | none => false | _ => true) = true := by kernel_rfl
theorem z234 : zeroC Try.prog 234 = some [.nilFunc] := by kernel_rfl
theorem sc235 : scal Try.prog 235 = true := by kernel_rfl
theorem ik235 : intK Try.prog 235 = some .u64 := by kernel_rfl
theorem un235 : (Try.prog.underlying 235).isSome = true := by kernel_rfl
theorem ni235 : (match Try.prog.underlying 235 with | some (.interface _) => false | none => false | _ => true) = true := by kernel_rfl
theorem z235 : zeroC Try.prog 235 = some [.int .u64 0] := by kernel_rfl
theorem sc236 : scal Try.prog 236 = true := by kernel_rfl
theorem ni236 : (match Try.prog.underlying 236 with | some (.interface _) => false | none => false | _ => true) = true := by kernel_rfl
theorem z236 : zeroC Try.prog 236 = some [.nilFunc] := by kernel_rfl
theorem sc237 : scal Try.prog 237 = true := by kernel_rfl
theorem ni237 : (match Try.prog.underlying 237 with | some (.interface _) => false | none => false | _ => true) = true := by kernel_rfl
theorem z237 : zeroC Try.prog 237 = some [.nilFunc] := by kernel_rfl
theorem sc238 : scal Try.prog 238 = true := by kernel_rfl
theorem ni238 : (match Try.prog.underlying 238 with | some (.interface _) => false | none => false | _ => true) = true := by kernel_rfl
theorem z238 : zeroC Try.prog 238 = some [.nilFunc] := by kernel_rfl
theorem sc240 : scal Try.prog 240 = true := by kernel_rfl
theorem ni240 : (match Try.prog.underlying 240 with | some (.interface _) => false | none => false | _ => true) = true := by kernel_rfl
theorem z240 : zeroC Try.prog 240 = some [.nilFunc] := by kernel_rfl
theorem sc241 : scal Try.prog 241 = true := by kernel_rfl
theorem ni241 : (match Try.prog.underlying 241 with | some (.interface _) => false | none => false | _ => true) = true := by kernel_rfl
theorem z241 : zeroC Try.prog 241 = some [.nilFunc] := by kernel_rfl
theorem sc242 : scal Try.prog 242 = true := by kernel_rfl
theorem ni242 : (match Try.prog.underlying 242 with | some (.interface _) => false | none => false | _ => true) = true := by kernel_rfl
theorem z242 : zeroC Try.prog 242 = some [.nilFunc] := by kernel_rfl
theorem sc243 : scal Try.prog 243 = true := by kernel_rfl
theorem ni243 : (match Try.prog.underlying 243 with | some (.interface _) => false | none => false | _ => true) = true := by kernel_rfl
theorem z243 : zeroC Try.prog 243 = some [.nilFunc] := by kernel_rfl
theorem sc244 : scal Try.prog 244 = true := by kernel_rfl
theorem ik244 : intK Try.prog 244 = some .i64 := by kernel_rfl
theorem un244 : (Try.prog.underlying 244).isSome = true := by kernel_rfl
theorem ni244 : (match Try.prog.underlying 244 with | some (.interface _) => false | none => false | _ => true) = true := by kernel_rfl
theorem z244 : zeroC Try.prog 244 = some [.int .i64 0] := by kernel_rfl
theorem sc245 : scal Try.prog 245 = true := by kernel_rfl
theorem ni245 : (match Try.prog.underlying 245 with | some (.interface _) => false | none => false | _ => true) = true := by kernel_rfl
theorem z245 : zeroC Try.prog 245 = some [.nilFunc] := by kernel_rfl
theorem sc246 : scal Try.prog 246 = true := by kernel_rfl
theorem ni246 : (match Try.prog.underlying 246 with | some (.interface _) => false | none => false | _ => true) = true := by kernel_rfl
theorem z246 : zeroC Try.prog 246 = some [.nilFunc] := by kernel_rfl
theorem sc248 : scal Try.prog 248 = true := by kernel_rfl
theorem ni248 : (match Try.prog.underlying 248 with | some (.interface _) => false | none => false | _ => true) = true := by kernel_rfl
theorem z248 : zeroC Try.prog 248 = some [.nilFunc] := by kernel_rfl
theorem sc249 : scal Try.prog 249 = true := by kernel_rfl
theorem ik249 : intK Try.prog 249 = some .i64 := by kernel_rfl
theorem un249 : (Try.prog.underlying 249).isSome = true := by kernel_rfl
theorem ni249 : (match Try.prog.underlying 249 with | some (.interface _) => false | none => false | _ => true) = true := by kernel_rfl
theorem z249 : zeroC Try.prog 249 = some [.int .i64 0] := by kernel_rfl
theorem ag250 : aggS Try.prog 250 = some 3 := by kernel_rfl
theorem fo250_0 : fldO Try.prog 250 0 = some 0 := by kernel_rfl
theorem fa250_0 : fldA Try.prog 250 0 = some (0, 2) := by kernel_rfl
theorem fo250_1 : fldO Try.prog 250 1 = some 2 := by kernel_rfl
theorem fs250_1 : fldS Try.prog 250 1 = some 2 := by kernel_rfl
theorem ni250 : (match Try.prog.underlying 250 with | some (.interface _) => false | none => false | _ => true) = true := by kernel_rfl
theorem z250 : zeroC Try.prog 250 = some [.int .i64 0, .int .i64 0, .bool false] := by kernel_rfl
theorem ag251 : aggS Try.prog 251 = some 3 := by kernel_rfl
theorem fo251_0 : fldO Try.prog 251 0 = some 0 := by kernel_rfl
theorem fa251_0 : fldA Try.prog 251 0 = some (0, 2) := by kernel_rfl
theorem fo251_1 : fldO Try.prog 251 1 = some 2 := by kernel_rfl
theorem fs251_1 : fldS Try.prog 251 1 = some 2 := by kernel_rfl
theorem ni251 : (match Try.prog.underlying 251 with | some (.interface _) => false | none => false | _ => true) = true := by kernel_rfl
theorem z251 : zeroC Try.prog 251 = some [.int .i64 0, .int .i64 0, .bool false] := by kernel_rfl
theorem sc252 : scal Try.prog 252 = true := by kernel_rfl
theorem ni252 : (match Try.prog.underlying 252 with | some (.interface _) => false | none => false | _ => true) = true := by kernel_rfl
theorem z252 : zeroC Try.prog 252 = some [.nilFunc] := by kernel_rfl
theorem sc253 : scal Try.prog 253 = true := by kernel_rfl
theorem ni253 : (match Try.prog.underlying 253 with | some (.interface _) => false | none => false | _ => true) = true := by kernel_rfl
theorem z253 : zeroC Try.prog 253 = some [.nilFunc] := by kernel_rfl
theorem sc254 : scal Try.prog 254 = true := by kernel_rfl
theorem ip254 : isPtr Try.prog 254 = true := by kernel_rfl
theorem ni254 : (match Try.prog.underlying 254 with | some (.interface _) => false | none => false | _ => true) = true := by kernel_rfl
theorem z254 : zeroC Try.prog 254 = some [.pointer none] := by kernel_rfl
theorem sc255 : scal Try.prog 255 = true := by kernel_rfl
theorem ip255 : isPtr Try.prog 255 = true := by kernel_rfl
theorem ni255 : (match Try.prog.underlying 255 with | some (.interface _) => false | none => false | _ => true) = true := by kernel_rfl
theorem z255 : zeroC Try.prog 255 = some [.pointer none] := by kernel_rfl
theorem sc256 : scal Try.prog 256 = true := by kernel_rfl
theorem ni256 : (match Try.prog.underlying 256 with | some (.interface _) => false | none => false | _ => true) = true := by kernel_rfl
theorem z256 : zeroC Try.prog 256 = some [.nilFunc] := by kernel_rfl
theorem sc257 : scal Try.prog 257 = true := by kernel_rfl
theorem ni257 : (match Try.prog.underlying 257 with | some (.interface _) => false | none => false | _ => true) = true := by kernel_rfl
theorem z257 : zeroC Try.prog 257 = some [.nilFunc] := by kernel_rfl
theorem sc258 : scal Try.prog 258 = true := by kernel_rfl
theorem ni258 : (match Try.prog.underlying 258 with | some (.interface _) => false | none => false | _ => true) = true := by kernel_rfl
theorem z258 : zeroC Try.prog 258 = some [.nilFunc] := by kernel_rfl
theorem sc259 : scal Try.prog 259 = true := by kernel_rfl
theorem ni259 : (match Try.prog.underlying 259 with | some (.interface _) => false | none => false | _ => true) = true := by kernel_rfl
theorem z259 : zeroC Try.prog 259 = some [.nilFunc] := by kernel_rfl
theorem sc260 : scal Try.prog 260 = true := by kernel_rfl
theorem ni260 : (match Try.prog.underlying 260 with | some (.interface _) => false | none => false | _ => true) = true := by kernel_rfl
theorem z260 : zeroC Try.prog 260 = some [.nilFunc] := by kernel_rfl
theorem sc261 : scal Try.prog 261 = true := by kernel_rfl
theorem ni261 : (match Try.prog.underlying 261 with | some (.interface _) => false | none => false | _ => true) = true := by kernel_rfl
theorem z261 : zeroC Try.prog 261 = some [.nilFunc] := by kernel_rfl
theorem sc262 : scal Try.prog 262 = true := by kernel_rfl
theorem ni262 : (match Try.prog.underlying 262 with | some (.interface _) => false | none => false | _ => true) = true := by kernel_rfl
theorem z262 : zeroC Try.prog 262 = some [.nilFunc] := by kernel_rfl
theorem sc263 : scal Try.prog 263 = true := by kernel_rfl
theorem ip263 : isPtr Try.prog 263 = true := by kernel_rfl
theorem ni263 : (match Try.prog.underlying 263 with | some (.interface _) => false | none => false | _ => true) = true := by kernel_rfl
theorem z263 : zeroC Try.prog 263 = some [.pointer none] := by kernel_rfl
theorem sc264 : scal Try.prog 264 = true := by kernel_rfl
theorem ni264 : (match Try.prog.underlying 264 with | some (.interface _) => false | none => false | _ => true) = true := by kernel_rfl
theorem z264 : zeroC Try.prog 264 = some [.nilFunc] := by kernel_rfl
theorem ag265 : aggS Try.prog 265 = some 4 := by kernel_rfl
theorem fo265_0 : fldO Try.prog 265 0 = some 0 := by kernel_rfl
theorem fs265_0 : fldS Try.prog 265 0 = some 0 := by kernel_rfl
theorem fo265_1 : fldO Try.prog 265 1 = some 1 := by kernel_rfl
theorem fs265_1 : fldS Try.prog 265 1 = some 1 := by kernel_rfl
theorem fo265_2 : fldO Try.prog 265 2 = some 2 := by kernel_rfl
theorem fs265_2 : fldS Try.prog 265 2 = some 2 := by kernel_rfl
theorem fo265_3 : fldO Try.prog 265 3 = some 3 := by kernel_rfl
theorem fs265_3 : fldS Try.prog 265 3 = some 3 := by kernel_rfl
theorem ni265 : (match Try.prog.underlying 265 with | some (.interface _) => false | none => false | _ => true) = true := by kernel_rfl
theorem z265 : zeroC Try.prog 265 = some [.pointer none, .pointer none, .pointer none, .string ⟨#[]⟩] := by kernel_rfl
theorem ag266 : aggS Try.prog 266 = some 4 := by kernel_rfl
theorem fo266_0 : fldO Try.prog 266 0 = some 0 := by kernel_rfl
theorem fs266_0 : fldS Try.prog 266 0 = some 0 := by kernel_rfl
theorem fo266_1 : fldO Try.prog 266 1 = some 1 := by kernel_rfl
theorem fs266_1 : fldS Try.prog 266 1 = some 1 := by kernel_rfl
theorem fo266_2 : fldO Try.prog 266 2 = some 2 := by kernel_rfl
theorem fs266_2 : fldS Try.prog 266 2 = some 2 := by kernel_rfl
theorem fo266_3 : fldO Try.prog 266 3 = some 3 := by kernel_rfl
theorem fs266_3 : fldS Try.prog 266 3 = some 3 := by kernel_rfl
theorem ni266 : (match Try.prog.underlying 266 with | some (.interface _) => false | none => false | _ => true) = true := by kernel_rfl
theorem z266 : zeroC Try.prog 266 = some [.pointer none, .pointer none, .pointer none, .string ⟨#[]⟩] := by kernel_rfl
theorem ag267 : aggS Try.prog 267 = some 0 := by kernel_rfl
theorem ar267 : arrE Try.prog 267 = some (0, 1) := by kernel_rfl
theorem ni267 : (match Try.prog.underlying 267 with | some (.interface _) => false | none => false | _ => true) = true := by kernel_rfl
theorem z267 : zeroC Try.prog 267 = some [] := by kernel_rfl
theorem ag268 : aggS Try.prog 268 = some 0 := by kernel_rfl
theorem fa268_0 : fldA Try.prog 268 0 = some (0, 0) := by kernel_rfl
theorem ni268 : (match Try.prog.underlying 268 with | some (.interface _) => false | none => false | _ => true) = true := by kernel_rfl
theorem z268 : zeroC Try.prog 268 = some [] := by kernel_rfl
theorem ag269 : aggS Try.prog 269 = some 0 := by kernel_rfl
theorem fa269_0 : fldA Try.prog 269 0 = some (0, 0) := by kernel_rfl
theorem ni269 : (match Try.prog.underlying 269 with | some (.interface _) => false | none => false | _ => true) = true := by kernel_rfl
theorem z269 : zeroC Try.prog 269 = some [] := by kernel_rfl
theorem sc270 : scal Try.prog 270 = true := by kernel_rfl
theorem ik270 : intK Try.prog 270 = some .u8 := by kernel_rfl
theorem un270 : (Try.prog.underlying 270).isSome = true := by kernel_rfl
theorem ni270 : (match Try.prog.underlying 270 with | some (.interface _) => false | none => false | _ => true) = true := by kernel_rfl
theorem z270 : zeroC Try.prog 270 = some [.int .u8 0] := by kernel_rfl
theorem sc271 : scal Try.prog 271 = true := by kernel_rfl
theorem ik271 : intK Try.prog 271 = some .u8 := by kernel_rfl
theorem un271 : (Try.prog.underlying 271).isSome = true := by kernel_rfl
theorem ni271 : (match Try.prog.underlying 271 with | some (.interface _) => false | none => false | _ => true) = true := by kernel_rfl
theorem z271 : zeroC Try.prog 271 = some [.int .u8 0] := by kernel_rfl
theorem sc272 : scal Try.prog 272 = true := by kernel_rfl
theorem ni272 : (match Try.prog.underlying 272 with | some (.interface _) => false | none => false | _ => true) = true := by kernel_rfl
theorem z272 : zeroC Try.prog 272 = some [.nilFunc] := by kernel_rfl
theorem sc273 : scal Try.prog 273 = true := by kernel_rfl
theorem ip273 : isPtr Try.prog 273 = true := by kernel_rfl
theorem ni273 : (match Try.prog.underlying 273 with | some (.interface _) => false | none => false | _ => true) = true := by kernel_rfl
theorem z273 : zeroC Try.prog 273 = some [.pointer none] := by kernel_rfl
theorem sc274 : scal Try.prog 274 = true := by kernel_rfl
theorem ik274 : intK Try.prog 274 = some .i32 := by kernel_rfl
theorem un274 : (Try.prog.underlying 274).isSome = true := by kernel_rfl
theorem ni274 : (match Try.prog.underlying 274 with | some (.interface _) => false | none => false | _ => true) = true := by kernel_rfl
theorem z274 : zeroC Try.prog 274 = some [.int .i32 0] := by kernel_rfl
theorem sc275 : scal Try.prog 275 = true := by kernel_rfl
theorem ik275 : intK Try.prog 275 = some .i32 := by kernel_rfl
theorem un275 : (Try.prog.underlying 275).isSome = true := by kernel_rfl
theorem ni275 : (match Try.prog.underlying 275 with | some (.interface _) => false | none => false | _ => true) = true := by kernel_rfl
theorem z275 : zeroC Try.prog 275 = some [.int .i32 0] := by kernel_rfl
theorem ag276 : aggS Try.prog 276 = some 11 := by kernel_rfl
theorem fo276_0 : fldO Try.prog 276 0 = some 0 := by kernel_rfl
theorem fs276_0 : fldS Try.prog 276 0 = some 0 := by kernel_rfl
theorem fo276_1 : fldO Try.prog 276 1 = some 1 := by kernel_rfl
theorem fs276_1 : fldS Try.prog 276 1 = some 1 := by kernel_rfl
theorem fo276_2 : fldO Try.prog 276 2 = some 2 := by kernel_rfl
theorem fs276_2 : fldS Try.prog 276 2 = some 2 := by kernel_rfl
theorem fo276_3 : fldO Try.prog 276 3 = some 3 := by kernel_rfl
theorem fs276_3 : fldS Try.prog 276 3 = some 3 := by kernel_rfl
theorem fo276_4 : fldO Try.prog 276 4 = some 4 := by kernel_rfl
theorem fs276_4 : fldS Try.prog 276 4 = some 4 := by kernel_rfl
theorem fo276_5 : fldO Try.prog 276 5 = some 5 := by kernel_rfl
theorem fs276_5 : fldS Try.prog 276 5 = some 5 := by kernel_rfl
theorem fo276_6 : fldO Try.prog 276 6 = some 6 := by kernel_rfl
theorem fs276_6 : fldS Try.prog 276 6 = some 6 := by kernel_rfl
theorem fo276_7 : fldO Try.prog 276 7 = some 7 := by kernel_rfl
theorem fs276_7 : fldS Try.prog 276 7 = some 7 := by kernel_rfl
theorem fo276_8 : fldO Try.prog 276 8 = some 8 := by kernel_rfl
theorem fs276_8 : fldS Try.prog 276 8 = some 8 := by kernel_rfl
theorem fo276_9 : fldO Try.prog 276 9 = some 9 := by kernel_rfl
theorem fs276_9 : fldS Try.prog 276 9 = some 9 := by kernel_rfl
theorem fo276_10 : fldO Try.prog 276 10 = some 10 := by kernel_rfl
theorem fs276_10 : fldS Try.prog 276 10 = some 10 := by kernel_rfl
theorem ni276 : (match Try.prog.underlying 276 with | some (.interface _) => false | none => false | _ => true) = true := by kernel_rfl
theorem z276 : zeroC Try.prog 276 = some [.int .u64 0, .int .u64 0, .int .u32 0, .int .u8 0, .int .u8 0, .int .u8 0, .int .u8 0, .nilFunc, .pointer none, .int .i32 0, .int .i32 0] := by kernel_rfl
theorem ag277 : aggS Try.prog 277 = some 11 := by kernel_rfl
theorem fo277_0 : fldO Try.prog 277 0 = some 0 := by kernel_rfl
theorem fs277_0 : fldS Try.prog 277 0 = some 0 := by kernel_rfl
theorem fo277_1 : fldO Try.prog 277 1 = some 1 := by kernel_rfl
theorem fs277_1 : fldS Try.prog 277 1 = some 1 := by kernel_rfl
theorem fo277_2 : fldO Try.prog 277 2 = some 2 := by kernel_rfl
theorem fs277_2 : fldS Try.prog 277 2 = some 2 := by kernel_rfl
theorem fo277_3 : fldO Try.prog 277 3 = some 3 := by kernel_rfl
theorem fs277_3 : fldS Try.prog 277 3 = some 3 := by kernel_rfl
theorem fo277_4 : fldO Try.prog 277 4 = some 4 := by kernel_rfl
theorem fs277_4 : fldS Try.prog 277 4 = some 4 := by kernel_rfl
theorem fo277_5 : fldO Try.prog 277 5 = some 5 := by kernel_rfl
theorem fs277_5 : fldS Try.prog 277 5 = some 5 := by kernel_rfl
theorem fo277_6 : fldO Try.prog 277 6 = some 6 := by kernel_rfl
theorem fs277_6 : fldS Try.prog 277 6 = some 6 := by kernel_rfl
theorem fo277_7 : fldO Try.prog 277 7 = some 7 := by kernel_rfl
theorem fs277_7 : fldS Try.prog 277 7 = some 7 := by kernel_rfl
theorem fo277_8 : fldO Try.prog 277 8 = some 8 := by kernel_rfl
theorem fs277_8 : fldS Try.prog 277 8 = some 8 := by kernel_rfl
theorem fo277_9 : fldO Try.prog 277 9 = some 9 := by kernel_rfl
theorem fs277_9 : fldS Try.prog 277 9 = some 9 := by kernel_rfl
theorem fo277_10 : fldO Try.prog 277 10 = some 10 := by kernel_rfl
theorem fs277_10 : fldS Try.prog 277 10 = some 10 := by kernel_rfl
theorem ni277 : (match Try.prog.underlying 277 with | some (.interface _) => false | none => false | _ => true) = true := by kernel_rfl
theorem z277 : zeroC Try.prog 277 = some [.int .u64 0, .int .u64 0, .int .u32 0, .int .u8 0, .int .u8 0, .int .u8 0, .int .u8 0, .nilFunc, .pointer none, .int .i32 0, .int .i32 0] := by kernel_rfl
theorem sc278 : scal Try.prog 278 = true := by kernel_rfl
theorem ni278 : (match Try.prog.underlying 278 with | some (.interface _) => false | none => false | _ => true) = true := by kernel_rfl
theorem z278 : zeroC Try.prog 278 = some [.nilFunc] := by kernel_rfl
theorem sc279 : scal Try.prog 279 = true := by kernel_rfl
theorem ni279 : (match Try.prog.underlying 279 with | some (.interface _) => false | none => false | _ => true) = true := by kernel_rfl
theorem z279 : zeroC Try.prog 279 = some [.nilFunc] := by kernel_rfl
theorem sc280 : scal Try.prog 280 = true := by kernel_rfl
theorem ni280 : (match Try.prog.underlying 280 with | some (.interface _) => false | none => false | _ => true) = true := by kernel_rfl
theorem z280 : zeroC Try.prog 280 = some [.nilFunc] := by kernel_rfl
theorem sc281 : scal Try.prog 281 = true := by kernel_rfl
theorem ni281 : (match Try.prog.underlying 281 with | some (.interface _) => false | none => false | _ => true) = true := by kernel_rfl
theorem z281 : zeroC Try.prog 281 = some [.nilFunc] := by kernel_rfl
theorem sc282 : scal Try.prog 282 = true := by kernel_rfl
theorem ni282 : (match Try.prog.underlying 282 with | some (.interface _) => false | none => false | _ => true) = true := by kernel_rfl
theorem z282 : zeroC Try.prog 282 = some [.nilFunc] := by kernel_rfl
theorem sc283 : scal Try.prog 283 = true := by kernel_rfl
theorem ni283 : (match Try.prog.underlying 283 with | some (.interface _) => false | none => false | _ => true) = true := by kernel_rfl
theorem z283 : zeroC Try.prog 283 = some [.nilFunc] := by kernel_rfl
theorem sc284 : scal Try.prog 284 = true := by kernel_rfl
theorem ni284 : (match Try.prog.underlying 284 with | some (.interface _) => false | none => false | _ => true) = true := by kernel_rfl
theorem z284 : zeroC Try.prog 284 = some [.nilFunc] := by kernel_rfl
theorem sc285 : scal Try.prog 285 = true := by kernel_rfl
theorem ni285 : (match Try.prog.underlying 285 with | some (.interface _) => false | none => false | _ => true) = true := by kernel_rfl
theorem z285 : zeroC Try.prog 285 = some [.pointer none] := by kernel_rfl
theorem sc286 : scal Try.prog 286 = true := by kernel_rfl
theorem ni286 : (match Try.prog.underlying 286 with | some (.interface _) => false | none => false | _ => true) = true := by kernel_rfl
theorem z286 : zeroC Try.prog 286 = some [.float .f64 0] := by kernel_rfl
theorem sc287 : scal Try.prog 287 = true := by kernel_rfl
theorem ni287 : (match Try.prog.underlying 287 with | some (.interface _) => false | none => false | _ => true) = true := by kernel_rfl
theorem z287 : zeroC Try.prog 287 = some [.nilFunc] := by kernel_rfl
theorem mixed : Try.prog.follows .mixedOrders = true := by kernel_rfl
end Go.Proofs.Ythmkdioafjmclaa.Ty
