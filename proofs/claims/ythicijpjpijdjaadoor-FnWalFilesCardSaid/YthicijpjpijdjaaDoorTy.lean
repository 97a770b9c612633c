import Derived.Test.YthicijpjpijdjaaDoorSlMore
import Derived.Test.YthicijpjpijdjaaDoorProg
namespace Go.Proofs.YthicijpjpijdjaaDoor.Ty
open Go.Proofs.YthicijpjpijdjaaDoor.Sl
set_option maxRecDepth 100000
theorem sc1 : scal Tryd.prog 1 = true := by kernel_rfl
theorem ni1 : (match Tryd.prog.underlying 1 with | some (.interface _) => false | none => false | _ => true) = true := by kernel_rfl
theorem z1 : zeroC Tryd.prog 1 = some [.nilFunc] := by kernel_rfl
theorem sc2 : scal Tryd.prog 2 = true := by kernel_rfl
theorem ik2 : intK Tryd.prog 2 = some .i64 := by kernel_rfl
theorem un2 : (Tryd.prog.underlying 2).isSome = true := by kernel_rfl
theorem ni2 : (match Tryd.prog.underlying 2 with | some (.interface _) => false | none => false | _ => true) = true := by kernel_rfl
theorem z2 : zeroC Tryd.prog 2 = some [.int .i64 0] := by kernel_rfl
theorem sc3 : scal Tryd.prog 3 = true := by kernel_rfl
theorem ik3 : intK Tryd.prog 3 = some .i64 := by kernel_rfl
theorem un3 : (Tryd.prog.underlying 3).isSome = true := by kernel_rfl
theorem ni3 : (match Tryd.prog.underlying 3 with | some (.interface _) => false | none => false | _ => true) = true := by kernel_rfl
theorem z3 : zeroC Tryd.prog 3 = some [.int .i64 0] := by kernel_rfl
theorem sc4 : scal Tryd.prog 4 = true := by kernel_rfl
theorem ni4 : (match Tryd.prog.underlying 4 with | some (.interface _) => false | none => false | _ => true) = true := by kernel_rfl
theorem z4 : zeroC Tryd.prog 4 = some [.bool false] := by kernel_rfl
theorem sc5 : scal Tryd.prog 5 = true := by kernel_rfl
theorem ik5 : intK Tryd.prog 5 = some .u8 := by kernel_rfl
theorem un5 : (Tryd.prog.underlying 5).isSome = true := by kernel_rfl
theorem ni5 : (match Tryd.prog.underlying 5 with | some (.interface _) => false | none => false | _ => true) = true := by kernel_rfl
theorem z5 : zeroC Tryd.prog 5 = some [.int .u8 0] := by kernel_rfl
theorem sc6 : scal Tryd.prog 6 = true := by kernel_rfl
theorem ik6 : intK Tryd.prog 6 = some .u8 := by kernel_rfl
theorem un6 : (Tryd.prog.underlying 6).isSome = true := by kernel_rfl
theorem ni6 : (match Tryd.prog.underlying 6 with | some (.interface _) => false | none => false | _ => true) = true := by kernel_rfl
theorem z6 : zeroC Tryd.prog 6 = some [.int .u8 0] := by kernel_rfl
theorem ag7 : aggS Tryd.prog 7 = some 4 := by kernel_rfl
theorem fo7_0 : fldO Tryd.prog 7 0 = some 0 := by kernel_rfl
theorem fs7_0 : fldS Tryd.prog 7 0 = some 0 := by kernel_rfl
theorem fo7_1 : fldO Tryd.prog 7 1 = some 1 := by kernel_rfl
theorem fs7_1 : fldS Tryd.prog 7 1 = some 1 := by kernel_rfl
theorem fo7_2 : fldO Tryd.prog 7 2 = some 2 := by kernel_rfl
theorem fs7_2 : fldS Tryd.prog 7 2 = some 2 := by kernel_rfl
theorem fo7_3 : fldO Tryd.prog 7 3 = some 3 := by kernel_rfl
theorem fs7_3 : fldS Tryd.prog 7 3 = some 3 := by kernel_rfl
theorem ni7 : (match Tryd.prog.underlying 7 with | some (.interface _) => false | none => false | _ => true) = true := by kernel_rfl
theorem z7 : zeroC Tryd.prog 7 = some [.int .i64 0, .int .i64 0, .bool false, .int .u8 0] := by kernel_rfl
theorem ag8 : aggS Tryd.prog 8 = some 4 := by kernel_rfl
theorem fo8_0 : fldO Tryd.prog 8 0 = some 0 := by kernel_rfl
theorem fs8_0 : fldS Tryd.prog 8 0 = some 0 := by kernel_rfl
theorem fo8_1 : fldO Tryd.prog 8 1 = some 1 := by kernel_rfl
theorem fs8_1 : fldS Tryd.prog 8 1 = some 1 := by kernel_rfl
theorem fo8_2 : fldO Tryd.prog 8 2 = some 2 := by kernel_rfl
theorem fs8_2 : fldS Tryd.prog 8 2 = some 2 := by kernel_rfl
theorem fo8_3 : fldO Tryd.prog 8 3 = some 3 := by kernel_rfl
theorem fs8_3 : fldS Tryd.prog 8 3 = some 3 := by kernel_rfl
theorem ni8 : (match Tryd.prog.underlying 8 with | some (.interface _) => false | none => false | _ => true) = true := by kernel_rfl
theorem z8 : zeroC Tryd.prog 8 = some [.int .i64 0, .int .i64 0, .bool false, .int .u8 0] := by kernel_rfl
theorem sc9 : scal Tryd.prog 9 = true := by kernel_rfl
theorem st9 : isStr Tryd.prog 9 = true := by kernel_rfl
theorem ni9 : (match Tryd.prog.underlying 9 with | some (.interface _) => false | none => false | _ => true) = true := by kernel_rfl
theorem z9 : zeroC Tryd.prog 9 = some [.string ⟨#[]⟩] := by kernel_rfl
theorem sc10 : scal Tryd.prog 10 = true := by kernel_rfl
theorem st10 : isStr Tryd.prog 10 = true := by kernel_rfl
theorem ni10 : (match Tryd.prog.underlying 10 with | some (.interface _) => false | none => false | _ => true) = true := by kernel_rfl
theorem z10 : zeroC Tryd.prog 10 = some [.string ⟨#[]⟩] := by kernel_rfl
theorem sc11 : scal Tryd.prog 11 = true := by kernel_rfl
theorem st11 : isStr Tryd.prog 11 = true := by kernel_rfl
theorem ni11 : (match Tryd.prog.underlying 11 with | some (.interface _) => false | none => false | _ => true) = true := by kernel_rfl
theorem z11 : zeroC Tryd.prog 11 = some [.string ⟨#[]⟩] := by kernel_rfl
theorem sc12 : scal Tryd.prog 12 = true := by kernel_rfl
theorem ik12 : intK Tryd.prog 12 = some .u64 := by kernel_rfl
theorem un12 : (Tryd.prog.underlying 12).isSome = true := by kernel_rfl
theorem ni12 : (match Tryd.prog.underlying 12 with | some (.interface _) => false | none => false | _ => true) = true := by kernel_rfl
theorem z12 : zeroC Tryd.prog 12 = some [.int .u64 0] := by kernel_rfl
theorem ag13 : aggS Tryd.prog 13 = some 2 := by kernel_rfl
theorem fo13_0 : fldO Tryd.prog 13 0 = some 0 := by kernel_rfl
theorem fs13_0 : fldS Tryd.prog 13 0 = some 0 := by kernel_rfl
theorem fo13_1 : fldO Tryd.prog 13 1 = some 1 := by kernel_rfl
theorem fs13_1 : fldS Tryd.prog 13 1 = some 1 := by kernel_rfl
theorem ni13 : (match Tryd.prog.underlying 13 with | some (.interface _) => false | none => false | _ => true) = true := by kernel_rfl
theorem z13 : zeroC Tryd.prog 13 = some [.string ⟨#[]⟩, .int .u64 0] := by kernel_rfl
theorem ag14 : aggS Tryd.prog 14 = some 2 := by kernel_rfl
theorem fo14_0 : fldO Tryd.prog 14 0 = some 0 := by kernel_rfl
theorem fs14_0 : fldS Tryd.prog 14 0 = some 0 := by kernel_rfl
theorem fo14_1 : fldO Tryd.prog 14 1 = some 1 := by kernel_rfl
theorem fs14_1 : fldS Tryd.prog 14 1 = some 1 := by kernel_rfl
theorem ni14 : (match Tryd.prog.underlying 14 with | some (.interface _) => false | none => false | _ => true) = true := by kernel_rfl
theorem z14 : zeroC Tryd.prog 14 = some [.string ⟨#[]⟩, .int .u64 0] := by kernel_rfl
theorem sc15 : scal Tryd.prog 15 = true := by kernel_rfl
theorem ip15 : isPtr Tryd.prog 15 = true := by kernel_rfl
theorem ni15 : (match Tryd.prog.underlying 15 with | some (.interface _) => false | none => false | _ => true) = true := by kernel_rfl
theorem z15 : zeroC Tryd.prog 15 = some [.pointer none] := by kernel_rfl
theorem sc16 : scal Tryd.prog 16 = true := by kernel_rfl
theorem ip16 : isPtr Tryd.prog 16 = true := by kernel_rfl
theorem ni16 : (match Tryd.prog.underlying 16 with | some (.interface _) => false | none => false | _ => true) = true := by kernel_rfl
theorem z16 : zeroC Tryd.prog 16 = some [.pointer none] := by kernel_rfl
theorem sc17 : scal Tryd.prog 17 = true := by kernel_rfl
theorem ip17 : isPtr Tryd.prog 17 = true := by kernel_rfl
theorem ni17 : (match Tryd.prog.underlying 17 with | some (.interface _) => false | none => false | _ => true) = true := by kernel_rfl
theorem z17 : zeroC Tryd.prog 17 = some [.pointer none] := by kernel_rfl
theorem ag18 : aggS Tryd.prog 18 = some 1 := by kernel_rfl
theorem fo18_0 : fldO Tryd.prog 18 0 = some 0 := by kernel_rfl
theorem fs18_0 : fldS Tryd.prog 18 0 = some 0 := by kernel_rfl
theorem ni18 : (match Tryd.prog.underlying 18 with | some (.interface _) => false | none => false | _ => true) = true := by kernel_rfl
theorem z18 : zeroC Tryd.prog 18 = some [.pointer none] := by kernel_rfl
theorem ag19 : aggS Tryd.prog 19 = some 1 := by kernel_rfl
theorem fo19_0 : fldO Tryd.prog 19 0 = some 0 := by kernel_rfl
theorem fs19_0 : fldS Tryd.prog 19 0 = some 0 := by kernel_rfl
theorem ni19 : (match Tryd.prog.underlying 19 with | some (.interface _) => false | none => false | _ => true) = true := by kernel_rfl
theorem z19 : zeroC Tryd.prog 19 = some [.pointer none] := by kernel_rfl
theorem sc20 : scal Tryd.prog 20 = true := by kernel_rfl
theorem if20 : isIfc Tryd.prog 20 = true := by kernel_rfl
theorem z20 : zeroC Tryd.prog 20 = some [.nilIface] := by kernel_rfl
theorem sc21 : scal Tryd.prog 21 = true := by kernel_rfl
theorem ik21 : intK Tryd.prog 21 = some .i32 := by kernel_rfl
theorem un21 : (Tryd.prog.underlying 21).isSome = true := by kernel_rfl
theorem ni21 : (match Tryd.prog.underlying 21 with | some (.interface _) => false | none => false | _ => true) = true := by kernel_rfl
theorem z21 : zeroC Tryd.prog 21 = some [.int .i32 0] := by kernel_rfl
theorem sc22 : scal Tryd.prog 22 = true := by kernel_rfl
theorem ik22 : intK Tryd.prog 22 = some .u32 := by kernel_rfl
theorem un22 : (Tryd.prog.underlying 22).isSome = true := by kernel_rfl
theorem ni22 : (match Tryd.prog.underlying 22 with | some (.interface _) => false | none => false | _ => true) = true := by kernel_rfl
theorem z22 : zeroC Tryd.prog 22 = some [.int .u32 0] := by kernel_rfl
theorem sc23 : scal Tryd.prog 23 = true := by kernel_rfl
theorem sl23 : slcE Tryd.prog 23 = some (44, 6, 48) := by kernel_rfl
theorem is23 : isSlc Tryd.prog 23 = true := by kernel_rfl
theorem ni23 : (match Tryd.prog.underlying 23 with | some (.interface _) => false | none => false | _ => true) = true := by kernel_rfl
theorem z23 : zeroC Tryd.prog 23 = some [.slice none 0 0] := by kernel_rfl
theorem sc24 : scal Tryd.prog 24 = true := by kernel_rfl
theorem ni24 : (match Tryd.prog.underlying 24 with | some (.interface _) => false | none => false | _ => true) = true := by kernel_rfl
theorem z24 : zeroC Tryd.prog 24 = some [.nilFunc] := by kernel_rfl
theorem sc25 : scal Tryd.prog 25 = true := by kernel_rfl
theorem ni25 : (match Tryd.prog.underlying 25 with | some (.interface _) => false | none => false | _ => true) = true := by kernel_rfl
theorem z25 : zeroC Tryd.prog 25 = some [.nilFunc] := by kernel_rfl
theorem sc26 : scal Tryd.prog 26 = true := by kernel_rfl
theorem ni26 : (match Tryd.prog.underlying 26 with | some (.interface _) => false | none => false | _ => true) = true := by kernel_rfl
theorem z26 : zeroC Tryd.prog 26 = some [.nilFunc] := by kernel_rfl
theorem sc27 : scal Tryd.prog 27 = true := by kernel_rfl
theorem sl27 : slcE Tryd.prog 27 = some (9, 1, 16) := by kernel_rfl
theorem is27 : isSlc Tryd.prog 27 = true := by kernel_rfl
theorem ni27 : (match Tryd.prog.underlying 27 with | some (.interface _) => false | none => false | _ => true) = true := by kernel_rfl
theorem z27 : zeroC Tryd.prog 27 = some [.slice none 0 0] := by kernel_rfl
theorem sc29 : scal Tryd.prog 29 = true := by kernel_rfl
theorem ni29 : (match Tryd.prog.underlying 29 with | some (.interface _) => false | none => false | _ => true) = true := by kernel_rfl
theorem z29 : zeroC Tryd.prog 29 = some [.nilFunc] := by kernel_rfl
theorem ag30 : aggS Tryd.prog 30 = some 4 := by kernel_rfl
theorem fo30_0 : fldO Tryd.prog 30 0 = some 0 := by kernel_rfl
theorem fs30_0 : fldS Tryd.prog 30 0 = some 0 := by kernel_rfl
theorem fo30_1 : fldO Tryd.prog 30 1 = some 1 := by kernel_rfl
theorem fs30_1 : fldS Tryd.prog 30 1 = some 1 := by kernel_rfl
theorem fo30_2 : fldO Tryd.prog 30 2 = some 2 := by kernel_rfl
theorem fs30_2 : fldS Tryd.prog 30 2 = some 2 := by kernel_rfl
theorem fo30_3 : fldO Tryd.prog 30 3 = some 3 := by kernel_rfl
theorem fs30_3 : fldS Tryd.prog 30 3 = some 3 := by kernel_rfl
theorem ni30 : (match Tryd.prog.underlying 30 with | some (.interface _) => false | none => false | _ => true) = true := by kernel_rfl
theorem z30 : zeroC Tryd.prog 30 = some [.slice none 0 0, .int .i64 0, .int .i64 0, .int .u32 0] := by kernel_rfl
theorem ag31 : aggS Tryd.prog 31 = some 4 := by kernel_rfl
theorem fo31_0 : fldO Tryd.prog 31 0 = some 0 := by kernel_rfl
theorem fs31_0 : fldS Tryd.prog 31 0 = some 0 := by kernel_rfl
theorem fo31_1 : fldO Tryd.prog 31 1 = some 1 := by kernel_rfl
theorem fs31_1 : fldS Tryd.prog 31 1 = some 1 := by kernel_rfl
theorem fo31_2 : fldO Tryd.prog 31 2 = some 2 := by kernel_rfl
theorem fs31_2 : fldS Tryd.prog 31 2 = some 2 := by kernel_rfl
theorem fo31_3 : fldO Tryd.prog 31 3 = some 3 := by kernel_rfl
theorem fs31_3 : fldS Tryd.prog 31 3 = some 3 := by kernel_rfl
theorem ni31 : (match Tryd.prog.underlying 31 with | some (.interface _) => false | none => false | _ => true) = true := by kernel_rfl
theorem z31 : zeroC Tryd.prog 31 = some [.slice none 0 0, .int .i64 0, .int .i64 0, .int .u32 0] := by kernel_rfl
theorem sc32 : scal Tryd.prog 32 = true := by kernel_rfl
theorem ni32 : (match Tryd.prog.underlying 32 with | some (.interface _) => false | none => false | _ => true) = true := by kernel_rfl
theorem z32 : zeroC Tryd.prog 32 = some [.nilFunc] := by kernel_rfl
theorem sc33 : scal Tryd.prog 33 = true := by kernel_rfl
theorem ni33 : (match Tryd.prog.underlying 33 with | some (.interface _) => false | none => false | _ => true) = true := by kernel_rfl
theorem z33 : zeroC Tryd.prog 33 = some [.nilFunc] := by kernel_rfl
theorem sc34 : scal Tryd.prog 34 = true := by kernel_rfl
theorem ni34 : (match Tryd.prog.underlying 34 with | some (.interface _) => false | none => false | _ => true) = true := by kernel_rfl
theorem z34 : zeroC Tryd.prog 34 = some [.nilFunc] := by kernel_rfl
theorem sc35 : scal Tryd.prog 35 = true := by kernel_rfl
theorem ni35 : (match Tryd.prog.underlying 35 with | some (.interface _) => false | none => false | _ => true) = true := by kernel_rfl
theorem z35 : zeroC Tryd.prog 35 = some [.nilFunc] := by kernel_rfl
theorem sc36 : scal Tryd.prog 36 = true := by kernel_rfl
theorem sl36 : slcE Tryd.prog 36 = some (3, 1, 8) := by kernel_rfl
theorem is36 : isSlc Tryd.prog 36 = true := by kernel_rfl
theorem ni36 : (match Tryd.prog.underlying 36 with | some (.interface _) => false | none => false | _ => true) = true := by kernel_rfl
theorem z36 : zeroC Tryd.prog 36 = some [.slice none 0 0] := by kernel_rfl
theorem sc37 : scal Tryd.prog 37 = true := by kernel_rfl
theorem ni37 : (match Tryd.prog.underlying 37 with | some (.interface _) => false | none => false | _ => true) = true := by kernel_rfl
theorem z37 : zeroC Tryd.prog 37 = some [.nilFunc] := by kernel_rfl
theorem sc38 : scal Tryd.prog 38 = true := by kernel_rfl
theorem ni38 : (match Tryd.prog.underlying 38 with | some (.interface _) => false | none => false | _ => true) = true := by kernel_rfl
theorem z38 : zeroC Tryd.prog 38 = some [.nilFunc] := by kernel_rfl
theorem sc39 : scal Tryd.prog 39 = true := by kernel_rfl
theorem ni39 : (match Tryd.prog.underlying 39 with | some (.interface _) => false | none => false | _ => true) = true := by kernel_rfl
theorem z39 : zeroC Tryd.prog 39 = some [.nilFunc] := by kernel_rfl
theorem sc40 : scal Tryd.prog 40 = true := by kernel_rfl
theorem sl40 : slcE Tryd.prog 40 = some (5, 1, 1) := by kernel_rfl
theorem is40 : isSlc Tryd.prog 40 = true := by kernel_rfl
theorem by40 : isBytes Tryd.prog 40 = some 5 := by kernel_rfl
theorem ni40 : (match Tryd.prog.underlying 40 with | some (.interface _) => false | none => false | _ => true) = true := by kernel_rfl
theorem z40 : zeroC Tryd.prog 40 = some [.slice none 0 0] := by kernel_rfl
theorem sc42 : scal Tryd.prog 42 = true := by kernel_rfl
theorem ni42 : (match Tryd.prog.underlying 42 with | some (.interface _) => false | none => false | _ => true) = true := by kernel_rfl
theorem z42 : zeroC Tryd.prog 42 = some [.nilFunc] := by kernel_rfl
theorem ag43 : aggS Tryd.prog 43 = some 6 := by kernel_rfl
theorem fo43_0 : fldO Tryd.prog 43 0 = some 0 := by kernel_rfl
theorem fs43_0 : fldS Tryd.prog 43 0 = some 0 := by kernel_rfl
theorem fo43_1 : fldO Tryd.prog 43 1 = some 1 := by kernel_rfl
theorem fs43_1 : fldS Tryd.prog 43 1 = some 1 := by kernel_rfl
theorem fo43_2 : fldO Tryd.prog 43 2 = some 2 := by kernel_rfl
theorem fs43_2 : fldS Tryd.prog 43 2 = some 2 := by kernel_rfl
theorem fo43_3 : fldO Tryd.prog 43 3 = some 3 := by kernel_rfl
theorem fs43_3 : fldS Tryd.prog 43 3 = some 3 := by kernel_rfl
theorem fo43_4 : fldO Tryd.prog 43 4 = some 4 := by kernel_rfl
theorem fs43_4 : fldS Tryd.prog 43 4 = some 4 := by kernel_rfl
theorem fo43_5 : fldO Tryd.prog 43 5 = some 5 := by kernel_rfl
theorem fs43_5 : fldS Tryd.prog 43 5 = some 5 := by kernel_rfl
theorem ni43 : (match Tryd.prog.underlying 43 with | some (.interface _) => false | none => false | _ => true) = true := by kernel_rfl
theorem z43 : zeroC Tryd.prog 43 = some [.int .i64 0, .bool false, .int .u32 0, .bool false, .string ⟨#[]⟩, .bool false] := by kernel_rfl
theorem ag44 : aggS Tryd.prog 44 = some 6 := by kernel_rfl
theorem fo44_0 : fldO Tryd.prog 44 0 = some 0 := by kernel_rfl
theorem fs44_0 : fldS Tryd.prog 44 0 = some 0 := by kernel_rfl
theorem fo44_1 : fldO Tryd.prog 44 1 = some 1 := by kernel_rfl
theorem fs44_1 : fldS Tryd.prog 44 1 = some 1 := by kernel_rfl
theorem fo44_2 : fldO Tryd.prog 44 2 = some 2 := by kernel_rfl
theorem fs44_2 : fldS Tryd.prog 44 2 = some 2 := by kernel_rfl
theorem fo44_3 : fldO Tryd.prog 44 3 = some 3 := by kernel_rfl
theorem fs44_3 : fldS Tryd.prog 44 3 = some 3 := by kernel_rfl
theorem fo44_4 : fldO Tryd.prog 44 4 = some 4 := by kernel_rfl
theorem fs44_4 : fldS Tryd.prog 44 4 = some 4 := by kernel_rfl
theorem fo44_5 : fldO Tryd.prog 44 5 = some 5 := by kernel_rfl
theorem fs44_5 : fldS Tryd.prog 44 5 = some 5 := by kernel_rfl
theorem ni44 : (match Tryd.prog.underlying 44 with | some (.interface _) => false | none => false | _ => true) = true := by kernel_rfl
theorem z44 : zeroC Tryd.prog 44 = some [.int .i64 0, .bool false, .int .u32 0, .bool false, .string ⟨#[]⟩, .bool false] := by kernel_rfl
theorem sc45 : scal Tryd.prog 45 = true := by kernel_rfl
theorem ni45 : (match Tryd.prog.underlying 45 with | some (.interface _) => false | none => false | _ => true) = true := by kernel_rfl
theorem z45 : zeroC Tryd.prog 45 = some [.nilFunc] := by kernel_rfl
theorem sc46 : scal Tryd.prog 46 = true := by kernel_rfl
theorem ni46 : (match Tryd.prog.underlying 46 with | some (.interface _) => false | none => false | _ => true) = true := by kernel_rfl
theorem z46 : zeroC Tryd.prog 46 = some [.nilFunc] := by kernel_rfl
theorem sc47 : scal Tryd.prog 47 = true := by kernel_rfl
theorem sl47 : slcE Tryd.prog 47 = some (22, 1, 4) := by kernel_rfl
theorem is47 : isSlc Tryd.prog 47 = true := by kernel_rfl
theorem ni47 : (match Tryd.prog.underlying 47 with | some (.interface _) => false | none => false | _ => true) = true := by kernel_rfl
theorem z47 : zeroC Tryd.prog 47 = some [.slice none 0 0] := by kernel_rfl
theorem sc49 : scal Tryd.prog 49 = true := by kernel_rfl
theorem ni49 : (match Tryd.prog.underlying 49 with | some (.interface _) => false | none => false | _ => true) = true := by kernel_rfl
theorem z49 : zeroC Tryd.prog 49 = some [.nilFunc] := by kernel_rfl
theorem sc50 : scal Tryd.prog 50 = true := by kernel_rfl
theorem sl50 : slcE Tryd.prog 50 = some (51, 1, 24) := by kernel_rfl
theorem is50 : isSlc Tryd.prog 50 = true := by kernel_rfl
theorem ni50 : (match Tryd.prog.underlying 50 with | some (.interface _) => false | none => false | _ => true) = true := by kernel_rfl
theorem z50 : zeroC Tryd.prog 50 = some [.slice none 0 0] := by kernel_rfl
theorem sc51 : scal Tryd.prog 51 = true := by kernel_rfl
theorem sl51 : slcE Tryd.prog 51 = some (5, 1, 1) := by kernel_rfl
theorem is51 : isSlc Tryd.prog 51 = true := by kernel_rfl
theorem by51 : isBytes Tryd.prog 51 = some 5 := by kernel_rfl
theorem ni51 : (match Tryd.prog.underlying 51 with | some (.interface _) => false | none => false | _ => true) = true := by kernel_rfl
theorem z51 : zeroC Tryd.prog 51 = some [.slice none 0 0] := by kernel_rfl
theorem sc52 : scal Tryd.prog 52 = true := by kernel_rfl
theorem if52 : isIfc Tryd.prog 52 = true := by kernel_rfl
theorem z52 : zeroC Tryd.prog 52 = some [.nilIface] := by kernel_rfl
theorem sc53 : scal Tryd.prog 53 = true := by kernel_rfl
theorem if53 : isIfc Tryd.prog 53 = true := by kernel_rfl
theorem z53 : zeroC Tryd.prog 53 = some [.nilIface] := by kernel_rfl
theorem sc54 : scal Tryd.prog 54 = true := by kernel_rfl
theorem ni54 : (match Tryd.prog.underlying 54 with | some (.interface _) => false | none => false | _ => true) = true := by kernel_rfl
theorem z54 : zeroC Tryd.prog 54 = some [.nilFunc] := by kernel_rfl
theorem sc55 : scal Tryd.prog 55 = true := by kernel_rfl
theorem ip55 : isPtr Tryd.prog 55 = true := by kernel_rfl
theorem ni55 : (match Tryd.prog.underlying 55 with | some (.interface _) => false | none => false | _ => true) = true := by kernel_rfl
theorem z55 : zeroC Tryd.prog 55 = some [.pointer none] := by kernel_rfl
theorem sc56 : scal Tryd.prog 56 = true := by kernel_rfl
theorem ip56 : isPtr Tryd.prog 56 = true := by kernel_rfl
theorem ni56 : (match Tryd.prog.underlying 56 with | some (.interface _) => false | none => false | _ => true) = true := by kernel_rfl
theorem z56 : zeroC Tryd.prog 56 = some [.pointer none] := by kernel_rfl
theorem sc57 : scal Tryd.prog 57 = true := by kernel_rfl
theorem ip57 : isPtr Tryd.prog 57 = true := by kernel_rfl
theorem ni57 : (match Tryd.prog.underlying 57 with | some (.interface _) => false | none => false | _ => true) = true := by kernel_rfl
theorem z57 : zeroC Tryd.prog 57 = some [.pointer none] := by kernel_rfl
theorem ag58 : aggS Tryd.prog 58 = some 3 := by kernel_rfl
theorem fo58_0 : fldO Tryd.prog 58 0 = some 0 := by kernel_rfl
theorem fs58_0 : fldS Tryd.prog 58 0 = some 0 := by kernel_rfl
theorem fo58_1 : fldO Tryd.prog 58 1 = some 1 := by kernel_rfl
theorem fs58_1 : fldS Tryd.prog 58 1 = some 1 := by kernel_rfl
theorem fo58_2 : fldO Tryd.prog 58 2 = some 2 := by kernel_rfl
theorem fs58_2 : fldS Tryd.prog 58 2 = some 2 := by kernel_rfl
theorem ni58 : (match Tryd.prog.underlying 58 with | some (.interface _) => false | none => false | _ => true) = true := by kernel_rfl
theorem z58 : zeroC Tryd.prog 58 = some [.pointer none, .pointer none, .slice none 0 0] := by kernel_rfl
theorem ag59 : aggS Tryd.prog 59 = some 3 := by kernel_rfl
theorem fo59_0 : fldO Tryd.prog 59 0 = some 0 := by kernel_rfl
theorem fs59_0 : fldS Tryd.prog 59 0 = some 0 := by kernel_rfl
theorem fo59_1 : fldO Tryd.prog 59 1 = some 1 := by kernel_rfl
theorem fs59_1 : fldS Tryd.prog 59 1 = some 1 := by kernel_rfl
theorem fo59_2 : fldO Tryd.prog 59 2 = some 2 := by kernel_rfl
theorem fs59_2 : fldS Tryd.prog 59 2 = some 2 := by kernel_rfl
theorem ni59 : (match Tryd.prog.underlying 59 with | some (.interface _) => false | none => false | _ => true) = true := by kernel_rfl
theorem z59 : zeroC Tryd.prog 59 = some [.pointer none, .pointer none, .slice none 0 0] := by kernel_rfl
theorem sc60 : scal Tryd.prog 60 = true := by kernel_rfl
theorem if60 : isIfc Tryd.prog 60 = true := by kernel_rfl
theorem z60 : zeroC Tryd.prog 60 = some [.nilIface] := by kernel_rfl
theorem sc61 : scal Tryd.prog 61 = true := by kernel_rfl
theorem if61 : isIfc Tryd.prog 61 = true := by kernel_rfl
theorem z61 : zeroC Tryd.prog 61 = some [.nilIface] := by kernel_rfl
theorem sc62 : scal Tryd.prog 62 = true := by kernel_rfl
theorem ni62 : (match Tryd.prog.underlying 62 with | some (.interface _) => false | none => false | _ => true) = true := by kernel_rfl
theorem z62 : zeroC Tryd.prog 62 = some [.nilFunc] := by kernel_rfl
theorem sc63 : scal Tryd.prog 63 = true := by kernel_rfl
theorem st63 : isStr Tryd.prog 63 = true := by kernel_rfl
theorem ni63 : (match Tryd.prog.underlying 63 with | some (.interface _) => false | none => false | _ => true) = true := by kernel_rfl
theorem z63 : zeroC Tryd.prog 63 = some [.string ⟨#[]⟩] := by kernel_rfl
theorem sc64 : scal Tryd.prog 64 = true := by kernel_rfl
theorem ni64 : (match Tryd.prog.underlying 64 with | some (.interface _) => false | none => false | _ => true) = true := by kernel_rfl
theorem z64 : zeroC Tryd.prog 64 = some [.nilFunc] := by kernel_rfl
theorem sc65 : scal Tryd.prog 65 = true := by kernel_rfl
theorem ni65 : (match Tryd.prog.underlying 65 with | some (.interface _) => false | none => false | _ => true) = true := by kernel_rfl
theorem z65 : zeroC Tryd.prog 65 = some [.nilFunc] := by kernel_rfl
theorem sc66 : scal Tryd.prog 66 = true := by kernel_rfl
theorem ni66 : (match Tryd.prog.underlying 66 with | some (.interface _) => false | none => false | _ => true) = true := by kernel_rfl
theorem z66 : zeroC Tryd.prog 66 = some [.nilFunc] := by kernel_rfl
theorem sc67 : scal Tryd.prog 67 = true := by kernel_rfl
theorem ni67 : (match Tryd.prog.underlying 67 with | some (.interface _) => false | none => false | _ => true) = true := by kernel_rfl
theorem z67 : zeroC Tryd.prog 67 = some [.nilFunc] := by kernel_rfl
theorem sc68 : scal Tryd.prog 68 = true := by kernel_rfl
theorem ni68 : (match Tryd.prog.underlying 68 with | some (.interface _) => false | none => false | _ => true) = true := by kernel_rfl
theorem z68 : zeroC Tryd.prog 68 = some [.nilFunc] := by kernel_rfl
theorem sc69 : scal Tryd.prog 69 = true := by kernel_rfl
theorem ni69 : (match Tryd.prog.underlying 69 with | some (.interface _) => false | none => false | _ => true) = true := by kernel_rfl
theorem z69 : zeroC Tryd.prog 69 = some [.nilFunc] := by kernel_rfl
theorem sc70 : scal Tryd.prog 70 = true := by kernel_rfl
theorem ip70 : isPtr Tryd.prog 70 = true := by kernel_rfl
theorem ni70 : (match Tryd.prog.underlying 70 with | some (.interface _) => false | none => false | _ => true) = true := by kernel_rfl
theorem z70 : zeroC Tryd.prog 70 = some [.pointer none] := by kernel_rfl
theorem ag71 : aggS Tryd.prog 71 = some 1 := by kernel_rfl
theorem fo71_0 : fldO Tryd.prog 71 0 = some 0 := by kernel_rfl
theorem fs71_0 : fldS Tryd.prog 71 0 = some 0 := by kernel_rfl
theorem ni71 : (match Tryd.prog.underlying 71 with | some (.interface _) => false | none => false | _ => true) = true := by kernel_rfl
theorem z71 : zeroC Tryd.prog 71 = some [.slice none 0 0] := by kernel_rfl
theorem ag72 : aggS Tryd.prog 72 = some 1 := by kernel_rfl
theorem fo72_0 : fldO Tryd.prog 72 0 = some 0 := by kernel_rfl
theorem fs72_0 : fldS Tryd.prog 72 0 = some 0 := by kernel_rfl
theorem ni72 : (match Tryd.prog.underlying 72 with | some (.interface _) => false | none => false | _ => true) = true := by kernel_rfl
theorem z72 : zeroC Tryd.prog 72 = some [.slice none 0 0] := by kernel_rfl
theorem sc73 : scal Tryd.prog 73 = true := by kernel_rfl
theorem ip73 : isPtr Tryd.prog 73 = true := by kernel_rfl
theorem ni73 : (match Tryd.prog.underlying 73 with | some (.interface _) => false | none => false | _ => true) = true := by kernel_rfl
theorem z73 : zeroC Tryd.prog 73 = some [.pointer none] := by kernel_rfl
theorem ag74 : aggS Tryd.prog 74 = some 1 := by kernel_rfl
theorem fo74_0 : fldO Tryd.prog 74 0 = some 0 := by kernel_rfl
theorem fs74_0 : fldS Tryd.prog 74 0 = some 0 := by kernel_rfl
theorem ni74 : (match Tryd.prog.underlying 74 with | some (.interface _) => false | none => false | _ => true) = true := by kernel_rfl
theorem z74 : zeroC Tryd.prog 74 = some [.pointer none] := by kernel_rfl
theorem ag75 : aggS Tryd.prog 75 = some 1 := by kernel_rfl
theorem fo75_0 : fldO Tryd.prog 75 0 = some 0 := by kernel_rfl
theorem fs75_0 : fldS Tryd.prog 75 0 = some 0 := by kernel_rfl
theorem ni75 : (match Tryd.prog.underlying 75 with | some (.interface _) => false | none => false | _ => true) = true := by kernel_rfl
theorem z75 : zeroC Tryd.prog 75 = some [.pointer none] := by kernel_rfl
theorem sc76 : scal Tryd.prog 76 = true := by kernel_rfl
theorem ni76 : (match Tryd.prog.underlying 76 with | some (.interface _) => false | none => false | _ => true) = true := by kernel_rfl
theorem z76 : zeroC Tryd.prog 76 = some [.nilFunc] := by kernel_rfl
theorem sc77 : scal Tryd.prog 77 = true := by kernel_rfl
theorem ni77 : (match Tryd.prog.underlying 77 with | some (.interface _) => false | none => false | _ => true) = true := by kernel_rfl
theorem z77 : zeroC Tryd.prog 77 = some [.nilFunc] := by kernel_rfl
theorem sc78 : scal Tryd.prog 78 = true := by kernel_rfl
theorem ni78 : (match Tryd.prog.underlying 78 with | some (.interface _) => false | none => false | _ => true) = true := by kernel_rfl
theorem z78 : zeroC Tryd.prog 78 = some [.nilFunc] := by kernel_rfl
theorem sc79 : scal Tryd.prog 79 = true := by kernel_rfl
theorem ni79 : (match Tryd.prog.underlying 79 with | some (.interface _) => false | none => false | _ => true) = true := by kernel_rfl
theorem z79 : zeroC Tryd.prog 79 = some [.nilFunc] := by kernel_rfl
theorem sc80 : scal Tryd.prog 80 = true := by kernel_rfl
theorem sl80 : slcE Tryd.prog 80 = some (81, 1, 8) := by kernel_rfl
theorem is80 : isSlc Tryd.prog 80 = true := by kernel_rfl
theorem ni80 : (match Tryd.prog.underlying 80 with | some (.interface _) => false | none => false | _ => true) = true := by kernel_rfl
theorem z80 : zeroC Tryd.prog 80 = some [.slice none 0 0] := by kernel_rfl
theorem sc81 : scal Tryd.prog 81 = true := by kernel_rfl
theorem ip81 : isPtr Tryd.prog 81 = true := by kernel_rfl
theorem ni81 : (match Tryd.prog.underlying 81 with | some (.interface _) => false | none => false | _ => true) = true := by kernel_rfl
theorem z81 : zeroC Tryd.prog 81 = some [.pointer none] := by kernel_rfl
theorem sc82 : scal Tryd.prog 82 = true := by kernel_rfl
theorem ni82 : (match Tryd.prog.underlying 82 with | some (.interface _) => false | none => false | _ => true) = true := by kernel_rfl
theorem z82 : zeroC Tryd.prog 82 = some [.nilFunc] := by kernel_rfl
theorem sc83 : scal Tryd.prog 83 = true := by kernel_rfl
theorem ip83 : isPtr Tryd.prog 83 = true := by kernel_rfl
theorem ni83 : (match Tryd.prog.underlying 83 with | some (.interface _) => false | none => false | _ => true) = true := by kernel_rfl
theorem z83 : zeroC Tryd.prog 83 = some [.pointer none] := by kernel_rfl
theorem sc84 : scal Tryd.prog 84 = true := by kernel_rfl
theorem ip84 : isPtr Tryd.prog 84 = true := by kernel_rfl
theorem ni84 : (match Tryd.prog.underlying 84 with | some (.interface _) => false | none => false | _ => true) = true := by kernel_rfl
theorem z84 : zeroC Tryd.prog 84 = some [.pointer none] := by kernel_rfl
theorem sc85 : scal Tryd.prog 85 = true := by kernel_rfl
theorem ni85 : (match Tryd.prog.underlying 85 with | some (.interface _) => false | none => false | _ => true) = true := by kernel_rfl
theorem z85 : zeroC Tryd.prog 85 = some [.nilFunc] := by kernel_rfl
theorem ag86 : aggS Tryd.prog 86 = some 0 := by kernel_rfl
theorem ni86 : (match Tryd.prog.underlying 86 with | some (.interface _) => false | none => false | _ => true) = true := by kernel_rfl
theorem z86 : zeroC Tryd.prog 86 = some [] := by kernel_rfl
theorem ag87 : aggS Tryd.prog 87 = some 0 := by kernel_rfl
theorem ni87 : (match Tryd.prog.underlying 87 with | some (.interface _) => false | none => false | _ => true) = true := by kernel_rfl
theorem z87 : zeroC Tryd.prog 87 = some [] := by kernel_rfl
theorem ag88 : aggS Tryd.prog 88 = some 4 := by kernel_rfl
theorem fa88_0 : fldA Tryd.prog 88 0 = some (0, 0) := by kernel_rfl
theorem fo88_1 : fldO Tryd.prog 88 1 = some 0 := by kernel_rfl
theorem fs88_1 : fldS Tryd.prog 88 1 = some 0 := by kernel_rfl
theorem fo88_2 : fldO Tryd.prog 88 2 = some 1 := by kernel_rfl
theorem fs88_2 : fldS Tryd.prog 88 2 = some 1 := by kernel_rfl
theorem fo88_3 : fldO Tryd.prog 88 3 = some 2 := by kernel_rfl
theorem fs88_3 : fldS Tryd.prog 88 3 = some 2 := by kernel_rfl
theorem fo88_4 : fldO Tryd.prog 88 4 = some 3 := by kernel_rfl
theorem fs88_4 : fldS Tryd.prog 88 4 = some 3 := by kernel_rfl
theorem ni88 : (match Tryd.prog.underlying 88 with | some (.interface _) => false | none => false | _ => true) = true := by kernel_rfl
theorem z88 : zeroC Tryd.prog 88 = some [.slice none 0 0, .int .i64 0, .pointer none, .bool false] := by kernel_rfl
theorem ag89 : aggS Tryd.prog 89 = some 4 := by kernel_rfl
theorem fa89_0 : fldA Tryd.prog 89 0 = some (0, 0) := by kernel_rfl
theorem fo89_1 : fldO Tryd.prog 89 1 = some 0 := by kernel_rfl
theorem fs89_1 : fldS Tryd.prog 89 1 = some 0 := by kernel_rfl
theorem fo89_2 : fldO Tryd.prog 89 2 = some 1 := by kernel_rfl
theorem fs89_2 : fldS Tryd.prog 89 2 = some 1 := by kernel_rfl
theorem fo89_3 : fldO Tryd.prog 89 3 = some 2 := by kernel_rfl
theorem fs89_3 : fldS Tryd.prog 89 3 = some 2 := by kernel_rfl
theorem fo89_4 : fldO Tryd.prog 89 4 = some 3 := by kernel_rfl
theorem fs89_4 : fldS Tryd.prog 89 4 = some 3 := by kernel_rfl
theorem ni89 : (match Tryd.prog.underlying 89 with | some (.interface _) => false | none => false | _ => true) = true := by kernel_rfl
theorem z89 : zeroC Tryd.prog 89 = some [.slice none 0 0, .int .i64 0, .pointer none, .bool false] := by kernel_rfl
theorem sc90 : scal Tryd.prog 90 = true := by kernel_rfl
theorem ik90 : intK Tryd.prog 90 = some .u64 := by kernel_rfl
theorem un90 : (Tryd.prog.underlying 90).isSome = true := by kernel_rfl
theorem ni90 : (match Tryd.prog.underlying 90 with | some (.interface _) => false | none => false | _ => true) = true := by kernel_rfl
theorem z90 : zeroC Tryd.prog 90 = some [.int .u64 0] := by kernel_rfl
theorem sc91 : scal Tryd.prog 91 = true := by kernel_rfl
theorem if91 : isIfc Tryd.prog 91 = true := by kernel_rfl
theorem z91 : zeroC Tryd.prog 91 = some [.nilIface] := by kernel_rfl
theorem sc92 : scal Tryd.prog 92 = true := by kernel_rfl
theorem if92 : isIfc Tryd.prog 92 = true := by kernel_rfl
theorem z92 : zeroC Tryd.prog 92 = some [.nilIface] := by kernel_rfl
theorem sc93 : scal Tryd.prog 93 = true := by kernel_rfl
theorem ni93 : (match Tryd.prog.underlying 93 with | some (.interface _) => false | none => false | _ => true) = true := by kernel_rfl
theorem z93 : zeroC Tryd.prog 93 = some [.nilFunc] := by kernel_rfl
theorem sc94 : scal Tryd.prog 94 = true := by kernel_rfl
theorem ik94 : intK Tryd.prog 94 = some .u64 := by kernel_rfl
theorem un94 : (Tryd.prog.underlying 94).isSome = true := by kernel_rfl
theorem ni94 : (match Tryd.prog.underlying 94 with | some (.interface _) => false | none => false | _ => true) = true := by kernel_rfl
theorem z94 : zeroC Tryd.prog 94 = some [.int .u64 0] := by kernel_rfl
theorem sc95 : scal Tryd.prog 95 = true := by kernel_rfl
theorem ni95 : (match Tryd.prog.underlying 95 with | some (.interface _) => false | none => false | _ => true) = true := by kernel_rfl
theorem z95 : zeroC Tryd.prog 95 = some [.nilFunc] := by kernel_rfl
theorem ag96 : aggS Tryd.prog 96 = some 2 := by kernel_rfl
theorem fo96_0 : fldO Tryd.prog 96 0 = some 0 := by kernel_rfl
theorem fs96_0 : fldS Tryd.prog 96 0 = some 0 := by kernel_rfl
theorem fo96_1 : fldO Tryd.prog 96 1 = some 1 := by kernel_rfl
theorem fs96_1 : fldS Tryd.prog 96 1 = some 1 := by kernel_rfl
theorem ni96 : (match Tryd.prog.underlying 96 with | some (.interface _) => false | none => false | _ => true) = true := by kernel_rfl
theorem z96 : zeroC Tryd.prog 96 = some [.slice none 0 0, .int .i64 0] := by kernel_rfl
theorem ag97 : aggS Tryd.prog 97 = some 2 := by kernel_rfl
theorem fo97_0 : fldO Tryd.prog 97 0 = some 0 := by kernel_rfl
theorem fs97_0 : fldS Tryd.prog 97 0 = some 0 := by kernel_rfl
theorem fo97_1 : fldO Tryd.prog 97 1 = some 1 := by kernel_rfl
theorem fs97_1 : fldS Tryd.prog 97 1 = some 1 := by kernel_rfl
theorem ni97 : (match Tryd.prog.underlying 97 with | some (.interface _) => false | none => false | _ => true) = true := by kernel_rfl
theorem z97 : zeroC Tryd.prog 97 = some [.slice none 0 0, .int .i64 0] := by kernel_rfl
theorem ag98 : aggS Tryd.prog 98 = some 1 := by kernel_rfl
theorem fo98_0 : fldO Tryd.prog 98 0 = some 0 := by kernel_rfl
theorem fs98_0 : fldS Tryd.prog 98 0 = some 0 := by kernel_rfl
theorem ni98 : (match Tryd.prog.underlying 98 with | some (.interface _) => false | none => false | _ => true) = true := by kernel_rfl
theorem z98 : zeroC Tryd.prog 98 = some [.int .u32 0] := by kernel_rfl
theorem ag99 : aggS Tryd.prog 99 = some 1 := by kernel_rfl
theorem fo99_0 : fldO Tryd.prog 99 0 = some 0 := by kernel_rfl
theorem fs99_0 : fldS Tryd.prog 99 0 = some 0 := by kernel_rfl
theorem ni99 : (match Tryd.prog.underlying 99 with | some (.interface _) => false | none => false | _ => true) = true := by kernel_rfl
theorem z99 : zeroC Tryd.prog 99 = some [.int .u32 0] := by kernel_rfl
theorem sc100 : scal Tryd.prog 100 = true := by kernel_rfl
theorem ip100 : isPtr Tryd.prog 100 = true := by kernel_rfl
theorem ni100 : (match Tryd.prog.underlying 100 with | some (.interface _) => false | none => false | _ => true) = true := by kernel_rfl
theorem z100 : zeroC Tryd.prog 100 = some [.pointer none] := by kernel_rfl
theorem sc101 : scal Tryd.prog 101 = true := by kernel_rfl
theorem ni101 : (match Tryd.prog.underlying 101 with | some (.interface _) => false | none => false | _ => true) = true := by kernel_rfl
theorem z101 : zeroC Tryd.prog 101 = some [.nilFunc] := by kernel_rfl
theorem ag102 : aggS Tryd.prog 102 = some 3 := by kernel_rfl
theorem fa102_0 : fldA Tryd.prog 102 0 = some (0, 0) := by kernel_rfl
theorem fo102_1 : fldO Tryd.prog 102 1 = some 0 := by kernel_rfl
theorem fs102_1 : fldS Tryd.prog 102 1 = some 0 := by kernel_rfl
theorem fo102_2 : fldO Tryd.prog 102 2 = some 1 := by kernel_rfl
theorem fs102_2 : fldS Tryd.prog 102 2 = some 1 := by kernel_rfl
theorem fo102_3 : fldO Tryd.prog 102 3 = some 2 := by kernel_rfl
theorem fs102_3 : fldS Tryd.prog 102 3 = some 2 := by kernel_rfl
theorem ni102 : (match Tryd.prog.underlying 102 with | some (.interface _) => false | none => false | _ => true) = true := by kernel_rfl
theorem z102 : zeroC Tryd.prog 102 = some [.pointer none, .pointer none, .slice none 0 0] := by kernel_rfl
theorem ag103 : aggS Tryd.prog 103 = some 3 := by kernel_rfl
theorem fa103_0 : fldA Tryd.prog 103 0 = some (0, 0) := by kernel_rfl
theorem fo103_1 : fldO Tryd.prog 103 1 = some 0 := by kernel_rfl
theorem fs103_1 : fldS Tryd.prog 103 1 = some 0 := by kernel_rfl
theorem fo103_2 : fldO Tryd.prog 103 2 = some 1 := by kernel_rfl
theorem fs103_2 : fldS Tryd.prog 103 2 = some 1 := by kernel_rfl
theorem fo103_3 : fldO Tryd.prog 103 3 = some 2 := by kernel_rfl
theorem fs103_3 : fldS Tryd.prog 103 3 = some 2 := by kernel_rfl
theorem ni103 : (match Tryd.prog.underlying 103 with | some (.interface _) => false | none => false | _ => true) = true := by kernel_rfl
theorem z103 : zeroC Tryd.prog 103 = some [.pointer none, .pointer none, .slice none 0 0] := by kernel_rfl
theorem sc104 : scal Tryd.prog 104 = true := by kernel_rfl
theorem st104 : isStr Tryd.prog 104 = true := by kernel_rfl
theorem ni104 : (match Tryd.prog.underlying 104 with | some (.interface _) => false | none => false | _ => true) = true := by kernel_rfl
theorem z104 : zeroC Tryd.prog 104 = some [.string ⟨#[]⟩] := by kernel_rfl
theorem sc106 : scal Tryd.prog 106 = true := by kernel_rfl
theorem ni106 : (match Tryd.prog.underlying 106 with | some (.interface _) => false | none => false | _ => true) = true := by kernel_rfl
theorem z106 : zeroC Tryd.prog 106 = some [.nilFunc] := by kernel_rfl
theorem sc108 : scal Tryd.prog 108 = true := by kernel_rfl
theorem ni108 : (match Tryd.prog.underlying 108 with | some (.interface _) => false | none => false | _ => true) = true := by kernel_rfl
theorem z108 : zeroC Tryd.prog 108 = some [.nilFunc] := by kernel_rfl
theorem sc110 : scal Tryd.prog 110 = true := by kernel_rfl
theorem ni110 : (match Tryd.prog.underlying 110 with | some (.interface _) => false | none => false | _ => true) = true := by kernel_rfl
theorem z110 : zeroC Tryd.prog 110 = some [.nilFunc] := by kernel_rfl
theorem sc111 : scal Tryd.prog 111 = true := by kernel_rfl
theorem ni111 : (match Tryd.prog.underlying 111 with | some (.interface _) => false | none => false | _ => true) = true := by kernel_rfl
theorem z111 : zeroC Tryd.prog 111 = some [.nilFunc] := by kernel_rfl
theorem sc112 : scal Tryd.prog 112 = true := by kernel_rfl
theorem ni112 : (match Tryd.prog.underlying 112 with | some (.interface _) => false | none => false | _ => true) = true := by kernel_rfl
theorem z112 : zeroC Tryd.prog 112 = some [.nilFunc] := by kernel_rfl
theorem ag113 : aggS Tryd.prog 113 = some 6 := by kernel_rfl
theorem fo113_0 : fldO Tryd.prog 113 0 = some 0 := by kernel_rfl
theorem fs113_0 : fldS Tryd.prog 113 0 = some 0 := by kernel_rfl
theorem fo113_1 : fldO Tryd.prog 113 1 = some 1 := by kernel_rfl
theorem fs113_1 : fldS Tryd.prog 113 1 = some 1 := by kernel_rfl
theorem fo113_2 : fldO Tryd.prog 113 2 = some 2 := by kernel_rfl
theorem fs113_2 : fldS Tryd.prog 113 2 = some 2 := by kernel_rfl
theorem fo113_3 : fldO Tryd.prog 113 3 = some 3 := by kernel_rfl
theorem fs113_3 : fldS Tryd.prog 113 3 = some 3 := by kernel_rfl
theorem fo113_4 : fldO Tryd.prog 113 4 = some 4 := by kernel_rfl
theorem fs113_4 : fldS Tryd.prog 113 4 = some 4 := by kernel_rfl
theorem fo113_5 : fldO Tryd.prog 113 5 = some 5 := by kernel_rfl
theorem fs113_5 : fldS Tryd.prog 113 5 = some 5 := by kernel_rfl
theorem ni113 : (match Tryd.prog.underlying 113 with | some (.interface _) => false | none => false | _ => true) = true := by kernel_rfl
theorem z113 : zeroC Tryd.prog 113 = some [.nilIface, .int .i64 0, .int .i64 0, .int .i64 0, .slice none 0 0, .int .i64 0] := by kernel_rfl
theorem ag114 : aggS Tryd.prog 114 = some 6 := by kernel_rfl
theorem fo114_0 : fldO Tryd.prog 114 0 = some 0 := by kernel_rfl
theorem fs114_0 : fldS Tryd.prog 114 0 = some 0 := by kernel_rfl
theorem fo114_1 : fldO Tryd.prog 114 1 = some 1 := by kernel_rfl
theorem fs114_1 : fldS Tryd.prog 114 1 = some 1 := by kernel_rfl
theorem fo114_2 : fldO Tryd.prog 114 2 = some 2 := by kernel_rfl
theorem fs114_2 : fldS Tryd.prog 114 2 = some 2 := by kernel_rfl
theorem fo114_3 : fldO Tryd.prog 114 3 = some 3 := by kernel_rfl
theorem fs114_3 : fldS Tryd.prog 114 3 = some 3 := by kernel_rfl
theorem fo114_4 : fldO Tryd.prog 114 4 = some 4 := by kernel_rfl
theorem fs114_4 : fldS Tryd.prog 114 4 = some 4 := by kernel_rfl
theorem fo114_5 : fldO Tryd.prog 114 5 = some 5 := by kernel_rfl
theorem fs114_5 : fldS Tryd.prog 114 5 = some 5 := by kernel_rfl
theorem ni114 : (match Tryd.prog.underlying 114 with | some (.interface _) => false | none => false | _ => true) = true := by kernel_rfl
theorem z114 : zeroC Tryd.prog 114 = some [.nilIface, .int .i64 0, .int .i64 0, .int .i64 0, .slice none 0 0, .int .i64 0] := by kernel_rfl
theorem sc115 : scal Tryd.prog 115 = true := by kernel_rfl
theorem ip115 : isPtr Tryd.prog 115 = true := by kernel_rfl
theorem ni115 : (match Tryd.prog.underlying 115 with | some (.interface _) => false | none => false | _ => true) = true := by kernel_rfl
theorem z115 : zeroC Tryd.prog 115 = some [.pointer none] := by kernel_rfl
theorem sc116 : scal Tryd.prog 116 = true := by kernel_rfl
theorem if116 : isIfc Tryd.prog 116 = true := by kernel_rfl
theorem z116 : zeroC Tryd.prog 116 = some [.nilIface] := by kernel_rfl
theorem sc117 : scal Tryd.prog 117 = true := by kernel_rfl
theorem if117 : isIfc Tryd.prog 117 = true := by kernel_rfl
theorem z117 : zeroC Tryd.prog 117 = some [.nilIface] := by kernel_rfl
theorem sc118 : scal Tryd.prog 118 = true := by kernel_rfl
theorem ni118 : (match Tryd.prog.underlying 118 with | some (.interface _) => false | none => false | _ => true) = true := by kernel_rfl
theorem z118 : zeroC Tryd.prog 118 = some [.nilFunc] := by kernel_rfl
theorem sc120 : scal Tryd.prog 120 = true := by kernel_rfl
theorem ni120 : (match Tryd.prog.underlying 120 with | some (.interface _) => false | none => false | _ => true) = true := by kernel_rfl
theorem z120 : zeroC Tryd.prog 120 = some [.nilFunc] := by kernel_rfl
theorem sc121 : scal Tryd.prog 121 = true := by kernel_rfl
theorem ni121 : (match Tryd.prog.underlying 121 with | some (.interface _) => false | none => false | _ => true) = true := by kernel_rfl
theorem z121 : zeroC Tryd.prog 121 = some [.nilFunc] := by kernel_rfl
theorem sc122 : scal Tryd.prog 122 = true := by kernel_rfl
theorem ni122 : (match Tryd.prog.underlying 122 with | some (.interface _) => false | none => false | _ => true) = true := by kernel_rfl
theorem z122 : zeroC Tryd.prog 122 = some [.nilFunc] := by kernel_rfl
theorem sc123 : scal Tryd.prog 123 = true := by kernel_rfl
theorem ip123 : isPtr Tryd.prog 123 = true := by kernel_rfl
theorem ni123 : (match Tryd.prog.underlying 123 with | some (.interface _) => false | none => false | _ => true) = true := by kernel_rfl
theorem z123 : zeroC Tryd.prog 123 = some [.pointer none] := by kernel_rfl
theorem sc124 : scal Tryd.prog 124 = true := by kernel_rfl
theorem ni124 : (match Tryd.prog.underlying 124 with | some (.interface _) => false | none => false | _ => true) = true := by kernel_rfl
theorem z124 : zeroC Tryd.prog 124 = some [.nilFunc] := by kernel_rfl
theorem ag125 : aggS Tryd.prog 125 = some 4 := by kernel_rfl
theorem fo125_0 : fldO Tryd.prog 125 0 = some 0 := by kernel_rfl
theorem fs125_0 : fldS Tryd.prog 125 0 = some 0 := by kernel_rfl
theorem fo125_1 : fldO Tryd.prog 125 1 = some 1 := by kernel_rfl
theorem fs125_1 : fldS Tryd.prog 125 1 = some 1 := by kernel_rfl
theorem fo125_2 : fldO Tryd.prog 125 2 = some 2 := by kernel_rfl
theorem fs125_2 : fldS Tryd.prog 125 2 = some 2 := by kernel_rfl
theorem fo125_3 : fldO Tryd.prog 125 3 = some 3 := by kernel_rfl
theorem fs125_3 : fldS Tryd.prog 125 3 = some 3 := by kernel_rfl
theorem ni125 : (match Tryd.prog.underlying 125 with | some (.interface _) => false | none => false | _ => true) = true := by kernel_rfl
theorem z125 : zeroC Tryd.prog 125 = some [.pointer none, .pointer none, .pointer none, .string ⟨#[]⟩] := by kernel_rfl
theorem ag126 : aggS Tryd.prog 126 = some 4 := by kernel_rfl
theorem fo126_0 : fldO Tryd.prog 126 0 = some 0 := by kernel_rfl
theorem fs126_0 : fldS Tryd.prog 126 0 = some 0 := by kernel_rfl
theorem fo126_1 : fldO Tryd.prog 126 1 = some 1 := by kernel_rfl
theorem fs126_1 : fldS Tryd.prog 126 1 = some 1 := by kernel_rfl
theorem fo126_2 : fldO Tryd.prog 126 2 = some 2 := by kernel_rfl
theorem fs126_2 : fldS Tryd.prog 126 2 = some 2 := by kernel_rfl
theorem fo126_3 : fldO Tryd.prog 126 3 = some 3 := by kernel_rfl
theorem fs126_3 : fldS Tryd.prog 126 3 = some 3 := by kernel_rfl
theorem ni126 : (match Tryd.prog.underlying 126 with | some (.interface _) => false | none => false | _ => true) = true := by kernel_rfl
theorem z126 : zeroC Tryd.prog 126 = some [.pointer none, .pointer none, .pointer none, .string ⟨#[]⟩] := by kernel_rfl
theorem ag127 : aggS Tryd.prog 127 = some 0 := by kernel_rfl
theorem ar127 : arrE Tryd.prog 127 = some (0, 1) := by kernel_rfl
theorem ni127 : (match Tryd.prog.underlying 127 with | some (.interface _) => false | none => false | _ => true) = true := by kernel_rfl
theorem z127 : zeroC Tryd.prog 127 = some [] := by kernel_rfl
theorem ag128 : aggS Tryd.prog 128 = some 0 := by kernel_rfl
theorem fa128_0 : fldA Tryd.prog 128 0 = some (0, 0) := by kernel_rfl
theorem ni128 : (match Tryd.prog.underlying 128 with | some (.interface _) => false | none => false | _ => true) = true := by kernel_rfl
theorem z128 : zeroC Tryd.prog 128 = some [] := by kernel_rfl
theorem ag129 : aggS Tryd.prog 129 = some 0 := by kernel_rfl
theorem fa129_0 : fldA Tryd.prog 129 0 = some (0, 0) := by kernel_rfl
theorem ni129 : (match Tryd.prog.underlying 129 with | some (.interface _) => false | none => false | _ => true) = true := by kernel_rfl
theorem z129 : zeroC Tryd.prog 129 = some [] := by kernel_rfl
theorem sc130 : scal Tryd.prog 130 = true := by kernel_rfl
theorem ni130 : (match Tryd.prog.underlying 130 with | some (.interface _) => false | none => false | _ => true) = true := by kernel_rfl
theorem z130 : zeroC Tryd.prog 130 = some [.nilFunc] := by kernel_rfl
theorem sc131 : scal Tryd.prog 131 = true := by kernel_rfl
theorem ik131 : intK Tryd.prog 131 = some .u8 := by kernel_rfl
theorem un131 : (Tryd.prog.underlying 131).isSome = true := by kernel_rfl
theorem ni131 : (match Tryd.prog.underlying 131 with | some (.interface _) => false | none => false | _ => true) = true := by kernel_rfl
theorem z131 : zeroC Tryd.prog 131 = some [.int .u8 0] := by kernel_rfl
theorem sc132 : scal Tryd.prog 132 = true := by kernel_rfl
theorem ik132 : intK Tryd.prog 132 = some .u8 := by kernel_rfl
theorem un132 : (Tryd.prog.underlying 132).isSome = true := by kernel_rfl
theorem ni132 : (match Tryd.prog.underlying 132 with | some (.interface _) => false | none => false | _ => true) = true := by kernel_rfl
theorem z132 : zeroC Tryd.prog 132 = some [.int .u8 0] := by kernel_rfl
theorem sc133 : scal Tryd.prog 133 = true := by kernel_rfl
theorem ni133 : (match Tryd.prog.underlying 133 with | some (.interface _) => false | none => false | _ => true) = true := by kernel_rfl
theorem z133 : zeroC Tryd.prog 133 = some [.nilFunc] := by kernel_rfl
theorem sc134 : scal Tryd.prog 134 = true := by kernel_rfl
theorem ip134 : isPtr Tryd.prog 134 = true := by kernel_rfl
theorem ni134 : (match Tryd.prog.underlying 134 with | some (.interface _) => false | none => false | _ => true) = true := by kernel_rfl
theorem z134 : zeroC Tryd.prog 134 = some [.pointer none] := by kernel_rfl
theorem sc135 : scal Tryd.prog 135 = true := by kernel_rfl
theorem ik135 : intK Tryd.prog 135 = some .i32 := by kernel_rfl
theorem un135 : (Tryd.prog.underlying 135).isSome = true := by kernel_rfl
theorem ni135 : (match Tryd.prog.underlying 135 with | some (.interface _) => false | none => false | _ => true) = true := by kernel_rfl
theorem z135 : zeroC Tryd.prog 135 = some [.int .i32 0] := by kernel_rfl
theorem sc136 : scal Tryd.prog 136 = true := by kernel_rfl
theorem ik136 : intK Tryd.prog 136 = some .i32 := by kernel_rfl
theorem un136 : (Tryd.prog.underlying 136).isSome = true := by kernel_rfl
theorem ni136 : (match Tryd.prog.underlying 136 with | some (.interface _) => false | none => false | _ => true) = true := by kernel_rfl
theorem z136 : zeroC Tryd.prog 136 = some [.int .i32 0] := by kernel_rfl
theorem ag137 : aggS Tryd.prog 137 = some 11 := by kernel_rfl
theorem fo137_0 : fldO Tryd.prog 137 0 = some 0 := by kernel_rfl
theorem fs137_0 : fldS Tryd.prog 137 0 = some 0 := by kernel_rfl
theorem fo137_1 : fldO Tryd.prog 137 1 = some 1 := by kernel_rfl
theorem fs137_1 : fldS Tryd.prog 137 1 = some 1 := by kernel_rfl
theorem fo137_2 : fldO Tryd.prog 137 2 = some 2 := by kernel_rfl
theorem fs137_2 : fldS Tryd.prog 137 2 = some 2 := by kernel_rfl
theorem fo137_3 : fldO Tryd.prog 137 3 = some 3 := by kernel_rfl
theorem fs137_3 : fldS Tryd.prog 137 3 = some 3 := by kernel_rfl
theorem fo137_4 : fldO Tryd.prog 137 4 = some 4 := by kernel_rfl
theorem fs137_4 : fldS Tryd.prog 137 4 = some 4 := by kernel_rfl
theorem fo137_5 : fldO Tryd.prog 137 5 = some 5 := by kernel_rfl
theorem fs137_5 : fldS Tryd.prog 137 5 = some 5 := by kernel_rfl
theorem fo137_6 : fldO Tryd.prog 137 6 = some 6 := by kernel_rfl
theorem fs137_6 : fldS Tryd.prog 137 6 = some 6 := by kernel_rfl
theorem fo137_7 : fldO Tryd.prog 137 7 = some 7 := by kernel_rfl
theorem fs137_7 : fldS Tryd.prog 137 7 = some 7 := by kernel_rfl
theorem fo137_8 : fldO Tryd.prog 137 8 = some 8 := by kernel_rfl
theorem fs137_8 : fldS Tryd.prog 137 8 = some 8 := by kernel_rfl
theorem fo137_9 : fldO Tryd.prog 137 9 = some 9 := by kernel_rfl
theorem fs137_9 : fldS Tryd.prog 137 9 = some 9 := by kernel_rfl
theorem fo137_10 : fldO Tryd.prog 137 10 = some 10 := by kernel_rfl
theorem fs137_10 : fldS Tryd.prog 137 10 = some 10 := by kernel_rfl
theorem ni137 : (match Tryd.prog.underlying 137 with | some (.interface _) => false | none => false | _ => true) = true := by kernel_rfl
theorem z137 : zeroC Tryd.prog 137 = some [.int .u64 0, .int .u64 0, .int .u32 0, .int .u8 0, .int .u8 0, .int .u8 0, .int .u8 0, .nilFunc, .pointer none, .int .i32 0, .int .i32 0] := by kernel_rfl
theorem ag138 : aggS Tryd.prog 138 = some 11 := by kernel_rfl
theorem fo138_0 : fldO Tryd.prog 138 0 = some 0 := by kernel_rfl
theorem fs138_0 : fldS Tryd.prog 138 0 = some 0 := by kernel_rfl
theorem fo138_1 : fldO Tryd.prog 138 1 = some 1 := by kernel_rfl
theorem fs138_1 : fldS Tryd.prog 138 1 = some 1 := by kernel_rfl
theorem fo138_2 : fldO Tryd.prog 138 2 = some 2 := by kernel_rfl
theorem fs138_2 : fldS Tryd.prog 138 2 = some 2 := by kernel_rfl
theorem fo138_3 : fldO Tryd.prog 138 3 = some 3 := by kernel_rfl
theorem fs138_3 : fldS Tryd.prog 138 3 = some 3 := by kernel_rfl
theorem fo138_4 : fldO Tryd.prog 138 4 = some 4 := by kernel_rfl
theorem fs138_4 : fldS Tryd.prog 138 4 = some 4 := by kernel_rfl
theorem fo138_5 : fldO Tryd.prog 138 5 = some 5 := by kernel_rfl
theorem fs138_5 : fldS Tryd.prog 138 5 = some 5 := by kernel_rfl
theorem fo138_6 : fldO Tryd.prog 138 6 = some 6 := by kernel_rfl
theorem fs138_6 : fldS Tryd.prog 138 6 = some 6 := by kernel_rfl
theorem fo138_7 : fldO Tryd.prog 138 7 = some 7 := by kernel_rfl
theorem fs138_7 : fldS Tryd.prog 138 7 = some 7 := by kernel_rfl
theorem fo138_8 : fldO Tryd.prog 138 8 = some 8 := by kernel_rfl
theorem fs138_8 : fldS Tryd.prog 138 8 = some 8 := by kernel_rfl
theorem fo138_9 : fldO Tryd.prog 138 9 = some 9 := by kernel_rfl
theorem fs138_9 : fldS Tryd.prog 138 9 = some 9 := by kernel_rfl
theorem fo138_10 : fldO Tryd.prog 138 10 = some 10 := by kernel_rfl
theorem fs138_10 : fldS Tryd.prog 138 10 = some 10 := by kernel_rfl
theorem ni138 : (match Tryd.prog.underlying 138 with | some (.interface _) => false | none => false | _ => true) = true := by kernel_rfl
theorem z138 : zeroC Tryd.prog 138 = some [.int .u64 0, .int .u64 0, .int .u32 0, .int .u8 0, .int .u8 0, .int .u8 0, .int .u8 0, .nilFunc, .pointer none, .int .i32 0, .int .i32 0] := by kernel_rfl
theorem sc139 : scal Tryd.prog 139 = true := by kernel_rfl
theorem ni139 : (match Tryd.prog.underlying 139 with | some (.interface _) => false | none => false | _ => true) = true := by kernel_rfl
theorem z139 : zeroC Tryd.prog 139 = some [.nilFunc] := by kernel_rfl
theorem sc140 : scal Tryd.prog 140 = true := by kernel_rfl
theorem ni140 : (match Tryd.prog.underlying 140 with | some (.interface _) => false | none => false | _ => true) = true := by kernel_rfl
theorem z140 : zeroC Tryd.prog 140 = some [.nilFunc] := by kernel_rfl
theorem sc141 : scal Tryd.prog 141 = true := by kernel_rfl
theorem ni141 : (match Tryd.prog.underlying 141 with | some (.interface _) => false | none => false | _ => true) = true := by kernel_rfl
theorem z141 : zeroC Tryd.prog 141 = some [.nilFunc] := by kernel_rfl
theorem sc143 : scal Tryd.prog 143 = true := by kernel_rfl
theorem ni143 : (match Tryd.prog.underlying 143 with | some (.interface _) => false | none => false | _ => true) = true := by kernel_rfl
theorem z143 : zeroC Tryd.prog 143 = some [.nilFunc] := by kernel_rfl
theorem sc145 : scal Tryd.prog 145 = true := by kernel_rfl
theorem ni145 : (match Tryd.prog.underlying 145 with | some (.interface _) => false | none => false | _ => true) = true := by kernel_rfl
theorem z145 : zeroC Tryd.prog 145 = some [.nilFunc] := by kernel_rfl
theorem ag146 : aggS Tryd.prog 146 = some 1 := by kernel_rfl
theorem fo146_0 : fldO Tryd.prog 146 0 = some 0 := by kernel_rfl
theorem fs146_0 : fldS Tryd.prog 146 0 = some 0 := by kernel_rfl
theorem ni146 : (match Tryd.prog.underlying 146 with | some (.interface _) => false | none => false | _ => true) = true := by kernel_rfl
theorem z146 : zeroC Tryd.prog 146 = some [.int .i64 0] := by kernel_rfl
theorem ag147 : aggS Tryd.prog 147 = some 1 := by kernel_rfl
theorem fo147_0 : fldO Tryd.prog 147 0 = some 0 := by kernel_rfl
theorem fs147_0 : fldS Tryd.prog 147 0 = some 0 := by kernel_rfl
theorem ni147 : (match Tryd.prog.underlying 147 with | some (.interface _) => false | none => false | _ => true) = true := by kernel_rfl
theorem z147 : zeroC Tryd.prog 147 = some [.int .i64 0] := by kernel_rfl
theorem sc148 : scal Tryd.prog 148 = true := by kernel_rfl
theorem ni148 : (match Tryd.prog.underlying 148 with | some (.interface _) => false | none => false | _ => true) = true := by kernel_rfl
theorem z148 : zeroC Tryd.prog 148 = some [.nilFunc] := by kernel_rfl
theorem sc149 : scal Tryd.prog 149 = true := by kernel_rfl
theorem ni149 : (match Tryd.prog.underlying 149 with | some (.interface _) => false | none => false | _ => true) = true := by kernel_rfl
theorem z149 : zeroC Tryd.prog 149 = some [.nilFunc] := by kernel_rfl
theorem sc150 : scal Tryd.prog 150 = true := by kernel_rfl
theorem ni150 : (match Tryd.prog.underlying 150 with | some (.interface _) => false | none => false | _ => true) = true := by kernel_rfl
theorem z150 : zeroC Tryd.prog 150 = some [.nilFunc] := by kernel_rfl
theorem sc151 : scal Tryd.prog 151 = true := by kernel_rfl
theorem ni151 : (match Tryd.prog.underlying 151 with | some (.interface _) => false | none => false | _ => true) = true := by kernel_rfl
theorem z151 : zeroC Tryd.prog 151 = some [.nilFunc] := by kernel_rfl
theorem sc152 : scal Tryd.prog 152 = true := by kernel_rfl
theorem if152 : isIfc Tryd.prog 152 = true := by kernel_rfl
theorem z152 : zeroC Tryd.prog 152 = some [.nilIface] := by kernel_rfl
theorem sc153 : scal Tryd.prog 153 = true := by kernel_rfl
theorem if153 : isIfc Tryd.prog 153 = true := by kernel_rfl
theorem z153 : zeroC Tryd.prog 153 = some [.nilIface] := by kernel_rfl
theorem sc154 : scal Tryd.prog 154 = true := by kernel_rfl
theorem ni154 : (match Tryd.prog.underlying 154 with | some (.interface _) => false | none => false | _ => true) = true := by kernel_rfl
theorem z154 : zeroC Tryd.prog 154 = some [.nilFunc] := by kernel_rfl
theorem sc155 : scal Tryd.prog 155 = true := by kernel_rfl
theorem st155 : isStr Tryd.prog 155 = true := by kernel_rfl
theorem ni155 : (match Tryd.prog.underlying 155 with | some (.interface _) => false | none => false | _ => true) = true := by kernel_rfl
theorem z155 : zeroC Tryd.prog 155 = some [.string ⟨#[]⟩] := by kernel_rfl
theorem sc156 : scal Tryd.prog 156 = true := by kernel_rfl
theorem sl156 : slcE Tryd.prog 156 = some (40, 1, 24) := by kernel_rfl
theorem is156 : isSlc Tryd.prog 156 = true := by kernel_rfl
theorem ni156 : (match Tryd.prog.underlying 156 with | some (.interface _) => false | none => false | _ => true) = true := by kernel_rfl
theorem z156 : zeroC Tryd.prog 156 = some [.slice none 0 0] := by kernel_rfl
theorem ag157 : aggS Tryd.prog 157 = some 8 := by kernel_rfl
theorem ar157 : arrE Tryd.prog 157 = some (8, 1) := by kernel_rfl
theorem ni157 : (match Tryd.prog.underlying 157 with | some (.interface _) => false | none => false | _ => true) = true := by kernel_rfl
theorem z157 : zeroC Tryd.prog 157 = some [.int .u8 0, .int .u8 0, .int .u8 0, .int .u8 0, .int .u8 0, .int .u8 0, .int .u8 0, .int .u8 0] := by kernel_rfl
theorem ag158 : aggS Tryd.prog 158 = some 1 := by kernel_rfl
theorem fo158_0 : fldO Tryd.prog 158 0 = some 0 := by kernel_rfl
theorem fs158_0 : fldS Tryd.prog 158 0 = some 0 := by kernel_rfl
theorem ni158 : (match Tryd.prog.underlying 158 with | some (.interface _) => false | none => false | _ => true) = true := by kernel_rfl
theorem z158 : zeroC Tryd.prog 158 = some [.string ⟨#[]⟩] := by kernel_rfl
theorem ag159 : aggS Tryd.prog 159 = some 1 := by kernel_rfl
theorem fo159_0 : fldO Tryd.prog 159 0 = some 0 := by kernel_rfl
theorem fs159_0 : fldS Tryd.prog 159 0 = some 0 := by kernel_rfl
theorem ni159 : (match Tryd.prog.underlying 159 with | some (.interface _) => false | none => false | _ => true) = true := by kernel_rfl
theorem z159 : zeroC Tryd.prog 159 = some [.string ⟨#[]⟩] := by kernel_rfl
theorem sc160 : scal Tryd.prog 160 = true := by kernel_rfl
theorem ni160 : (match Tryd.prog.underlying 160 with | some (.interface _) => false | none => false | _ => true) = true := by kernel_rfl
theorem z160 : zeroC Tryd.prog 160 = some [.pointer none] := by kernel_rfl
theorem ag161 : aggS Tryd.prog 161 = some 4 := by kernel_rfl
theorem fo161_0 : fldO Tryd.prog 161 0 = some 0 := by kernel_rfl
theorem fs161_0 : fldS Tryd.prog 161 0 = some 0 := by kernel_rfl
theorem fo161_1 : fldO Tryd.prog 161 1 = some 1 := by kernel_rfl
theorem fs161_1 : fldS Tryd.prog 161 1 = some 1 := by kernel_rfl
theorem fo161_2 : fldO Tryd.prog 161 2 = some 2 := by kernel_rfl
theorem fs161_2 : fldS Tryd.prog 161 2 = some 2 := by kernel_rfl
theorem fo161_3 : fldO Tryd.prog 161 3 = some 3 := by kernel_rfl
theorem fs161_3 : fldS Tryd.prog 161 3 = some 3 := by kernel_rfl
theorem ni161 : (match Tryd.prog.underlying 161 with | some (.interface _) => false | none => false | _ => true) = true := by kernel_rfl
theorem z161 : zeroC Tryd.prog 161 = some [.int .i64 0, .bool false, .int .i64 0, .slice none 0 0] := by kernel_rfl
theorem ag162 : aggS Tryd.prog 162 = some 4 := by kernel_rfl
theorem fo162_0 : fldO Tryd.prog 162 0 = some 0 := by kernel_rfl
theorem fs162_0 : fldS Tryd.prog 162 0 = some 0 := by kernel_rfl
theorem fo162_1 : fldO Tryd.prog 162 1 = some 1 := by kernel_rfl
theorem fs162_1 : fldS Tryd.prog 162 1 = some 1 := by kernel_rfl
theorem fo162_2 : fldO Tryd.prog 162 2 = some 2 := by kernel_rfl
theorem fs162_2 : fldS Tryd.prog 162 2 = some 2 := by kernel_rfl
theorem fo162_3 : fldO Tryd.prog 162 3 = some 3 := by kernel_rfl
theorem fs162_3 : fldS Tryd.prog 162 3 = some 3 := by kernel_rfl
theorem ni162 : (match Tryd.prog.underlying 162 with | some (.interface _) => false | none => false | _ => true) = true := by kernel_rfl
theorem z162 : zeroC Tryd.prog 162 = some [.int .i64 0, .bool false, .int .i64 0, .slice none 0 0] := by kernel_rfl
theorem sc164 : scal Tryd.prog 164 = true := by kernel_rfl
theorem ni164 : (match Tryd.prog.underlying 164 with | some (.interface _) => false | none => false | _ => true) = true := by kernel_rfl
theorem z164 : zeroC Tryd.prog 164 = some [.nilFunc] := by kernel_rfl
theorem sc165 : scal Tryd.prog 165 = true := by kernel_rfl
theorem ni165 : (match Tryd.prog.underlying 165 with | some (.interface _) => false | none => false | _ => true) = true := by kernel_rfl
theorem z165 : zeroC Tryd.prog 165 = some [.nilFunc] := by kernel_rfl
theorem sc167 : scal Tryd.prog 167 = true := by kernel_rfl
theorem ni167 : (match Tryd.prog.underlying 167 with | some (.interface _) => false | none => false | _ => true) = true := by kernel_rfl
theorem z167 : zeroC Tryd.prog 167 = some [.nilFunc] := by kernel_rfl
theorem sc168 : scal Tryd.prog 168 = true := by kernel_rfl
theorem ni168 : (match Tryd.prog.underlying 168 with | some (.interface _) => false | none => false | _ => true) = true := by kernel_rfl
theorem z168 : zeroC Tryd.prog 168 = some [.nilFunc] := by kernel_rfl
theorem mixed : Tryd.prog.follows .mixedOrders = true := by kernel_rfl
end Go.Proofs.YthicijpjpijdjaaDoor.Ty
