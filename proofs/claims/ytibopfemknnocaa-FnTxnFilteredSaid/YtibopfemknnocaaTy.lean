import Derived.Test.YtibopfemknnocaaSlMore
import Derived.Test.YtibopfemknnocaaProg
namespace Go.Proofs.Ytibopfemknnocaa.Ty
open Go.Proofs.Ytibopfemknnocaa.Sl
set_option maxRecDepth 100000
theorem sc1 : scal Try.prog 1 = true := by kernel_rfl
theorem ni1 : (match Try.prog.underlying 1 with | some (.interface _) => false | none => false | _ => true) = true := by kernel_rfl
theorem z1 : zeroC Try.prog 1 = some [.nilFunc] := by kernel_rfl
theorem sc2 : scal Try.prog 2 = true := by kernel_rfl
theorem ik2 : intK Try.prog 2 = some .i64 := by kernel_rfl
theorem un2 : (Try.prog.underlying 2).isSome = true := by kernel_rfl
theorem ni2 : (match Try.prog.underlying 2 with | some (.interface _) => false | none => false | _ => true) = true := by kernel_rfl
theorem z2 : zeroC Try.prog 2 = some [.int .i64 0] := by kernel_rfl
theorem sc3 : scal Try.prog 3 = true := by kernel_rfl
theorem ik3 : intK Try.prog 3 = some .i64 := by kernel_rfl
theorem un3 : (Try.prog.underlying 3).isSome = true := by kernel_rfl
theorem ni3 : (match Try.prog.underlying 3 with | some (.interface _) => false | none => false | _ => true) = true := by kernel_rfl
theorem z3 : zeroC Try.prog 3 = some [.int .i64 0] := by kernel_rfl
theorem sc4 : scal Try.prog 4 = true := by kernel_rfl
theorem ni4 : (match Try.prog.underlying 4 with | some (.interface _) => false | none => false | _ => true) = true := by kernel_rfl
theorem z4 : zeroC Try.prog 4 = some [.bool false] := by kernel_rfl
theorem sc5 : scal Try.prog 5 = true := by kernel_rfl
theorem ik5 : intK Try.prog 5 = some .u8 := by kernel_rfl
theorem un5 : (Try.prog.underlying 5).isSome = true := by kernel_rfl
theorem ni5 : (match Try.prog.underlying 5 with | some (.interface _) => false | none => false | _ => true) = true := by kernel_rfl
theorem z5 : zeroC Try.prog 5 = some [.int .u8 0] := by kernel_rfl
theorem sc6 : scal Try.prog 6 = true := by kernel_rfl
theorem ik6 : intK Try.prog 6 = some .u8 := by kernel_rfl
theorem un6 : (Try.prog.underlying 6).isSome = true := by kernel_rfl
theorem ni6 : (match Try.prog.underlying 6 with | some (.interface _) => false | none => false | _ => true) = true := by kernel_rfl
theorem z6 : zeroC Try.prog 6 = some [.int .u8 0] := by kernel_rfl
theorem ag7 : aggS Try.prog 7 = some 4 := by kernel_rfl
theorem fo7_0 : fldO Try.prog 7 0 = some 0 := by kernel_rfl
theorem fs7_0 : fldS Try.prog 7 0 = some 0 := by kernel_rfl
theorem fo7_1 : fldO Try.prog 7 1 = some 1 := by kernel_rfl
theorem fs7_1 : fldS Try.prog 7 1 = some 1 := by kernel_rfl
theorem fo7_2 : fldO Try.prog 7 2 = some 2 := by kernel_rfl
theorem fs7_2 : fldS Try.prog 7 2 = some 2 := by kernel_rfl
theorem fo7_3 : fldO Try.prog 7 3 = some 3 := by kernel_rfl
theorem fs7_3 : fldS Try.prog 7 3 = some 3 := by kernel_rfl
theorem ni7 : (match Try.prog.underlying 7 with | some (.interface _) => false | none => false | _ => true) = true := by kernel_rfl
theorem z7 : zeroC Try.prog 7 = some [.int .i64 0, .int .i64 0, .bool false, .int .u8 0] := by kernel_rfl
theorem ag8 : aggS Try.prog 8 = some 4 := by kernel_rfl
theorem fo8_0 : fldO Try.prog 8 0 = some 0 := by kernel_rfl
theorem fs8_0 : fldS Try.prog 8 0 = some 0 := by kernel_rfl
theorem fo8_1 : fldO Try.prog 8 1 = some 1 := by kernel_rfl
theorem fs8_1 : fldS Try.prog 8 1 = some 1 := by kernel_rfl
theorem fo8_2 : fldO Try.prog 8 2 = some 2 := by kernel_rfl
theorem fs8_2 : fldS Try.prog 8 2 = some 2 := by kernel_rfl
theorem fo8_3 : fldO Try.prog 8 3 = some 3 := by kernel_rfl
theorem fs8_3 : fldS Try.prog 8 3 = some 3 := by kernel_rfl
theorem ni8 : (match Try.prog.underlying 8 with | some (.interface _) => false | none => false | _ => true) = true := by kernel_rfl
theorem z8 : zeroC Try.prog 8 = some [.int .i64 0, .int .i64 0, .bool false, .int .u8 0] := by kernel_rfl
theorem sc9 : scal Try.prog 9 = true := by kernel_rfl
theorem st9 : isStr Try.prog 9 = true := by kernel_rfl
theorem ni9 : (match Try.prog.underlying 9 with | some (.interface _) => false | none => false | _ => true) = true := by kernel_rfl
theorem z9 : zeroC Try.prog 9 = some [.string ⟨#[]⟩] := by kernel_rfl
theorem sc10 : scal Try.prog 10 = true := by kernel_rfl
theorem st10 : isStr Try.prog 10 = true := by kernel_rfl
theorem ni10 : (match Try.prog.underlying 10 with | some (.interface _) => false | none => false | _ => true) = true := by kernel_rfl
theorem z10 : zeroC Try.prog 10 = some [.string ⟨#[]⟩] := by kernel_rfl
theorem sc11 : scal Try.prog 11 = true := by kernel_rfl
theorem st11 : isStr Try.prog 11 = true := by kernel_rfl
theorem ni11 : (match Try.prog.underlying 11 with | some (.interface _) => false | none => false | _ => true) = true := by kernel_rfl
theorem z11 : zeroC Try.prog 11 = some [.string ⟨#[]⟩] := by kernel_rfl
theorem sc12 : scal Try.prog 12 = true := by kernel_rfl
theorem ik12 : intK Try.prog 12 = some .u64 := by kernel_rfl
theorem un12 : (Try.prog.underlying 12).isSome = true := by kernel_rfl
theorem ni12 : (match Try.prog.underlying 12 with | some (.interface _) => false | none => false | _ => true) = true := by kernel_rfl
theorem z12 : zeroC Try.prog 12 = some [.int .u64 0] := by kernel_rfl
theorem ag13 : aggS Try.prog 13 = some 2 := by kernel_rfl
theorem fo13_0 : fldO Try.prog 13 0 = some 0 := by kernel_rfl
theorem fs13_0 : fldS Try.prog 13 0 = some 0 := by kernel_rfl
theorem fo13_1 : fldO Try.prog 13 1 = some 1 := by kernel_rfl
theorem fs13_1 : fldS Try.prog 13 1 = some 1 := by kernel_rfl
theorem ni13 : (match Try.prog.underlying 13 with | some (.interface _) => false | none => false | _ => true) = true := by kernel_rfl
theorem z13 : zeroC Try.prog 13 = some [.string ⟨#[]⟩, .int .u64 0] := by kernel_rfl
theorem ag14 : aggS Try.prog 14 = some 2 := by kernel_rfl
theorem fo14_0 : fldO Try.prog 14 0 = some 0 := by kernel_rfl
theorem fs14_0 : fldS Try.prog 14 0 = some 0 := by kernel_rfl
theorem fo14_1 : fldO Try.prog 14 1 = some 1 := by kernel_rfl
theorem fs14_1 : fldS Try.prog 14 1 = some 1 := by kernel_rfl
theorem ni14 : (match Try.prog.underlying 14 with | some (.interface _) => false | none => false | _ => true) = true := by kernel_rfl
theorem z14 : zeroC Try.prog 14 = some [.string ⟨#[]⟩, .int .u64 0] := by kernel_rfl
theorem sc15 : scal Try.prog 15 = true := by kernel_rfl
theorem ip15 : isPtr Try.prog 15 = true := by kernel_rfl
theorem ni15 : (match Try.prog.underlying 15 with | some (.interface _) => false | none => false | _ => true) = true := by kernel_rfl
theorem z15 : zeroC Try.prog 15 = some [.pointer none] := by kernel_rfl
theorem sc16 : scal Try.prog 16 = true := by kernel_rfl
theorem ip16 : isPtr Try.prog 16 = true := by kernel_rfl
theorem ni16 : (match Try.prog.underlying 16 with | some (.interface _) => false | none => false | _ => true) = true := by kernel_rfl
theorem z16 : zeroC Try.prog 16 = some [.pointer none] := by kernel_rfl
theorem sc17 : scal Try.prog 17 = true := by kernel_rfl
theorem ip17 : isPtr Try.prog 17 = true := by kernel_rfl
theorem ni17 : (match Try.prog.underlying 17 with | some (.interface _) => false | none => false | _ => true) = true := by kernel_rfl
theorem z17 : zeroC Try.prog 17 = some [.pointer none] := by kernel_rfl
theorem ag18 : aggS Try.prog 18 = some 1 := by kernel_rfl
theorem fo18_0 : fldO Try.prog 18 0 = some 0 := by kernel_rfl
theorem fs18_0 : fldS Try.prog 18 0 = some 0 := by kernel_rfl
theorem ni18 : (match Try.prog.underlying 18 with | some (.interface _) => false | none => false | _ => true) = true := by kernel_rfl
theorem z18 : zeroC Try.prog 18 = some [.pointer none] := by kernel_rfl
theorem ag19 : aggS Try.prog 19 = some 1 := by kernel_rfl
theorem fo19_0 : fldO Try.prog 19 0 = some 0 := by kernel_rfl
theorem fs19_0 : fldS Try.prog 19 0 = some 0 := by kernel_rfl
theorem ni19 : (match Try.prog.underlying 19 with | some (.interface _) => false | none => false | _ => true) = true := by kernel_rfl
theorem z19 : zeroC Try.prog 19 = some [.pointer none] := by kernel_rfl
theorem sc20 : scal Try.prog 20 = true := by kernel_rfl
theorem z20 : zeroC Try.prog 20 = some [.nilIface] := by kernel_rfl
theorem sc21 : scal Try.prog 21 = true := by kernel_rfl
theorem ik21 : intK Try.prog 21 = some .i32 := by kernel_rfl
theorem un21 : (Try.prog.underlying 21).isSome = true := by kernel_rfl
theorem ni21 : (match Try.prog.underlying 21 with | some (.interface _) => false | none => false | _ => true) = true := by kernel_rfl
theorem z21 : zeroC Try.prog 21 = some [.int .i32 0] := by kernel_rfl
theorem sc22 : scal Try.prog 22 = true := by kernel_rfl
theorem sl22 : slcE Try.prog 22 = some (38, 7, 80) := by kernel_rfl
theorem is22 : isSlc Try.prog 22 = true := by kernel_rfl
theorem ni22 : (match Try.prog.underlying 22 with | some (.interface _) => false | none => false | _ => true) = true := by kernel_rfl
theorem z22 : zeroC Try.prog 22 = some [.slice none 0 0] := by kernel_rfl
theorem sc23 : scal Try.prog 23 = true := by kernel_rfl
theorem sl23 : slcE Try.prog 23 = some (25, 21, 208) := by kernel_rfl
theorem is23 : isSlc Try.prog 23 = true := by kernel_rfl
theorem ni23 : (match Try.prog.underlying 23 with | some (.interface _) => false | none => false | _ => true) = true := by kernel_rfl
theorem z23 : zeroC Try.prog 23 = some [.slice none 0 0] := by kernel_rfl
theorem ag24 : aggS Try.prog 24 = some 21 := by kernel_rfl
theorem fo24_0 : fldO Try.prog 24 0 = some 0 := by kernel_rfl
theorem fs24_0 : fldS Try.prog 24 0 = some 0 := by kernel_rfl
theorem fo24_1 : fldO Try.prog 24 1 = some 1 := by kernel_rfl
theorem fs24_1 : fldS Try.prog 24 1 = some 1 := by kernel_rfl
theorem fo24_2 : fldO Try.prog 24 2 = some 2 := by kernel_rfl
theorem fs24_2 : fldS Try.prog 24 2 = some 2 := by kernel_rfl
theorem fo24_3 : fldO Try.prog 24 3 = some 3 := by kernel_rfl
theorem fs24_3 : fldS Try.prog 24 3 = some 3 := by kernel_rfl
theorem fo24_4 : fldO Try.prog 24 4 = some 4 := by kernel_rfl
theorem fs24_4 : fldS Try.prog 24 4 = some 4 := by kernel_rfl
theorem fo24_5 : fldO Try.prog 24 5 = some 5 := by kernel_rfl
theorem fs24_5 : fldS Try.prog 24 5 = some 5 := by kernel_rfl
theorem fo24_6 : fldO Try.prog 24 6 = some 6 := by kernel_rfl
theorem fs24_6 : fldS Try.prog 24 6 = some 6 := by kernel_rfl
theorem fo24_7 : fldO Try.prog 24 7 = some 7 := by kernel_rfl
theorem fs24_7 : fldS Try.prog 24 7 = some 7 := by kernel_rfl
theorem fo24_8 : fldO Try.prog 24 8 = some 8 := by kernel_rfl
theorem fs24_8 : fldS Try.prog 24 8 = some 8 := by kernel_rfl
theorem fo24_9 : fldO Try.prog 24 9 = some 9 := by kernel_rfl
theorem fs24_9 : fldS Try.prog 24 9 = some 9 := by kernel_rfl
theorem fo24_10 : fldO Try.prog 24 10 = some 10 := by kernel_rfl
theorem fs24_10 : fldS Try.prog 24 10 = some 10 := by kernel_rfl
theorem fo24_11 : fldO Try.prog 24 11 = some 11 := by kernel_rfl
theorem fs24_11 : fldS Try.prog 24 11 = some 11 := by kernel_rfl
theorem fo24_12 : fldO Try.prog 24 12 = some 12 := by kernel_rfl
theorem fs24_12 : fldS Try.prog 24 12 = some 12 := by kernel_rfl
theorem fo24_13 : fldO Try.prog 24 13 = some 13 := by kernel_rfl
theorem fs24_13 : fldS Try.prog 24 13 = some 13 := by kernel_rfl
theorem fo24_14 : fldO Try.prog 24 14 = some 14 := by kernel_rfl
theorem fs24_14 : fldS Try.prog 24 14 = some 14 := by kernel_rfl
theorem fo24_15 : fldO Try.prog 24 15 = some 15 := by kernel_rfl
theorem fs24_15 : fldS Try.prog 24 15 = some 15 := by kernel_rfl
theorem fo24_16 : fldO Try.prog 24 16 = some 16 := by kernel_rfl
theorem fs24_16 : fldS Try.prog 24 16 = some 16 := by kernel_rfl
theorem fo24_17 : fldO Try.prog 24 17 = some 17 := by kernel_rfl
theorem fs24_17 : fldS Try.prog 24 17 = some 17 := by kernel_rfl
theorem fo24_18 : fldO Try.prog 24 18 = some 18 := by kernel_rfl
theorem fs24_18 : fldS Try.prog 24 18 = some 18 := by kernel_rfl
theorem fo24_19 : fldO Try.prog 24 19 = some 19 := by kernel_rfl
theorem fs24_19 : fldS Try.prog 24 19 = some 19 := by kernel_rfl
theorem fo24_20 : fldO Try.prog 24 20 = some 20 := by kernel_rfl
theorem fs24_20 : fldS Try.prog 24 20 = some 20 := by kernel_rfl
theorem ni24 : (match Try.prog.underlying 24 with | some (.interface _) => false | none => false | _ => true) = true := by kernel_rfl
theorem z24 : zeroC Try.prog 24 = some [.int .i64 0, .string ⟨#[]⟩, .string ⟨#[]⟩, .string ⟨#[]⟩, .int .i64 0, .int .i64 0, .int .i64 0, .int .i64 0, .int .i64 0, .int .i64 0, .int .i64 0, .int .i64 0, .int .i64 0, .bool false, .bool false, .bool false, .bool false, .bool false, .slice none 0 0, .slice none 0 0, .slice none 0 0] := by kernel_rfl
theorem ag25 : aggS Try.prog 25 = some 21 := by kernel_rfl
theorem fo25_0 : fldO Try.prog 25 0 = some 0 := by kernel_rfl
theorem fs25_0 : fldS Try.prog 25 0 = some 0 := by kernel_rfl
theorem fo25_1 : fldO Try.prog 25 1 = some 1 := by kernel_rfl
theorem fs25_1 : fldS Try.prog 25 1 = some 1 := by kernel_rfl
theorem fo25_2 : fldO Try.prog 25 2 = some 2 := by kernel_rfl
theorem fs25_2 : fldS Try.prog 25 2 = some 2 := by kernel_rfl
theorem fo25_3 : fldO Try.prog 25 3 = some 3 := by kernel_rfl
theorem fs25_3 : fldS Try.prog 25 3 = some 3 := by kernel_rfl
theorem fo25_4 : fldO Try.prog 25 4 = some 4 := by kernel_rfl
theorem fs25_4 : fldS Try.prog 25 4 = some 4 := by kernel_rfl
theorem fo25_5 : fldO Try.prog 25 5 = some 5 := by kernel_rfl
theorem fs25_5 : fldS Try.prog 25 5 = some 5 := by kernel_rfl
theorem fo25_6 : fldO Try.prog 25 6 = some 6 := by kernel_rfl
theorem fs25_6 : fldS Try.prog 25 6 = some 6 := by kernel_rfl
theorem fo25_7 : fldO Try.prog 25 7 = some 7 := by kernel_rfl
theorem fs25_7 : fldS Try.prog 25 7 = some 7 := by kernel_rfl
theorem fo25_8 : fldO Try.prog 25 8 = some 8 := by kernel_rfl
theorem fs25_8 : fldS Try.prog 25 8 = some 8 := by kernel_rfl
theorem fo25_9 : fldO Try.prog 25 9 = some 9 := by kernel_rfl
theorem fs25_9 : fldS Try.prog 25 9 = some 9 := by kernel_rfl
theorem fo25_10 : fldO Try.prog 25 10 = some 10 := by kernel_rfl
theorem fs25_10 : fldS Try.prog 25 10 = some 10 := by kernel_rfl
theorem fo25_11 : fldO Try.prog 25 11 = some 11 := by kernel_rfl
theorem fs25_11 : fldS Try.prog 25 11 = some 11 := by kernel_rfl
theorem fo25_12 : fldO Try.prog 25 12 = some 12 := by kernel_rfl
theorem fs25_12 : fldS Try.prog 25 12 = some 12 := by kernel_rfl
theorem fo25_13 : fldO Try.prog 25 13 = some 13 := by kernel_rfl
theorem fs25_13 : fldS Try.prog 25 13 = some 13 := by kernel_rfl
theorem fo25_14 : fldO Try.prog 25 14 = some 14 := by kernel_rfl
theorem fs25_14 : fldS Try.prog 25 14 = some 14 := by kernel_rfl
theorem fo25_15 : fldO Try.prog 25 15 = some 15 := by kernel_rfl
theorem fs25_15 : fldS Try.prog 25 15 = some 15 := by kernel_rfl
theorem fo25_16 : fldO Try.prog 25 16 = some 16 := by kernel_rfl
theorem fs25_16 : fldS Try.prog 25 16 = some 16 := by kernel_rfl
theorem fo25_17 : fldO Try.prog 25 17 = some 17 := by kernel_rfl
theorem fs25_17 : fldS Try.prog 25 17 = some 17 := by kernel_rfl
theorem fo25_18 : fldO Try.prog 25 18 = some 18 := by kernel_rfl
theorem fs25_18 : fldS Try.prog 25 18 = some 18 := by kernel_rfl
theorem fo25_19 : fldO Try.prog 25 19 = some 19 := by kernel_rfl
theorem fs25_19 : fldS Try.prog 25 19 = some 19 := by kernel_rfl
theorem fo25_20 : fldO Try.prog 25 20 = some 20 := by kernel_rfl
theorem fs25_20 : fldS Try.prog 25 20 = some 20 := by kernel_rfl
theorem ni25 : (match Try.prog.underlying 25 with | some (.interface _) => false | none => false | _ => true) = true := by kernel_rfl
theorem z25 : zeroC Try.prog 25 = some [.int .i64 0, .string ⟨#[]⟩, .string ⟨#[]⟩, .string ⟨#[]⟩, .int .i64 0, .int .i64 0, .int .i64 0, .int .i64 0, .int .i64 0, .int .i64 0, .int .i64 0, .int .i64 0, .int .i64 0, .bool false, .bool false, .bool false, .bool false, .bool false, .slice none 0 0, .slice none 0 0, .slice none 0 0] := by kernel_rfl
theorem sc26 : scal Try.prog 26 = true := by kernel_rfl
theorem ni26 : (match Try.prog.underlying 26 with | some (.interface _) => false | none => false | _ => true) = true := by kernel_rfl
theorem z26 : zeroC Try.prog 26 = some [.nilFunc] := by kernel_rfl
theorem sc27 : scal Try.prog 27 = true := by kernel_rfl
theorem ni27 : (match Try.prog.underlying 27 with | some (.interface _) => false | none => false | _ => true) = true := by kernel_rfl
theorem z27 : zeroC Try.prog 27 = some [.nilFunc] := by kernel_rfl
theorem sc28 : scal Try.prog 28 = true := by kernel_rfl
theorem ni28 : (match Try.prog.underlying 28 with | some (.interface _) => false | none => false | _ => true) = true := by kernel_rfl
theorem z28 : zeroC Try.prog 28 = some [.nilFunc] := by kernel_rfl
theorem sc29 : scal Try.prog 29 = true := by kernel_rfl
theorem ni29 : (match Try.prog.underlying 29 with | some (.interface _) => false | none => false | _ => true) = true := by kernel_rfl
theorem z29 : zeroC Try.prog 29 = some [.nilFunc] := by kernel_rfl
theorem sc30 : scal Try.prog 30 = true := by kernel_rfl
theorem sl30 : slcE Try.prog 30 = some (34, 6, 64) := by kernel_rfl
theorem is30 : isSlc Try.prog 30 = true := by kernel_rfl
theorem ni30 : (match Try.prog.underlying 30 with | some (.interface _) => false | none => false | _ => true) = true := by kernel_rfl
theorem z30 : zeroC Try.prog 30 = some [.slice none 0 0] := by kernel_rfl
theorem sc31 : scal Try.prog 31 = true := by kernel_rfl
theorem ni31 : (match Try.prog.underlying 31 with | some (.interface _) => false | none => false | _ => true) = true := by kernel_rfl
theorem z31 : zeroC Try.prog 31 = some [.nilFunc] := by kernel_rfl
theorem sc32 : scal Try.prog 32 = true := by kernel_rfl
theorem ni32 : (match Try.prog.underlying 32 with | some (.interface _) => false | none => false | _ => true) = true := by kernel_rfl
theorem z32 : zeroC Try.prog 32 = some [.nilFunc] := by kernel_rfl
theorem ag33 : aggS Try.prog 33 = some 6 := by kernel_rfl
theorem fo33_0 : fldO Try.prog 33 0 = some 0 := by kernel_rfl
theorem fs33_0 : fldS Try.prog 33 0 = some 0 := by kernel_rfl
theorem fo33_1 : fldO Try.prog 33 1 = some 1 := by kernel_rfl
theorem fs33_1 : fldS Try.prog 33 1 = some 1 := by kernel_rfl
theorem fo33_2 : fldO Try.prog 33 2 = some 2 := by kernel_rfl
theorem fs33_2 : fldS Try.prog 33 2 = some 2 := by kernel_rfl
theorem fo33_3 : fldO Try.prog 33 3 = some 3 := by kernel_rfl
theorem fs33_3 : fldS Try.prog 33 3 = some 3 := by kernel_rfl
theorem fo33_4 : fldO Try.prog 33 4 = some 4 := by kernel_rfl
theorem fs33_4 : fldS Try.prog 33 4 = some 4 := by kernel_rfl
theorem fo33_5 : fldO Try.prog 33 5 = some 5 := by kernel_rfl
theorem fs33_5 : fldS Try.prog 33 5 = some 5 := by kernel_rfl
theorem ni33 : (match Try.prog.underlying 33 with | some (.interface _) => false | none => false | _ => true) = true := by kernel_rfl
theorem z33 : zeroC Try.prog 33 = some [.string ⟨#[]⟩, .string ⟨#[]⟩, .int .i64 0, .int .i64 0, .int .i64 0, .int .i64 0] := by kernel_rfl
theorem ag34 : aggS Try.prog 34 = some 6 := by kernel_rfl
theorem fo34_0 : fldO Try.prog 34 0 = some 0 := by kernel_rfl
theorem fs34_0 : fldS Try.prog 34 0 = some 0 := by kernel_rfl
theorem fo34_1 : fldO Try.prog 34 1 = some 1 := by kernel_rfl
theorem fs34_1 : fldS Try.prog 34 1 = some 1 := by kernel_rfl
theorem fo34_2 : fldO Try.prog 34 2 = some 2 := by kernel_rfl
theorem fs34_2 : fldS Try.prog 34 2 = some 2 := by kernel_rfl
theorem fo34_3 : fldO Try.prog 34 3 = some 3 := by kernel_rfl
theorem fs34_3 : fldS Try.prog 34 3 = some 3 := by kernel_rfl
theorem fo34_4 : fldO Try.prog 34 4 = some 4 := by kernel_rfl
theorem fs34_4 : fldS Try.prog 34 4 = some 4 := by kernel_rfl
theorem fo34_5 : fldO Try.prog 34 5 = some 5 := by kernel_rfl
theorem fs34_5 : fldS Try.prog 34 5 = some 5 := by kernel_rfl
theorem ni34 : (match Try.prog.underlying 34 with | some (.interface _) => false | none => false | _ => true) = true := by kernel_rfl
theorem z34 : zeroC Try.prog 34 = some [.string ⟨#[]⟩, .string ⟨#[]⟩, .int .i64 0, .int .i64 0, .int .i64 0, .int .i64 0] := by kernel_rfl
theorem sc35 : scal Try.prog 35 = true := by kernel_rfl
theorem ni35 : (match Try.prog.underlying 35 with | some (.interface _) => false | none => false | _ => true) = true := by kernel_rfl
theorem z35 : zeroC Try.prog 35 = some [.nilFunc] := by kernel_rfl
theorem sc36 : scal Try.prog 36 = true := by kernel_rfl
theorem ni36 : (match Try.prog.underlying 36 with | some (.interface _) => false | none => false | _ => true) = true := by kernel_rfl
theorem z36 : zeroC Try.prog 36 = some [.nilFunc] := by kernel_rfl
theorem ag37 : aggS Try.prog 37 = some 7 := by kernel_rfl
theorem fo37_0 : fldO Try.prog 37 0 = some 0 := by kernel_rfl
theorem fs37_0 : fldS Try.prog 37 0 = some 0 := by kernel_rfl
theorem fo37_1 : fldO Try.prog 37 1 = some 1 := by kernel_rfl
theorem fs37_1 : fldS Try.prog 37 1 = some 1 := by kernel_rfl
theorem fo37_2 : fldO Try.prog 37 2 = some 2 := by kernel_rfl
theorem fs37_2 : fldS Try.prog 37 2 = some 2 := by kernel_rfl
theorem fo37_3 : fldO Try.prog 37 3 = some 3 := by kernel_rfl
theorem fs37_3 : fldS Try.prog 37 3 = some 3 := by kernel_rfl
theorem fo37_4 : fldO Try.prog 37 4 = some 4 := by kernel_rfl
theorem fs37_4 : fldS Try.prog 37 4 = some 4 := by kernel_rfl
theorem fo37_5 : fldO Try.prog 37 5 = some 5 := by kernel_rfl
theorem fs37_5 : fldS Try.prog 37 5 = some 5 := by kernel_rfl
theorem fo37_6 : fldO Try.prog 37 6 = some 6 := by kernel_rfl
theorem fs37_6 : fldS Try.prog 37 6 = some 6 := by kernel_rfl
theorem ni37 : (match Try.prog.underlying 37 with | some (.interface _) => false | none => false | _ => true) = true := by kernel_rfl
theorem z37 : zeroC Try.prog 37 = some [.int .i64 0, .int .i64 0, .string ⟨#[]⟩, .string ⟨#[]⟩, .int .i64 0, .string ⟨#[]⟩, .bool false] := by kernel_rfl
theorem ag38 : aggS Try.prog 38 = some 7 := by kernel_rfl
theorem fo38_0 : fldO Try.prog 38 0 = some 0 := by kernel_rfl
theorem fs38_0 : fldS Try.prog 38 0 = some 0 := by kernel_rfl
theorem fo38_1 : fldO Try.prog 38 1 = some 1 := by kernel_rfl
theorem fs38_1 : fldS Try.prog 38 1 = some 1 := by kernel_rfl
theorem fo38_2 : fldO Try.prog 38 2 = some 2 := by kernel_rfl
theorem fs38_2 : fldS Try.prog 38 2 = some 2 := by kernel_rfl
theorem fo38_3 : fldO Try.prog 38 3 = some 3 := by kernel_rfl
theorem fs38_3 : fldS Try.prog 38 3 = some 3 := by kernel_rfl
theorem fo38_4 : fldO Try.prog 38 4 = some 4 := by kernel_rfl
theorem fs38_4 : fldS Try.prog 38 4 = some 4 := by kernel_rfl
theorem fo38_5 : fldO Try.prog 38 5 = some 5 := by kernel_rfl
theorem fs38_5 : fldS Try.prog 38 5 = some 5 := by kernel_rfl
theorem fo38_6 : fldO Try.prog 38 6 = some 6 := by kernel_rfl
theorem fs38_6 : fldS Try.prog 38 6 = some 6 := by kernel_rfl
theorem ni38 : (match Try.prog.underlying 38 with | some (.interface _) => false | none => false | _ => true) = true := by kernel_rfl
theorem z38 : zeroC Try.prog 38 = some [.int .i64 0, .int .i64 0, .string ⟨#[]⟩, .string ⟨#[]⟩, .int .i64 0, .string ⟨#[]⟩, .bool false] := by kernel_rfl
theorem sc39 : scal Try.prog 39 = true := by kernel_rfl
theorem ni39 : (match Try.prog.underlying 39 with | some (.interface _) => false | none => false | _ => true) = true := by kernel_rfl
theorem z39 : zeroC Try.prog 39 = some [.nilFunc] := by kernel_rfl
theorem sc40 : scal Try.prog 40 = true := by kernel_rfl
theorem ni40 : (match Try.prog.underlying 40 with | some (.interface _) => false | none => false | _ => true) = true := by kernel_rfl
theorem z40 : zeroC Try.prog 40 = some [.nilFunc] := by kernel_rfl
theorem ag41 : aggS Try.prog 41 = some 4 := by kernel_rfl
theorem ar41 : arrE Try.prog 41 = some (4, 1) := by kernel_rfl
theorem ni41 : (match Try.prog.underlying 41 with | some (.interface _) => false | none => false | _ => true) = true := by kernel_rfl
theorem z41 : zeroC Try.prog 41 = some [.bool false, .bool false, .bool false, .bool false] := by kernel_rfl
theorem sc42 : scal Try.prog 42 = true := by kernel_rfl
theorem ni42 : (match Try.prog.underlying 42 with | some (.interface _) => false | none => false | _ => true) = true := by kernel_rfl
theorem z42 : zeroC Try.prog 42 = some [.nilFunc] := by kernel_rfl
theorem ag43 : aggS Try.prog 43 = some 2 := by kernel_rfl
theorem fo43_0 : fldO Try.prog 43 0 = some 0 := by kernel_rfl
theorem fs43_0 : fldS Try.prog 43 0 = some 0 := by kernel_rfl
theorem fo43_1 : fldO Try.prog 43 1 = some 1 := by kernel_rfl
theorem fs43_1 : fldS Try.prog 43 1 = some 1 := by kernel_rfl
theorem ni43 : (match Try.prog.underlying 43 with | some (.interface _) => false | none => false | _ => true) = true := by kernel_rfl
theorem z43 : zeroC Try.prog 43 = some [.int .i64 0, .int .i64 0] := by kernel_rfl
theorem ag44 : aggS Try.prog 44 = some 2 := by kernel_rfl
theorem fo44_0 : fldO Try.prog 44 0 = some 0 := by kernel_rfl
theorem fs44_0 : fldS Try.prog 44 0 = some 0 := by kernel_rfl
theorem fo44_1 : fldO Try.prog 44 1 = some 1 := by kernel_rfl
theorem fs44_1 : fldS Try.prog 44 1 = some 1 := by kernel_rfl
theorem ni44 : (match Try.prog.underlying 44 with | some (.interface _) => false | none => false | _ => true) = true := by kernel_rfl
theorem z44 : zeroC Try.prog 44 = some [.int .i64 0, .int .i64 0] := by kernel_rfl
theorem sc45 : scal Try.prog 45 = true := by kernel_rfl
theorem ni45 : (match Try.prog.underlying 45 with | some (.interface _) => false | none => false | _ => true) = true := by kernel_rfl
theorem z45 : zeroC Try.prog 45 = some [.nilFunc] := by kernel_rfl
theorem sc46 : scal Try.prog 46 = true := by kernel_rfl
theorem ni46 : (match Try.prog.underlying 46 with | some (.interface _) => false | none => false | _ => true) = true := by kernel_rfl
theorem z46 : zeroC Try.prog 46 = some [.nilFunc] := by kernel_rfl
theorem sc47 : scal Try.prog 47 = true := by kernel_rfl
theorem sl47 : slcE Try.prog 47 = some (5, 1, 1) := by kernel_rfl
theorem is47 : isSlc Try.prog 47 = true := by kernel_rfl
theorem by47 : isBytes Try.prog 47 = some 5 := by kernel_rfl
theorem ni47 : (match Try.prog.underlying 47 with | some (.interface _) => false | none => false | _ => true) = true := by kernel_rfl
theorem z47 : zeroC Try.prog 47 = some [.slice none 0 0] := by kernel_rfl
theorem sc48 : scal Try.prog 48 = true := by kernel_rfl
theorem ni48 : (match Try.prog.underlying 48 with | some (.interface _) => false | none => false | _ => true) = true := by kernel_rfl
theorem z48 : zeroC Try.prog 48 = some [.nilFunc] := by kernel_rfl
theorem sc50 : scal Try.prog 50 = true := by kernel_rfl
theorem ni50 : (match Try.prog.underlying 50 with | some (.interface _) => false | none => false | _ => true) = true := by kernel_rfl
theorem z50 : zeroC Try.prog 50 = some [.nilFunc] := by kernel_rfl
theorem sc51 : scal Try.prog 51 = true := by kernel_rfl
theorem ni51 : (match Try.prog.underlying 51 with | some (.interface _) => false | none => false | _ => true) = true := by kernel_rfl
theorem z51 : zeroC Try.prog 51 = some [.nilFunc] := by kernel_rfl
theorem sc52 : scal Try.prog 52 = true := by kernel_rfl
theorem ni52 : (match Try.prog.underlying 52 with | some (.interface _) => false | none => false | _ => true) = true := by kernel_rfl
theorem z52 : zeroC Try.prog 52 = some [.nilFunc] := by kernel_rfl
theorem sc53 : scal Try.prog 53 = true := by kernel_rfl
theorem ni53 : (match Try.prog.underlying 53 with | some (.interface _) => false | none => false | _ => true) = true := by kernel_rfl
theorem z53 : zeroC Try.prog 53 = some [.nilFunc] := by kernel_rfl
theorem sc54 : scal Try.prog 54 = true := by kernel_rfl
theorem ni54 : (match Try.prog.underlying 54 with | some (.interface _) => false | none => false | _ => true) = true := by kernel_rfl
theorem z54 : zeroC Try.prog 54 = some [.nilFunc] := by kernel_rfl
theorem sc55 : scal Try.prog 55 = true := by kernel_rfl
theorem ik55 : intK Try.prog 55 = some .i32 := by kernel_rfl
theorem un55 : (Try.prog.underlying 55).isSome = true := by kernel_rfl
theorem ni55 : (match Try.prog.underlying 55 with | some (.interface _) => false | none => false | _ => true) = true := by kernel_rfl
theorem z55 : zeroC Try.prog 55 = some [.int .i32 0] := by kernel_rfl
theorem sc56 : scal Try.prog 56 = true := by kernel_rfl
theorem ni56 : (match Try.prog.underlying 56 with | some (.interface _) => false | none => false | _ => true) = true := by kernel_rfl
theorem z56 : zeroC Try.prog 56 = some [.nilFunc] := by kernel_rfl
theorem sc57 : scal Try.prog 57 = true := by kernel_rfl
theorem ik57 : intK Try.prog 57 = some .i32 := by kernel_rfl
theorem un57 : (Try.prog.underlying 57).isSome = true := by kernel_rfl
theorem ni57 : (match Try.prog.underlying 57 with | some (.interface _) => false | none => false | _ => true) = true := by kernel_rfl
theorem z57 : zeroC Try.prog 57 = some [.int .i32 0] := by kernel_rfl
theorem sc58 : scal Try.prog 58 = true := by kernel_rfl
theorem ni58 : (match Try.prog.underlying 58 with | some (.interface _) => false | none => false | _ => true) = true := by kernel_rfl
theorem z58 : zeroC Try.prog 58 = some [.nilFunc] := by kernel_rfl
theorem sc59 : scal Try.prog 59 = true := by kernel_rfl
theorem ip59 : isPtr Try.prog 59 = true := by kernel_rfl
theorem ni59 : (match Try.prog.underlying 59 with | some (.interface _) => false | none => false | _ => true) = true := by kernel_rfl
theorem z59 : zeroC Try.prog 59 = some [.pointer none] := by kernel_rfl
theorem sc60 : scal Try.prog 60 = true := by kernel_rfl
theorem ni60 : (match Try.prog.underlying 60 with | some (.interface _) => false | none => false | _ => true) = true := by kernel_rfl
theorem z60 : zeroC Try.prog 60 = some [.nilFunc] := by kernel_rfl
theorem sc61 : scal Try.prog 61 = true := by kernel_rfl
theorem ni61 : (match Try.prog.underlying 61 with | some (.interface _) => false | none => false | _ => true) = true := by kernel_rfl
theorem z61 : zeroC Try.prog 61 = some [.nilFunc] := by kernel_rfl
theorem sc62 : scal Try.prog 62 = true := by kernel_rfl
theorem ni62 : (match Try.prog.underlying 62 with | some (.interface _) => false | none => false | _ => true) = true := by kernel_rfl
theorem z62 : zeroC Try.prog 62 = some [.nilFunc] := by kernel_rfl
theorem sc63 : scal Try.prog 63 = true := by kernel_rfl
theorem sl63 : slcE Try.prog 63 = some (70, 1, 8) := by kernel_rfl
theorem is63 : isSlc Try.prog 63 = true := by kernel_rfl
theorem ni63 : (match Try.prog.underlying 63 with | some (.interface _) => false | none => false | _ => true) = true := by kernel_rfl
theorem z63 : zeroC Try.prog 63 = some [.slice none 0 0] := by kernel_rfl
theorem sc64 : scal Try.prog 64 = true := by kernel_rfl
theorem ni64 : (match Try.prog.underlying 64 with | some (.interface _) => false | none => false | _ => true) = true := by kernel_rfl
theorem z64 : zeroC Try.prog 64 = some [.nilFunc] := by kernel_rfl
theorem sc65 : scal Try.prog 65 = true := by kernel_rfl
theorem ni65 : (match Try.prog.underlying 65 with | some (.interface _) => false | none => false | _ => true) = true := by kernel_rfl
theorem z65 : zeroC Try.prog 65 = some [.nilFunc] := by kernel_rfl
theorem sc66 : scal Try.prog 66 = true := by kernel_rfl
theorem ni66 : (match Try.prog.underlying 66 with | some (.interface _) => false | none => false | _ => true) = true := by kernel_rfl
theorem z66 : zeroC Try.prog 66 = some [.nilFunc] := by kernel_rfl
theorem sc67 : scal Try.prog 67 = true := by kernel_rfl
theorem ni67 : (match Try.prog.underlying 67 with | some (.interface _) => false | none => false | _ => true) = true := by kernel_rfl
theorem z67 : zeroC Try.prog 67 = some [.nilFunc] := by kernel_rfl
theorem sc68 : scal Try.prog 68 = true := by kernel_rfl
theorem ip68 : isPtr Try.prog 68 = true := by kernel_rfl
theorem ni68 : (match Try.prog.underlying 68 with | some (.interface _) => false | none => false | _ => true) = true := by kernel_rfl
theorem z68 : zeroC Try.prog 68 = some [.pointer none] := by kernel_rfl
theorem sc69 : scal Try.prog 69 = true := by kernel_rfl
theorem ni69 : (match Try.prog.underlying 69 with | some (.interface _) => false | none => false | _ => true) = true := by kernel_rfl
theorem z69 : zeroC Try.prog 69 = some [.nilFunc] := by kernel_rfl
theorem sc70 : scal Try.prog 70 = true := by kernel_rfl
theorem ip70 : isPtr Try.prog 70 = true := by kernel_rfl
theorem ni70 : (match Try.prog.underlying 70 with | some (.interface _) => false | none => false | _ => true) = true := by kernel_rfl
theorem z70 : zeroC Try.prog 70 = some [.pointer none] := by kernel_rfl
theorem sc71 : scal Try.prog 71 = true := by kernel_rfl
theorem ni71 : (match Try.prog.underlying 71 with | some (.interface _) => false | none => false | _ => true) = true := by kernel_rfl
theorem z71 : zeroC Try.prog 71 = some [.nilFunc] := by kernel_rfl
theorem ag72 : aggS Try.prog 72 = some 2 := by kernel_rfl
theorem fo72_0 : fldO Try.prog 72 0 = some 0 := by kernel_rfl
theorem fs72_0 : fldS Try.prog 72 0 = some 0 := by kernel_rfl
theorem fo72_1 : fldO Try.prog 72 1 = some 1 := by kernel_rfl
theorem fs72_1 : fldS Try.prog 72 1 = some 1 := by kernel_rfl
theorem ni72 : (match Try.prog.underlying 72 with | some (.interface _) => false | none => false | _ => true) = true := by kernel_rfl
theorem z72 : zeroC Try.prog 72 = some [.int .i64 0, .int .i64 0] := by kernel_rfl
theorem sc73 : scal Try.prog 73 = true := by kernel_rfl
theorem ni73 : (match Try.prog.underlying 73 with | some (.interface _) => false | none => false | _ => true) = true := by kernel_rfl
theorem z73 : zeroC Try.prog 73 = some [.nilFunc] := by kernel_rfl
theorem sc74 : scal Try.prog 74 = true := by kernel_rfl
theorem ni74 : (match Try.prog.underlying 74 with | some (.interface _) => false | none => false | _ => true) = true := by kernel_rfl
theorem z74 : zeroC Try.prog 74 = some [.nilFunc] := by kernel_rfl
theorem sc76 : scal Try.prog 76 = true := by kernel_rfl
theorem ni76 : (match Try.prog.underlying 76 with | some (.interface _) => false | none => false | _ => true) = true := by kernel_rfl
theorem z76 : zeroC Try.prog 76 = some [.nilFunc] := by kernel_rfl
theorem sc77 : scal Try.prog 77 = true := by kernel_rfl
theorem ni77 : (match Try.prog.underlying 77 with | some (.interface _) => false | none => false | _ => true) = true := by kernel_rfl
theorem z77 : zeroC Try.prog 77 = some [.nilFunc] := by kernel_rfl
theorem sc78 : scal Try.prog 78 = true := by kernel_rfl
theorem ni78 : (match Try.prog.underlying 78 with | some (.interface _) => false | none => false | _ => true) = true := by kernel_rfl
theorem z78 : zeroC Try.prog 78 = some [.nilFunc] := by kernel_rfl
theorem sc79 : scal Try.prog 79 = true := by kernel_rfl
theorem ni79 : (match Try.prog.underlying 79 with | some (.interface _) => false | none => false | _ => true) = true := by kernel_rfl
theorem z79 : zeroC Try.prog 79 = some [.nilFunc] := by kernel_rfl
theorem ag80 : aggS Try.prog 80 = some 3 := by kernel_rfl
theorem fo80_0 : fldO Try.prog 80 0 = some 0 := by kernel_rfl
theorem fa80_0 : fldA Try.prog 80 0 = some (0, 2) := by kernel_rfl
theorem fo80_1 : fldO Try.prog 80 1 = some 2 := by kernel_rfl
theorem fs80_1 : fldS Try.prog 80 1 = some 2 := by kernel_rfl
theorem ni80 : (match Try.prog.underlying 80 with | some (.interface _) => false | none => false | _ => true) = true := by kernel_rfl
theorem z80 : zeroC Try.prog 80 = some [.int .i64 0, .int .i64 0, .bool false] := by kernel_rfl
theorem ag81 : aggS Try.prog 81 = some 3 := by kernel_rfl
theorem fo81_0 : fldO Try.prog 81 0 = some 0 := by kernel_rfl
theorem fa81_0 : fldA Try.prog 81 0 = some (0, 2) := by kernel_rfl
theorem fo81_1 : fldO Try.prog 81 1 = some 2 := by kernel_rfl
theorem fs81_1 : fldS Try.prog 81 1 = some 2 := by kernel_rfl
theorem ni81 : (match Try.prog.underlying 81 with | some (.interface _) => false | none => false | _ => true) = true := by kernel_rfl
theorem z81 : zeroC Try.prog 81 = some [.int .i64 0, .int .i64 0, .bool false] := by kernel_rfl
theorem sc82 : scal Try.prog 82 = true := by kernel_rfl
theorem ni82 : (match Try.prog.underlying 82 with | some (.interface _) => false | none => false | _ => true) = true := by kernel_rfl
theorem z82 : zeroC Try.prog 82 = some [.nilFunc] := by kernel_rfl
theorem sc83 : scal Try.prog 83 = true := by kernel_rfl
theorem ni83 : (match Try.prog.underlying 83 with | some (.interface _) => false | none => false | _ => true) = true := by kernel_rfl
theorem z83 : zeroC Try.prog 83 = some [.nilFunc] := by kernel_rfl
theorem sc84 : scal Try.prog 84 = true := by kernel_rfl
theorem ni84 : (match Try.prog.underlying 84 with | some (.interface _) => false | none => false | _ => true) = true := by kernel_rfl
theorem z84 : zeroC Try.prog 84 = some [.nilFunc] := by kernel_rfl
theorem sc85 : scal Try.prog 85 = true := by kernel_rfl
theorem ni85 : (match Try.prog.underlying 85 with | some (.interface _) => false | none => false | _ => true) = true := by kernel_rfl
theorem z85 : zeroC Try.prog 85 = some [.nilFunc] := by kernel_rfl
theorem sc86 : scal Try.prog 86 = true := by kernel_rfl
theorem ni86 : (match Try.prog.underlying 86 with | some (.interface _) => false | none => false | _ => true) = true := by kernel_rfl
theorem z86 : zeroC Try.prog 86 = some [.nilFunc] := by kernel_rfl
theorem ag87 : aggS Try.prog 87 = some 13 := by kernel_rfl
theorem fo87_0 : fldO Try.prog 87 0 = some 0 := by kernel_rfl
theorem fs87_0 : fldS Try.prog 87 0 = some 0 := by kernel_rfl
theorem fo87_1 : fldO Try.prog 87 1 = some 1 := by kernel_rfl
theorem fs87_1 : fldS Try.prog 87 1 = some 1 := by kernel_rfl
theorem fo87_2 : fldO Try.prog 87 2 = some 2 := by kernel_rfl
theorem fs87_2 : fldS Try.prog 87 2 = some 2 := by kernel_rfl
theorem fo87_3 : fldO Try.prog 87 3 = some 3 := by kernel_rfl
theorem fs87_3 : fldS Try.prog 87 3 = some 3 := by kernel_rfl
theorem fo87_4 : fldO Try.prog 87 4 = some 4 := by kernel_rfl
theorem fs87_4 : fldS Try.prog 87 4 = some 4 := by kernel_rfl
theorem fo87_5 : fldO Try.prog 87 5 = some 5 := by kernel_rfl
theorem fs87_5 : fldS Try.prog 87 5 = some 5 := by kernel_rfl
theorem fo87_6 : fldO Try.prog 87 6 = some 6 := by kernel_rfl
theorem fs87_6 : fldS Try.prog 87 6 = some 6 := by kernel_rfl
theorem fo87_7 : fldO Try.prog 87 7 = some 7 := by kernel_rfl
theorem fs87_7 : fldS Try.prog 87 7 = some 7 := by kernel_rfl
theorem fo87_8 : fldO Try.prog 87 8 = some 8 := by kernel_rfl
theorem fs87_8 : fldS Try.prog 87 8 = some 8 := by kernel_rfl
theorem fo87_9 : fldO Try.prog 87 9 = some 9 := by kernel_rfl
theorem fs87_9 : fldS Try.prog 87 9 = some 9 := by kernel_rfl
theorem fo87_10 : fldO Try.prog 87 10 = some 10 := by kernel_rfl
theorem fs87_10 : fldS Try.prog 87 10 = some 10 := by kernel_rfl
theorem fo87_11 : fldO Try.prog 87 11 = some 11 := by kernel_rfl
theorem fs87_11 : fldS Try.prog 87 11 = some 11 := by kernel_rfl
theorem fo87_12 : fldO Try.prog 87 12 = some 12 := by kernel_rfl
theorem fs87_12 : fldS Try.prog 87 12 = some 12 := by kernel_rfl
theorem ni87 : (match Try.prog.underlying 87 with | some (.interface _) => false | none => false | _ => true) = true := by kernel_rfl
theorem z87 : zeroC Try.prog 87 = some [.slice none 0 0, .slice none 0 0, .int .i64 0, .int .i64 0, .int .i32 0, .int .i32 0, .bool false, .bool false, .bool false, .int .i64 0, .int .i64 0, .int .i64 0, .int .i64 0] := by kernel_rfl
theorem ag88 : aggS Try.prog 88 = some 13 := by kernel_rfl
theorem fo88_0 : fldO Try.prog 88 0 = some 0 := by kernel_rfl
theorem fs88_0 : fldS Try.prog 88 0 = some 0 := by kernel_rfl
theorem fo88_1 : fldO Try.prog 88 1 = some 1 := by kernel_rfl
theorem fs88_1 : fldS Try.prog 88 1 = some 1 := by kernel_rfl
theorem fo88_2 : fldO Try.prog 88 2 = some 2 := by kernel_rfl
theorem fs88_2 : fldS Try.prog 88 2 = some 2 := by kernel_rfl
theorem fo88_3 : fldO Try.prog 88 3 = some 3 := by kernel_rfl
theorem fs88_3 : fldS Try.prog 88 3 = some 3 := by kernel_rfl
theorem fo88_4 : fldO Try.prog 88 4 = some 4 := by kernel_rfl
theorem fs88_4 : fldS Try.prog 88 4 = some 4 := by kernel_rfl
theorem fo88_5 : fldO Try.prog 88 5 = some 5 := by kernel_rfl
theorem fs88_5 : fldS Try.prog 88 5 = some 5 := by kernel_rfl
theorem fo88_6 : fldO Try.prog 88 6 = some 6 := by kernel_rfl
theorem fs88_6 : fldS Try.prog 88 6 = some 6 := by kernel_rfl
theorem fo88_7 : fldO Try.prog 88 7 = some 7 := by kernel_rfl
theorem fs88_7 : fldS Try.prog 88 7 = some 7 := by kernel_rfl
theorem fo88_8 : fldO Try.prog 88 8 = some 8 := by kernel_rfl
theorem fs88_8 : fldS Try.prog 88 8 = some 8 := by kernel_rfl
theorem fo88_9 : fldO Try.prog 88 9 = some 9 := by kernel_rfl
theorem fs88_9 : fldS Try.prog 88 9 = some 9 := by kernel_rfl
theorem fo88_10 : fldO Try.prog 88 10 = some 10 := by kernel_rfl
theorem fs88_10 : fldS Try.prog 88 10 = some 10 := by kernel_rfl
theorem fo88_11 : fldO Try.prog 88 11 = some 11 := by kernel_rfl
theorem fs88_11 : fldS Try.prog 88 11 = some 11 := by kernel_rfl
theorem fo88_12 : fldO Try.prog 88 12 = some 12 := by kernel_rfl
theorem fs88_12 : fldS Try.prog 88 12 = some 12 := by kernel_rfl
theorem ni88 : (match Try.prog.underlying 88 with | some (.interface _) => false | none => false | _ => true) = true := by kernel_rfl
theorem z88 : zeroC Try.prog 88 = some [.slice none 0 0, .slice none 0 0, .int .i64 0, .int .i64 0, .int .i32 0, .int .i32 0, .bool false, .bool false, .bool false, .int .i64 0, .int .i64 0, .int .i64 0, .int .i64 0] := by kernel_rfl
theorem sc89 : scal Try.prog 89 = true := by kernel_rfl
theorem ni89 : (match Try.prog.underlying 89 with | some (.interface _) => false | none => false | _ => true) = true := by kernel_rfl
theorem z89 : zeroC Try.prog 89 = some [.nilFunc] := by kernel_rfl
theorem sc90 : scal Try.prog 90 = true := by kernel_rfl
theorem ni90 : (match Try.prog.underlying 90 with | some (.interface _) => false | none => false | _ => true) = true := by kernel_rfl
theorem z90 : zeroC Try.prog 90 = some [.nilFunc] := by kernel_rfl
theorem sc91 : scal Try.prog 91 = true := by kernel_rfl
theorem ip91 : isPtr Try.prog 91 = true := by kernel_rfl
theorem ni91 : (match Try.prog.underlying 91 with | some (.interface _) => false | none => false | _ => true) = true := by kernel_rfl
theorem z91 : zeroC Try.prog 91 = some [.pointer none] := by kernel_rfl
theorem ag92 : aggS Try.prog 92 = some 3 := by kernel_rfl
theorem fo92_0 : fldO Try.prog 92 0 = some 0 := by kernel_rfl
theorem fs92_0 : fldS Try.prog 92 0 = some 0 := by kernel_rfl
theorem fo92_1 : fldO Try.prog 92 1 = some 1 := by kernel_rfl
theorem fs92_1 : fldS Try.prog 92 1 = some 1 := by kernel_rfl
theorem fo92_2 : fldO Try.prog 92 2 = some 2 := by kernel_rfl
theorem fs92_2 : fldS Try.prog 92 2 = some 2 := by kernel_rfl
theorem ni92 : (match Try.prog.underlying 92 with | some (.interface _) => false | none => false | _ => true) = true := by kernel_rfl
theorem z92 : zeroC Try.prog 92 = some [.slice none 0 0, .int .i64 0, .int .i64 0] := by kernel_rfl
theorem ag93 : aggS Try.prog 93 = some 3 := by kernel_rfl
theorem fo93_0 : fldO Try.prog 93 0 = some 0 := by kernel_rfl
theorem fs93_0 : fldS Try.prog 93 0 = some 0 := by kernel_rfl
theorem fo93_1 : fldO Try.prog 93 1 = some 1 := by kernel_rfl
theorem fs93_1 : fldS Try.prog 93 1 = some 1 := by kernel_rfl
theorem fo93_2 : fldO Try.prog 93 2 = some 2 := by kernel_rfl
theorem fs93_2 : fldS Try.prog 93 2 = some 2 := by kernel_rfl
theorem ni93 : (match Try.prog.underlying 93 with | some (.interface _) => false | none => false | _ => true) = true := by kernel_rfl
theorem z93 : zeroC Try.prog 93 = some [.slice none 0 0, .int .i64 0, .int .i64 0] := by kernel_rfl
theorem sc94 : scal Try.prog 94 = true := by kernel_rfl
theorem ni94 : (match Try.prog.underlying 94 with | some (.interface _) => false | none => false | _ => true) = true := by kernel_rfl
theorem z94 : zeroC Try.prog 94 = some [.nilFunc] := by kernel_rfl
theorem sc95 : scal Try.prog 95 = true := by kernel_rfl
theorem ik95 : intK Try.prog 95 = some .i32 := by kernel_rfl
theorem un95 : (Try.prog.underlying 95).isSome = true := by kernel_rfl
theorem ni95 : (match Try.prog.underlying 95 with | some (.interface _) => false | none => false | _ => true) = true := by kernel_rfl
theorem z95 : zeroC Try.prog 95 = some [.int .i32 0] := by kernel_rfl
theorem sc96 : scal Try.prog 96 = true := by kernel_rfl
theorem ik96 : intK Try.prog 96 = some .i32 := by kernel_rfl
theorem un96 : (Try.prog.underlying 96).isSome = true := by kernel_rfl
theorem ni96 : (match Try.prog.underlying 96 with | some (.interface _) => false | none => false | _ => true) = true := by kernel_rfl
theorem z96 : zeroC Try.prog 96 = some [.int .i32 0] := by kernel_rfl
theorem ag97 : aggS Try.prog 97 = some 5 := by kernel_rfl
theorem fo97_0 : fldO Try.prog 97 0 = some 0 := by kernel_rfl
theorem fs97_0 : fldS Try.prog 97 0 = some 0 := by kernel_rfl
theorem fo97_1 : fldO Try.prog 97 1 = some 1 := by kernel_rfl
theorem fs97_1 : fldS Try.prog 97 1 = some 1 := by kernel_rfl
theorem fo97_2 : fldO Try.prog 97 2 = some 2 := by kernel_rfl
theorem fs97_2 : fldS Try.prog 97 2 = some 2 := by kernel_rfl
theorem fo97_3 : fldO Try.prog 97 3 = some 3 := by kernel_rfl
theorem fs97_3 : fldS Try.prog 97 3 = some 3 := by kernel_rfl
theorem fo97_4 : fldO Try.prog 97 4 = some 4 := by kernel_rfl
theorem fs97_4 : fldS Try.prog 97 4 = some 4 := by kernel_rfl
theorem ni97 : (match Try.prog.underlying 97 with | some (.interface _) => false | none => false | _ => true) = true := by kernel_rfl
theorem z97 : zeroC Try.prog 97 = some [.int .i32 0, .int .i32 0, .slice none 0 0, .nilIface, .slice none 0 0] := by kernel_rfl
theorem ag98 : aggS Try.prog 98 = some 5 := by kernel_rfl
theorem fo98_0 : fldO Try.prog 98 0 = some 0 := by kernel_rfl
theorem fs98_0 : fldS Try.prog 98 0 = some 0 := by kernel_rfl
theorem fo98_1 : fldO Try.prog 98 1 = some 1 := by kernel_rfl
theorem fs98_1 : fldS Try.prog 98 1 = some 1 := by kernel_rfl
theorem fo98_2 : fldO Try.prog 98 2 = some 2 := by kernel_rfl
theorem fs98_2 : fldS Try.prog 98 2 = some 2 := by kernel_rfl
theorem fo98_3 : fldO Try.prog 98 3 = some 3 := by kernel_rfl
theorem fs98_3 : fldS Try.prog 98 3 = some 3 := by kernel_rfl
theorem fo98_4 : fldO Try.prog 98 4 = some 4 := by kernel_rfl
theorem fs98_4 : fldS Try.prog 98 4 = some 4 := by kernel_rfl
theorem ni98 : (match Try.prog.underlying 98 with | some (.interface _) => false | none => false | _ => true) = true := by kernel_rfl
theorem z98 : zeroC Try.prog 98 = some [.int .i32 0, .int .i32 0, .slice none 0 0, .nilIface, .slice none 0 0] := by kernel_rfl
theorem sc99 : scal Try.prog 99 = true := by kernel_rfl
theorem ip99 : isPtr Try.prog 99 = true := by kernel_rfl
theorem ni99 : (match Try.prog.underlying 99 with | some (.interface _) => false | none => false | _ => true) = true := by kernel_rfl
theorem z99 : zeroC Try.prog 99 = some [.pointer none] := by kernel_rfl
theorem ag100 : aggS Try.prog 100 = some 1 := by kernel_rfl
theorem fo100_0 : fldO Try.prog 100 0 = some 0 := by kernel_rfl
theorem fs100_0 : fldS Try.prog 100 0 = some 0 := by kernel_rfl
theorem ni100 : (match Try.prog.underlying 100 with | some (.interface _) => false | none => false | _ => true) = true := by kernel_rfl
theorem z100 : zeroC Try.prog 100 = some [.int .i64 0] := by kernel_rfl
theorem ag101 : aggS Try.prog 101 = some 1 := by kernel_rfl
theorem fo101_0 : fldO Try.prog 101 0 = some 0 := by kernel_rfl
theorem fs101_0 : fldS Try.prog 101 0 = some 0 := by kernel_rfl
theorem ni101 : (match Try.prog.underlying 101 with | some (.interface _) => false | none => false | _ => true) = true := by kernel_rfl
theorem z101 : zeroC Try.prog 101 = some [.int .i64 0] := by kernel_rfl
theorem sc102 : scal Try.prog 102 = true := by kernel_rfl
theorem ip102 : isPtr Try.prog 102 = true := by kernel_rfl
theorem ni102 : (match Try.prog.underlying 102 with | some (.interface _) => false | none => false | _ => true) = true := by kernel_rfl
theorem z102 : zeroC Try.prog 102 = some [.pointer none] := by kernel_rfl
theorem ag103 : aggS Try.prog 103 = some 1 := by kernel_rfl
theorem fo103_0 : fldO Try.prog 103 0 = some 0 := by kernel_rfl
theorem fs103_0 : fldS Try.prog 103 0 = some 0 := by kernel_rfl
theorem ni103 : (match Try.prog.underlying 103 with | some (.interface _) => false | none => false | _ => true) = true := by kernel_rfl
theorem z103 : zeroC Try.prog 103 = some [.int .i64 0] := by kernel_rfl
theorem ag104 : aggS Try.prog 104 = some 1 := by kernel_rfl
theorem fo104_0 : fldO Try.prog 104 0 = some 0 := by kernel_rfl
theorem fs104_0 : fldS Try.prog 104 0 = some 0 := by kernel_rfl
theorem ni104 : (match Try.prog.underlying 104 with | some (.interface _) => false | none => false | _ => true) = true := by kernel_rfl
theorem z104 : zeroC Try.prog 104 = some [.int .i64 0] := by kernel_rfl
theorem sc105 : scal Try.prog 105 = true := by kernel_rfl
theorem ip105 : isPtr Try.prog 105 = true := by kernel_rfl
theorem ni105 : (match Try.prog.underlying 105 with | some (.interface _) => false | none => false | _ => true) = true := by kernel_rfl
theorem z105 : zeroC Try.prog 105 = some [.pointer none] := by kernel_rfl
theorem ag106 : aggS Try.prog 106 = some 1 := by kernel_rfl
theorem fo106_0 : fldO Try.prog 106 0 = some 0 := by kernel_rfl
theorem fs106_0 : fldS Try.prog 106 0 = some 0 := by kernel_rfl
theorem ni106 : (match Try.prog.underlying 106 with | some (.interface _) => false | none => false | _ => true) = true := by kernel_rfl
theorem z106 : zeroC Try.prog 106 = some [.int .i64 0] := by kernel_rfl
theorem ag107 : aggS Try.prog 107 = some 1 := by kernel_rfl
theorem fo107_0 : fldO Try.prog 107 0 = some 0 := by kernel_rfl
theorem fs107_0 : fldS Try.prog 107 0 = some 0 := by kernel_rfl
theorem ni107 : (match Try.prog.underlying 107 with | some (.interface _) => false | none => false | _ => true) = true := by kernel_rfl
theorem z107 : zeroC Try.prog 107 = some [.int .i64 0] := by kernel_rfl
theorem sc108 : scal Try.prog 108 = true := by kernel_rfl
theorem ip108 : isPtr Try.prog 108 = true := by kernel_rfl
theorem ni108 : (match Try.prog.underlying 108 with | some (.interface _) => false | none => false | _ => true) = true := by kernel_rfl
theorem z108 : zeroC Try.prog 108 = some [.pointer none] := by kernel_rfl
theorem ag109 : aggS Try.prog 109 = some 1 := by kernel_rfl
theorem fo109_0 : fldO Try.prog 109 0 = some 0 := by kernel_rfl
theorem fs109_0 : fldS Try.prog 109 0 = some 0 := by kernel_rfl
theorem ni109 : (match Try.prog.underlying 109 with | some (.interface _) => false | none => false | _ => true) = true := by kernel_rfl
theorem z109 : zeroC Try.prog 109 = some [.slice none 0 0] := by kernel_rfl
theorem ag110 : aggS Try.prog 110 = some 1 := by kernel_rfl
theorem fo110_0 : fldO Try.prog 110 0 = some 0 := by kernel_rfl
theorem fs110_0 : fldS Try.prog 110 0 = some 0 := by kernel_rfl
theorem ni110 : (match Try.prog.underlying 110 with | some (.interface _) => false | none => false | _ => true) = true := by kernel_rfl
theorem z110 : zeroC Try.prog 110 = some [.slice none 0 0] := by kernel_rfl
theorem sc111 : scal Try.prog 111 = true := by kernel_rfl
theorem ip111 : isPtr Try.prog 111 = true := by kernel_rfl
theorem ni111 : (match Try.prog.underlying 111 with | some (.interface _) => false | none => false | _ => true) = true := by kernel_rfl
theorem z111 : zeroC Try.prog 111 = some [.pointer none] := by kernel_rfl
theorem ag112 : aggS Try.prog 112 = some 1 := by kernel_rfl
theorem fo112_0 : fldO Try.prog 112 0 = some 0 := by kernel_rfl
theorem fs112_0 : fldS Try.prog 112 0 = some 0 := by kernel_rfl
theorem ni112 : (match Try.prog.underlying 112 with | some (.interface _) => false | none => false | _ => true) = true := by kernel_rfl
theorem z112 : zeroC Try.prog 112 = some [.int .i64 0] := by kernel_rfl
theorem ag113 : aggS Try.prog 113 = some 1 := by kernel_rfl
theorem fo113_0 : fldO Try.prog 113 0 = some 0 := by kernel_rfl
theorem fs113_0 : fldS Try.prog 113 0 = some 0 := by kernel_rfl
theorem ni113 : (match Try.prog.underlying 113 with | some (.interface _) => false | none => false | _ => true) = true := by kernel_rfl
theorem z113 : zeroC Try.prog 113 = some [.int .i64 0] := by kernel_rfl
theorem ag114 : aggS Try.prog 114 = some 6 := by kernel_rfl
theorem fo114_0 : fldO Try.prog 114 0 = some 0 := by kernel_rfl
theorem fs114_0 : fldS Try.prog 114 0 = some 0 := by kernel_rfl
theorem fo114_1 : fldO Try.prog 114 1 = some 1 := by kernel_rfl
theorem fs114_1 : fldS Try.prog 114 1 = some 1 := by kernel_rfl
theorem fo114_2 : fldO Try.prog 114 2 = some 2 := by kernel_rfl
theorem fs114_2 : fldS Try.prog 114 2 = some 2 := by kernel_rfl
theorem fo114_3 : fldO Try.prog 114 3 = some 3 := by kernel_rfl
theorem fs114_3 : fldS Try.prog 114 3 = some 3 := by kernel_rfl
theorem fo114_4 : fldO Try.prog 114 4 = some 4 := by kernel_rfl
theorem fs114_4 : fldS Try.prog 114 4 = some 4 := by kernel_rfl
theorem fo114_5 : fldO Try.prog 114 5 = some 5 := by kernel_rfl
theorem fs114_5 : fldS Try.prog 114 5 = some 5 := by kernel_rfl
theorem ni114 : (match Try.prog.underlying 114 with | some (.interface _) => false | none => false | _ => true) = true := by kernel_rfl
theorem z114 : zeroC Try.prog 114 = some [.slice none 0 0, .int .i64 0, .int .i64 0, .int .i64 0, .slice none 0 0, .int .i64 0] := by kernel_rfl
theorem ag115 : aggS Try.prog 115 = some 6 := by kernel_rfl
theorem fo115_0 : fldO Try.prog 115 0 = some 0 := by kernel_rfl
theorem fs115_0 : fldS Try.prog 115 0 = some 0 := by kernel_rfl
theorem fo115_1 : fldO Try.prog 115 1 = some 1 := by kernel_rfl
theorem fs115_1 : fldS Try.prog 115 1 = some 1 := by kernel_rfl
theorem fo115_2 : fldO Try.prog 115 2 = some 2 := by kernel_rfl
theorem fs115_2 : fldS Try.prog 115 2 = some 2 := by kernel_rfl
theorem fo115_3 : fldO Try.prog 115 3 = some 3 := by kernel_rfl
theorem fs115_3 : fldS Try.prog 115 3 = some 3 := by kernel_rfl
theorem fo115_4 : fldO Try.prog 115 4 = some 4 := by kernel_rfl
theorem fs115_4 : fldS Try.prog 115 4 = some 4 := by kernel_rfl
theorem fo115_5 : fldO Try.prog 115 5 = some 5 := by kernel_rfl
theorem fs115_5 : fldS Try.prog 115 5 = some 5 := by kernel_rfl
theorem ni115 : (match Try.prog.underlying 115 with | some (.interface _) => false | none => false | _ => true) = true := by kernel_rfl
theorem z115 : zeroC Try.prog 115 = some [.slice none 0 0, .int .i64 0, .int .i64 0, .int .i64 0, .slice none 0 0, .int .i64 0] := by kernel_rfl
theorem sc116 : scal Try.prog 116 = true := by kernel_rfl
theorem ni116 : (match Try.prog.underlying 116 with | some (.interface _) => false | none => false | _ => true) = true := by kernel_rfl
theorem z116 : zeroC Try.prog 116 = some [.nilFunc] := by kernel_rfl
theorem sc117 : scal Try.prog 117 = true := by kernel_rfl
theorem ni117 : (match Try.prog.underlying 117 with | some (.interface _) => false | none => false | _ => true) = true := by kernel_rfl
theorem z117 : zeroC Try.prog 117 = some [.nilFunc] := by kernel_rfl
theorem sc118 : scal Try.prog 118 = true := by kernel_rfl
theorem ik118 : intK Try.prog 118 = some .u64 := by kernel_rfl
theorem un118 : (Try.prog.underlying 118).isSome = true := by kernel_rfl
theorem ni118 : (match Try.prog.underlying 118 with | some (.interface _) => false | none => false | _ => true) = true := by kernel_rfl
theorem z118 : zeroC Try.prog 118 = some [.int .u64 0] := by kernel_rfl
theorem sc119 : scal Try.prog 119 = true := by kernel_rfl
theorem ni119 : (match Try.prog.underlying 119 with | some (.interface _) => false | none => false | _ => true) = true := by kernel_rfl
theorem z119 : zeroC Try.prog 119 = some [.nilFunc] := by kernel_rfl
theorem sc120 : scal Try.prog 120 = true := by kernel_rfl
theorem ni120 : (match Try.prog.underlying 120 with | some (.interface _) => false | none => false | _ => true) = true := by kernel_rfl
theorem z120 : zeroC Try.prog 120 = some [.nilFunc] := by kernel_rfl
theorem sc121 : scal Try.prog 121 = true := by kernel_rfl
theorem sl121 : slcE Try.prog 121 = some (5, 1, 1) := by kernel_rfl
theorem is121 : isSlc Try.prog 121 = true := by kernel_rfl
theorem by121 : isBytes Try.prog 121 = some 5 := by kernel_rfl
theorem ni121 : (match Try.prog.underlying 121 with | some (.interface _) => false | none => false | _ => true) = true := by kernel_rfl
theorem z121 : zeroC Try.prog 121 = some [.slice none 0 0] := by kernel_rfl
theorem sc122 : scal Try.prog 122 = true := by kernel_rfl
theorem ni122 : (match Try.prog.underlying 122 with | some (.interface _) => false | none => false | _ => true) = true := by kernel_rfl
theorem z122 : zeroC Try.prog 122 = some [.nilFunc] := by kernel_rfl
theorem sc123 : scal Try.prog 123 = true := by kernel_rfl
theorem ni123 : (match Try.prog.underlying 123 with | some (.interface _) => false | none => false | _ => true) = true := by kernel_rfl
theorem z123 : zeroC Try.prog 123 = some [.nilFunc] := by kernel_rfl
theorem sc124 : scal Try.prog 124 = true := by kernel_rfl
theorem ni124 : (match Try.prog.underlying 124 with | some (.interface _) => false | none => false | _ => true) = true := by kernel_rfl
theorem z124 : zeroC Try.prog 124 = some [.nilFunc] := by kernel_rfl
theorem sc126 : scal Try.prog 126 = true := by kernel_rfl
theorem ni126 : (match Try.prog.underlying 126 with | some (.interface _) => false | none => false | _ => true) = true := by kernel_rfl
theorem z126 : zeroC Try.prog 126 = some [.nilFunc] := by kernel_rfl
theorem sc128 : scal Try.prog 128 = true := by kernel_rfl
theorem ni128 : (match Try.prog.underlying 128 with | some (.interface _) => false | none => false | _ => true) = true := by kernel_rfl
theorem z128 : zeroC Try.prog 128 = some [.nilFunc] := by kernel_rfl
theorem sc132 : scal Try.prog 132 = true := by kernel_rfl
theorem ik132 : intK Try.prog 132 = some .u64 := by kernel_rfl
theorem un132 : (Try.prog.underlying 132).isSome = true := by kernel_rfl
theorem ni132 : (match Try.prog.underlying 132 with | some (.interface _) => false | none => false | _ => true) = true := by kernel_rfl
theorem z132 : zeroC Try.prog 132 = some [.int .u64 0] := by kernel_rfl
theorem sc133 : scal Try.prog 133 = true := by kernel_rfl
theorem z133 : zeroC Try.prog 133 = some [.nilIface] := by kernel_rfl
theorem sc134 : scal Try.prog 134 = true := by kernel_rfl
theorem z134 : zeroC Try.prog 134 = some [.nilIface] := by kernel_rfl
theorem sc135 : scal Try.prog 135 = true := by kernel_rfl
theorem ni135 : (match Try.prog.underlying 135 with | some (.interface _) => false | none => false | _ => true) = true := by kernel_rfl
theorem z135 : zeroC Try.prog 135 = some [.nilFunc] := by kernel_rfl
theorem ag136 : aggS Try.prog 136 = some 4 := by kernel_rfl
theorem fo136_0 : fldO Try.prog 136 0 = some 0 := by kernel_rfl
theorem fs136_0 : fldS Try.prog 136 0 = some 0 := by kernel_rfl
theorem fo136_1 : fldO Try.prog 136 1 = some 1 := by kernel_rfl
theorem fs136_1 : fldS Try.prog 136 1 = some 1 := by kernel_rfl
theorem fo136_2 : fldO Try.prog 136 2 = some 2 := by kernel_rfl
theorem fs136_2 : fldS Try.prog 136 2 = some 2 := by kernel_rfl
theorem fo136_3 : fldO Try.prog 136 3 = some 3 := by kernel_rfl
theorem fs136_3 : fldS Try.prog 136 3 = some 3 := by kernel_rfl
theorem ni136 : (match Try.prog.underlying 136 with | some (.interface _) => false | none => false | _ => true) = true := by kernel_rfl
theorem z136 : zeroC Try.prog 136 = some [.pointer none, .pointer none, .pointer none, .string ⟨#[]⟩] := by kernel_rfl
theorem ag137 : aggS Try.prog 137 = some 4 := by kernel_rfl
theorem fo137_0 : fldO Try.prog 137 0 = some 0 := by kernel_rfl
theorem fs137_0 : fldS Try.prog 137 0 = some 0 := by kernel_rfl
theorem fo137_1 : fldO Try.prog 137 1 = some 1 := by kernel_rfl
theorem fs137_1 : fldS Try.prog 137 1 = some 1 := by kernel_rfl
theorem fo137_2 : fldO Try.prog 137 2 = some 2 := by kernel_rfl
theorem fs137_2 : fldS Try.prog 137 2 = some 2 := by kernel_rfl
theorem fo137_3 : fldO Try.prog 137 3 = some 3 := by kernel_rfl
theorem fs137_3 : fldS Try.prog 137 3 = some 3 := by kernel_rfl
theorem ni137 : (match Try.prog.underlying 137 with | some (.interface _) => false | none => false | _ => true) = true := by kernel_rfl
theorem z137 : zeroC Try.prog 137 = some [.pointer none, .pointer none, .pointer none, .string ⟨#[]⟩] := by kernel_rfl
theorem ag138 : aggS Try.prog 138 = some 0 := by kernel_rfl
theorem ar138 : arrE Try.prog 138 = some (0, 1) := by kernel_rfl
theorem ni138 : (match Try.prog.underlying 138 with | some (.interface _) => false | none => false | _ => true) = true := by kernel_rfl
theorem z138 : zeroC Try.prog 138 = some [] := by kernel_rfl
theorem ag139 : aggS Try.prog 139 = some 0 := by kernel_rfl
theorem fa139_0 : fldA Try.prog 139 0 = some (0, 0) := by kernel_rfl
theorem ni139 : (match Try.prog.underlying 139 with | some (.interface _) => false | none => false | _ => true) = true := by kernel_rfl
theorem z139 : zeroC Try.prog 139 = some [] := by kernel_rfl
theorem ag140 : aggS Try.prog 140 = some 0 := by kernel_rfl
theorem fa140_0 : fldA Try.prog 140 0 = some (0, 0) := by kernel_rfl
theorem ni140 : (match Try.prog.underlying 140 with | some (.interface _) => false | none => false | _ => true) = true := by kernel_rfl
theorem z140 : zeroC Try.prog 140 = some [] := by kernel_rfl
theorem sc141 : scal Try.prog 141 = true := by kernel_rfl
theorem ni141 : (match Try.prog.underlying 141 with | some (.interface _) => false | none => false | _ => true) = true := by kernel_rfl
theorem z141 : zeroC Try.prog 141 = some [.nilFunc] := by kernel_rfl
theorem sc142 : scal Try.prog 142 = true := by kernel_rfl
theorem ik142 : intK Try.prog 142 = some .u32 := by kernel_rfl
theorem un142 : (Try.prog.underlying 142).isSome = true := by kernel_rfl
theorem ni142 : (match Try.prog.underlying 142 with | some (.interface _) => false | none => false | _ => true) = true := by kernel_rfl
theorem z142 : zeroC Try.prog 142 = some [.int .u32 0] := by kernel_rfl
theorem sc143 : scal Try.prog 143 = true := by kernel_rfl
theorem ik143 : intK Try.prog 143 = some .u8 := by kernel_rfl
theorem un143 : (Try.prog.underlying 143).isSome = true := by kernel_rfl
theorem ni143 : (match Try.prog.underlying 143 with | some (.interface _) => false | none => false | _ => true) = true := by kernel_rfl
theorem z143 : zeroC Try.prog 143 = some [.int .u8 0] := by kernel_rfl
theorem sc144 : scal Try.prog 144 = true := by kernel_rfl
theorem ik144 : intK Try.prog 144 = some .u8 := by kernel_rfl
theorem un144 : (Try.prog.underlying 144).isSome = true := by kernel_rfl
theorem ni144 : (match Try.prog.underlying 144 with | some (.interface _) => false | none => false | _ => true) = true := by kernel_rfl
theorem z144 : zeroC Try.prog 144 = some [.int .u8 0] := by kernel_rfl
theorem sc145 : scal Try.prog 145 = true := by kernel_rfl
theorem ni145 : (match Try.prog.underlying 145 with | some (.interface _) => false | none => false | _ => true) = true := by kernel_rfl
theorem z145 : zeroC Try.prog 145 = some [.nilFunc] := by kernel_rfl
theorem sc146 : scal Try.prog 146 = true := by kernel_rfl
theorem ip146 : isPtr Try.prog 146 = true := by kernel_rfl
theorem ni146 : (match Try.prog.underlying 146 with | some (.interface _) => false | none => false | _ => true) = true := by kernel_rfl
theorem z146 : zeroC Try.prog 146 = some [.pointer none] := by kernel_rfl
theorem sc147 : scal Try.prog 147 = true := by kernel_rfl
theorem ik147 : intK Try.prog 147 = some .i32 := by kernel_rfl
theorem un147 : (Try.prog.underlying 147).isSome = true := by kernel_rfl
theorem ni147 : (match Try.prog.underlying 147 with | some (.interface _) => false | none => false | _ => true) = true := by kernel_rfl
theorem z147 : zeroC Try.prog 147 = some [.int .i32 0] := by kernel_rfl
theorem sc148 : scal Try.prog 148 = true := by kernel_rfl
theorem ik148 : intK Try.prog 148 = some .i32 := by kernel_rfl
theorem un148 : (Try.prog.underlying 148).isSome = true := by kernel_rfl
theorem ni148 : (match Try.prog.underlying 148 with | some (.interface _) => false | none => false | _ => true) = true := by kernel_rfl
theorem z148 : zeroC Try.prog 148 = some [.int .i32 0] := by kernel_rfl
theorem ag149 : aggS Try.prog 149 = some 11 := by kernel_rfl
theorem fo149_0 : fldO Try.prog 149 0 = some 0 := by kernel_rfl
theorem fs149_0 : fldS Try.prog 149 0 = some 0 := by kernel_rfl
theorem fo149_1 : fldO Try.prog 149 1 = some 1 := by kernel_rfl
theorem fs149_1 : fldS Try.prog 149 1 = some 1 := by kernel_rfl
theorem fo149_2 : fldO Try.prog 149 2 = some 2 := by kernel_rfl
theorem fs149_2 : fldS Try.prog 149 2 = some 2 := by kernel_rfl
theorem fo149_3 : fldO Try.prog 149 3 = some 3 := by kernel_rfl
theorem fs149_3 : fldS Try.prog 149 3 = some 3 := by kernel_rfl
theorem fo149_4 : fldO Try.prog 149 4 = some 4 := by kernel_rfl
theorem fs149_4 : fldS Try.prog 149 4 = some 4 := by kernel_rfl
theorem fo149_5 : fldO Try.prog 149 5 = some 5 := by kernel_rfl
theorem fs149_5 : fldS Try.prog 149 5 = some 5 := by kernel_rfl
theorem fo149_6 : fldO Try.prog 149 6 = some 6 := by kernel_rfl
theorem fs149_6 : fldS Try.prog 149 6 = some 6 := by kernel_rfl
theorem fo149_7 : fldO Try.prog 149 7 = some 7 := by kernel_rfl
theorem fs149_7 : fldS Try.prog 149 7 = some 7 := by kernel_rfl
theorem fo149_8 : fldO Try.prog 149 8 = some 8 := by kernel_rfl
theorem fs149_8 : fldS Try.prog 149 8 = some 8 := by kernel_rfl
theorem fo149_9 : fldO Try.prog 149 9 = some 9 := by kernel_rfl
theorem fs149_9 : fldS Try.prog 149 9 = some 9 := by kernel_rfl
theorem fo149_10 : fldO Try.prog 149 10 = some 10 := by kernel_rfl
theorem fs149_10 : fldS Try.prog 149 10 = some 10 := by kernel_rfl
theorem ni149 : (match Try.prog.underlying 149 with | some (.interface _) => false | none => false | _ => true) = true := by kernel_rfl
theorem z149 : zeroC Try.prog 149 = some [.int .u64 0, .int .u64 0, .int .u32 0, .int .u8 0, .int .u8 0, .int .u8 0, .int .u8 0, .nilFunc, .pointer none, .int .i32 0, .int .i32 0] := by kernel_rfl
theorem ag150 : aggS Try.prog 150 = some 11 := by kernel_rfl
theorem fo150_0 : fldO Try.prog 150 0 = some 0 := by kernel_rfl
theorem fs150_0 : fldS Try.prog 150 0 = some 0 := by kernel_rfl
theorem fo150_1 : fldO Try.prog 150 1 = some 1 := by kernel_rfl
theorem fs150_1 : fldS Try.prog 150 1 = some 1 := by kernel_rfl
theorem fo150_2 : fldO Try.prog 150 2 = some 2 := by kernel_rfl
theorem fs150_2 : fldS Try.prog 150 2 = some 2 := by kernel_rfl
theorem fo150_3 : fldO Try.prog 150 3 = some 3 := by kernel_rfl
theorem fs150_3 : fldS Try.prog 150 3 = some 3 := by kernel_rfl
theorem fo150_4 : fldO Try.prog 150 4 = some 4 := by kernel_rfl
theorem fs150_4 : fldS Try.prog 150 4 = some 4 := by kernel_rfl
theorem fo150_5 : fldO Try.prog 150 5 = some 5 := by kernel_rfl
theorem fs150_5 : fldS Try.prog 150 5 = some 5 := by kernel_rfl
theorem fo150_6 : fldO Try.prog 150 6 = some 6 := by kernel_rfl
theorem fs150_6 : fldS Try.prog 150 6 = some 6 := by kernel_rfl
theorem fo150_7 : fldO Try.prog 150 7 = some 7 := by kernel_rfl
theorem fs150_7 : fldS Try.prog 150 7 = some 7 := by kernel_rfl
theorem fo150_8 : fldO Try.prog 150 8 = some 8 := by kernel_rfl
theorem fs150_8 : fldS Try.prog 150 8 = some 8 := by kernel_rfl
theorem fo150_9 : fldO Try.prog 150 9 = some 9 := by kernel_rfl
theorem fs150_9 : fldS Try.prog 150 9 = some 9 := by kernel_rfl
theorem fo150_10 : fldO Try.prog 150 10 = some 10 := by kernel_rfl
theorem fs150_10 : fldS Try.prog 150 10 = some 10 := by kernel_rfl
theorem ni150 : (match Try.prog.underlying 150 with | some (.interface _) => false | none => false | _ => true) = true := by kernel_rfl
theorem z150 : zeroC Try.prog 150 = some [.int .u64 0, .int .u64 0, .int .u32 0, .int .u8 0, .int .u8 0, .int .u8 0, .int .u8 0, .nilFunc, .pointer none, .int .i32 0, .int .i32 0] := by kernel_rfl
theorem sc151 : scal Try.prog 151 = true := by kernel_rfl
theorem ni151 : (match Try.prog.underlying 151 with | some (.interface _) => false | none => false | _ => true) = true := by kernel_rfl
theorem z151 : zeroC Try.prog 151 = some [.pointer none] := by kernel_rfl
theorem mixed : Try.prog.follows .mixedOrders = true := by kernel_rfl
end Go.Proofs.Ytibopfemknnocaa.Ty
