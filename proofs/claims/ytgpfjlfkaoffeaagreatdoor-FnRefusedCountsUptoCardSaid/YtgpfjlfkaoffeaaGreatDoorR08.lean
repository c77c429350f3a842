/- Closed facts on the program's own tables, each by the kernel. Written by a program (mk.py). Errors and package-level variables of the program, as the contracts speak of them. -/
import Derived.Test.YtgpfjlfkaoffeaaGreatDoorR06
import Derived.Test.YtgpfjlfkaoffeaaGreatDoorProg
import Derived.Test.YtgpfjlfkaoffeaaGreatDoorR04
import Derived.LaidEql
set_option linter.all false
namespace Go.Proofs.YtgpfjlfkaoffeaaGreatDoor
open Go
theorem mixed : Tryz.prog.follows .mixedOrders = true := by kernel_rfl
theorem ar_84 : arrSize Tryz.prog 84 = some (255, 5, 1) := by kernel_rfl
theorem ar_155 : arrSize Tryz.prog 155 = some (4, 5, 1) := by kernel_rfl
theorem ar_192 : arrSize Tryz.prog 192 = some (16, 5, 1) := by kernel_rfl
theorem bg_36_0 : ∀ x0 x1 x2 x3 x4 x5 x6 x7 x8 x9 : Value, builtL Tryz.prog 36 [(0, [x0, x1, x2, x3, x4, x5, x6, x7, x8, x9])] = some [x0, x1, x2, x3, x4, x5, x6, x7, x8, x9, .slice none 0 0, .slice none 0 0, .slice none 0 0, .slice none 0 0] := by intros; kernel_rfl
theorem bu_25_0_1 : ∀ x0 x1 : Value, builtL Tryz.prog 25 [(0, [x0]), (1, [x1])] = some [x0, x1] := by intros; kernel_rfl
theorem bu_30_5 : ∀ x0 : Value, builtL Tryz.prog 30 [(5, [x0])] = some [.string ByteArray.empty, .int .u16 0, .int .u16 0, .int .u32 0, .int .u16 0, x0, .slice none 0 0, .string ByteArray.empty, .string ByteArray.empty, .int .u32 0, .int .u32 0, .int .u32 0, .int .u32 0, .int .u32 0, .slice none 0 0, .slice none 0 0] := by intros; kernel_rfl
theorem bu_30_5_1_6 : ∀ x0 x1 x2 : Value, builtL Tryz.prog 30 [(5, [x0]), (1, [x1]), (6, [x2])] = some [.string ByteArray.empty, x1, .int .u16 0, .int .u32 0, .int .u16 0, x0, x2, .string ByteArray.empty, .string ByteArray.empty, .int .u32 0, .int .u32 0, .int .u32 0, .int .u32 0, .int .u32 0, .slice none 0 0, .slice none 0 0] := by intros; kernel_rfl
theorem bu_30_5_6 : ∀ x0 x1 : Value, builtL Tryz.prog 30 [(5, [x0]), (6, [x1])] = some [.string ByteArray.empty, .int .u16 0, .int .u16 0, .int .u32 0, .int .u16 0, x0, x1, .string ByteArray.empty, .string ByteArray.empty, .int .u32 0, .int .u32 0, .int .u32 0, .int .u32 0, .int .u32 0, .slice none 0 0, .slice none 0 0] := by intros; kernel_rfl
theorem bu_30_5_7 : ∀ x0 x1 : Value, builtL Tryz.prog 30 [(5, [x0]), (7, [x1])] = some [.string ByteArray.empty, .int .u16 0, .int .u16 0, .int .u32 0, .int .u16 0, x0, .slice none 0 0, x1, .string ByteArray.empty, .int .u32 0, .int .u32 0, .int .u32 0, .int .u32 0, .int .u32 0, .slice none 0 0, .slice none 0 0] := by intros; kernel_rfl
theorem bu_30_5_7_8_9_10_11_12_13 : ∀ x0 x1 x2 x3 x4 x5 x6 x7 : Value, builtL Tryz.prog 30 [(5, [x0]), (7, [x1]), (8, [x2]), (9, [x3]), (10, [x4]), (11, [x5]), (12, [x6]), (13, [x7])] = some [.string ByteArray.empty, .int .u16 0, .int .u16 0, .int .u32 0, .int .u16 0, x0, .slice none 0 0, x1, x2, x3, x4, x5, x6, x7, .slice none 0 0, .slice none 0 0] := by intros; kernel_rfl
theorem bu_30_5_9_7 : ∀ x0 x1 x2 : Value, builtL Tryz.prog 30 [(5, [x0]), (9, [x1]), (7, [x2])] = some [.string ByteArray.empty, .int .u16 0, .int .u16 0, .int .u32 0, .int .u16 0, x0, .slice none 0 0, x2, .string ByteArray.empty, x1, .int .u32 0, .int .u32 0, .int .u32 0, .int .u32 0, .slice none 0 0, .slice none 0 0] := by intros; kernel_rfl
theorem bu_30_5_9_7_15 : ∀ x0 x1 x2 x3 : Value, builtL Tryz.prog 30 [(5, [x0]), (9, [x1]), (7, [x2]), (15, [x3])] = some [.string ByteArray.empty, .int .u16 0, .int .u16 0, .int .u32 0, .int .u16 0, x0, .slice none 0 0, x2, .string ByteArray.empty, x1, .int .u32 0, .int .u32 0, .int .u32 0, .int .u32 0, .slice none 0 0, x3] := by intros; kernel_rfl
theorem bu_30_5_9_10_11_7 : ∀ x0 x1 x2 x3 x4 : Value, builtL Tryz.prog 30 [(5, [x0]), (9, [x1]), (10, [x2]), (11, [x3]), (7, [x4])] = some [.string ByteArray.empty, .int .u16 0, .int .u16 0, .int .u32 0, .int .u16 0, x0, .slice none 0 0, x4, .string ByteArray.empty, x1, x2, x3, .int .u32 0, .int .u32 0, .slice none 0 0, .slice none 0 0] := by intros; kernel_rfl
theorem bu_30_5_14 : ∀ x0 x1 : Value, builtL Tryz.prog 30 [(5, [x0]), (14, [x1])] = some [.string ByteArray.empty, .int .u16 0, .int .u16 0, .int .u32 0, .int .u16 0, x0, .slice none 0 0, .string ByteArray.empty, .string ByteArray.empty, .int .u32 0, .int .u32 0, .int .u32 0, .int .u32 0, .int .u32 0, x1, .slice none 0 0] := by intros; kernel_rfl
theorem bu_33_0 : ∀ x0 : Value, builtL Tryz.prog 33 [(0, [x0])] = some [x0, .bool false, .int .u16 0, .bool false, .bool false, .bool false, .bool false, .bool false, .bool false, .int .u16 0] := by intros; kernel_rfl
theorem bu_33_0_1_2_3_4_5_6_7_8_9 : ∀ x0 x1 x2 x3 x4 x5 x6 x7 x8 x9 : Value, builtL Tryz.prog 33 [(0, [x0]), (1, [x1]), (2, [x2]), (3, [x3]), (4, [x4]), (5, [x5]), (6, [x6]), (7, [x7]), (8, [x8]), (9, [x9])] = some [x0, x1, x2, x3, x4, x5, x6, x7, x8, x9] := by intros; kernel_rfl
theorem bu_50_0_1_2_3_4_5_6_7_8_9 : ∀ x0 x1 x2 x3 x4 x5 x6 x7 x8 x9 : Value, builtL Tryz.prog 50 [(0, [x0]), (1, [x1]), (2, [x2]), (3, [x3]), (4, [x4]), (5, [x5]), (6, [x6]), (7, [x7]), (8, [x8]), (9, [x9])] = some [x0, x1, x2, x3, x4, x5, x6, x7, x8, x9] := by intros; kernel_rfl
theorem bu_77_0_1_2 : ∀ x0 x1 x2 : Value, builtL Tryz.prog 77 [(0, [x0]), (1, [x1]), (2, [x2])] = some [x0, x1, x2] := by intros; kernel_rfl
theorem bu_81_0 : ∀ x0 : Value, builtL Tryz.prog 81 [(0, [x0])] = some [x0, .int .u16 0, .bool false, .int .u16 0, .bool false, .bool false, .bool false, .bool false, .bool false, .bool false, .int .u16 0, .slice none 0 0, .slice none 0 0] := by intros; kernel_rfl
theorem eI : ∀ x0 x1 : Value, builtL Tryz.prog 141 [(0, [x0]), (1, [x1])] = some [x0, x1] := by intros; kernel_rfl
theorem bu_188_0 : ∀ x0 : Value, builtL Tryz.prog 188 [(0, [x0])] = some [x0] := by intros; kernel_rfl
theorem bu_205_0 : ∀ x0 : Value, builtL Tryz.prog 205 [(0, [x0])] = some [x0] := by intros; kernel_rfl
theorem bu_221_0_1 : ∀ x0 x1 : Value, builtL Tryz.prog 221 [(0, [x0]), (1, [x1])] = some [x0, x1] := by intros; kernel_rfl
theorem bu_304_0_1 : ∀ x0 x1 : Value, builtL Tryz.prog 304 [(0, [x0]), (1, [x1])] = some [x0, x1] := by intros; kernel_rfl
theorem bu_345_0_1 : ∀ x0 x1 : Value, builtL Tryz.prog 345 [(0, [x0]), (1, [x1])] = some [x0, x1] := by intros; kernel_rfl
theorem bz_36 : Tryz.prog.built 36 [] = some ([.int .u16 0, .bool false, .int .u16 0, .bool false, .bool false, .bool false, .bool false, .bool false, .bool false, .int .u16 0, .slice none 0 0, .slice none 0 0, .slice none 0 0, .slice none 0 0] : List Value).toArray := by kernel_rfl
theorem bz_50 : Tryz.prog.built 50 [] = some ([.int .u16 0, .bool false, .int .u16 0, .bool false, .bool false, .bool false, .bool false, .bool false, .bool false, .int .u16 0] : List Value).toArray := by kernel_rfl
theorem bz_54 : Tryz.prog.built 54 [] = some ([.int .u16 0, .bool false, .int .u16 0, .bool false, .bool false, .bool false, .bool false, .bool false, .bool false, .int .u16 0, .slice none 0 0, .slice none 0 0, .slice none 0 0, .slice none 0 0] : List Value).toArray := by kernel_rfl
theorem bz_74 : Tryz.prog.built 74 [] = some ([.slice none 0 0, .slice none 0 0, .slice none 0 0] : List Value).toArray := by kernel_rfl
theorem bz_81 : Tryz.prog.built 81 [] = some ([.int .i64 0, .int .u16 0, .bool false, .int .u16 0, .bool false, .bool false, .bool false, .bool false, .bool false, .bool false, .int .u16 0, .slice none 0 0, .slice none 0 0] : List Value).toArray := by kernel_rfl
theorem bz_86 : Tryz.prog.built 86 [] = some (rep 256 (.int .u8 0) : List Value).toArray := by kernel_rfl
theorem bz_90 : Tryz.prog.built 90 [] = some (rep 256 (.int .u8 0) ++ [.int .u16 0, .int .u16 0] : List Value).toArray := by kernel_rfl
theorem bz_100 : Tryz.prog.built 100 [] = some ([.slice none 0 0, .int .u16 0, .int .u16 0, .int .u16 0, .int .u16 0, .int .u16 0, .int .u16 0, .int .u8 0, .int .i64 0, .int .i64 0, .bool false, .int .i64 0, .int .u16 0, .int .u16 0] : List Value).toArray := by kernel_rfl
theorem bz_112 : Tryz.prog.built 112 [] = some (rep 256 (.int .u8 0) ++ [.int .u16 0, .int .u16 0, .int .u32 0, .int .u16 0] : List Value).toArray := by kernel_rfl
theorem bz_116 : Tryz.prog.built 116 [] = some (rep 256 (.int .u8 0) ++ [.int .u16 0, .int .u16 0, .int .u32 0, .int .u16 0, .nilIface] : List Value).toArray := by kernel_rfl
theorem bz_157 : Tryz.prog.built 157 [] = some ([.int .u8 0, .int .u8 0, .int .u8 0, .int .u8 0] : List Value).toArray := by kernel_rfl
theorem bz_163 : Tryz.prog.built 163 [] = some (rep 256 (.int .u8 0) : List Value).toArray := by kernel_rfl
theorem bz_168 : Tryz.prog.built 168 [] = some (rep 256 (.int .u8 0) : List Value).toArray := by kernel_rfl
theorem bz_173 : Tryz.prog.built 173 [] = some (rep 512 (.int .u8 0) ++ [.int .u32 0, .int .u32 0, .int .u32 0, .int .u32 0, .int .u32 0] : List Value).toArray := by kernel_rfl
theorem bz_178 : Tryz.prog.built 178 [] = some (rep 256 (.int .u8 0) : List Value).toArray := by kernel_rfl
theorem bz_183 : Tryz.prog.built 183 [] = some ([.int .u16 0] ++ rep 256 (.int .u8 0) : List Value).toArray := by kernel_rfl
theorem bz_188 : Tryz.prog.built 188 [] = some ([.slice none 0 0] : List Value).toArray := by kernel_rfl
theorem bz_194 : Tryz.prog.built 194 [] = some (rep 16 (.int .u8 0) : List Value).toArray := by kernel_rfl
theorem bz_199 : Tryz.prog.built 199 [] = some ([.int .u16 0, .int .u16 0, .int .u16 0] ++ rep 256 (.int .u8 0) : List Value).toArray := by kernel_rfl
theorem bz_205 : Tryz.prog.built 205 [] = some ([.slice none 0 0] : List Value).toArray := by kernel_rfl
theorem bz_211 : Tryz.prog.built 211 [] = some ([.int .u16 0] ++ rep 256 (.int .u8 0) ++ [.slice none 0 0] : List Value).toArray := by kernel_rfl
theorem bz_221 : Tryz.prog.built 221 [] = some ([.int .u16 0, .slice none 0 0] : List Value).toArray := by kernel_rfl
theorem el_23 : eltOk Tryz.prog 23 = some (5, 1, 1, [.int .u8 0]) := by kernel_rfl
theorem el_26 : eltOk Tryz.prog 26 = some (25, 2, 32, [.int .u16 0, .slice none 0 0]) := by kernel_rfl
theorem el_28 : eltOk Tryz.prog 28 = some (9, 1, 16, [.string ByteArray.empty]) := by kernel_rfl
theorem el_31 : eltOk Tryz.prog 31 = some (30, 16, 168, [.string ByteArray.empty, .int .u16 0, .int .u16 0, .int .u32 0, .int .u16 0, .int .i64 0, .slice none 0 0, .string ByteArray.empty, .string ByteArray.empty, .int .u32 0, .int .u32 0, .int .u32 0, .int .u32 0, .int .u32 0, .slice none 0 0, .slice none 0 0]) := by kernel_rfl
theorem el_34 : eltOk Tryz.prog 34 = some (77, 3, 24, [.string ByteArray.empty, .int .u16 0, .int .u16 0]) := by kernel_rfl
theorem el_51 : eltOk Tryz.prog 51 = some (90, 258, 260, rep 256 (.int .u8 0) ++ [.int .u16 0, .int .u16 0]) := by kernel_rfl
theorem el_52 : eltOk Tryz.prog 52 = some (116, 261, 288, rep 256 (.int .u8 0) ++ [.int .u16 0, .int .u16 0, .int .u32 0, .int .u16 0, .nilIface]) := by kernel_rfl
theorem el_60 : eltOk Tryz.prog 60 = some (81, 13, 72, [.int .i64 0, .int .u16 0, .bool false, .int .u16 0, .bool false, .bool false, .bool false, .bool false, .bool false, .bool false, .int .u16 0, .slice none 0 0, .slice none 0 0]) := by kernel_rfl
theorem el_62 : eltOk Tryz.prog 62 = some (3, 1, 8, [.int .i64 0]) := by kernel_rfl
theorem el_120 : eltOk Tryz.prog 120 = some (31, 1, 24, [.slice none 0 0]) := by kernel_rfl
theorem el_203 : eltOk Tryz.prog 203 = some (304, 2, 32, [.int .u16 0, .slice none 0 0]) := by kernel_rfl
theorem el_209 : eltOk Tryz.prog 209 = some (345, 2, 32, [.int .u16 0, .slice none 0 0]) := by kernel_rfl
theorem el_232 : eltOk Tryz.prog 232 = some (27, 1, 4, [.int .u32 0]) := by kernel_rfl
theorem es_23 : fK Tryz.prog 23 = some (5, 1) := by kernel_rfl
theorem es_26 : fK Tryz.prog 26 = some (25, 2) := by kernel_rfl
theorem es_28 : fK Tryz.prog 28 = some (9, 1) := by kernel_rfl
theorem es_31 : fK Tryz.prog 31 = some (30, 16) := by kernel_rfl
theorem es_34 : fK Tryz.prog 34 = some (77, 3) := by kernel_rfl
theorem es_51 : fK Tryz.prog 51 = some (90, 258) := by kernel_rfl
theorem es_52 : fK Tryz.prog 52 = some (116, 261) := by kernel_rfl
theorem es_60 : fK Tryz.prog 60 = some (81, 13) := by kernel_rfl
theorem es_62 : fK Tryz.prog 62 = some (3, 1) := by kernel_rfl
theorem es_120 : fK Tryz.prog 120 = some (31, 1) := by kernel_rfl
theorem es_203 : fK Tryz.prog 203 = some (304, 2) := by kernel_rfl
theorem es_209 : fK Tryz.prog 209 = some (345, 2) := by kernel_rfl
theorem es_232 : fK Tryz.prog 232 = some (27, 1) := by kernel_rfl
theorem fo_25_0 : eD Tryz.prog 25 0 = some 0 := by kernel_rfl
theorem fo_25_1 : eD Tryz.prog 25 1 = some 1 := by kernel_rfl
theorem fo_30_0 : eD Tryz.prog 30 0 = some 0 := by kernel_rfl
theorem fo_30_1 : eD Tryz.prog 30 1 = some 1 := by kernel_rfl
theorem fo_30_2 : eD Tryz.prog 30 2 = some 2 := by kernel_rfl
theorem fo_30_3 : eD Tryz.prog 30 3 = some 3 := by kernel_rfl
theorem fo_30_4 : eD Tryz.prog 30 4 = some 4 := by kernel_rfl
theorem fo_30_5 : eD Tryz.prog 30 5 = some 5 := by kernel_rfl
theorem fo_30_6 : eD Tryz.prog 30 6 = some 6 := by kernel_rfl
theorem fo_30_7 : eD Tryz.prog 30 7 = some 7 := by kernel_rfl
theorem fo_30_8 : eD Tryz.prog 30 8 = some 8 := by kernel_rfl
theorem fo_30_9 : eD Tryz.prog 30 9 = some 9 := by kernel_rfl
theorem fo_30_10 : eD Tryz.prog 30 10 = some 10 := by kernel_rfl
theorem fo_30_11 : eD Tryz.prog 30 11 = some 11 := by kernel_rfl
theorem fo_30_12 : eD Tryz.prog 30 12 = some 12 := by kernel_rfl
theorem fo_30_13 : eD Tryz.prog 30 13 = some 13 := by kernel_rfl
theorem fo_30_14 : eD Tryz.prog 30 14 = some 14 := by kernel_rfl
theorem fo_30_15 : eD Tryz.prog 30 15 = some 15 := by kernel_rfl
theorem cV : eD Tryz.prog 33 0 = some 0 := by kernel_rfl
theorem fo_33_1 : eD Tryz.prog 33 1 = some 1 := by kernel_rfl
theorem fo_33_2 : eD Tryz.prog 33 2 = some 2 := by kernel_rfl
theorem fo_33_3 : eD Tryz.prog 33 3 = some 3 := by kernel_rfl
theorem fo_33_4 : eD Tryz.prog 33 4 = some 4 := by kernel_rfl
theorem fo_33_5 : eD Tryz.prog 33 5 = some 5 := by kernel_rfl
theorem fo_33_6 : eD Tryz.prog 33 6 = some 6 := by kernel_rfl
theorem fo_33_7 : eD Tryz.prog 33 7 = some 7 := by kernel_rfl
theorem fo_33_8 : eD Tryz.prog 33 8 = some 8 := by kernel_rfl
theorem fo_33_9 : eD Tryz.prog 33 9 = some 9 := by kernel_rfl
theorem fo_36_0 : eD Tryz.prog 36 0 = some 0 := by kernel_rfl
theorem fo_36_1 : eD Tryz.prog 36 1 = some 10 := by kernel_rfl
theorem fo_36_2 : eD Tryz.prog 36 2 = some 11 := by kernel_rfl
theorem fo_36_3 : eD Tryz.prog 36 3 = some 12 := by kernel_rfl
theorem fo_36_4 : eD Tryz.prog 36 4 = some 13 := by kernel_rfl
theorem fo_50_0 : eD Tryz.prog 50 0 = some 0 := by kernel_rfl
theorem fo_50_1 : eD Tryz.prog 50 1 = some 1 := by kernel_rfl
theorem fo_50_2 : eD Tryz.prog 50 2 = some 2 := by kernel_rfl
theorem fo_50_3 : eD Tryz.prog 50 3 = some 3 := by kernel_rfl
theorem fo_50_4 : eD Tryz.prog 50 4 = some 4 := by kernel_rfl
theorem fo_50_5 : eD Tryz.prog 50 5 = some 5 := by kernel_rfl
theorem fo_50_6 : eD Tryz.prog 50 6 = some 6 := by kernel_rfl
theorem fo_50_7 : eD Tryz.prog 50 7 = some 7 := by kernel_rfl
theorem fo_50_8 : eD Tryz.prog 50 8 = some 8 := by kernel_rfl
theorem fo_50_9 : eD Tryz.prog 50 9 = some 9 := by kernel_rfl
theorem fo_54_0 : eD Tryz.prog 54 0 = some 0 := by kernel_rfl
theorem fo_54_1 : eD Tryz.prog 54 1 = some 10 := by kernel_rfl
theorem fo_54_2 : eD Tryz.prog 54 2 = some 11 := by kernel_rfl
theorem cI : eD Tryz.prog 54 3 = some 12 := by kernel_rfl
theorem cL : eD Tryz.prog 54 4 = some 13 := by kernel_rfl
theorem fo_74_0 : eD Tryz.prog 74 0 = some 0 := by kernel_rfl
theorem fo_74_1 : eD Tryz.prog 74 1 = some 1 := by kernel_rfl
theorem fo_74_2 : eD Tryz.prog 74 2 = some 2 := by kernel_rfl
theorem fo_77_0 : eD Tryz.prog 77 0 = some 0 := by kernel_rfl
theorem fo_77_1 : eD Tryz.prog 77 1 = some 1 := by kernel_rfl
theorem fo_77_2 : eD Tryz.prog 77 2 = some 2 := by kernel_rfl
theorem fo_81_1 : eD Tryz.prog 81 1 = some 1 := by kernel_rfl
theorem fo_86_0 : eD Tryz.prog 86 0 = some 0 := by kernel_rfl
theorem fo_86_1 : eD Tryz.prog 86 1 = some 255 := by kernel_rfl
theorem fo_90_0 : eD Tryz.prog 90 0 = some 0 := by kernel_rfl
theorem fo_90_1 : eD Tryz.prog 90 1 = some 256 := by kernel_rfl
theorem fo_90_2 : eD Tryz.prog 90 2 = some 257 := by kernel_rfl
theorem fo_97_0 : eD Tryz.prog 97 0 = some 0 := by kernel_rfl
theorem fo_97_1 : eD Tryz.prog 97 1 = some 1 := by kernel_rfl
theorem fo_97_2 : eD Tryz.prog 97 2 = some 2 := by kernel_rfl
theorem fo_97_3 : eD Tryz.prog 97 3 = some 3 := by kernel_rfl
theorem fo_97_4 : eD Tryz.prog 97 4 = some 4 := by kernel_rfl
theorem fo_97_5 : eD Tryz.prog 97 5 = some 5 := by kernel_rfl
theorem fo_100_0 : eD Tryz.prog 100 0 = some 0 := by kernel_rfl
theorem fo_100_1 : eD Tryz.prog 100 1 = some 1 := by kernel_rfl
theorem fo_100_2 : eD Tryz.prog 100 2 = some 7 := by kernel_rfl
theorem fo_100_3 : eD Tryz.prog 100 3 = some 8 := by kernel_rfl
theorem fo_100_4 : eD Tryz.prog 100 4 = some 9 := by kernel_rfl
theorem fo_100_5 : eD Tryz.prog 100 5 = some 10 := by kernel_rfl
theorem fo_100_6 : eD Tryz.prog 100 6 = some 11 := by kernel_rfl
theorem fo_100_7 : eD Tryz.prog 100 7 = some 12 := by kernel_rfl
theorem fo_100_8 : eD Tryz.prog 100 8 = some 13 := by kernel_rfl
theorem fo_112_0 : eD Tryz.prog 112 0 = some 0 := by kernel_rfl
theorem fo_112_1 : eD Tryz.prog 112 1 = some 256 := by kernel_rfl
theorem fo_112_2 : eD Tryz.prog 112 2 = some 257 := by kernel_rfl
theorem fo_112_3 : eD Tryz.prog 112 3 = some 258 := by kernel_rfl
theorem fo_112_4 : eD Tryz.prog 112 4 = some 259 := by kernel_rfl
theorem fo_116_0 : eD Tryz.prog 116 0 = some 0 := by kernel_rfl
theorem fo_116_1 : eD Tryz.prog 116 1 = some 260 := by kernel_rfl
theorem fo_157_0 : eD Tryz.prog 157 0 = some 0 := by kernel_rfl
theorem fo_163_0 : eD Tryz.prog 163 0 = some 0 := by kernel_rfl
theorem fo_168_0 : eD Tryz.prog 168 0 = some 0 := by kernel_rfl
theorem fo_173_0 : eD Tryz.prog 173 0 = some 0 := by kernel_rfl
theorem fo_173_1 : eD Tryz.prog 173 1 = some 256 := by kernel_rfl
theorem fo_173_2 : eD Tryz.prog 173 2 = some 512 := by kernel_rfl
theorem fo_173_3 : eD Tryz.prog 173 3 = some 513 := by kernel_rfl
theorem fo_173_4 : eD Tryz.prog 173 4 = some 514 := by kernel_rfl
theorem fo_173_5 : eD Tryz.prog 173 5 = some 515 := by kernel_rfl
theorem fo_173_6 : eD Tryz.prog 173 6 = some 516 := by kernel_rfl
theorem fo_178_0 : eD Tryz.prog 178 0 = some 0 := by kernel_rfl
theorem fo_183_0 : eD Tryz.prog 183 0 = some 0 := by kernel_rfl
theorem fo_183_1 : eD Tryz.prog 183 1 = some 1 := by kernel_rfl
theorem fo_188_0 : eD Tryz.prog 188 0 = some 0 := by kernel_rfl
theorem fo_194_0 : eD Tryz.prog 194 0 = some 0 := by kernel_rfl
theorem fo_199_0 : eD Tryz.prog 199 0 = some 0 := by kernel_rfl
theorem fo_199_1 : eD Tryz.prog 199 1 = some 1 := by kernel_rfl
theorem fo_199_2 : eD Tryz.prog 199 2 = some 2 := by kernel_rfl
theorem fo_199_3 : eD Tryz.prog 199 3 = some 3 := by kernel_rfl
theorem fo_205_0 : eD Tryz.prog 205 0 = some 0 := by kernel_rfl
theorem fo_211_0 : eD Tryz.prog 211 0 = some 0 := by kernel_rfl
theorem fo_211_1 : eD Tryz.prog 211 1 = some 1 := by kernel_rfl
theorem fo_211_2 : eD Tryz.prog 211 2 = some 257 := by kernel_rfl
theorem fo_216_0 : eD Tryz.prog 216 0 = some 0 := by kernel_rfl
theorem fo_221_0 : eD Tryz.prog 221 0 = some 0 := by kernel_rfl
theorem fo_221_1 : eD Tryz.prog 221 1 = some 1 := by kernel_rfl
theorem fo_304_0 : eD Tryz.prog 304 0 = some 0 := by kernel_rfl
theorem fo_304_1 : eD Tryz.prog 304 1 = some 1 := by kernel_rfl
theorem fo_345_0 : eD Tryz.prog 345 0 = some 0 := by kernel_rfl
theorem fo_345_1 : eD Tryz.prog 345 1 = some 1 := by kernel_rfl
theorem cH : eK Tryz.prog 3 = some (false, 1) := by kernel_rfl
theorem k_4 : eK Tryz.prog 4 = some (false, 1) := by kernel_rfl
theorem k_5 : eK Tryz.prog 5 = some (false, 1) := by kernel_rfl
theorem k_9 : eK Tryz.prog 9 = some (false, 1) := by kernel_rfl
theorem eS : eK Tryz.prog 22 = some (false, 1) := by kernel_rfl
theorem k_23 : eK Tryz.prog 23 = some (false, 1) := by kernel_rfl
theorem k_25 : eK Tryz.prog 25 = some (true, 2) := by kernel_rfl
theorem k_26 : eK Tryz.prog 26 = some (false, 1) := by kernel_rfl
theorem cB : eK Tryz.prog 27 = some (false, 1) := by kernel_rfl
theorem k_28 : eK Tryz.prog 28 = some (false, 1) := by kernel_rfl
theorem eJ : eK Tryz.prog 30 = some (true, 16) := by kernel_rfl
theorem k_31 : eK Tryz.prog 31 = some (false, 1) := by kernel_rfl
theorem bZ : eK Tryz.prog 33 = some (true, 10) := by kernel_rfl
theorem k_34 : eK Tryz.prog 34 = some (false, 1) := by kernel_rfl
theorem k_36 : eK Tryz.prog 36 = some (true, 14) := by kernel_rfl
theorem k_47 : eK Tryz.prog 47 = some (false, 1) := by kernel_rfl
theorem k_48 : eK Tryz.prog 48 = some (false, 1) := by kernel_rfl
theorem k_50 : eK Tryz.prog 50 = some (true, 10) := by kernel_rfl
theorem k_51 : eK Tryz.prog 51 = some (false, 1) := by kernel_rfl
theorem k_52 : eK Tryz.prog 52 = some (false, 1) := by kernel_rfl
theorem k_54 : eK Tryz.prog 54 = some (true, 14) := by kernel_rfl
theorem k_57 : eK Tryz.prog 57 = some (false, 1) := by kernel_rfl
theorem k_62 : eK Tryz.prog 62 = some (false, 1) := by kernel_rfl
theorem k_77 : eK Tryz.prog 77 = some (true, 3) := by kernel_rfl
theorem k_81 : eK Tryz.prog 81 = some (true, 13) := by kernel_rfl
theorem k_86 : eK Tryz.prog 86 = some (true, 256) := by kernel_rfl
theorem k_87 : eK Tryz.prog 87 = some (false, 1) := by kernel_rfl
theorem k_88 : eK Tryz.prog 88 = some (false, 1) := by kernel_rfl
theorem k_90 : eK Tryz.prog 90 = some (true, 258) := by kernel_rfl
theorem k_98 : eK Tryz.prog 98 = some (false, 1) := by kernel_rfl
theorem k_100 : eK Tryz.prog 100 = some (true, 14) := by kernel_rfl
theorem k_112 : eK Tryz.prog 112 = some (true, 260) := by kernel_rfl
theorem k_114 : eK Tryz.prog 114 = some (false, 1) := by kernel_rfl
theorem k_116 : eK Tryz.prog 116 = some (true, 261) := by kernel_rfl
theorem k_155 : eK Tryz.prog 155 = some (true, 4) := by kernel_rfl
theorem k_157 : eK Tryz.prog 157 = some (true, 4) := by kernel_rfl
theorem k_163 : eK Tryz.prog 163 = some (true, 256) := by kernel_rfl
theorem k_168 : eK Tryz.prog 168 = some (true, 256) := by kernel_rfl
theorem k_173 : eK Tryz.prog 173 = some (true, 517) := by kernel_rfl
theorem k_178 : eK Tryz.prog 178 = some (true, 256) := by kernel_rfl
theorem k_183 : eK Tryz.prog 183 = some (true, 257) := by kernel_rfl
theorem k_188 : eK Tryz.prog 188 = some (true, 1) := by kernel_rfl
theorem k_192 : eK Tryz.prog 192 = some (true, 16) := by kernel_rfl
theorem k_194 : eK Tryz.prog 194 = some (true, 16) := by kernel_rfl
theorem k_199 : eK Tryz.prog 199 = some (true, 259) := by kernel_rfl
theorem k_203 : eK Tryz.prog 203 = some (false, 1) := by kernel_rfl
theorem k_205 : eK Tryz.prog 205 = some (true, 1) := by kernel_rfl
theorem k_209 : eK Tryz.prog 209 = some (false, 1) := by kernel_rfl
theorem k_211 : eK Tryz.prog 211 = some (true, 258) := by kernel_rfl
theorem k_216 : eK Tryz.prog 216 = some (true, 258) := by kernel_rfl
theorem k_221 : eK Tryz.prog 221 = some (true, 2) := by kernel_rfl
theorem k_304 : eK Tryz.prog 304 = some (true, 2) := by kernel_rfl
theorem k_336 : eK Tryz.prog 336 = some (false, 1) := by kernel_rfl
theorem k_343 : eK Tryz.prog 343 = some (false, 1) := by kernel_rfl
theorem k_345 : eK Tryz.prog 345 = some (true, 2) := by kernel_rfl
theorem ok_6 : eF Tryz.prog 6 = true := by kernel_rfl
theorem ok_7 : eF Tryz.prog 7 = true := by kernel_rfl
theorem ok_8 : eF Tryz.prog 8 = true := by kernel_rfl
theorem ok_9 : eF Tryz.prog 9 = true := by kernel_rfl
theorem ok_10 : eF Tryz.prog 10 = true := by kernel_rfl
theorem ok_11 : eF Tryz.prog 11 = true := by kernel_rfl
theorem ok_14 : eF Tryz.prog 14 = true := by kernel_rfl
theorem ok_15 : eF Tryz.prog 15 = true := by kernel_rfl
theorem ok_16 : eF Tryz.prog 16 = true := by kernel_rfl
theorem ok_17 : eF Tryz.prog 17 = true := by kernel_rfl
theorem ok_18 : eF Tryz.prog 18 = true := by kernel_rfl
theorem ok_19 : eF Tryz.prog 19 = true := by kernel_rfl
theorem ok_20 : eF Tryz.prog 20 = true := by kernel_rfl
theorem ok_21 : eF Tryz.prog 21 = true := by kernel_rfl
theorem ok_22 : eF Tryz.prog 22 = true := by kernel_rfl
theorem ok_23 : eF Tryz.prog 23 = true := by kernel_rfl
theorem ok_24 : eF Tryz.prog 24 = true := by kernel_rfl
theorem ok_25 : eF Tryz.prog 25 = true := by kernel_rfl
theorem ok_26 : eF Tryz.prog 26 = true := by kernel_rfl
theorem ok_27 : eF Tryz.prog 27 = true := by kernel_rfl
theorem ok_31 : eF Tryz.prog 31 = true := by kernel_rfl
theorem ok_32 : eF Tryz.prog 32 = true := by kernel_rfl
theorem ok_33 : eF Tryz.prog 33 = true := by kernel_rfl
theorem ok_34 : eF Tryz.prog 34 = true := by kernel_rfl
theorem ok_35 : eF Tryz.prog 35 = true := by kernel_rfl
theorem ok_36 : eF Tryz.prog 36 = true := by kernel_rfl
theorem ok_42 : eF Tryz.prog 42 = true := by kernel_rfl
theorem ok_43 : eF Tryz.prog 43 = true := by kernel_rfl
theorem ok_44 : eF Tryz.prog 44 = true := by kernel_rfl
theorem ok_45 : eF Tryz.prog 45 = true := by kernel_rfl
theorem ok_46 : eF Tryz.prog 46 = true := by kernel_rfl
theorem ok_47 : eF Tryz.prog 47 = true := by kernel_rfl
theorem ok_48 : eF Tryz.prog 48 = true := by kernel_rfl
theorem ok_49 : eF Tryz.prog 49 = true := by kernel_rfl
theorem ok_50 : eF Tryz.prog 50 = true := by kernel_rfl
theorem ok_51 : eF Tryz.prog 51 = true := by kernel_rfl
theorem ok_52 : eF Tryz.prog 52 = true := by kernel_rfl
theorem ok_59 : eF Tryz.prog 59 = true := by kernel_rfl
theorem ok_60 : eF Tryz.prog 60 = true := by kernel_rfl
theorem ok_61 : eF Tryz.prog 61 = true := by kernel_rfl
theorem ok_62 : eF Tryz.prog 62 = true := by kernel_rfl
theorem ok_63 : eF Tryz.prog 63 = true := by kernel_rfl
theorem ok_64 : eF Tryz.prog 64 = true := by kernel_rfl
theorem ok_65 : eF Tryz.prog 65 = true := by kernel_rfl
theorem ok_66 : eF Tryz.prog 66 = true := by kernel_rfl
theorem ok_67 : eF Tryz.prog 67 = true := by kernel_rfl
theorem ok_68 : eF Tryz.prog 68 = true := by kernel_rfl
theorem ok_74 : eF Tryz.prog 74 = true := by kernel_rfl
theorem ok_79 : eF Tryz.prog 79 = true := by kernel_rfl
theorem ok_83 : eF Tryz.prog 83 = true := by kernel_rfl
theorem ok_88 : eF Tryz.prog 88 = true := by kernel_rfl
theorem ok_90 : eF Tryz.prog 90 = true := by kernel_rfl
theorem ok_92 : eF Tryz.prog 92 = true := by kernel_rfl
theorem ok_94 : eF Tryz.prog 94 = true := by kernel_rfl
theorem ok_96 : eF Tryz.prog 96 = true := by kernel_rfl
theorem ok_98 : eF Tryz.prog 98 = true := by kernel_rfl
theorem ok_100 : eF Tryz.prog 100 = true := by kernel_rfl
theorem ok_102 : eF Tryz.prog 102 = true := by kernel_rfl
theorem ok_104 : eF Tryz.prog 104 = true := by kernel_rfl
theorem ok_106 : eF Tryz.prog 106 = true := by kernel_rfl
theorem ok_108 : eF Tryz.prog 108 = true := by kernel_rfl
theorem ok_110 : eF Tryz.prog 110 = true := by kernel_rfl
theorem ok_112 : eF Tryz.prog 112 = true := by kernel_rfl
theorem ok_113 : eF Tryz.prog 113 = true := by kernel_rfl
theorem ok_114 : eF Tryz.prog 114 = true := by kernel_rfl
theorem ok_115 : eF Tryz.prog 115 = true := by kernel_rfl
theorem ok_116 : eF Tryz.prog 116 = true := by kernel_rfl
theorem ok_117 : eF Tryz.prog 117 = true := by kernel_rfl
theorem ok_118 : eF Tryz.prog 118 = true := by kernel_rfl
theorem ok_119 : eF Tryz.prog 119 = true := by kernel_rfl
theorem ok_130 : eF Tryz.prog 130 = true := by kernel_rfl
theorem ok_131 : eF Tryz.prog 131 = true := by kernel_rfl
theorem ok_132 : eF Tryz.prog 132 = true := by kernel_rfl
theorem ok_133 : eF Tryz.prog 133 = true := by kernel_rfl
theorem ok_134 : eF Tryz.prog 134 = true := by kernel_rfl
theorem ok_135 : eF Tryz.prog 135 = true := by kernel_rfl
theorem ok_136 : eF Tryz.prog 136 = true := by kernel_rfl
theorem ok_137 : eF Tryz.prog 137 = true := by kernel_rfl
theorem ok_138 : eF Tryz.prog 138 = true := by kernel_rfl
theorem ok_139 : eF Tryz.prog 139 = true := by kernel_rfl
theorem ok_140 : eF Tryz.prog 140 = true := by kernel_rfl
theorem ok_141 : eF Tryz.prog 141 = true := by kernel_rfl
theorem ok_142 : eF Tryz.prog 142 = true := by kernel_rfl
theorem ok_143 : eF Tryz.prog 143 = true := by kernel_rfl
theorem ok_144 : eF Tryz.prog 144 = true := by kernel_rfl
theorem ok_145 : eF Tryz.prog 145 = true := by kernel_rfl
theorem ok_146 : eF Tryz.prog 146 = true := by kernel_rfl
theorem ok_147 : eF Tryz.prog 147 = true := by kernel_rfl
theorem ok_148 : eF Tryz.prog 148 = true := by kernel_rfl
theorem ok_149 : eF Tryz.prog 149 = true := by kernel_rfl
theorem ok_150 : eF Tryz.prog 150 = true := by kernel_rfl
theorem ok_151 : eF Tryz.prog 151 = true := by kernel_rfl
theorem ok_152 : eF Tryz.prog 152 = true := by kernel_rfl
theorem ok_153 : eF Tryz.prog 153 = true := by kernel_rfl
theorem ok_157 : eF Tryz.prog 157 = true := by kernel_rfl
theorem ok_158 : eF Tryz.prog 158 = true := by kernel_rfl
theorem ok_160 : eF Tryz.prog 160 = true := by kernel_rfl
theorem ok_161 : eF Tryz.prog 161 = true := by kernel_rfl
theorem ok_162 : eF Tryz.prog 162 = true := by kernel_rfl
theorem ok_163 : eF Tryz.prog 163 = true := by kernel_rfl
theorem ok_164 : eF Tryz.prog 164 = true := by kernel_rfl
theorem ok_165 : eF Tryz.prog 165 = true := by kernel_rfl
theorem ok_166 : eF Tryz.prog 166 = true := by kernel_rfl
theorem ok_167 : eF Tryz.prog 167 = true := by kernel_rfl
theorem ok_168 : eF Tryz.prog 168 = true := by kernel_rfl
theorem ok_169 : eF Tryz.prog 169 = true := by kernel_rfl
theorem ok_171 : eF Tryz.prog 171 = true := by kernel_rfl
theorem ok_172 : eF Tryz.prog 172 = true := by kernel_rfl
theorem ok_173 : eF Tryz.prog 173 = true := by kernel_rfl
theorem ok_185 : eF Tryz.prog 185 = true := by kernel_rfl
theorem ok_186 : eF Tryz.prog 186 = true := by kernel_rfl
theorem ok_187 : eF Tryz.prog 187 = true := by kernel_rfl
theorem ok_188 : eF Tryz.prog 188 = true := by kernel_rfl
theorem ok_190 : eF Tryz.prog 190 = true := by kernel_rfl
theorem ok_191 : eF Tryz.prog 191 = true := by kernel_rfl
theorem ok_193 : eF Tryz.prog 193 = true := by kernel_rfl
theorem ok_194 : eF Tryz.prog 194 = true := by kernel_rfl
theorem ok_195 : eF Tryz.prog 195 = true := by kernel_rfl
theorem ok_196 : eF Tryz.prog 196 = true := by kernel_rfl
theorem ok_226 : eF Tryz.prog 226 = true := by kernel_rfl
theorem ok_245 : eF Tryz.prog 245 = true := by kernel_rfl
theorem st_36 : structL Tryz.prog 36 = some [10, 1, 1, 1, 1] := by kernel_rfl
theorem st_54 : structL Tryz.prog 54 = some [10, 1, 1, 1, 1] := by kernel_rfl
theorem st_90 : structL Tryz.prog 90 = some [256, 1, 1] := by kernel_rfl
theorem st_112 : structL Tryz.prog 112 = some [256, 1, 1, 1, 1] := by kernel_rfl
theorem st_116 : structL Tryz.prog 116 = some [260, 1] := by kernel_rfl
theorem st_157 : structL Tryz.prog 157 = some [4] := by kernel_rfl
theorem st_163 : structL Tryz.prog 163 = some [256] := by kernel_rfl
theorem st_168 : structL Tryz.prog 168 = some [256] := by kernel_rfl
theorem st_173 : structL Tryz.prog 173 = some [256, 256, 1, 1, 1, 1, 1] := by kernel_rfl
theorem st_178 : structL Tryz.prog 178 = some [256] := by kernel_rfl
theorem st_183 : structL Tryz.prog 183 = some [1, 256] := by kernel_rfl
theorem st_194 : structL Tryz.prog 194 = some [16] := by kernel_rfl
theorem st_199 : structL Tryz.prog 199 = some [1, 1, 1, 256] := by kernel_rfl
theorem st_211 : structL Tryz.prog 211 = some [1, 256, 1] := by kernel_rfl
theorem st_216 : structL Tryz.prog 216 = some [258] := by kernel_rfl
theorem z_25 : zeroL Tryz.prog 25 = some ([.int .u16 0, .slice none 0 0]) := by kernel_rfl
theorem z_30 : zeroL Tryz.prog 30 = some ([.string ByteArray.empty, .int .u16 0, .int .u16 0, .int .u32 0, .int .u16 0, .int .i64 0, .slice none 0 0, .string ByteArray.empty, .string ByteArray.empty, .int .u32 0, .int .u32 0, .int .u32 0, .int .u32 0, .int .u32 0, .slice none 0 0, .slice none 0 0]) := by kernel_rfl
theorem z_33 : zeroL Tryz.prog 33 = some ([.int .u16 0, .bool false, .int .u16 0, .bool false, .bool false, .bool false, .bool false, .bool false, .bool false, .int .u16 0]) := by kernel_rfl
theorem z_36 : zeroL Tryz.prog 36 = some ([.int .u16 0, .bool false, .int .u16 0, .bool false, .bool false, .bool false, .bool false, .bool false, .bool false, .int .u16 0, .slice none 0 0, .slice none 0 0, .slice none 0 0, .slice none 0 0]) := by kernel_rfl
theorem z_50 : zeroL Tryz.prog 50 = some ([.int .u16 0, .bool false, .int .u16 0, .bool false, .bool false, .bool false, .bool false, .bool false, .bool false, .int .u16 0]) := by kernel_rfl
theorem z_54 : zeroL Tryz.prog 54 = some ([.int .u16 0, .bool false, .int .u16 0, .bool false, .bool false, .bool false, .bool false, .bool false, .bool false, .int .u16 0, .slice none 0 0, .slice none 0 0, .slice none 0 0, .slice none 0 0]) := by kernel_rfl
theorem z_77 : zeroL Tryz.prog 77 = some ([.string ByteArray.empty, .int .u16 0, .int .u16 0]) := by kernel_rfl
theorem z_81 : zeroL Tryz.prog 81 = some ([.int .i64 0, .int .u16 0, .bool false, .int .u16 0, .bool false, .bool false, .bool false, .bool false, .bool false, .bool false, .int .u16 0, .slice none 0 0, .slice none 0 0]) := by kernel_rfl
theorem z_86 : zeroL Tryz.prog 86 = some (rep 256 (.int .u8 0)) := by kernel_rfl
theorem z_90 : zeroL Tryz.prog 90 = some (rep 256 (.int .u8 0) ++ [.int .u16 0, .int .u16 0]) := by kernel_rfl
theorem z_97 : zeroL Tryz.prog 97 = some ([.int .u16 0, .int .u16 0, .int .u16 0, .int .u16 0, .int .u16 0, .int .u16 0]) := by kernel_rfl
theorem z_100 : zeroL Tryz.prog 100 = some ([.slice none 0 0, .int .u16 0, .int .u16 0, .int .u16 0, .int .u16 0, .int .u16 0, .int .u16 0, .int .u8 0, .int .i64 0, .int .i64 0, .bool false, .int .i64 0, .int .u16 0, .int .u16 0]) := by kernel_rfl
theorem z_112 : zeroL Tryz.prog 112 = some (rep 256 (.int .u8 0) ++ [.int .u16 0, .int .u16 0, .int .u32 0, .int .u16 0]) := by kernel_rfl
theorem z_116 : zeroL Tryz.prog 116 = some (rep 256 (.int .u8 0) ++ [.int .u16 0, .int .u16 0, .int .u32 0, .int .u16 0, .nilIface]) := by kernel_rfl
theorem z_155 : zeroL Tryz.prog 155 = some ([.int .u8 0, .int .u8 0, .int .u8 0, .int .u8 0]) := by kernel_rfl
theorem z_157 : zeroL Tryz.prog 157 = some ([.int .u8 0, .int .u8 0, .int .u8 0, .int .u8 0]) := by kernel_rfl
theorem z_163 : zeroL Tryz.prog 163 = some (rep 256 (.int .u8 0)) := by kernel_rfl
theorem z_168 : zeroL Tryz.prog 168 = some (rep 256 (.int .u8 0)) := by kernel_rfl
theorem z_173 : zeroL Tryz.prog 173 = some (rep 512 (.int .u8 0) ++ [.int .u32 0, .int .u32 0, .int .u32 0, .int .u32 0, .int .u32 0]) := by kernel_rfl
theorem z_178 : zeroL Tryz.prog 178 = some (rep 256 (.int .u8 0)) := by kernel_rfl
theorem z_183 : zeroL Tryz.prog 183 = some ([.int .u16 0] ++ rep 256 (.int .u8 0)) := by kernel_rfl
theorem z_188 : zeroL Tryz.prog 188 = some ([.slice none 0 0]) := by kernel_rfl
theorem z_192 : zeroL Tryz.prog 192 = some (rep 16 (.int .u8 0)) := by kernel_rfl
theorem z_194 : zeroL Tryz.prog 194 = some (rep 16 (.int .u8 0)) := by kernel_rfl
theorem z_199 : zeroL Tryz.prog 199 = some ([.int .u16 0, .int .u16 0, .int .u16 0] ++ rep 256 (.int .u8 0)) := by kernel_rfl
theorem z_205 : zeroL Tryz.prog 205 = some ([.slice none 0 0]) := by kernel_rfl
theorem z_211 : zeroL Tryz.prog 211 = some ([.int .u16 0] ++ rep 256 (.int .u8 0) ++ [.slice none 0 0]) := by kernel_rfl
theorem z_216 : zeroL Tryz.prog 216 = some ([.int .u16 0] ++ rep 256 (.int .u8 0) ++ [.slice none 0 0]) := by kernel_rfl
theorem z_221 : zeroL Tryz.prog 221 = some ([.int .u16 0, .slice none 0 0]) := by kernel_rfl
theorem z_304 : zeroL Tryz.prog 304 = some ([.int .u16 0, .slice none 0 0]) := by kernel_rfl
theorem z_345 : zeroL Tryz.prog 345 = some ([.int .u16 0, .slice none 0 0]) := by kernel_rfl
theorem zo_248 : zeroOf Tryz.prog 248 = some (.pointer none) := by kernel_rfl
theorem zo_250 : zeroOf Tryz.prog 250 = some (.pointer none) := by kernel_rfl
theorem zo_252 : zeroOf Tryz.prog 252 = some (.pointer none) := by kernel_rfl
theorem zo_254 : zeroOf Tryz.prog 254 = some (.pointer none) := by kernel_rfl
theorem zo_256 : zeroOf Tryz.prog 256 = some (.pointer none) := by kernel_rfl
theorem zo_258 : zeroOf Tryz.prog 258 = some (.pointer none) := by kernel_rfl
theorem zo_260 : zeroOf Tryz.prog 260 = some (.pointer none) := by kernel_rfl
theorem zo_262 : zeroOf Tryz.prog 262 = some (.pointer none) := by kernel_rfl
theorem zo_264 : zeroOf Tryz.prog 264 = some (.pointer none) := by kernel_rfl
theorem zo_266 : zeroOf Tryz.prog 266 = some (.pointer none) := by kernel_rfl
theorem zo_268 : zeroOf Tryz.prog 268 = some (.pointer none) := by kernel_rfl
theorem zo_270 : zeroOf Tryz.prog 270 = some (.pointer none) := by kernel_rfl
end Go.Proofs.YtgpfjlfkaoffeaaGreatDoor
namespace Go.Proofs.YtgpfjlfkaoffeaaGreatDoor
open Go
def errGs : List Nat := [4, 5, 12, 13, 14, 7, 15, 16, 17, 19, 20, 6, 8, 9, 10, 11, 0, 1, 2, 3]
def errVal (a : Addr) : Value := .iface 347 (.pointer (some a))
structure Gl (A : Nat → Addr) (V : Vw) : Prop where
 err : ∀ g, errGs.contains g = true → V.cell g 0 = some (errVal (A g))
 obj : ∀ g, errGs.contains g = true → ∃ cs t, V (A g).block = some (.cells cs t (0, 0))
 inj : ∀ g h, errGs.contains g = true → errGs.contains h = true → A g = A h → g = h
 sec : ∃ m es c, V.cell 18 0 = some (.map (some m)) ∧ V m = some (.map es c) ∧
  ∀ k : Int, ∃ r, Instr.findNow (.int .u8) (.int .u8 k) es.toList 0 = some r ∧ ∀ i v, r = some (i, v) → ∃ s : ByteArray, v = .string s ∧ s.size ≤ 100
theorem Gl.mono {A : Nat → Addr} {V V' : Vw} (hV : V.le V') (h : Gl A V) : Gl A V' := by
 refine ⟨fun g hg => Vw.cell_le hV (h.err g hg), fun g hg => ?_, h.inj, ?_⟩
 obtain ⟨cs, t, h1⟩ := h.obj g hg
 exact ⟨cs, t, hV _ _ h1⟩
 obtain ⟨m, es, c, h1, h2, h3⟩ := h.sec
 exact ⟨m, es, c, Vw.cell_le hV h1, hV _ _ h2, h3⟩
theorem Gl.ld {A : Nat → Addr} {V : Vw} {w : World} (h : Gl A V) (hV : V.In w) {g : Nat} (hg : errGs.contains g = true) : w.cell? ⟨g, 0, none⟩ = some (errVal (A g)) := Vw.cell_in hV (h.err g hg)
def ErrV (A : Nat → Addr) (v : Value) : EK → Prop
 | .ok => v = .nilIface
 | .early => v = errVal (A 4)
 | .done => v = errVal (A 5)
 | .other => (∃ g, errGs.contains g = true ∧ g ≠ 4 ∧ g ≠ 5 ∧ v = errVal (A g)) ∨ ∃ b, v = .iface 139 (.pointer (some ⟨b, 0, none⟩))
theorem errv_g {A : Nat → Addr} {g : Nat} (hg : errGs.contains g = true) (h1 : g ≠ 4) (h2 : g ≠ 5) : ErrV A (errVal (A g)) .other := .inl ⟨g, hg, h1, h2, rfl⟩
theorem dA {A : Nat → Addr} {b : Nat} : ErrV A (.iface 139 (.pointer (some ⟨b, 0, none⟩))) .other := .inr ⟨b, rfl⟩
theorem ErrV.oneCell {A : Nat → Addr} {v : Value} {k : EK} (h : ErrV A v k) : v.oneCell' = true := by
 cases k with
 | ok => rw [h]; rfl
 | early => rw [h]; rfl
 | done => rw [h]; rfl
 | other => rcases h with ⟨g, _, _, _, rfl⟩ | ⟨b, rfl⟩ <;> rfl
section
variable {A : Nat → Addr} {V : Vw} {w : World} {ρ : Env}
theorem po_err_eq_nil {x : Operand} {T' : TypeId} {v : Value} {k : EK} (h : ErrV A v k) (hx : ev ρ x = some v) : PO Tryz.prog (.binOp .eql 57 x (.const .nilIface) T') ρ w (.bool (decide (k = .ok))) := by
 cases k with
 | ok => subst h; exact po_eql_nil' Tryz.underlying57 hx
 | early => subst h; exact po_eql_nil Tryz.underlying57 hx
 | done => subst h; exact po_eql_nil Tryz.underlying57 hx
 | other => rcases h with ⟨g, _, _, _, rfl⟩ | ⟨b, rfl⟩ <;> exact po_eql_nil Tryz.underlying57 hx
theorem bB {x : Operand} {T' : TypeId} {v : Value} {k : EK} (h : ErrV A v k) (hx : ev ρ x = some v) : PO Tryz.prog (.binOp .neq 57 x (.const .nilIface) T') ρ w (.bool (decide (k ≠ .ok))) := by
 cases k with
 | ok => subst h; exact po_neq_nil' Tryz.underlying57 hx
 | early => subst h; exact po_neq_nil Tryz.underlying57 hx
 | done => subst h; exact po_neq_nil Tryz.underlying57 hx
 | other => rcases h with ⟨g, _, _, _, rfl⟩ | ⟨b, rfl⟩ <;> exact po_neq_nil Tryz.underlying57 hx
def hasInfo (P : Program) (T : TypeId) (c : Bool) (n : Nat) : Bool :=
 match P.info? T with
 | some i => (i.comparable == c) && (i.size == n)
 | none => false
theorem hasInfo_spec {P : Program} {T : TypeId} {c : Bool} {n : Nat} (h : hasInfo P T c n = true) : ∃ i, P.info? T = some i ∧ i.comparable = c ∧ i.size = n := by
 unfold hasInfo at h
 split at h
 rename_i i hi
 simp at h
 exact ⟨i, hi, h.1, h.2⟩
 cases h
theorem info_errPtr : hasInfo Tryz.prog 347 true 1 = true := by kernel_rfl
theorem info_errStr : hasInfo Tryz.prog 365 true 1 = true := by kernel_rfl
theorem guard_iface {op : BinOp} {T : TypeId} {x y : Operand} {u : Value} {t : TypeId} {v : Value} : (eqGuard op T x y u (.iface t v)).run Tryz.prog w = .ok () w := by
 unfold eqGuard
 cases op <;> cases u <;> rfl
theorem equalIn_iface_types (d : Nat) {T t t' : TypeId} {u v : Value} {ms : Array (String × TypeId)} (hT : Tryz.prog.underlying T = some (.interface ms)) (hne : t ≠ t') :
  (Op.equalIn (d + 1) T (.iface t u) (.iface t' v)).run Tryz.prog w = .ok false w := by
 simp [Op.equalIn, run_underlying hT, hne]
theorem po_err_eq_g {x y : Operand} {T' : TypeId} {v : Value} {k k' : EK} {g : Nat} (hg : g = 4 ∧ k' = .early ∨ g = 5 ∧ k' = .done) (hG : Gl A V) (hV : V.In w) (h : ErrV A v k) (hx : ev ρ x = some v) (hy : ev ρ y = some (errVal (A g))) :
  PO Tryz.prog (.binOp .eql 57 x y T') ρ w (.bool (decide (k = k'))) := by
 refine bin_gen hx hy guard_iface ?_
 obtain ⟨i, hi, hcomp, _⟩ := hasInfo_spec info_errPtr
 obtain ⟨j, hj, _, hsz⟩ := hasInfo_spec info_errStr
 have hgin : errGs.contains g = true := by rcases hg with ⟨rfl, _⟩ | ⟨rfl, _⟩ <;> rfl
 have same : (binOp .eql 57 (errVal (A g)) (errVal (A g))).run Tryz.prog w = .ok (.bool true) w := run_eql_iface_ptr_same w (A g) Tryz.underlying57 Tryz.underlying347 hi hcomp hj
 have other : ∀ h, errGs.contains h = true → h ≠ g → (binOp .eql 57 (errVal (A h)) (errVal (A g))).run Tryz.prog w = .ok (.bool false) w := by
  intro h hh hne
  obtain ⟨c1, t1, e1⟩ := hG.obj h hh
  obtain ⟨c2, t2, e2⟩ := hG.obj g hgin
  exact run_eql_iface_ptr_other w Tryz.underlying57 Tryz.underlying347 hi hcomp hj (by omega) (fun e => hne (hG.inj h g hh hgin e)) (hV _ _ e1) (hV _ _ e2)
 cases k with
 | ok =>
  subst h
  have : decide (EK.ok = k') = false := by rcases hg with ⟨_, rfl⟩ | ⟨_, rfl⟩ <;> rfl
  rw [this]
  exact run_eql_iface_nil_left w _ _ Tryz.underlying57
 | early =>
  subst h
  rcases hg with ⟨rfl, rfl⟩ | ⟨rfl, rfl⟩
  exact same
  exact other _ rfl (by decide)
 | done =>
  subst h
  rcases hg with ⟨rfl, rfl⟩ | ⟨rfl, rfl⟩
  exact other _ rfl (by decide)
  exact same
 | other =>
  have : decide (EK.other = k') = false := by rcases hg with ⟨_, rfl⟩ | ⟨_, rfl⟩ <;> rfl
  rw [this]
  rcases h with ⟨g', h1, h2, h3, rfl⟩ | ⟨b, rfl⟩
  exact other g' h1 (by rcases hg with ⟨rfl, _⟩ | ⟨rfl, _⟩ <;> assumption)
  exact binOp_eql_gen (by simp) (by simp) (by simp) (by simp) (by simp) (equalIn_iface_types 9999 Tryz.underlying57 (by decide))
end
end Go.Proofs.YtgpfjlfkaoffeaaGreatDoor
