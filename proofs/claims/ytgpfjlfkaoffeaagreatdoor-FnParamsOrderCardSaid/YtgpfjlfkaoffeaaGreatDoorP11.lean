/- Closed facts on the program's own tables, each by the kernel. Written by a program (mk.py). -/
import Derived.Test.YtgpfjlfkaoffeaaGreatDoorP09
import Derived.Test.YtgpfjlfkaoffeaaGreatDoorProg
set_option linter.all false
namespace Go.Proofs.YtgpfjlfkaoffeaaGreatDoor
open Go
theorem mixed : Tryz.prog.follows .mixedOrders = true := by kernel_rfl
theorem ar_84 : arrSize Tryz.prog 84 = some (255, 5, 1) := by kernel_rfl
theorem ar_155 : arrSize Tryz.prog 155 = some (4, 5, 1) := by kernel_rfl
theorem ar_192 : arrSize Tryz.prog 192 = some (16, 5, 1) := by kernel_rfl
theorem bg_36_0 : ∀ x0 x1 x2 x3 x4 x5 x6 x7 x8 x9 : Value, builtL Tryz.prog 36 [(0, [x0, x1, x2, x3, x4, x5, x6, x7, x8, x9])] = some [x0, x1, x2, x3, x4, x5, x6, x7, x8, x9, .slice none 0 0, .slice none 0 0, .slice none 0 0, .slice none 0 0] := by intros; kernel_rfl
theorem bu_25_0 : ∀ x0 : Value, builtL Tryz.prog 25 [(0, [x0])] = some [x0, .slice none 0 0] := by intros; kernel_rfl
theorem bu_25_0_1 : ∀ x0 x1 : Value, builtL Tryz.prog 25 [(0, [x0]), (1, [x1])] = some [x0, x1] := by intros; kernel_rfl
theorem bu_30_0_2_5_7_15 : ∀ x0 x1 x2 x3 x4 : Value, builtL Tryz.prog 30 [(0, [x0]), (2, [x1]), (5, [x2]), (7, [x3]), (15, [x4])] = some [x0, .int .u16 0, x1, .int .u32 0, .int .u16 0, x2, .slice none 0 0, x3, .string ByteArray.empty, .int .u32 0, .int .u32 0, .int .u32 0, .int .u32 0, .int .u32 0, .slice none 0 0, x4] := by intros; kernel_rfl
theorem bu_30_5 : ∀ x0 : Value, builtL Tryz.prog 30 [(5, [x0])] = some [.string ByteArray.empty, .int .u16 0, .int .u16 0, .int .u32 0, .int .u16 0, x0, .slice none 0 0, .string ByteArray.empty, .string ByteArray.empty, .int .u32 0, .int .u32 0, .int .u32 0, .int .u32 0, .int .u32 0, .slice none 0 0, .slice none 0 0] := by intros; kernel_rfl
theorem bu_30_5_1_6 : ∀ x0 x1 x2 : Value, builtL Tryz.prog 30 [(5, [x0]), (1, [x1]), (6, [x2])] = some [.string ByteArray.empty, x1, .int .u16 0, .int .u32 0, .int .u16 0, x0, x2, .string ByteArray.empty, .string ByteArray.empty, .int .u32 0, .int .u32 0, .int .u32 0, .int .u32 0, .int .u32 0, .slice none 0 0, .slice none 0 0] := by intros; kernel_rfl
theorem bu_30_5_6 : ∀ x0 x1 : Value, builtL Tryz.prog 30 [(5, [x0]), (6, [x1])] = some [.string ByteArray.empty, .int .u16 0, .int .u16 0, .int .u32 0, .int .u16 0, x0, x1, .string ByteArray.empty, .string ByteArray.empty, .int .u32 0, .int .u32 0, .int .u32 0, .int .u32 0, .int .u32 0, .slice none 0 0, .slice none 0 0] := by intros; kernel_rfl
theorem bu_30_5_7 : ∀ x0 x1 : Value, builtL Tryz.prog 30 [(5, [x0]), (7, [x1])] = some [.string ByteArray.empty, .int .u16 0, .int .u16 0, .int .u32 0, .int .u16 0, x0, .slice none 0 0, x1, .string ByteArray.empty, .int .u32 0, .int .u32 0, .int .u32 0, .int .u32 0, .int .u32 0, .slice none 0 0, .slice none 0 0] := by intros; kernel_rfl
theorem bu_30_5_7_8_9_10_11_12_13 : ∀ x0 x1 x2 x3 x4 x5 x6 x7 : Value, builtL Tryz.prog 30 [(5, [x0]), (7, [x1]), (8, [x2]), (9, [x3]), (10, [x4]), (11, [x5]), (12, [x6]), (13, [x7])] = some [.string ByteArray.empty, .int .u16 0, .int .u16 0, .int .u32 0, .int .u16 0, x0, .slice none 0 0, x1, x2, x3, x4, x5, x6, x7, .slice none 0 0, .slice none 0 0] := by intros; kernel_rfl
theorem bu_30_5_9_7 : ∀ x0 x1 x2 : Value, builtL Tryz.prog 30 [(5, [x0]), (9, [x1]), (7, [x2])] = some [.string ByteArray.empty, .int .u16 0, .int .u16 0, .int .u32 0, .int .u16 0, x0, .slice none 0 0, x2, .string ByteArray.empty, x1, .int .u32 0, .int .u32 0, .int .u32 0, .int .u32 0, .slice none 0 0, .slice none 0 0] := by intros; kernel_rfl
theorem bu_30_5_9_7_15 : ∀ x0 x1 x2 x3 : Value, builtL Tryz.prog 30 [(5, [x0]), (9, [x1]), (7, [x2]), (15, [x3])] = some [.string ByteArray.empty, .int .u16 0, .int .u16 0, .int .u32 0, .int .u16 0, x0, .slice none 0 0, x2, .string ByteArray.empty, x1, .int .u32 0, .int .u32 0, .int .u32 0, .int .u32 0, .slice none 0 0, x3] := by intros; kernel_rfl
theorem bu_30_5_9_10_11_7 : ∀ x0 x1 x2 x3 x4 : Value, builtL Tryz.prog 30 [(5, [x0]), (9, [x1]), (10, [x2]), (11, [x3]), (7, [x4])] = some [.string ByteArray.empty, .int .u16 0, .int .u16 0, .int .u32 0, .int .u16 0, x0, .slice none 0 0, x4, .string ByteArray.empty, x1, x2, x3, .int .u32 0, .int .u32 0, .slice none 0 0, .slice none 0 0] := by intros; kernel_rfl
theorem bu_30_5_14 : ∀ x0 x1 : Value, builtL Tryz.prog 30 [(5, [x0]), (14, [x1])] = some [.string ByteArray.empty, .int .u16 0, .int .u16 0, .int .u32 0, .int .u16 0, x0, .slice none 0 0, .string ByteArray.empty, .string ByteArray.empty, .int .u32 0, .int .u32 0, .int .u32 0, .int .u32 0, .int .u32 0, x1, .slice none 0 0] := by intros; kernel_rfl
theorem bu_33_0 : ∀ x0 : Value, builtL Tryz.prog 33 [(0, [x0])] = some [x0, .bool false, .int .u16 0, .bool false, .bool false, .bool false, .bool false, .bool false, .bool false, .int .u16 0] := by intros; kernel_rfl
theorem bu_33_0_1_2_3_4_5_6_7_8_9 : ∀ x0 x1 x2 x3 x4 x5 x6 x7 x8 x9 : Value, builtL Tryz.prog 33 [(0, [x0]), (1, [x1]), (2, [x2]), (3, [x3]), (4, [x4]), (5, [x5]), (6, [x6]), (7, [x7]), (8, [x8]), (9, [x9])] = some [x0, x1, x2, x3, x4, x5, x6, x7, x8, x9] := by intros; kernel_rfl
theorem bu_36_2 : ∀ x0 : Value, builtL Tryz.prog 36 [(2, [x0])] = some [.int .u16 0, .bool false, .int .u16 0, .bool false, .bool false, .bool false, .bool false, .bool false, .bool false, .int .u16 0, .slice none 0 0, x0, .slice none 0 0, .slice none 0 0] := by intros; kernel_rfl
theorem bu_50_0_1_2_3_4_5_6_7_8_9 : ∀ x0 x1 x2 x3 x4 x5 x6 x7 x8 x9 : Value, builtL Tryz.prog 50 [(0, [x0]), (1, [x1]), (2, [x2]), (3, [x3]), (4, [x4]), (5, [x5]), (6, [x6]), (7, [x7]), (8, [x8]), (9, [x9])] = some [x0, x1, x2, x3, x4, x5, x6, x7, x8, x9] := by intros; kernel_rfl
theorem bu_77_0_1_2 : ∀ x0 x1 x2 : Value, builtL Tryz.prog 77 [(0, [x0]), (1, [x1]), (2, [x2])] = some [x0, x1, x2] := by intros; kernel_rfl
theorem bu_81_0 : ∀ x0 : Value, builtL Tryz.prog 81 [(0, [x0])] = some [x0, .int .u16 0, .bool false, .int .u16 0, .bool false, .bool false, .bool false, .bool false, .bool false, .bool false, .int .u16 0, .slice none 0 0, .slice none 0 0] := by intros; kernel_rfl
theorem bu_81_2 : ∀ x0 : Value, builtL Tryz.prog 81 [(2, [x0])] = some [.int .i64 0, .int .u16 0, .bool false, .int .u16 0, .bool false, .bool false, .bool false, .bool false, .bool false, .bool false, .int .u16 0, x0, .slice none 0 0] := by intros; kernel_rfl
theorem bu_81_3 : ∀ x0 : Value, builtL Tryz.prog 81 [(3, [x0])] = some [.int .i64 0, .int .u16 0, .bool false, .int .u16 0, .bool false, .bool false, .bool false, .bool false, .bool false, .bool false, .int .u16 0, .slice none 0 0, x0] := by intros; kernel_rfl
theorem bu_141_0_1 : ∀ x0 x1 : Value, builtL Tryz.prog 141 [(0, [x0]), (1, [x1])] = some [x0, x1] := by intros; kernel_rfl
theorem bu_188_0 : ∀ x0 : Value, builtL Tryz.prog 188 [(0, [x0])] = some [x0] := by intros; kernel_rfl
theorem bu_205_0 : ∀ x0 : Value, builtL Tryz.prog 205 [(0, [x0])] = some [x0] := by intros; kernel_rfl
theorem bu_221_0_1 : ∀ x0 x1 : Value, builtL Tryz.prog 221 [(0, [x0]), (1, [x1])] = some [x0, x1] := by intros; kernel_rfl
theorem bu_304_0_1 : ∀ x0 x1 : Value, builtL Tryz.prog 304 [(0, [x0]), (1, [x1])] = some [x0, x1] := by intros; kernel_rfl
theorem bu_345_0_1 : ∀ x0 x1 : Value, builtL Tryz.prog 345 [(0, [x0]), (1, [x1])] = some [x0, x1] := by intros; kernel_rfl
theorem bz_30 : Tryz.prog.built 30 [] = some ([.string ByteArray.empty, .int .u16 0, .int .u16 0, .int .u32 0, .int .u16 0, .int .i64 0, .slice none 0 0, .string ByteArray.empty, .string ByteArray.empty, .int .u32 0, .int .u32 0, .int .u32 0, .int .u32 0, .int .u32 0, .slice none 0 0, .slice none 0 0] : List Value).toArray := by kernel_rfl
theorem bz_36 : Tryz.prog.built 36 [] = some ([.int .u16 0, .bool false, .int .u16 0, .bool false, .bool false, .bool false, .bool false, .bool false, .bool false, .int .u16 0, .slice none 0 0, .slice none 0 0, .slice none 0 0, .slice none 0 0] : List Value).toArray := by kernel_rfl
theorem bz_50 : Tryz.prog.built 50 [] = some ([.int .u16 0, .bool false, .int .u16 0, .bool false, .bool false, .bool false, .bool false, .bool false, .bool false, .int .u16 0] : List Value).toArray := by kernel_rfl
theorem bz_54 : Tryz.prog.built 54 [] = some ([.int .u16 0, .bool false, .int .u16 0, .bool false, .bool false, .bool false, .bool false, .bool false, .bool false, .int .u16 0, .slice none 0 0, .slice none 0 0, .slice none 0 0, .slice none 0 0] : List Value).toArray := by kernel_rfl
theorem bz_81 : Tryz.prog.built 81 [] = some ([.int .i64 0, .int .u16 0, .bool false, .int .u16 0, .bool false, .bool false, .bool false, .bool false, .bool false, .bool false, .int .u16 0, .slice none 0 0, .slice none 0 0] : List Value).toArray := by kernel_rfl
theorem bz_86 : Tryz.prog.built 86 [] = some (rep 256 (.int .u8 0) : List Value).toArray := by kernel_rfl
theorem bz_90 : Tryz.prog.built 90 [] = some (rep 256 (.int .u8 0) ++ [.int .u16 0, .int .u16 0] : List Value).toArray := by kernel_rfl
theorem bz_100 : Tryz.prog.built 100 [] = some ([.slice none 0 0, .int .u16 0, .int .u16 0, .int .u16 0, .int .u16 0, .int .u16 0, .int .u16 0, .int .u8 0, .int .i64 0, .int .i64 0, .bool false, .int .i64 0, .int .u16 0, .int .u16 0] : List Value).toArray := by kernel_rfl
theorem bz_112 : Tryz.prog.built 112 [] = some (rep 256 (.int .u8 0) ++ [.int .u16 0, .int .u16 0, .int .u32 0, .int .u16 0] : List Value).toArray := by kernel_rfl
theorem bz_116 : Tryz.prog.built 116 [] = some (rep 256 (.int .u8 0) ++ [.int .u16 0, .int .u16 0, .int .u32 0, .int .u16 0, .nilIface] : List Value).toArray := by kernel_rfl
theorem bz_157 : Tryz.prog.built 157 [] = some ([.int .u8 0, .int .u8 0, .int .u8 0, .int .u8 0] : List Value).toArray := by kernel_rfl
theorem bz_163 : Tryz.prog.built 163 [] = some (rep 256 (.int .u8 0) : List Value).toArray := by kernel_rfl
theorem bz_168 : Tryz.prog.built 168 [] = some (rep 256 (.int .u8 0) : List Value).toArray := by kernel_rfl
theorem bz_173 : Tryz.prog.built 173 [] = some (rep 512 (.int .u8 0) ++ [.int .u32 0, .int .u32 0, .int .u32 0, .int .u32 0, .int .u32 0] : List Value).toArray := by kernel_rfl
theorem bz_178 : Tryz.prog.built 178 [] = some (rep 256 (.int .u8 0) : List Value).toArray := by kernel_rfl
theorem bz_183 : Tryz.prog.built 183 [] = some ([.int .u16 0] ++ rep 256 (.int .u8 0) : List Value).toArray := by kernel_rfl
theorem bz_188 : Tryz.prog.built 188 [] = some ([.slice none 0 0] : List Value).toArray := by kernel_rfl
theorem bz_194 : Tryz.prog.built 194 [] = some (rep 16 (.int .u8 0) : List Value).toArray := by kernel_rfl
theorem bz_199 : Tryz.prog.built 199 [] = some ([.int .u16 0, .int .u16 0, .int .u16 0] ++ rep 256 (.int .u8 0) : List Value).toArray := by kernel_rfl
theorem bz_205 : Tryz.prog.built 205 [] = some ([.slice none 0 0] : List Value).toArray := by kernel_rfl
theorem bz_211 : Tryz.prog.built 211 [] = some ([.int .u16 0] ++ rep 256 (.int .u8 0) ++ [.slice none 0 0] : List Value).toArray := by kernel_rfl
theorem bz_216 : Tryz.prog.built 216 [] = some ([.int .u16 0] ++ rep 256 (.int .u8 0) ++ [.slice none 0 0] : List Value).toArray := by kernel_rfl
theorem bz_221 : Tryz.prog.built 221 [] = some ([.int .u16 0, .slice none 0 0] : List Value).toArray := by kernel_rfl
theorem el_23 : eltOk Tryz.prog 23 = some (5, 1, 1, [.int .u8 0]) := by kernel_rfl
theorem el_26 : eltOk Tryz.prog 26 = some (25, 2, 32, [.int .u16 0, .slice none 0 0]) := by kernel_rfl
theorem el_28 : eltOk Tryz.prog 28 = some (9, 1, 16, [.string ByteArray.empty]) := by kernel_rfl
theorem el_31 : eltOk Tryz.prog 31 = some (30, 16, 168, [.string ByteArray.empty, .int .u16 0, .int .u16 0, .int .u32 0, .int .u16 0, .int .i64 0, .slice none 0 0, .string ByteArray.empty, .string ByteArray.empty, .int .u32 0, .int .u32 0, .int .u32 0, .int .u32 0, .int .u32 0, .slice none 0 0, .slice none 0 0]) := by kernel_rfl
theorem el_34 : eltOk Tryz.prog 34 = some (77, 3, 24, [.string ByteArray.empty, .int .u16 0, .int .u16 0]) := by kernel_rfl
theorem el_51 : eltOk Tryz.prog 51 = some (90, 258, 260, rep 256 (.int .u8 0) ++ [.int .u16 0, .int .u16 0]) := by kernel_rfl
theorem el_52 : eltOk Tryz.prog 52 = some (116, 261, 288, rep 256 (.int .u8 0) ++ [.int .u16 0, .int .u16 0, .int .u32 0, .int .u16 0, .nilIface]) := by kernel_rfl
theorem el_60 : eltOk Tryz.prog 60 = some (81, 13, 72, [.int .i64 0, .int .u16 0, .bool false, .int .u16 0, .bool false, .bool false, .bool false, .bool false, .bool false, .bool false, .int .u16 0, .slice none 0 0, .slice none 0 0]) := by kernel_rfl
theorem el_62 : eltOk Tryz.prog 62 = some (3, 1, 8, [.int .i64 0]) := by kernel_rfl
theorem el_203 : eltOk Tryz.prog 203 = some (304, 2, 32, [.int .u16 0, .slice none 0 0]) := by kernel_rfl
theorem el_209 : eltOk Tryz.prog 209 = some (345, 2, 32, [.int .u16 0, .slice none 0 0]) := by kernel_rfl
theorem es_23 : elemSize Tryz.prog 23 = some (5, 1) := by kernel_rfl
theorem es_26 : elemSize Tryz.prog 26 = some (25, 2) := by kernel_rfl
theorem es_28 : elemSize Tryz.prog 28 = some (9, 1) := by kernel_rfl
theorem es_31 : elemSize Tryz.prog 31 = some (30, 16) := by kernel_rfl
theorem es_34 : elemSize Tryz.prog 34 = some (77, 3) := by kernel_rfl
theorem es_51 : elemSize Tryz.prog 51 = some (90, 258) := by kernel_rfl
theorem es_52 : elemSize Tryz.prog 52 = some (116, 261) := by kernel_rfl
theorem es_60 : elemSize Tryz.prog 60 = some (81, 13) := by kernel_rfl
theorem es_62 : elemSize Tryz.prog 62 = some (3, 1) := by kernel_rfl
theorem es_203 : elemSize Tryz.prog 203 = some (304, 2) := by kernel_rfl
theorem es_209 : elemSize Tryz.prog 209 = some (345, 2) := by kernel_rfl
theorem fo_25_0 : fieldOff Tryz.prog 25 0 = some 0 := by kernel_rfl
theorem fo_25_1 : fieldOff Tryz.prog 25 1 = some 1 := by kernel_rfl
theorem fo_30_0 : fieldOff Tryz.prog 30 0 = some 0 := by kernel_rfl
theorem fo_30_1 : fieldOff Tryz.prog 30 1 = some 1 := by kernel_rfl
theorem fo_30_2 : fieldOff Tryz.prog 30 2 = some 2 := by kernel_rfl
theorem fo_30_3 : fieldOff Tryz.prog 30 3 = some 3 := by kernel_rfl
theorem fo_30_4 : fieldOff Tryz.prog 30 4 = some 4 := by kernel_rfl
theorem fo_30_5 : fieldOff Tryz.prog 30 5 = some 5 := by kernel_rfl
theorem fo_30_6 : fieldOff Tryz.prog 30 6 = some 6 := by kernel_rfl
theorem fo_30_7 : fieldOff Tryz.prog 30 7 = some 7 := by kernel_rfl
theorem fo_30_8 : fieldOff Tryz.prog 30 8 = some 8 := by kernel_rfl
theorem fo_30_9 : fieldOff Tryz.prog 30 9 = some 9 := by kernel_rfl
theorem fo_30_10 : fieldOff Tryz.prog 30 10 = some 10 := by kernel_rfl
theorem fo_30_11 : fieldOff Tryz.prog 30 11 = some 11 := by kernel_rfl
theorem fo_30_12 : fieldOff Tryz.prog 30 12 = some 12 := by kernel_rfl
theorem fo_30_13 : fieldOff Tryz.prog 30 13 = some 13 := by kernel_rfl
theorem fo_30_14 : fieldOff Tryz.prog 30 14 = some 14 := by kernel_rfl
theorem fo_30_15 : fieldOff Tryz.prog 30 15 = some 15 := by kernel_rfl
theorem cV : fieldOff Tryz.prog 33 0 = some 0 := by kernel_rfl
theorem fo_33_1 : fieldOff Tryz.prog 33 1 = some 1 := by kernel_rfl
theorem fo_33_2 : fieldOff Tryz.prog 33 2 = some 2 := by kernel_rfl
theorem fo_33_3 : fieldOff Tryz.prog 33 3 = some 3 := by kernel_rfl
theorem fo_33_4 : fieldOff Tryz.prog 33 4 = some 4 := by kernel_rfl
theorem fo_33_5 : fieldOff Tryz.prog 33 5 = some 5 := by kernel_rfl
theorem fo_33_6 : fieldOff Tryz.prog 33 6 = some 6 := by kernel_rfl
theorem fo_33_7 : fieldOff Tryz.prog 33 7 = some 7 := by kernel_rfl
theorem fo_33_8 : fieldOff Tryz.prog 33 8 = some 8 := by kernel_rfl
theorem fo_33_9 : fieldOff Tryz.prog 33 9 = some 9 := by kernel_rfl
theorem fo_36_0 : fieldOff Tryz.prog 36 0 = some 0 := by kernel_rfl
theorem fo_36_1 : fieldOff Tryz.prog 36 1 = some 10 := by kernel_rfl
theorem fo_36_2 : fieldOff Tryz.prog 36 2 = some 11 := by kernel_rfl
theorem fo_36_3 : fieldOff Tryz.prog 36 3 = some 12 := by kernel_rfl
theorem fo_36_4 : fieldOff Tryz.prog 36 4 = some 13 := by kernel_rfl
theorem fo_50_0 : fieldOff Tryz.prog 50 0 = some 0 := by kernel_rfl
theorem fo_50_1 : fieldOff Tryz.prog 50 1 = some 1 := by kernel_rfl
theorem fo_50_2 : fieldOff Tryz.prog 50 2 = some 2 := by kernel_rfl
theorem fo_50_3 : fieldOff Tryz.prog 50 3 = some 3 := by kernel_rfl
theorem fo_50_4 : fieldOff Tryz.prog 50 4 = some 4 := by kernel_rfl
theorem fo_50_5 : fieldOff Tryz.prog 50 5 = some 5 := by kernel_rfl
theorem fo_50_6 : fieldOff Tryz.prog 50 6 = some 6 := by kernel_rfl
theorem fo_50_7 : fieldOff Tryz.prog 50 7 = some 7 := by kernel_rfl
theorem fo_50_8 : fieldOff Tryz.prog 50 8 = some 8 := by kernel_rfl
theorem fo_50_9 : fieldOff Tryz.prog 50 9 = some 9 := by kernel_rfl
theorem fo_54_0 : fieldOff Tryz.prog 54 0 = some 0 := by kernel_rfl
theorem fo_54_1 : fieldOff Tryz.prog 54 1 = some 10 := by kernel_rfl
theorem fo_54_2 : fieldOff Tryz.prog 54 2 = some 11 := by kernel_rfl
theorem cI : fieldOff Tryz.prog 54 3 = some 12 := by kernel_rfl
theorem cL : fieldOff Tryz.prog 54 4 = some 13 := by kernel_rfl
theorem fo_77_0 : fieldOff Tryz.prog 77 0 = some 0 := by kernel_rfl
theorem fo_77_1 : fieldOff Tryz.prog 77 1 = some 1 := by kernel_rfl
theorem fo_77_2 : fieldOff Tryz.prog 77 2 = some 2 := by kernel_rfl
theorem fo_81_0 : fieldOff Tryz.prog 81 0 = some 0 := by kernel_rfl
theorem fo_81_1 : fieldOff Tryz.prog 81 1 = some 1 := by kernel_rfl
theorem fo_86_0 : fieldOff Tryz.prog 86 0 = some 0 := by kernel_rfl
theorem fo_86_1 : fieldOff Tryz.prog 86 1 = some 255 := by kernel_rfl
theorem fo_90_0 : fieldOff Tryz.prog 90 0 = some 0 := by kernel_rfl
theorem fo_90_1 : fieldOff Tryz.prog 90 1 = some 256 := by kernel_rfl
theorem fo_90_2 : fieldOff Tryz.prog 90 2 = some 257 := by kernel_rfl
theorem fo_97_0 : fieldOff Tryz.prog 97 0 = some 0 := by kernel_rfl
theorem fo_97_1 : fieldOff Tryz.prog 97 1 = some 1 := by kernel_rfl
theorem fo_97_2 : fieldOff Tryz.prog 97 2 = some 2 := by kernel_rfl
theorem fo_97_3 : fieldOff Tryz.prog 97 3 = some 3 := by kernel_rfl
theorem fo_97_4 : fieldOff Tryz.prog 97 4 = some 4 := by kernel_rfl
theorem fo_97_5 : fieldOff Tryz.prog 97 5 = some 5 := by kernel_rfl
theorem fo_100_0 : fieldOff Tryz.prog 100 0 = some 0 := by kernel_rfl
theorem fo_100_1 : fieldOff Tryz.prog 100 1 = some 1 := by kernel_rfl
theorem fo_100_2 : fieldOff Tryz.prog 100 2 = some 7 := by kernel_rfl
theorem fo_100_3 : fieldOff Tryz.prog 100 3 = some 8 := by kernel_rfl
theorem fo_100_4 : fieldOff Tryz.prog 100 4 = some 9 := by kernel_rfl
theorem fo_100_5 : fieldOff Tryz.prog 100 5 = some 10 := by kernel_rfl
theorem fo_100_6 : fieldOff Tryz.prog 100 6 = some 11 := by kernel_rfl
theorem fo_100_7 : fieldOff Tryz.prog 100 7 = some 12 := by kernel_rfl
theorem fo_100_8 : fieldOff Tryz.prog 100 8 = some 13 := by kernel_rfl
theorem fo_112_0 : fieldOff Tryz.prog 112 0 = some 0 := by kernel_rfl
theorem fo_112_1 : fieldOff Tryz.prog 112 1 = some 256 := by kernel_rfl
theorem fo_112_2 : fieldOff Tryz.prog 112 2 = some 257 := by kernel_rfl
theorem fo_112_3 : fieldOff Tryz.prog 112 3 = some 258 := by kernel_rfl
theorem fo_112_4 : fieldOff Tryz.prog 112 4 = some 259 := by kernel_rfl
theorem fo_116_0 : fieldOff Tryz.prog 116 0 = some 0 := by kernel_rfl
theorem fo_116_1 : fieldOff Tryz.prog 116 1 = some 260 := by kernel_rfl
theorem fo_157_0 : fieldOff Tryz.prog 157 0 = some 0 := by kernel_rfl
theorem fo_163_0 : fieldOff Tryz.prog 163 0 = some 0 := by kernel_rfl
theorem fo_168_0 : fieldOff Tryz.prog 168 0 = some 0 := by kernel_rfl
theorem fo_173_0 : fieldOff Tryz.prog 173 0 = some 0 := by kernel_rfl
theorem fo_173_1 : fieldOff Tryz.prog 173 1 = some 256 := by kernel_rfl
theorem fo_173_2 : fieldOff Tryz.prog 173 2 = some 512 := by kernel_rfl
theorem fo_173_3 : fieldOff Tryz.prog 173 3 = some 513 := by kernel_rfl
theorem fo_173_4 : fieldOff Tryz.prog 173 4 = some 514 := by kernel_rfl
theorem fo_173_5 : fieldOff Tryz.prog 173 5 = some 515 := by kernel_rfl
theorem fo_173_6 : fieldOff Tryz.prog 173 6 = some 516 := by kernel_rfl
theorem fo_178_0 : fieldOff Tryz.prog 178 0 = some 0 := by kernel_rfl
theorem fo_183_0 : fieldOff Tryz.prog 183 0 = some 0 := by kernel_rfl
theorem fo_183_1 : fieldOff Tryz.prog 183 1 = some 1 := by kernel_rfl
theorem fo_188_0 : fieldOff Tryz.prog 188 0 = some 0 := by kernel_rfl
theorem fo_194_0 : fieldOff Tryz.prog 194 0 = some 0 := by kernel_rfl
theorem fo_199_0 : fieldOff Tryz.prog 199 0 = some 0 := by kernel_rfl
theorem fo_199_1 : fieldOff Tryz.prog 199 1 = some 1 := by kernel_rfl
theorem fo_199_2 : fieldOff Tryz.prog 199 2 = some 2 := by kernel_rfl
theorem fo_199_3 : fieldOff Tryz.prog 199 3 = some 3 := by kernel_rfl
theorem fo_205_0 : fieldOff Tryz.prog 205 0 = some 0 := by kernel_rfl
theorem fo_211_0 : fieldOff Tryz.prog 211 0 = some 0 := by kernel_rfl
theorem fo_211_1 : fieldOff Tryz.prog 211 1 = some 1 := by kernel_rfl
theorem fo_211_2 : fieldOff Tryz.prog 211 2 = some 257 := by kernel_rfl
theorem fo_216_0 : fieldOff Tryz.prog 216 0 = some 0 := by kernel_rfl
theorem fo_221_0 : fieldOff Tryz.prog 221 0 = some 0 := by kernel_rfl
theorem fo_221_1 : fieldOff Tryz.prog 221 1 = some 1 := by kernel_rfl
theorem fo_304_0 : fieldOff Tryz.prog 304 0 = some 0 := by kernel_rfl
theorem fo_304_1 : fieldOff Tryz.prog 304 1 = some 1 := by kernel_rfl
theorem fo_345_0 : fieldOff Tryz.prog 345 0 = some 0 := by kernel_rfl
theorem fo_345_1 : fieldOff Tryz.prog 345 1 = some 1 := by kernel_rfl
theorem cH : kindOf Tryz.prog 3 = some (false, 1) := by kernel_rfl
theorem k_4 : kindOf Tryz.prog 4 = some (false, 1) := by kernel_rfl
theorem k_5 : kindOf Tryz.prog 5 = some (false, 1) := by kernel_rfl
theorem k_9 : kindOf Tryz.prog 9 = some (false, 1) := by kernel_rfl
theorem k_22 : kindOf Tryz.prog 22 = some (false, 1) := by kernel_rfl
theorem k_23 : kindOf Tryz.prog 23 = some (false, 1) := by kernel_rfl
theorem k_25 : kindOf Tryz.prog 25 = some (true, 2) := by kernel_rfl
theorem k_26 : kindOf Tryz.prog 26 = some (false, 1) := by kernel_rfl
theorem cB : kindOf Tryz.prog 27 = some (false, 1) := by kernel_rfl
theorem k_28 : kindOf Tryz.prog 28 = some (false, 1) := by kernel_rfl
theorem k_30 : kindOf Tryz.prog 30 = some (true, 16) := by kernel_rfl
theorem k_31 : kindOf Tryz.prog 31 = some (false, 1) := by kernel_rfl
theorem bZ : kindOf Tryz.prog 33 = some (true, 10) := by kernel_rfl
theorem k_34 : kindOf Tryz.prog 34 = some (false, 1) := by kernel_rfl
theorem k_36 : kindOf Tryz.prog 36 = some (true, 14) := by kernel_rfl
theorem k_47 : kindOf Tryz.prog 47 = some (false, 1) := by kernel_rfl
theorem k_48 : kindOf Tryz.prog 48 = some (false, 1) := by kernel_rfl
theorem k_50 : kindOf Tryz.prog 50 = some (true, 10) := by kernel_rfl
theorem k_51 : kindOf Tryz.prog 51 = some (false, 1) := by kernel_rfl
theorem k_52 : kindOf Tryz.prog 52 = some (false, 1) := by kernel_rfl
theorem k_54 : kindOf Tryz.prog 54 = some (true, 14) := by kernel_rfl
theorem k_57 : kindOf Tryz.prog 57 = some (false, 1) := by kernel_rfl
theorem k_77 : kindOf Tryz.prog 77 = some (true, 3) := by kernel_rfl
theorem k_81 : kindOf Tryz.prog 81 = some (true, 13) := by kernel_rfl
theorem k_86 : kindOf Tryz.prog 86 = some (true, 256) := by kernel_rfl
theorem k_87 : kindOf Tryz.prog 87 = some (false, 1) := by kernel_rfl
theorem k_88 : kindOf Tryz.prog 88 = some (false, 1) := by kernel_rfl
theorem k_90 : kindOf Tryz.prog 90 = some (true, 258) := by kernel_rfl
theorem k_98 : kindOf Tryz.prog 98 = some (false, 1) := by kernel_rfl
theorem k_100 : kindOf Tryz.prog 100 = some (true, 14) := by kernel_rfl
theorem k_112 : kindOf Tryz.prog 112 = some (true, 260) := by kernel_rfl
theorem k_114 : kindOf Tryz.prog 114 = some (false, 1) := by kernel_rfl
theorem k_116 : kindOf Tryz.prog 116 = some (true, 261) := by kernel_rfl
theorem k_155 : kindOf Tryz.prog 155 = some (true, 4) := by kernel_rfl
theorem k_157 : kindOf Tryz.prog 157 = some (true, 4) := by kernel_rfl
theorem k_163 : kindOf Tryz.prog 163 = some (true, 256) := by kernel_rfl
theorem k_168 : kindOf Tryz.prog 168 = some (true, 256) := by kernel_rfl
theorem k_173 : kindOf Tryz.prog 173 = some (true, 517) := by kernel_rfl
theorem k_178 : kindOf Tryz.prog 178 = some (true, 256) := by kernel_rfl
theorem k_183 : kindOf Tryz.prog 183 = some (true, 257) := by kernel_rfl
theorem k_188 : kindOf Tryz.prog 188 = some (true, 1) := by kernel_rfl
theorem k_192 : kindOf Tryz.prog 192 = some (true, 16) := by kernel_rfl
theorem k_194 : kindOf Tryz.prog 194 = some (true, 16) := by kernel_rfl
theorem k_199 : kindOf Tryz.prog 199 = some (true, 259) := by kernel_rfl
theorem k_203 : kindOf Tryz.prog 203 = some (false, 1) := by kernel_rfl
theorem k_205 : kindOf Tryz.prog 205 = some (true, 1) := by kernel_rfl
theorem k_209 : kindOf Tryz.prog 209 = some (false, 1) := by kernel_rfl
theorem k_211 : kindOf Tryz.prog 211 = some (true, 258) := by kernel_rfl
theorem k_216 : kindOf Tryz.prog 216 = some (true, 258) := by kernel_rfl
theorem k_221 : kindOf Tryz.prog 221 = some (true, 2) := by kernel_rfl
theorem k_304 : kindOf Tryz.prog 304 = some (true, 2) := by kernel_rfl
theorem k_336 : kindOf Tryz.prog 336 = some (false, 1) := by kernel_rfl
theorem k_343 : kindOf Tryz.prog 343 = some (false, 1) := by kernel_rfl
theorem k_345 : kindOf Tryz.prog 345 = some (true, 2) := by kernel_rfl
theorem ok_6 : callOk Tryz.prog 6 = true := by kernel_rfl
theorem ok_7 : callOk Tryz.prog 7 = true := by kernel_rfl
theorem ok_8 : callOk Tryz.prog 8 = true := by kernel_rfl
theorem ok_14 : callOk Tryz.prog 14 = true := by kernel_rfl
theorem ok_15 : callOk Tryz.prog 15 = true := by kernel_rfl
theorem ok_16 : callOk Tryz.prog 16 = true := by kernel_rfl
theorem ok_17 : callOk Tryz.prog 17 = true := by kernel_rfl
theorem ok_18 : callOk Tryz.prog 18 = true := by kernel_rfl
theorem ok_19 : callOk Tryz.prog 19 = true := by kernel_rfl
theorem ok_20 : callOk Tryz.prog 20 = true := by kernel_rfl
theorem ok_31 : callOk Tryz.prog 31 = true := by kernel_rfl
theorem ok_32 : callOk Tryz.prog 32 = true := by kernel_rfl
theorem ok_33 : callOk Tryz.prog 33 = true := by kernel_rfl
theorem ok_34 : callOk Tryz.prog 34 = true := by kernel_rfl
theorem ok_35 : callOk Tryz.prog 35 = true := by kernel_rfl
theorem ok_36 : callOk Tryz.prog 36 = true := by kernel_rfl
theorem ok_37 : callOk Tryz.prog 37 = true := by kernel_rfl
theorem ok_38 : callOk Tryz.prog 38 = true := by kernel_rfl
theorem ok_39 : callOk Tryz.prog 39 = true := by kernel_rfl
theorem ok_40 : callOk Tryz.prog 40 = true := by kernel_rfl
theorem ok_41 : callOk Tryz.prog 41 = true := by kernel_rfl
theorem ok_42 : callOk Tryz.prog 42 = true := by kernel_rfl
theorem ok_43 : callOk Tryz.prog 43 = true := by kernel_rfl
theorem ok_44 : callOk Tryz.prog 44 = true := by kernel_rfl
theorem ok_45 : callOk Tryz.prog 45 = true := by kernel_rfl
theorem ok_46 : callOk Tryz.prog 46 = true := by kernel_rfl
theorem ok_47 : callOk Tryz.prog 47 = true := by kernel_rfl
theorem ok_59 : callOk Tryz.prog 59 = true := by kernel_rfl
theorem ok_60 : callOk Tryz.prog 60 = true := by kernel_rfl
theorem ok_61 : callOk Tryz.prog 61 = true := by kernel_rfl
theorem ok_62 : callOk Tryz.prog 62 = true := by kernel_rfl
theorem ok_63 : callOk Tryz.prog 63 = true := by kernel_rfl
theorem ok_64 : callOk Tryz.prog 64 = true := by kernel_rfl
theorem ok_65 : callOk Tryz.prog 65 = true := by kernel_rfl
theorem ok_66 : callOk Tryz.prog 66 = true := by kernel_rfl
theorem ok_67 : callOk Tryz.prog 67 = true := by kernel_rfl
theorem ok_68 : callOk Tryz.prog 68 = true := by kernel_rfl
theorem ok_69 : callOk Tryz.prog 69 = true := by kernel_rfl
theorem ok_70 : callOk Tryz.prog 70 = true := by kernel_rfl
theorem ok_71 : callOk Tryz.prog 71 = true := by kernel_rfl
theorem ok_72 : callOk Tryz.prog 72 = true := by kernel_rfl
theorem ok_73 : callOk Tryz.prog 73 = true := by kernel_rfl
theorem ok_74 : callOk Tryz.prog 74 = true := by kernel_rfl
theorem ok_75 : callOk Tryz.prog 75 = true := by kernel_rfl
theorem ok_76 : callOk Tryz.prog 76 = true := by kernel_rfl
theorem ok_77 : callOk Tryz.prog 77 = true := by kernel_rfl
theorem ok_78 : callOk Tryz.prog 78 = true := by kernel_rfl
theorem ok_79 : callOk Tryz.prog 79 = true := by kernel_rfl
theorem ok_80 : callOk Tryz.prog 80 = true := by kernel_rfl
theorem ok_81 : callOk Tryz.prog 81 = true := by kernel_rfl
theorem ok_82 : callOk Tryz.prog 82 = true := by kernel_rfl
theorem ok_83 : callOk Tryz.prog 83 = true := by kernel_rfl
theorem ok_84 : callOk Tryz.prog 84 = true := by kernel_rfl
theorem ok_85 : callOk Tryz.prog 85 = true := by kernel_rfl
theorem ok_86 : callOk Tryz.prog 86 = true := by kernel_rfl
theorem ok_87 : callOk Tryz.prog 87 = true := by kernel_rfl
theorem ok_88 : callOk Tryz.prog 88 = true := by kernel_rfl
theorem ok_89 : callOk Tryz.prog 89 = true := by kernel_rfl
theorem ok_90 : callOk Tryz.prog 90 = true := by kernel_rfl
theorem ok_91 : callOk Tryz.prog 91 = true := by kernel_rfl
theorem ok_92 : callOk Tryz.prog 92 = true := by kernel_rfl
theorem ok_93 : callOk Tryz.prog 93 = true := by kernel_rfl
theorem ok_94 : callOk Tryz.prog 94 = true := by kernel_rfl
theorem ok_95 : callOk Tryz.prog 95 = true := by kernel_rfl
theorem ok_96 : callOk Tryz.prog 96 = true := by kernel_rfl
theorem ok_97 : callOk Tryz.prog 97 = true := by kernel_rfl
theorem ok_98 : callOk Tryz.prog 98 = true := by kernel_rfl
theorem ok_99 : callOk Tryz.prog 99 = true := by kernel_rfl
theorem ok_100 : callOk Tryz.prog 100 = true := by kernel_rfl
theorem ok_101 : callOk Tryz.prog 101 = true := by kernel_rfl
theorem ok_102 : callOk Tryz.prog 102 = true := by kernel_rfl
theorem ok_103 : callOk Tryz.prog 103 = true := by kernel_rfl
theorem ok_104 : callOk Tryz.prog 104 = true := by kernel_rfl
theorem ok_105 : callOk Tryz.prog 105 = true := by kernel_rfl
theorem ok_106 : callOk Tryz.prog 106 = true := by kernel_rfl
theorem ok_107 : callOk Tryz.prog 107 = true := by kernel_rfl
theorem ok_108 : callOk Tryz.prog 108 = true := by kernel_rfl
theorem ok_109 : callOk Tryz.prog 109 = true := by kernel_rfl
theorem ok_110 : callOk Tryz.prog 110 = true := by kernel_rfl
theorem ok_111 : callOk Tryz.prog 111 = true := by kernel_rfl
theorem ok_112 : callOk Tryz.prog 112 = true := by kernel_rfl
theorem ok_113 : callOk Tryz.prog 113 = true := by kernel_rfl
theorem ok_114 : callOk Tryz.prog 114 = true := by kernel_rfl
theorem ok_115 : callOk Tryz.prog 115 = true := by kernel_rfl
theorem ok_130 : callOk Tryz.prog 130 = true := by kernel_rfl
theorem ok_131 : callOk Tryz.prog 131 = true := by kernel_rfl
theorem ok_132 : callOk Tryz.prog 132 = true := by kernel_rfl
theorem ok_133 : callOk Tryz.prog 133 = true := by kernel_rfl
theorem ok_134 : callOk Tryz.prog 134 = true := by kernel_rfl
theorem ok_135 : callOk Tryz.prog 135 = true := by kernel_rfl
theorem ok_136 : callOk Tryz.prog 136 = true := by kernel_rfl
theorem ok_137 : callOk Tryz.prog 137 = true := by kernel_rfl
theorem ok_138 : callOk Tryz.prog 138 = true := by kernel_rfl
theorem ok_139 : callOk Tryz.prog 139 = true := by kernel_rfl
theorem ok_140 : callOk Tryz.prog 140 = true := by kernel_rfl
theorem ok_141 : callOk Tryz.prog 141 = true := by kernel_rfl
theorem ok_142 : callOk Tryz.prog 142 = true := by kernel_rfl
theorem ok_143 : callOk Tryz.prog 143 = true := by kernel_rfl
theorem ok_144 : callOk Tryz.prog 144 = true := by kernel_rfl
theorem ok_145 : callOk Tryz.prog 145 = true := by kernel_rfl
theorem ok_146 : callOk Tryz.prog 146 = true := by kernel_rfl
theorem ok_147 : callOk Tryz.prog 147 = true := by kernel_rfl
theorem ok_148 : callOk Tryz.prog 148 = true := by kernel_rfl
theorem ok_149 : callOk Tryz.prog 149 = true := by kernel_rfl
theorem ok_150 : callOk Tryz.prog 150 = true := by kernel_rfl
theorem ok_151 : callOk Tryz.prog 151 = true := by kernel_rfl
theorem ok_152 : callOk Tryz.prog 152 = true := by kernel_rfl
theorem ok_153 : callOk Tryz.prog 153 = true := by kernel_rfl
theorem ok_154 : callOk Tryz.prog 154 = true := by kernel_rfl
theorem ok_155 : callOk Tryz.prog 155 = true := by kernel_rfl
theorem ok_156 : callOk Tryz.prog 156 = true := by kernel_rfl
theorem ok_157 : callOk Tryz.prog 157 = true := by kernel_rfl
theorem ok_158 : callOk Tryz.prog 158 = true := by kernel_rfl
theorem ok_159 : callOk Tryz.prog 159 = true := by kernel_rfl
theorem ok_160 : callOk Tryz.prog 160 = true := by kernel_rfl
theorem ok_161 : callOk Tryz.prog 161 = true := by kernel_rfl
theorem ok_162 : callOk Tryz.prog 162 = true := by kernel_rfl
theorem ok_163 : callOk Tryz.prog 163 = true := by kernel_rfl
theorem ok_164 : callOk Tryz.prog 164 = true := by kernel_rfl
theorem ok_165 : callOk Tryz.prog 165 = true := by kernel_rfl
theorem ok_166 : callOk Tryz.prog 166 = true := by kernel_rfl
theorem ok_167 : callOk Tryz.prog 167 = true := by kernel_rfl
theorem ok_168 : callOk Tryz.prog 168 = true := by kernel_rfl
theorem ok_169 : callOk Tryz.prog 169 = true := by kernel_rfl
theorem ok_170 : callOk Tryz.prog 170 = true := by kernel_rfl
theorem ok_171 : callOk Tryz.prog 171 = true := by kernel_rfl
theorem ok_172 : callOk Tryz.prog 172 = true := by kernel_rfl
theorem ok_185 : callOk Tryz.prog 185 = true := by kernel_rfl
theorem ok_186 : callOk Tryz.prog 186 = true := by kernel_rfl
theorem ok_187 : callOk Tryz.prog 187 = true := by kernel_rfl
theorem ok_188 : callOk Tryz.prog 188 = true := by kernel_rfl
theorem ok_189 : callOk Tryz.prog 189 = true := by kernel_rfl
theorem ok_190 : callOk Tryz.prog 190 = true := by kernel_rfl
theorem ok_191 : callOk Tryz.prog 191 = true := by kernel_rfl
theorem ok_192 : callOk Tryz.prog 192 = true := by kernel_rfl
theorem ok_193 : callOk Tryz.prog 193 = true := by kernel_rfl
theorem ok_194 : callOk Tryz.prog 194 = true := by kernel_rfl
theorem ok_195 : callOk Tryz.prog 195 = true := by kernel_rfl
theorem ok_196 : callOk Tryz.prog 196 = true := by kernel_rfl
theorem ok_197 : callOk Tryz.prog 197 = true := by kernel_rfl
theorem ok_226 : callOk Tryz.prog 226 = true := by kernel_rfl
theorem ok_245 : callOk Tryz.prog 245 = true := by kernel_rfl
theorem st_36 : structL Tryz.prog 36 = some [10, 1, 1, 1, 1] := by kernel_rfl
theorem st_54 : structL Tryz.prog 54 = some [10, 1, 1, 1, 1] := by kernel_rfl
theorem st_90 : structL Tryz.prog 90 = some [256, 1, 1] := by kernel_rfl
theorem st_112 : structL Tryz.prog 112 = some [256, 1, 1, 1, 1] := by kernel_rfl
theorem st_116 : structL Tryz.prog 116 = some [260, 1] := by kernel_rfl
theorem st_157 : structL Tryz.prog 157 = some [4] := by kernel_rfl
theorem st_163 : structL Tryz.prog 163 = some [256] := by kernel_rfl
theorem st_168 : structL Tryz.prog 168 = some [256] := by kernel_rfl
theorem st_173 : structL Tryz.prog 173 = some [256, 256, 1, 1, 1, 1, 1] := by kernel_rfl
theorem st_178 : structL Tryz.prog 178 = some [256] := by kernel_rfl
theorem st_183 : structL Tryz.prog 183 = some [1, 256] := by kernel_rfl
theorem st_194 : structL Tryz.prog 194 = some [16] := by kernel_rfl
theorem st_199 : structL Tryz.prog 199 = some [1, 1, 1, 256] := by kernel_rfl
theorem st_211 : structL Tryz.prog 211 = some [1, 256, 1] := by kernel_rfl
theorem st_216 : structL Tryz.prog 216 = some [258] := by kernel_rfl
theorem z_25 : zeroL Tryz.prog 25 = some ([.int .u16 0, .slice none 0 0]) := by kernel_rfl
theorem z_30 : zeroL Tryz.prog 30 = some ([.string ByteArray.empty, .int .u16 0, .int .u16 0, .int .u32 0, .int .u16 0, .int .i64 0, .slice none 0 0, .string ByteArray.empty, .string ByteArray.empty, .int .u32 0, .int .u32 0, .int .u32 0, .int .u32 0, .int .u32 0, .slice none 0 0, .slice none 0 0]) := by kernel_rfl
theorem z_33 : zeroL Tryz.prog 33 = some ([.int .u16 0, .bool false, .int .u16 0, .bool false, .bool false, .bool false, .bool false, .bool false, .bool false, .int .u16 0]) := by kernel_rfl
theorem z_36 : zeroL Tryz.prog 36 = some ([.int .u16 0, .bool false, .int .u16 0, .bool false, .bool false, .bool false, .bool false, .bool false, .bool false, .int .u16 0, .slice none 0 0, .slice none 0 0, .slice none 0 0, .slice none 0 0]) := by kernel_rfl
theorem z_50 : zeroL Tryz.prog 50 = some ([.int .u16 0, .bool false, .int .u16 0, .bool false, .bool false, .bool false, .bool false, .bool false, .bool false, .int .u16 0]) := by kernel_rfl
theorem z_54 : zeroL Tryz.prog 54 = some ([.int .u16 0, .bool false, .int .u16 0, .bool false, .bool false, .bool false, .bool false, .bool false, .bool false, .int .u16 0, .slice none 0 0, .slice none 0 0, .slice none 0 0, .slice none 0 0]) := by kernel_rfl
theorem z_77 : zeroL Tryz.prog 77 = some ([.string ByteArray.empty, .int .u16 0, .int .u16 0]) := by kernel_rfl
theorem z_81 : zeroL Tryz.prog 81 = some ([.int .i64 0, .int .u16 0, .bool false, .int .u16 0, .bool false, .bool false, .bool false, .bool false, .bool false, .bool false, .int .u16 0, .slice none 0 0, .slice none 0 0]) := by kernel_rfl
theorem z_86 : zeroL Tryz.prog 86 = some (rep 256 (.int .u8 0)) := by kernel_rfl
theorem z_90 : zeroL Tryz.prog 90 = some (rep 256 (.int .u8 0) ++ [.int .u16 0, .int .u16 0]) := by kernel_rfl
theorem z_97 : zeroL Tryz.prog 97 = some ([.int .u16 0, .int .u16 0, .int .u16 0, .int .u16 0, .int .u16 0, .int .u16 0]) := by kernel_rfl
theorem z_100 : zeroL Tryz.prog 100 = some ([.slice none 0 0, .int .u16 0, .int .u16 0, .int .u16 0, .int .u16 0, .int .u16 0, .int .u16 0, .int .u8 0, .int .i64 0, .int .i64 0, .bool false, .int .i64 0, .int .u16 0, .int .u16 0]) := by kernel_rfl
theorem z_112 : zeroL Tryz.prog 112 = some (rep 256 (.int .u8 0) ++ [.int .u16 0, .int .u16 0, .int .u32 0, .int .u16 0]) := by kernel_rfl
theorem z_116 : zeroL Tryz.prog 116 = some (rep 256 (.int .u8 0) ++ [.int .u16 0, .int .u16 0, .int .u32 0, .int .u16 0, .nilIface]) := by kernel_rfl
theorem z_155 : zeroL Tryz.prog 155 = some ([.int .u8 0, .int .u8 0, .int .u8 0, .int .u8 0]) := by kernel_rfl
theorem z_157 : zeroL Tryz.prog 157 = some ([.int .u8 0, .int .u8 0, .int .u8 0, .int .u8 0]) := by kernel_rfl
theorem z_163 : zeroL Tryz.prog 163 = some (rep 256 (.int .u8 0)) := by kernel_rfl
theorem z_168 : zeroL Tryz.prog 168 = some (rep 256 (.int .u8 0)) := by kernel_rfl
theorem z_173 : zeroL Tryz.prog 173 = some (rep 512 (.int .u8 0) ++ [.int .u32 0, .int .u32 0, .int .u32 0, .int .u32 0, .int .u32 0]) := by kernel_rfl
theorem z_178 : zeroL Tryz.prog 178 = some (rep 256 (.int .u8 0)) := by kernel_rfl
theorem z_183 : zeroL Tryz.prog 183 = some ([.int .u16 0] ++ rep 256 (.int .u8 0)) := by kernel_rfl
theorem z_188 : zeroL Tryz.prog 188 = some ([.slice none 0 0]) := by kernel_rfl
theorem z_192 : zeroL Tryz.prog 192 = some (rep 16 (.int .u8 0)) := by kernel_rfl
theorem z_194 : zeroL Tryz.prog 194 = some (rep 16 (.int .u8 0)) := by kernel_rfl
theorem z_199 : zeroL Tryz.prog 199 = some ([.int .u16 0, .int .u16 0, .int .u16 0] ++ rep 256 (.int .u8 0)) := by kernel_rfl
theorem z_205 : zeroL Tryz.prog 205 = some ([.slice none 0 0]) := by kernel_rfl
theorem z_211 : zeroL Tryz.prog 211 = some ([.int .u16 0] ++ rep 256 (.int .u8 0) ++ [.slice none 0 0]) := by kernel_rfl
theorem z_216 : zeroL Tryz.prog 216 = some ([.int .u16 0] ++ rep 256 (.int .u8 0) ++ [.slice none 0 0]) := by kernel_rfl
theorem z_221 : zeroL Tryz.prog 221 = some ([.int .u16 0, .slice none 0 0]) := by kernel_rfl
theorem z_304 : zeroL Tryz.prog 304 = some ([.int .u16 0, .slice none 0 0]) := by kernel_rfl
theorem z_345 : zeroL Tryz.prog 345 = some ([.int .u16 0, .slice none 0 0]) := by kernel_rfl
theorem zo_248 : zeroOf Tryz.prog 248 = some (.pointer none) := by kernel_rfl
theorem zo_250 : zeroOf Tryz.prog 250 = some (.pointer none) := by kernel_rfl
theorem zo_252 : zeroOf Tryz.prog 252 = some (.pointer none) := by kernel_rfl
theorem zo_254 : zeroOf Tryz.prog 254 = some (.pointer none) := by kernel_rfl
theorem zo_256 : zeroOf Tryz.prog 256 = some (.pointer none) := by kernel_rfl
theorem zo_258 : zeroOf Tryz.prog 258 = some (.pointer none) := by kernel_rfl
theorem zo_260 : zeroOf Tryz.prog 260 = some (.pointer none) := by kernel_rfl
theorem zo_262 : zeroOf Tryz.prog 262 = some (.pointer none) := by kernel_rfl
theorem zo_264 : zeroOf Tryz.prog 264 = some (.pointer none) := by kernel_rfl
theorem zo_266 : zeroOf Tryz.prog 266 = some (.pointer none) := by kernel_rfl
theorem zo_268 : zeroOf Tryz.prog 268 = some (.pointer none) := by kernel_rfl
theorem zo_270 : zeroOf Tryz.prog 270 = some (.pointer none) := by kernel_rfl
end Go.Proofs.YtgpfjlfkaoffeaaGreatDoor
