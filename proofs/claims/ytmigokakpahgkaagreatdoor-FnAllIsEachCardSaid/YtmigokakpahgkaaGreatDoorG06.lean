/- Closed facts on the program's own tables, each by the kernel. Written by a program (mk.py). -/
import Derived.Test.YtmigokakpahgkaaGreatDoorG05
import Derived.Test.YtmigokakpahgkaaGreatDoorProg
set_option linter.all false
namespace Go.Proofs.YtmigokakpahgkaaGreatDoor
open Go
theorem mixed : Tryz.prog.follows .mixedOrders = true := by kernel_rfl
theorem ar_40 : arrSize Tryz.prog 40 = some (3, 3, 1) := by kernel_rfl
theorem ar_74 : arrSize Tryz.prog 74 = some (4, 3, 1) := by kernel_rfl
theorem ar_97 : arrSize Tryz.prog 97 = some (255, 5, 1) := by kernel_rfl
theorem ar_126 : arrSize Tryz.prog 126 = some (4, 5, 1) := by kernel_rfl
theorem ar_163 : arrSize Tryz.prog 163 = some (16, 5, 1) := by kernel_rfl
theorem bg_33_1 : ∀ x0 x1 x2 x3 x4 x5 x6 x7 x8 x9 : Value, builtL Tryz.prog 33 [(1, [x0, x1, x2, x3, x4, x5, x6, x7, x8, x9])] = some [.int .i64 0, x0, x1, x2, x3, x4, x5, x6, x7, x8, x9, .slice none 0 0, .slice none 0 0] := by intros; kernel_rfl
theorem bg_42_0 : ∀ x0 x1 x2 x3 x4 x5 x6 x7 x8 x9 : Value, builtL Tryz.prog 42 [(0, [x0, x1, x2, x3, x4, x5, x6, x7, x8, x9])] = some [x0, x1, x2, x3, x4, x5, x6, x7, x8, x9, .slice none 0 0, .slice none 0 0, .slice none 0 0, .slice none 0 0] := by intros; kernel_rfl
theorem bu_29_0 : ∀ x0 : Value, builtL Tryz.prog 29 [(0, [x0])] = some [x0, .bool false, .int .u16 0, .bool false, .bool false, .bool false, .bool false, .bool false, .bool false, .int .u16 0] := by intros; kernel_rfl
theorem bu_29_0_1_2_3_4_5_6_7_8_9 : ∀ x0 x1 x2 x3 x4 x5 x6 x7 x8 x9 : Value, builtL Tryz.prog 29 [(0, [x0]), (1, [x1]), (2, [x2]), (3, [x3]), (4, [x4]), (5, [x5]), (6, [x6]), (7, [x7]), (8, [x8]), (9, [x9])] = some [x0, x1, x2, x3, x4, x5, x6, x7, x8, x9] := by intros; kernel_rfl
theorem bu_33_0 : ∀ x0 : Value, builtL Tryz.prog 33 [(0, [x0])] = some [x0, .int .u16 0, .bool false, .int .u16 0, .bool false, .bool false, .bool false, .bool false, .bool false, .bool false, .int .u16 0, .slice none 0 0, .slice none 0 0] := by intros; kernel_rfl
theorem bu_33_2 : ∀ x0 : Value, builtL Tryz.prog 33 [(2, [x0])] = some [.int .i64 0, .int .u16 0, .bool false, .int .u16 0, .bool false, .bool false, .bool false, .bool false, .bool false, .bool false, .int .u16 0, x0, .slice none 0 0] := by intros; kernel_rfl
theorem bu_33_3 : ∀ x0 : Value, builtL Tryz.prog 33 [(3, [x0])] = some [.int .i64 0, .int .u16 0, .bool false, .int .u16 0, .bool false, .bool false, .bool false, .bool false, .bool false, .bool false, .int .u16 0, .slice none 0 0, x0] := by intros; kernel_rfl
theorem bu_58_0_1_2_3_4_5_6_7_8_9 : ∀ x0 x1 x2 x3 x4 x5 x6 x7 x8 x9 : Value, builtL Tryz.prog 58 [(0, [x0]), (1, [x1]), (2, [x2]), (3, [x3]), (4, [x4]), (5, [x5]), (6, [x6]), (7, [x7]), (8, [x8]), (9, [x9])] = some [x0, x1, x2, x3, x4, x5, x6, x7, x8, x9] := by intros; kernel_rfl
theorem bu_72_5 : ∀ x0 : Value, builtL Tryz.prog 72 [(5, [x0])] = some [.string ByteArray.empty, .int .u16 0, .int .u16 0, .int .u32 0, .int .u16 0, x0, .slice none 0 0, .string ByteArray.empty, .string ByteArray.empty, .int .u32 0, .int .u32 0, .int .u32 0, .int .u32 0, .int .u32 0, .slice none 0 0, .slice none 0 0] := by intros; kernel_rfl
theorem bu_72_5_1_6 : ∀ x0 x1 x2 : Value, builtL Tryz.prog 72 [(5, [x0]), (1, [x1]), (6, [x2])] = some [.string ByteArray.empty, x1, .int .u16 0, .int .u32 0, .int .u16 0, x0, x2, .string ByteArray.empty, .string ByteArray.empty, .int .u32 0, .int .u32 0, .int .u32 0, .int .u32 0, .int .u32 0, .slice none 0 0, .slice none 0 0] := by intros; kernel_rfl
theorem bu_72_5_6 : ∀ x0 x1 : Value, builtL Tryz.prog 72 [(5, [x0]), (6, [x1])] = some [.string ByteArray.empty, .int .u16 0, .int .u16 0, .int .u32 0, .int .u16 0, x0, x1, .string ByteArray.empty, .string ByteArray.empty, .int .u32 0, .int .u32 0, .int .u32 0, .int .u32 0, .int .u32 0, .slice none 0 0, .slice none 0 0] := by intros; kernel_rfl
theorem bu_72_5_7 : ∀ x0 x1 : Value, builtL Tryz.prog 72 [(5, [x0]), (7, [x1])] = some [.string ByteArray.empty, .int .u16 0, .int .u16 0, .int .u32 0, .int .u16 0, x0, .slice none 0 0, x1, .string ByteArray.empty, .int .u32 0, .int .u32 0, .int .u32 0, .int .u32 0, .int .u32 0, .slice none 0 0, .slice none 0 0] := by intros; kernel_rfl
theorem bu_72_5_7_8_9_10_11_12_13 : ∀ x0 x1 x2 x3 x4 x5 x6 x7 : Value, builtL Tryz.prog 72 [(5, [x0]), (7, [x1]), (8, [x2]), (9, [x3]), (10, [x4]), (11, [x5]), (12, [x6]), (13, [x7])] = some [.string ByteArray.empty, .int .u16 0, .int .u16 0, .int .u32 0, .int .u16 0, x0, .slice none 0 0, x1, x2, x3, x4, x5, x6, x7, .slice none 0 0, .slice none 0 0] := by intros; kernel_rfl
theorem bu_72_5_9_7 : ∀ x0 x1 x2 : Value, builtL Tryz.prog 72 [(5, [x0]), (9, [x1]), (7, [x2])] = some [.string ByteArray.empty, .int .u16 0, .int .u16 0, .int .u32 0, .int .u16 0, x0, .slice none 0 0, x2, .string ByteArray.empty, x1, .int .u32 0, .int .u32 0, .int .u32 0, .int .u32 0, .slice none 0 0, .slice none 0 0] := by intros; kernel_rfl
theorem bu_72_5_9_7_15 : ∀ x0 x1 x2 x3 : Value, builtL Tryz.prog 72 [(5, [x0]), (9, [x1]), (7, [x2]), (15, [x3])] = some [.string ByteArray.empty, .int .u16 0, .int .u16 0, .int .u32 0, .int .u16 0, x0, .slice none 0 0, x2, .string ByteArray.empty, x1, .int .u32 0, .int .u32 0, .int .u32 0, .int .u32 0, .slice none 0 0, x3] := by intros; kernel_rfl
theorem bu_72_5_9_10_11_7 : ∀ x0 x1 x2 x3 x4 : Value, builtL Tryz.prog 72 [(5, [x0]), (9, [x1]), (10, [x2]), (11, [x3]), (7, [x4])] = some [.string ByteArray.empty, .int .u16 0, .int .u16 0, .int .u32 0, .int .u16 0, x0, .slice none 0 0, x4, .string ByteArray.empty, x1, x2, x3, .int .u32 0, .int .u32 0, .slice none 0 0, .slice none 0 0] := by intros; kernel_rfl
theorem bu_72_5_14 : ∀ x0 x1 : Value, builtL Tryz.prog 72 [(5, [x0]), (14, [x1])] = some [.string ByteArray.empty, .int .u16 0, .int .u16 0, .int .u32 0, .int .u16 0, x0, .slice none 0 0, .string ByteArray.empty, .string ByteArray.empty, .int .u32 0, .int .u32 0, .int .u32 0, .int .u32 0, .int .u32 0, x1, .slice none 0 0] := by intros; kernel_rfl
theorem bu_76_0_2 : ∀ x0 x1 : Value, builtL Tryz.prog 76 [(0, [x0]), (2, [x1])] = some [x0, .int .i64 0, .int .i64 0, .int .i64 0, .int .i64 0, x1, .int .i64 0, .int .i64 0, .bool false, .int .i64 0, .string ByteArray.empty, .int .u16 0, .int .u16 0, .int .u32 0, .int .u16 0, .int .i64 0, .slice none 0 0, .string ByteArray.empty, .string ByteArray.empty, .int .u32 0, .int .u32 0, .int .u32 0, .int .u32 0, .int .u32 0, .slice none 0 0, .slice none 0 0] := by intros; kernel_rfl
theorem bu_76_2 : ∀ x0 : Value, builtL Tryz.prog 76 [(2, [x0])] = some [.slice none 0 0, .int .i64 0, .int .i64 0, .int .i64 0, .int .i64 0, x0, .int .i64 0, .int .i64 0, .bool false, .int .i64 0, .string ByteArray.empty, .int .u16 0, .int .u16 0, .int .u32 0, .int .u16 0, .int .i64 0, .slice none 0 0, .string ByteArray.empty, .string ByteArray.empty, .int .u32 0, .int .u32 0, .int .u32 0, .int .u32 0, .int .u32 0, .slice none 0 0, .slice none 0 0] := by intros; kernel_rfl
theorem cJ : ∀ x0 x1 : Value, builtL Tryz.prog 95 [(0, [x0]), (1, [x1])] = some [x0, x1] := by intros; kernel_rfl
theorem bu_106_0_1_2 : ∀ x0 x1 x2 : Value, builtL Tryz.prog 106 [(0, [x0]), (1, [x1]), (2, [x2])] = some [x0, x1, x2] := by intros; kernel_rfl
theorem bu_159_0 : ∀ x0 : Value, builtL Tryz.prog 159 [(0, [x0])] = some [x0] := by intros; kernel_rfl
theorem bu_176_0 : ∀ x0 : Value, builtL Tryz.prog 176 [(0, [x0])] = some [x0] := by intros; kernel_rfl
theorem bu_192_0_1 : ∀ x0 x1 : Value, builtL Tryz.prog 192 [(0, [x0]), (1, [x1])] = some [x0, x1] := by intros; kernel_rfl
theorem bu_242_0_1 : ∀ x0 x1 : Value, builtL Tryz.prog 242 [(0, [x0]), (1, [x1])] = some [x0, x1] := by intros; kernel_rfl
theorem bz_29 : Tryz.prog.built 29 [] = some ([.int .u16 0, .bool false, .int .u16 0, .bool false, .bool false, .bool false, .bool false, .bool false, .bool false, .int .u16 0] : List Value).toArray := by kernel_rfl
theorem bz_33 : Tryz.prog.built 33 [] = some ([.int .i64 0, .int .u16 0, .bool false, .int .u16 0, .bool false, .bool false, .bool false, .bool false, .bool false, .bool false, .int .u16 0, .slice none 0 0, .slice none 0 0] : List Value).toArray := by kernel_rfl
theorem bz_40 : Tryz.prog.built 40 [] = some ([.int .i64 0, .int .i64 0, .int .i64 0] : List Value).toArray := by kernel_rfl
theorem bz_42 : Tryz.prog.built 42 [] = some ([.int .u16 0, .bool false, .int .u16 0, .bool false, .bool false, .bool false, .bool false, .bool false, .bool false, .int .u16 0, .slice none 0 0, .slice none 0 0, .slice none 0 0, .slice none 0 0] : List Value).toArray := by kernel_rfl
theorem bz_54 : Tryz.prog.built 54 [] = some ([.slice none 0 0, .int .u16 0, .int .u16 0, .int .u16 0, .int .u16 0, .int .u16 0, .int .u16 0, .int .u8 0, .int .i64 0, .int .i64 0, .bool false, .int .i64 0, .int .u16 0, .int .u16 0] : List Value).toArray := by kernel_rfl
theorem bz_58 : Tryz.prog.built 58 [] = some ([.int .u16 0, .bool false, .int .u16 0, .bool false, .bool false, .bool false, .bool false, .bool false, .bool false, .int .u16 0] : List Value).toArray := by kernel_rfl
theorem bz_72 : Tryz.prog.built 72 [] = some ([.string ByteArray.empty, .int .u16 0, .int .u16 0, .int .u32 0, .int .u16 0, .int .i64 0, .slice none 0 0, .string ByteArray.empty, .string ByteArray.empty, .int .u32 0, .int .u32 0, .int .u32 0, .int .u32 0, .int .u32 0, .slice none 0 0, .slice none 0 0] : List Value).toArray := by kernel_rfl
theorem bz_74 : Tryz.prog.built 74 [] = some ([.int .i64 0, .int .i64 0, .int .i64 0, .int .i64 0] : List Value).toArray := by kernel_rfl
theorem bz_84 : Tryz.prog.built 84 [] = some ([.int .u16 0, .bool false, .int .u16 0, .bool false, .bool false, .bool false, .bool false, .bool false, .bool false, .int .u16 0, .slice none 0 0, .slice none 0 0, .slice none 0 0, .slice none 0 0] : List Value).toArray := by kernel_rfl
theorem bz_102 : Tryz.prog.built 102 [] = some (rep 256 (.int .u8 0) ++ [.int .u16 0, .int .u16 0] : List Value).toArray := by kernel_rfl
theorem bz_106 : Tryz.prog.built 106 [] = some ([.string ByteArray.empty, .int .u16 0, .int .u16 0] : List Value).toArray := by kernel_rfl
theorem bz_113 : Tryz.prog.built 113 [] = some (rep 256 (.int .u8 0) ++ [.int .u16 0, .int .u16 0, .int .u32 0, .int .u16 0] : List Value).toArray := by kernel_rfl
theorem bz_120 : Tryz.prog.built 120 [] = some (rep 256 (.int .u8 0) ++ [.int .u16 0, .int .u16 0, .int .u32 0, .int .u16 0, .nilIface] : List Value).toArray := by kernel_rfl
theorem bz_128 : Tryz.prog.built 128 [] = some ([.int .u8 0, .int .u8 0, .int .u8 0, .int .u8 0] : List Value).toArray := by kernel_rfl
theorem bz_134 : Tryz.prog.built 134 [] = some (rep 256 (.int .u8 0) : List Value).toArray := by kernel_rfl
theorem bz_139 : Tryz.prog.built 139 [] = some (rep 256 (.int .u8 0) : List Value).toArray := by kernel_rfl
theorem bz_144 : Tryz.prog.built 144 [] = some (rep 512 (.int .u8 0) ++ [.int .u32 0, .int .u32 0, .int .u32 0, .int .u32 0, .int .u32 0] : List Value).toArray := by kernel_rfl
theorem bz_149 : Tryz.prog.built 149 [] = some (rep 256 (.int .u8 0) : List Value).toArray := by kernel_rfl
theorem bz_154 : Tryz.prog.built 154 [] = some ([.int .u16 0] ++ rep 256 (.int .u8 0) : List Value).toArray := by kernel_rfl
theorem bz_159 : Tryz.prog.built 159 [] = some ([.slice none 0 0] : List Value).toArray := by kernel_rfl
theorem bz_165 : Tryz.prog.built 165 [] = some (rep 16 (.int .u8 0) : List Value).toArray := by kernel_rfl
theorem bz_170 : Tryz.prog.built 170 [] = some ([.int .u16 0, .int .u16 0, .int .u16 0] ++ rep 256 (.int .u8 0) : List Value).toArray := by kernel_rfl
theorem bz_176 : Tryz.prog.built 176 [] = some ([.slice none 0 0] : List Value).toArray := by kernel_rfl
theorem bz_182 : Tryz.prog.built 182 [] = some ([.int .u16 0] ++ rep 256 (.int .u8 0) ++ [.slice none 0 0] : List Value).toArray := by kernel_rfl
theorem bz_187 : Tryz.prog.built 187 [] = some ([.int .u16 0] ++ rep 256 (.int .u8 0) ++ [.slice none 0 0] : List Value).toArray := by kernel_rfl
theorem bz_192 : Tryz.prog.built 192 [] = some ([.int .u16 0, .slice none 0 0] : List Value).toArray := by kernel_rfl
theorem bz_242 : Tryz.prog.built 242 [] = some ([.int .u16 0, .slice none 0 0] : List Value).toArray := by kernel_rfl
theorem el_22 : eltOk Tryz.prog 22 = some (5, 1, 1, [.int .u8 0]) := by kernel_rfl
theorem el_24 : eltOk Tryz.prog 24 = some (3, 1, 8, [.int .i64 0]) := by kernel_rfl
theorem el_25 : eltOk Tryz.prog 25 = some (33, 13, 72, [.int .i64 0, .int .u16 0, .bool false, .int .u16 0, .bool false, .bool false, .bool false, .bool false, .bool false, .bool false, .int .u16 0, .slice none 0 0, .slice none 0 0]) := by kernel_rfl
theorem el_30 : eltOk Tryz.prog 30 = some (106, 3, 24, [.string ByteArray.empty, .int .u16 0, .int .u16 0]) := by kernel_rfl
theorem el_31 : eltOk Tryz.prog 31 = some (72, 16, 168, [.string ByteArray.empty, .int .u16 0, .int .u16 0, .int .u32 0, .int .u16 0, .int .i64 0, .slice none 0 0, .string ByteArray.empty, .string ByteArray.empty, .int .u32 0, .int .u32 0, .int .u32 0, .int .u32 0, .int .u32 0, .slice none 0 0, .slice none 0 0]) := by kernel_rfl
theorem el_69 : eltOk Tryz.prog 69 = some (9, 1, 16, [.string ByteArray.empty]) := by kernel_rfl
theorem el_70 : eltOk Tryz.prog 70 = some (242, 2, 32, [.int .u16 0, .slice none 0 0]) := by kernel_rfl
theorem el_81 : eltOk Tryz.prog 81 = some (102, 258, 260, rep 256 (.int .u8 0) ++ [.int .u16 0, .int .u16 0]) := by kernel_rfl
theorem el_82 : eltOk Tryz.prog 82 = some (120, 261, 288, rep 256 (.int .u8 0) ++ [.int .u16 0, .int .u16 0, .int .u32 0, .int .u16 0, .nilIface]) := by kernel_rfl
theorem el_174 : eltOk Tryz.prog 174 = some (240, 2, 32, [.int .u16 0, .slice none 0 0]) := by kernel_rfl
theorem el_180 : eltOk Tryz.prog 180 = some (286, 2, 32, [.int .u16 0, .slice none 0 0]) := by kernel_rfl
theorem el_261 : eltOk Tryz.prog 261 = some (260, 1, 8, [.pointer none]) := by kernel_rfl
theorem es_22 : elemSize Tryz.prog 22 = some (5, 1) := by kernel_rfl
theorem es_24 : elemSize Tryz.prog 24 = some (3, 1) := by kernel_rfl
theorem es_25 : elemSize Tryz.prog 25 = some (33, 13) := by kernel_rfl
theorem es_30 : elemSize Tryz.prog 30 = some (106, 3) := by kernel_rfl
theorem es_31 : elemSize Tryz.prog 31 = some (72, 16) := by kernel_rfl
theorem es_69 : elemSize Tryz.prog 69 = some (9, 1) := by kernel_rfl
theorem es_70 : elemSize Tryz.prog 70 = some (242, 2) := by kernel_rfl
theorem es_81 : elemSize Tryz.prog 81 = some (102, 258) := by kernel_rfl
theorem es_82 : elemSize Tryz.prog 82 = some (120, 261) := by kernel_rfl
theorem es_174 : elemSize Tryz.prog 174 = some (240, 2) := by kernel_rfl
theorem es_180 : elemSize Tryz.prog 180 = some (286, 2) := by kernel_rfl
theorem es_261 : elemSize Tryz.prog 261 = some (260, 1) := by kernel_rfl
theorem fo_29_0 : fieldOff Tryz.prog 29 0 = some 0 := by kernel_rfl
theorem fo_29_1 : fieldOff Tryz.prog 29 1 = some 1 := by kernel_rfl
theorem fo_29_2 : fieldOff Tryz.prog 29 2 = some 2 := by kernel_rfl
theorem fo_29_3 : fieldOff Tryz.prog 29 3 = some 3 := by kernel_rfl
theorem fo_29_4 : fieldOff Tryz.prog 29 4 = some 4 := by kernel_rfl
theorem fo_29_5 : fieldOff Tryz.prog 29 5 = some 5 := by kernel_rfl
theorem fo_29_6 : fieldOff Tryz.prog 29 6 = some 6 := by kernel_rfl
theorem fo_29_7 : fieldOff Tryz.prog 29 7 = some 7 := by kernel_rfl
theorem fo_29_8 : fieldOff Tryz.prog 29 8 = some 8 := by kernel_rfl
theorem fo_29_9 : fieldOff Tryz.prog 29 9 = some 9 := by kernel_rfl
theorem cV : fieldOff Tryz.prog 33 0 = some 0 := by kernel_rfl
theorem fo_33_1 : fieldOff Tryz.prog 33 1 = some 1 := by kernel_rfl
theorem fo_33_2 : fieldOff Tryz.prog 33 2 = some 11 := by kernel_rfl
theorem fo_33_3 : fieldOff Tryz.prog 33 3 = some 12 := by kernel_rfl
theorem fo_42_0 : fieldOff Tryz.prog 42 0 = some 0 := by kernel_rfl
theorem fo_42_1 : fieldOff Tryz.prog 42 1 = some 10 := by kernel_rfl
theorem fo_42_2 : fieldOff Tryz.prog 42 2 = some 11 := by kernel_rfl
theorem fo_42_3 : fieldOff Tryz.prog 42 3 = some 12 := by kernel_rfl
theorem fo_42_4 : fieldOff Tryz.prog 42 4 = some 13 := by kernel_rfl
theorem fo_50_0 : fieldOff Tryz.prog 50 0 = some 0 := by kernel_rfl
theorem fo_50_1 : fieldOff Tryz.prog 50 1 = some 1 := by kernel_rfl
theorem fo_50_2 : fieldOff Tryz.prog 50 2 = some 2 := by kernel_rfl
theorem fo_50_3 : fieldOff Tryz.prog 50 3 = some 3 := by kernel_rfl
theorem fo_50_4 : fieldOff Tryz.prog 50 4 = some 4 := by kernel_rfl
theorem fo_50_5 : fieldOff Tryz.prog 50 5 = some 5 := by kernel_rfl
theorem fo_54_0 : fieldOff Tryz.prog 54 0 = some 0 := by kernel_rfl
theorem fo_54_1 : fieldOff Tryz.prog 54 1 = some 1 := by kernel_rfl
theorem fo_54_2 : fieldOff Tryz.prog 54 2 = some 7 := by kernel_rfl
theorem cI : fieldOff Tryz.prog 54 3 = some 8 := by kernel_rfl
theorem cL : fieldOff Tryz.prog 54 4 = some 9 := by kernel_rfl
theorem cN : fieldOff Tryz.prog 54 5 = some 10 := by kernel_rfl
theorem fo_54_6 : fieldOff Tryz.prog 54 6 = some 11 := by kernel_rfl
theorem fo_54_7 : fieldOff Tryz.prog 54 7 = some 12 := by kernel_rfl
theorem fo_54_8 : fieldOff Tryz.prog 54 8 = some 13 := by kernel_rfl
theorem fo_58_0 : fieldOff Tryz.prog 58 0 = some 0 := by kernel_rfl
theorem fo_58_1 : fieldOff Tryz.prog 58 1 = some 1 := by kernel_rfl
theorem fo_58_2 : fieldOff Tryz.prog 58 2 = some 2 := by kernel_rfl
theorem fo_58_3 : fieldOff Tryz.prog 58 3 = some 3 := by kernel_rfl
theorem fo_58_4 : fieldOff Tryz.prog 58 4 = some 4 := by kernel_rfl
theorem fo_58_5 : fieldOff Tryz.prog 58 5 = some 5 := by kernel_rfl
theorem fo_58_6 : fieldOff Tryz.prog 58 6 = some 6 := by kernel_rfl
theorem fo_58_7 : fieldOff Tryz.prog 58 7 = some 7 := by kernel_rfl
theorem fo_58_8 : fieldOff Tryz.prog 58 8 = some 8 := by kernel_rfl
theorem fo_58_9 : fieldOff Tryz.prog 58 9 = some 9 := by kernel_rfl
theorem fo_72_0 : fieldOff Tryz.prog 72 0 = some 0 := by kernel_rfl
theorem fo_72_1 : fieldOff Tryz.prog 72 1 = some 1 := by kernel_rfl
theorem fo_72_2 : fieldOff Tryz.prog 72 2 = some 2 := by kernel_rfl
theorem fo_72_3 : fieldOff Tryz.prog 72 3 = some 3 := by kernel_rfl
theorem fo_72_4 : fieldOff Tryz.prog 72 4 = some 4 := by kernel_rfl
theorem fo_72_5 : fieldOff Tryz.prog 72 5 = some 5 := by kernel_rfl
theorem fo_72_6 : fieldOff Tryz.prog 72 6 = some 6 := by kernel_rfl
theorem fo_72_7 : fieldOff Tryz.prog 72 7 = some 7 := by kernel_rfl
theorem fo_72_8 : fieldOff Tryz.prog 72 8 = some 8 := by kernel_rfl
theorem fo_72_9 : fieldOff Tryz.prog 72 9 = some 9 := by kernel_rfl
theorem fo_72_10 : fieldOff Tryz.prog 72 10 = some 10 := by kernel_rfl
theorem fo_72_11 : fieldOff Tryz.prog 72 11 = some 11 := by kernel_rfl
theorem fo_72_12 : fieldOff Tryz.prog 72 12 = some 12 := by kernel_rfl
theorem fo_72_13 : fieldOff Tryz.prog 72 13 = some 13 := by kernel_rfl
theorem fo_72_14 : fieldOff Tryz.prog 72 14 = some 14 := by kernel_rfl
theorem fo_72_15 : fieldOff Tryz.prog 72 15 = some 15 := by kernel_rfl
theorem fo_76_0 : fieldOff Tryz.prog 76 0 = some 0 := by kernel_rfl
theorem fo_76_1 : fieldOff Tryz.prog 76 1 = some 1 := by kernel_rfl
theorem fo_76_2 : fieldOff Tryz.prog 76 2 = some 5 := by kernel_rfl
theorem fo_76_3 : fieldOff Tryz.prog 76 3 = some 6 := by kernel_rfl
theorem dF : fieldOff Tryz.prog 76 4 = some 7 := by kernel_rfl
theorem fo_76_5 : fieldOff Tryz.prog 76 5 = some 8 := by kernel_rfl
theorem fo_76_6 : fieldOff Tryz.prog 76 6 = some 9 := by kernel_rfl
theorem fo_76_7 : fieldOff Tryz.prog 76 7 = some 10 := by kernel_rfl
theorem fo_84_0 : fieldOff Tryz.prog 84 0 = some 0 := by kernel_rfl
theorem fo_84_1 : fieldOff Tryz.prog 84 1 = some 10 := by kernel_rfl
theorem fo_84_2 : fieldOff Tryz.prog 84 2 = some 11 := by kernel_rfl
theorem fo_84_3 : fieldOff Tryz.prog 84 3 = some 12 := by kernel_rfl
theorem fo_84_4 : fieldOff Tryz.prog 84 4 = some 13 := by kernel_rfl
theorem fo_99_0 : fieldOff Tryz.prog 99 0 = some 0 := by kernel_rfl
theorem fo_99_1 : fieldOff Tryz.prog 99 1 = some 255 := by kernel_rfl
theorem fo_102_0 : fieldOff Tryz.prog 102 0 = some 0 := by kernel_rfl
theorem fo_102_1 : fieldOff Tryz.prog 102 1 = some 256 := by kernel_rfl
theorem fo_102_2 : fieldOff Tryz.prog 102 2 = some 257 := by kernel_rfl
theorem fo_106_0 : fieldOff Tryz.prog 106 0 = some 0 := by kernel_rfl
theorem fo_106_1 : fieldOff Tryz.prog 106 1 = some 1 := by kernel_rfl
theorem fo_106_2 : fieldOff Tryz.prog 106 2 = some 2 := by kernel_rfl
theorem fo_113_0 : fieldOff Tryz.prog 113 0 = some 0 := by kernel_rfl
theorem fo_113_1 : fieldOff Tryz.prog 113 1 = some 256 := by kernel_rfl
theorem fo_113_2 : fieldOff Tryz.prog 113 2 = some 257 := by kernel_rfl
theorem fo_113_3 : fieldOff Tryz.prog 113 3 = some 258 := by kernel_rfl
theorem fo_113_4 : fieldOff Tryz.prog 113 4 = some 259 := by kernel_rfl
theorem fo_120_0 : fieldOff Tryz.prog 120 0 = some 0 := by kernel_rfl
theorem fo_120_1 : fieldOff Tryz.prog 120 1 = some 260 := by kernel_rfl
theorem fo_128_0 : fieldOff Tryz.prog 128 0 = some 0 := by kernel_rfl
theorem fo_134_0 : fieldOff Tryz.prog 134 0 = some 0 := by kernel_rfl
theorem fo_139_0 : fieldOff Tryz.prog 139 0 = some 0 := by kernel_rfl
theorem fo_144_0 : fieldOff Tryz.prog 144 0 = some 0 := by kernel_rfl
theorem fo_144_1 : fieldOff Tryz.prog 144 1 = some 256 := by kernel_rfl
theorem fo_144_2 : fieldOff Tryz.prog 144 2 = some 512 := by kernel_rfl
theorem fo_144_3 : fieldOff Tryz.prog 144 3 = some 513 := by kernel_rfl
theorem fo_144_4 : fieldOff Tryz.prog 144 4 = some 514 := by kernel_rfl
theorem fo_144_5 : fieldOff Tryz.prog 144 5 = some 515 := by kernel_rfl
theorem fo_144_6 : fieldOff Tryz.prog 144 6 = some 516 := by kernel_rfl
theorem fo_149_0 : fieldOff Tryz.prog 149 0 = some 0 := by kernel_rfl
theorem fo_154_0 : fieldOff Tryz.prog 154 0 = some 0 := by kernel_rfl
theorem fo_154_1 : fieldOff Tryz.prog 154 1 = some 1 := by kernel_rfl
theorem fo_159_0 : fieldOff Tryz.prog 159 0 = some 0 := by kernel_rfl
theorem fo_165_0 : fieldOff Tryz.prog 165 0 = some 0 := by kernel_rfl
theorem fo_170_0 : fieldOff Tryz.prog 170 0 = some 0 := by kernel_rfl
theorem fo_170_1 : fieldOff Tryz.prog 170 1 = some 1 := by kernel_rfl
theorem fo_170_2 : fieldOff Tryz.prog 170 2 = some 2 := by kernel_rfl
theorem fo_170_3 : fieldOff Tryz.prog 170 3 = some 3 := by kernel_rfl
theorem fo_176_0 : fieldOff Tryz.prog 176 0 = some 0 := by kernel_rfl
theorem fo_182_0 : fieldOff Tryz.prog 182 0 = some 0 := by kernel_rfl
theorem fo_182_1 : fieldOff Tryz.prog 182 1 = some 1 := by kernel_rfl
theorem fo_182_2 : fieldOff Tryz.prog 182 2 = some 257 := by kernel_rfl
theorem fo_187_0 : fieldOff Tryz.prog 187 0 = some 0 := by kernel_rfl
theorem fo_192_0 : fieldOff Tryz.prog 192 0 = some 0 := by kernel_rfl
theorem fo_192_1 : fieldOff Tryz.prog 192 1 = some 1 := by kernel_rfl
theorem fo_240_0 : fieldOff Tryz.prog 240 0 = some 0 := by kernel_rfl
theorem fo_240_1 : fieldOff Tryz.prog 240 1 = some 1 := by kernel_rfl
theorem fo_242_0 : fieldOff Tryz.prog 242 0 = some 0 := by kernel_rfl
theorem fo_242_1 : fieldOff Tryz.prog 242 1 = some 1 := by kernel_rfl
theorem fo_286_0 : fieldOff Tryz.prog 286 0 = some 0 := by kernel_rfl
theorem fo_286_1 : fieldOff Tryz.prog 286 1 = some 1 := by kernel_rfl
theorem cH : kindOf Tryz.prog 3 = some (false, 1) := by kernel_rfl
theorem k_4 : kindOf Tryz.prog 4 = some (false, 1) := by kernel_rfl
theorem k_5 : kindOf Tryz.prog 5 = some (false, 1) := by kernel_rfl
theorem k_9 : kindOf Tryz.prog 9 = some (false, 1) := by kernel_rfl
theorem k_22 : kindOf Tryz.prog 22 = some (false, 1) := by kernel_rfl
theorem cB : kindOf Tryz.prog 27 = some (false, 1) := by kernel_rfl
theorem k_29 : kindOf Tryz.prog 29 = some (true, 10) := by kernel_rfl
theorem k_30 : kindOf Tryz.prog 30 = some (false, 1) := by kernel_rfl
theorem k_31 : kindOf Tryz.prog 31 = some (false, 1) := by kernel_rfl
theorem bZ : kindOf Tryz.prog 33 = some (true, 13) := by kernel_rfl
theorem k_40 : kindOf Tryz.prog 40 = some (true, 3) := by kernel_rfl
theorem k_42 : kindOf Tryz.prog 42 = some (true, 14) := by kernel_rfl
theorem k_51 : kindOf Tryz.prog 51 = some (false, 1) := by kernel_rfl
theorem k_52 : kindOf Tryz.prog 52 = some (false, 1) := by kernel_rfl
theorem k_54 : kindOf Tryz.prog 54 = some (true, 14) := by kernel_rfl
theorem k_55 : kindOf Tryz.prog 55 = some (false, 1) := by kernel_rfl
theorem k_56 : kindOf Tryz.prog 56 = some (false, 1) := by kernel_rfl
theorem k_58 : kindOf Tryz.prog 58 = some (true, 10) := by kernel_rfl
theorem k_60 : kindOf Tryz.prog 60 = some (false, 1) := by kernel_rfl
theorem k_68 : kindOf Tryz.prog 68 = some (false, 1) := by kernel_rfl
theorem k_69 : kindOf Tryz.prog 69 = some (false, 1) := by kernel_rfl
theorem k_70 : kindOf Tryz.prog 70 = some (false, 1) := by kernel_rfl
theorem bT : kindOf Tryz.prog 72 = some (true, 16) := by kernel_rfl
theorem k_74 : kindOf Tryz.prog 74 = some (true, 4) := by kernel_rfl
theorem k_76 : kindOf Tryz.prog 76 = some (true, 26) := by kernel_rfl
theorem k_81 : kindOf Tryz.prog 81 = some (false, 1) := by kernel_rfl
theorem k_82 : kindOf Tryz.prog 82 = some (false, 1) := by kernel_rfl
theorem k_84 : kindOf Tryz.prog 84 = some (true, 14) := by kernel_rfl
theorem k_99 : kindOf Tryz.prog 99 = some (true, 256) := by kernel_rfl
theorem k_100 : kindOf Tryz.prog 100 = some (false, 1) := by kernel_rfl
theorem k_102 : kindOf Tryz.prog 102 = some (true, 258) := by kernel_rfl
theorem k_106 : kindOf Tryz.prog 106 = some (true, 3) := by kernel_rfl
theorem k_113 : kindOf Tryz.prog 113 = some (true, 260) := by kernel_rfl
theorem k_118 : kindOf Tryz.prog 118 = some (false, 1) := by kernel_rfl
theorem k_120 : kindOf Tryz.prog 120 = some (true, 261) := by kernel_rfl
theorem k_126 : kindOf Tryz.prog 126 = some (true, 4) := by kernel_rfl
theorem k_128 : kindOf Tryz.prog 128 = some (true, 4) := by kernel_rfl
theorem k_134 : kindOf Tryz.prog 134 = some (true, 256) := by kernel_rfl
theorem k_139 : kindOf Tryz.prog 139 = some (true, 256) := by kernel_rfl
theorem k_144 : kindOf Tryz.prog 144 = some (true, 517) := by kernel_rfl
theorem k_149 : kindOf Tryz.prog 149 = some (true, 256) := by kernel_rfl
theorem k_154 : kindOf Tryz.prog 154 = some (true, 257) := by kernel_rfl
theorem k_159 : kindOf Tryz.prog 159 = some (true, 1) := by kernel_rfl
theorem k_163 : kindOf Tryz.prog 163 = some (true, 16) := by kernel_rfl
theorem k_165 : kindOf Tryz.prog 165 = some (true, 16) := by kernel_rfl
theorem k_170 : kindOf Tryz.prog 170 = some (true, 259) := by kernel_rfl
theorem k_174 : kindOf Tryz.prog 174 = some (false, 1) := by kernel_rfl
theorem k_176 : kindOf Tryz.prog 176 = some (true, 1) := by kernel_rfl
theorem k_180 : kindOf Tryz.prog 180 = some (false, 1) := by kernel_rfl
theorem k_182 : kindOf Tryz.prog 182 = some (true, 258) := by kernel_rfl
theorem k_187 : kindOf Tryz.prog 187 = some (true, 258) := by kernel_rfl
theorem k_192 : kindOf Tryz.prog 192 = some (true, 2) := by kernel_rfl
theorem k_240 : kindOf Tryz.prog 240 = some (true, 2) := by kernel_rfl
theorem k_242 : kindOf Tryz.prog 242 = some (true, 2) := by kernel_rfl
theorem k_260 : kindOf Tryz.prog 260 = some (false, 1) := by kernel_rfl
theorem k_277 : kindOf Tryz.prog 277 = some (false, 1) := by kernel_rfl
theorem k_284 : kindOf Tryz.prog 284 = some (false, 1) := by kernel_rfl
theorem k_286 : kindOf Tryz.prog 286 = some (true, 2) := by kernel_rfl
theorem ok_12 : callOk Tryz.prog 12 = true := by kernel_rfl
theorem ok_13 : callOk Tryz.prog 13 = true := by kernel_rfl
theorem ok_14 : callOk Tryz.prog 14 = true := by kernel_rfl
theorem ok_15 : callOk Tryz.prog 15 = true := by kernel_rfl
theorem ok_16 : callOk Tryz.prog 16 = true := by kernel_rfl
theorem ok_17 : callOk Tryz.prog 17 = true := by kernel_rfl
theorem ok_18 : callOk Tryz.prog 18 = true := by kernel_rfl
theorem ok_19 : callOk Tryz.prog 19 = true := by kernel_rfl
theorem ok_20 : callOk Tryz.prog 20 = true := by kernel_rfl
theorem ok_21 : callOk Tryz.prog 21 = true := by kernel_rfl
theorem ok_22 : callOk Tryz.prog 22 = true := by kernel_rfl
theorem ok_23 : callOk Tryz.prog 23 = true := by kernel_rfl
theorem ok_24 : callOk Tryz.prog 24 = true := by kernel_rfl
theorem ok_25 : callOk Tryz.prog 25 = true := by kernel_rfl
theorem ok_26 : callOk Tryz.prog 26 = true := by kernel_rfl
theorem ok_27 : callOk Tryz.prog 27 = true := by kernel_rfl
theorem ok_28 : callOk Tryz.prog 28 = true := by kernel_rfl
theorem ok_29 : callOk Tryz.prog 29 = true := by kernel_rfl
theorem ok_30 : callOk Tryz.prog 30 = true := by kernel_rfl
theorem ok_31 : callOk Tryz.prog 31 = true := by kernel_rfl
theorem ok_32 : callOk Tryz.prog 32 = true := by kernel_rfl
theorem ok_33 : callOk Tryz.prog 33 = true := by kernel_rfl
theorem ok_34 : callOk Tryz.prog 34 = true := by kernel_rfl
theorem ok_35 : callOk Tryz.prog 35 = true := by kernel_rfl
theorem ok_36 : callOk Tryz.prog 36 = true := by kernel_rfl
theorem ok_37 : callOk Tryz.prog 37 = true := by kernel_rfl
theorem ok_38 : callOk Tryz.prog 38 = true := by kernel_rfl
theorem ok_39 : callOk Tryz.prog 39 = true := by kernel_rfl
theorem ok_40 : callOk Tryz.prog 40 = true := by kernel_rfl
theorem ok_41 : callOk Tryz.prog 41 = true := by kernel_rfl
theorem ok_42 : callOk Tryz.prog 42 = true := by kernel_rfl
theorem ok_43 : callOk Tryz.prog 43 = true := by kernel_rfl
theorem ok_44 : callOk Tryz.prog 44 = true := by kernel_rfl
theorem ok_45 : callOk Tryz.prog 45 = true := by kernel_rfl
theorem ok_46 : callOk Tryz.prog 46 = true := by kernel_rfl
theorem ok_47 : callOk Tryz.prog 47 = true := by kernel_rfl
theorem ok_48 : callOk Tryz.prog 48 = true := by kernel_rfl
theorem ok_49 : callOk Tryz.prog 49 = true := by kernel_rfl
theorem ok_50 : callOk Tryz.prog 50 = true := by kernel_rfl
theorem ok_51 : callOk Tryz.prog 51 = true := by kernel_rfl
theorem ok_52 : callOk Tryz.prog 52 = true := by kernel_rfl
theorem ok_53 : callOk Tryz.prog 53 = true := by kernel_rfl
theorem ok_54 : callOk Tryz.prog 54 = true := by kernel_rfl
theorem ok_55 : callOk Tryz.prog 55 = true := by kernel_rfl
theorem ok_56 : callOk Tryz.prog 56 = true := by kernel_rfl
theorem ok_57 : callOk Tryz.prog 57 = true := by kernel_rfl
theorem ok_58 : callOk Tryz.prog 58 = true := by kernel_rfl
theorem ok_59 : callOk Tryz.prog 59 = true := by kernel_rfl
theorem ok_60 : callOk Tryz.prog 60 = true := by kernel_rfl
theorem ok_61 : callOk Tryz.prog 61 = true := by kernel_rfl
theorem ok_62 : callOk Tryz.prog 62 = true := by kernel_rfl
theorem ok_63 : callOk Tryz.prog 63 = true := by kernel_rfl
theorem ok_64 : callOk Tryz.prog 64 = true := by kernel_rfl
theorem ok_65 : callOk Tryz.prog 65 = true := by kernel_rfl
theorem ok_66 : callOk Tryz.prog 66 = true := by kernel_rfl
theorem ok_67 : callOk Tryz.prog 67 = true := by kernel_rfl
theorem ok_68 : callOk Tryz.prog 68 = true := by kernel_rfl
theorem ok_69 : callOk Tryz.prog 69 = true := by kernel_rfl
theorem ok_70 : callOk Tryz.prog 70 = true := by kernel_rfl
theorem ok_71 : callOk Tryz.prog 71 = true := by kernel_rfl
theorem ok_72 : callOk Tryz.prog 72 = true := by kernel_rfl
theorem ok_73 : callOk Tryz.prog 73 = true := by kernel_rfl
theorem ok_74 : callOk Tryz.prog 74 = true := by kernel_rfl
theorem ok_75 : callOk Tryz.prog 75 = true := by kernel_rfl
theorem ok_76 : callOk Tryz.prog 76 = true := by kernel_rfl
theorem ok_77 : callOk Tryz.prog 77 = true := by kernel_rfl
theorem ok_78 : callOk Tryz.prog 78 = true := by kernel_rfl
theorem ok_79 : callOk Tryz.prog 79 = true := by kernel_rfl
theorem ok_80 : callOk Tryz.prog 80 = true := by kernel_rfl
theorem ok_81 : callOk Tryz.prog 81 = true := by kernel_rfl
theorem ok_82 : callOk Tryz.prog 82 = true := by kernel_rfl
theorem ok_83 : callOk Tryz.prog 83 = true := by kernel_rfl
theorem ok_84 : callOk Tryz.prog 84 = true := by kernel_rfl
theorem ok_85 : callOk Tryz.prog 85 = true := by kernel_rfl
theorem ok_86 : callOk Tryz.prog 86 = true := by kernel_rfl
theorem ok_87 : callOk Tryz.prog 87 = true := by kernel_rfl
theorem ok_88 : callOk Tryz.prog 88 = true := by kernel_rfl
theorem ok_89 : callOk Tryz.prog 89 = true := by kernel_rfl
theorem ok_90 : callOk Tryz.prog 90 = true := by kernel_rfl
theorem ok_91 : callOk Tryz.prog 91 = true := by kernel_rfl
theorem ok_92 : callOk Tryz.prog 92 = true := by kernel_rfl
theorem ok_93 : callOk Tryz.prog 93 = true := by kernel_rfl
theorem ok_94 : callOk Tryz.prog 94 = true := by kernel_rfl
theorem ok_95 : callOk Tryz.prog 95 = true := by kernel_rfl
theorem ok_96 : callOk Tryz.prog 96 = true := by kernel_rfl
theorem ok_97 : callOk Tryz.prog 97 = true := by kernel_rfl
theorem ok_98 : callOk Tryz.prog 98 = true := by kernel_rfl
theorem ok_99 : callOk Tryz.prog 99 = true := by kernel_rfl
theorem ok_100 : callOk Tryz.prog 100 = true := by kernel_rfl
theorem ok_101 : callOk Tryz.prog 101 = true := by kernel_rfl
theorem ok_102 : callOk Tryz.prog 102 = true := by kernel_rfl
theorem ok_103 : callOk Tryz.prog 103 = true := by kernel_rfl
theorem ok_104 : callOk Tryz.prog 104 = true := by kernel_rfl
theorem ok_105 : callOk Tryz.prog 105 = true := by kernel_rfl
theorem ok_107 : callOk Tryz.prog 107 = true := by kernel_rfl
theorem ok_108 : callOk Tryz.prog 108 = true := by kernel_rfl
theorem ok_109 : callOk Tryz.prog 109 = true := by kernel_rfl
theorem ok_110 : callOk Tryz.prog 110 = true := by kernel_rfl
theorem ok_111 : callOk Tryz.prog 111 = true := by kernel_rfl
theorem ok_112 : callOk Tryz.prog 112 = true := by kernel_rfl
theorem ok_113 : callOk Tryz.prog 113 = true := by kernel_rfl
theorem ok_114 : callOk Tryz.prog 114 = true := by kernel_rfl
theorem ok_115 : callOk Tryz.prog 115 = true := by kernel_rfl
theorem ok_116 : callOk Tryz.prog 116 = true := by kernel_rfl
theorem ok_117 : callOk Tryz.prog 117 = true := by kernel_rfl
theorem ok_118 : callOk Tryz.prog 118 = true := by kernel_rfl
theorem ok_119 : callOk Tryz.prog 119 = true := by kernel_rfl
theorem ok_120 : callOk Tryz.prog 120 = true := by kernel_rfl
theorem ok_121 : callOk Tryz.prog 121 = true := by kernel_rfl
theorem ok_122 : callOk Tryz.prog 122 = true := by kernel_rfl
theorem ok_123 : callOk Tryz.prog 123 = true := by kernel_rfl
theorem ok_124 : callOk Tryz.prog 124 = true := by kernel_rfl
theorem ok_125 : callOk Tryz.prog 125 = true := by kernel_rfl
theorem ok_126 : callOk Tryz.prog 126 = true := by kernel_rfl
theorem ok_127 : callOk Tryz.prog 127 = true := by kernel_rfl
theorem ok_128 : callOk Tryz.prog 128 = true := by kernel_rfl
theorem ok_129 : callOk Tryz.prog 129 = true := by kernel_rfl
theorem ok_130 : callOk Tryz.prog 130 = true := by kernel_rfl
theorem ok_131 : callOk Tryz.prog 131 = true := by kernel_rfl
theorem ok_132 : callOk Tryz.prog 132 = true := by kernel_rfl
theorem ok_133 : callOk Tryz.prog 133 = true := by kernel_rfl
theorem ok_134 : callOk Tryz.prog 134 = true := by kernel_rfl
theorem ok_135 : callOk Tryz.prog 135 = true := by kernel_rfl
theorem ok_136 : callOk Tryz.prog 136 = true := by kernel_rfl
theorem ok_137 : callOk Tryz.prog 137 = true := by kernel_rfl
theorem ok_138 : callOk Tryz.prog 138 = true := by kernel_rfl
theorem ok_139 : callOk Tryz.prog 139 = true := by kernel_rfl
theorem ok_140 : callOk Tryz.prog 140 = true := by kernel_rfl
theorem ok_141 : callOk Tryz.prog 141 = true := by kernel_rfl
theorem ok_142 : callOk Tryz.prog 142 = true := by kernel_rfl
theorem ok_143 : callOk Tryz.prog 143 = true := by kernel_rfl
theorem ok_144 : callOk Tryz.prog 144 = true := by kernel_rfl
theorem ok_145 : callOk Tryz.prog 145 = true := by kernel_rfl
theorem ok_146 : callOk Tryz.prog 146 = true := by kernel_rfl
theorem ok_147 : callOk Tryz.prog 147 = true := by kernel_rfl
theorem ok_151 : callOk Tryz.prog 151 = true := by kernel_rfl
theorem ok_152 : callOk Tryz.prog 152 = true := by kernel_rfl
theorem ok_155 : callOk Tryz.prog 155 = true := by kernel_rfl
theorem ok_156 : callOk Tryz.prog 156 = true := by kernel_rfl
theorem ok_157 : callOk Tryz.prog 157 = true := by kernel_rfl
theorem ok_158 : callOk Tryz.prog 158 = true := by kernel_rfl
theorem ok_159 : callOk Tryz.prog 159 = true := by kernel_rfl
theorem ok_160 : callOk Tryz.prog 160 = true := by kernel_rfl
theorem ok_161 : callOk Tryz.prog 161 = true := by kernel_rfl
theorem ok_162 : callOk Tryz.prog 162 = true := by kernel_rfl
theorem ok_163 : callOk Tryz.prog 163 = true := by kernel_rfl
theorem ok_177 : callOk Tryz.prog 177 = true := by kernel_rfl
theorem ok_183 : callOk Tryz.prog 183 = true := by kernel_rfl
theorem ps_29 : plainS Tryz.prog 29 = some [(0, 1), (1, 0), (2, 1), (3, 0), (4, 0), (5, 0), (6, 0), (7, 0), (8, 0), (9, 1)] := by kernel_rfl
theorem ps_106 : plainS Tryz.prog 106 = some [(0, 2), (1, 1), (2, 1)] := by kernel_rfl
theorem st_42 : structL Tryz.prog 42 = some [10, 1, 1, 1, 1] := by kernel_rfl
theorem st_84 : structL Tryz.prog 84 = some [10, 1, 1, 1, 1] := by kernel_rfl
theorem st_102 : structL Tryz.prog 102 = some [256, 1, 1] := by kernel_rfl
theorem st_128 : structL Tryz.prog 128 = some [4] := by kernel_rfl
theorem st_134 : structL Tryz.prog 134 = some [256] := by kernel_rfl
theorem st_139 : structL Tryz.prog 139 = some [256] := by kernel_rfl
theorem st_144 : structL Tryz.prog 144 = some [256, 256, 1, 1, 1, 1, 1] := by kernel_rfl
theorem st_149 : structL Tryz.prog 149 = some [256] := by kernel_rfl
theorem st_154 : structL Tryz.prog 154 = some [1, 256] := by kernel_rfl
theorem st_165 : structL Tryz.prog 165 = some [16] := by kernel_rfl
theorem st_170 : structL Tryz.prog 170 = some [1, 1, 1, 256] := by kernel_rfl
theorem st_187 : structL Tryz.prog 187 = some [258] := by kernel_rfl
theorem us_29 : Tryz.prog.underlying 29 = some (.struct (Tryz.prog.fieldsOf 29)) := by kernel_rfl
theorem us_106 : Tryz.prog.underlying 106 = some (.struct (Tryz.prog.fieldsOf 106)) := by kernel_rfl
theorem z_27 : zeroL Tryz.prog 27 = some ([.int .u16 0]) := by kernel_rfl
theorem z_29 : zeroL Tryz.prog 29 = some ([.int .u16 0, .bool false, .int .u16 0, .bool false, .bool false, .bool false, .bool false, .bool false, .bool false, .int .u16 0]) := by kernel_rfl
theorem z_33 : zeroL Tryz.prog 33 = some ([.int .i64 0, .int .u16 0, .bool false, .int .u16 0, .bool false, .bool false, .bool false, .bool false, .bool false, .bool false, .int .u16 0, .slice none 0 0, .slice none 0 0]) := by kernel_rfl
theorem z_40 : zeroL Tryz.prog 40 = some ([.int .i64 0, .int .i64 0, .int .i64 0]) := by kernel_rfl
theorem z_42 : zeroL Tryz.prog 42 = some ([.int .u16 0, .bool false, .int .u16 0, .bool false, .bool false, .bool false, .bool false, .bool false, .bool false, .int .u16 0, .slice none 0 0, .slice none 0 0, .slice none 0 0, .slice none 0 0]) := by kernel_rfl
theorem z_50 : zeroL Tryz.prog 50 = some ([.int .u16 0, .int .u16 0, .int .u16 0, .int .u16 0, .int .u16 0, .int .u16 0]) := by kernel_rfl
theorem z_54 : zeroL Tryz.prog 54 = some ([.slice none 0 0, .int .u16 0, .int .u16 0, .int .u16 0, .int .u16 0, .int .u16 0, .int .u16 0, .int .u8 0, .int .i64 0, .int .i64 0, .bool false, .int .i64 0, .int .u16 0, .int .u16 0]) := by kernel_rfl
theorem z_58 : zeroL Tryz.prog 58 = some ([.int .u16 0, .bool false, .int .u16 0, .bool false, .bool false, .bool false, .bool false, .bool false, .bool false, .int .u16 0]) := by kernel_rfl
theorem z_72 : zeroL Tryz.prog 72 = some ([.string ByteArray.empty, .int .u16 0, .int .u16 0, .int .u32 0, .int .u16 0, .int .i64 0, .slice none 0 0, .string ByteArray.empty, .string ByteArray.empty, .int .u32 0, .int .u32 0, .int .u32 0, .int .u32 0, .int .u32 0, .slice none 0 0, .slice none 0 0]) := by kernel_rfl
theorem z_74 : zeroL Tryz.prog 74 = some ([.int .i64 0, .int .i64 0, .int .i64 0, .int .i64 0]) := by kernel_rfl
theorem z_76 : zeroL Tryz.prog 76 = some ([.slice none 0 0, .int .i64 0, .int .i64 0, .int .i64 0, .int .i64 0, .int .i64 0, .int .i64 0, .int .i64 0, .bool false, .int .i64 0, .string ByteArray.empty, .int .u16 0, .int .u16 0, .int .u32 0, .int .u16 0, .int .i64 0, .slice none 0 0, .string ByteArray.empty, .string ByteArray.empty, .int .u32 0, .int .u32 0, .int .u32 0, .int .u32 0, .int .u32 0, .slice none 0 0, .slice none 0 0]) := by kernel_rfl
theorem z_84 : zeroL Tryz.prog 84 = some ([.int .u16 0, .bool false, .int .u16 0, .bool false, .bool false, .bool false, .bool false, .bool false, .bool false, .int .u16 0, .slice none 0 0, .slice none 0 0, .slice none 0 0, .slice none 0 0]) := by kernel_rfl
theorem z_99 : zeroL Tryz.prog 99 = some (rep 256 (.int .u8 0)) := by kernel_rfl
theorem z_102 : zeroL Tryz.prog 102 = some (rep 256 (.int .u8 0) ++ [.int .u16 0, .int .u16 0]) := by kernel_rfl
theorem z_106 : zeroL Tryz.prog 106 = some ([.string ByteArray.empty, .int .u16 0, .int .u16 0]) := by kernel_rfl
theorem z_113 : zeroL Tryz.prog 113 = some (rep 256 (.int .u8 0) ++ [.int .u16 0, .int .u16 0, .int .u32 0, .int .u16 0]) := by kernel_rfl
theorem z_120 : zeroL Tryz.prog 120 = some (rep 256 (.int .u8 0) ++ [.int .u16 0, .int .u16 0, .int .u32 0, .int .u16 0, .nilIface]) := by kernel_rfl
theorem z_126 : zeroL Tryz.prog 126 = some ([.int .u8 0, .int .u8 0, .int .u8 0, .int .u8 0]) := by kernel_rfl
theorem z_128 : zeroL Tryz.prog 128 = some ([.int .u8 0, .int .u8 0, .int .u8 0, .int .u8 0]) := by kernel_rfl
theorem z_134 : zeroL Tryz.prog 134 = some (rep 256 (.int .u8 0)) := by kernel_rfl
theorem z_139 : zeroL Tryz.prog 139 = some (rep 256 (.int .u8 0)) := by kernel_rfl
theorem z_144 : zeroL Tryz.prog 144 = some (rep 512 (.int .u8 0) ++ [.int .u32 0, .int .u32 0, .int .u32 0, .int .u32 0, .int .u32 0]) := by kernel_rfl
theorem z_149 : zeroL Tryz.prog 149 = some (rep 256 (.int .u8 0)) := by kernel_rfl
theorem z_154 : zeroL Tryz.prog 154 = some ([.int .u16 0] ++ rep 256 (.int .u8 0)) := by kernel_rfl
theorem z_159 : zeroL Tryz.prog 159 = some ([.slice none 0 0]) := by kernel_rfl
theorem z_163 : zeroL Tryz.prog 163 = some (rep 16 (.int .u8 0)) := by kernel_rfl
theorem z_165 : zeroL Tryz.prog 165 = some (rep 16 (.int .u8 0)) := by kernel_rfl
theorem z_170 : zeroL Tryz.prog 170 = some ([.int .u16 0, .int .u16 0, .int .u16 0] ++ rep 256 (.int .u8 0)) := by kernel_rfl
theorem z_176 : zeroL Tryz.prog 176 = some ([.slice none 0 0]) := by kernel_rfl
theorem z_182 : zeroL Tryz.prog 182 = some ([.int .u16 0] ++ rep 256 (.int .u8 0) ++ [.slice none 0 0]) := by kernel_rfl
theorem z_187 : zeroL Tryz.prog 187 = some ([.int .u16 0] ++ rep 256 (.int .u8 0) ++ [.slice none 0 0]) := by kernel_rfl
theorem z_192 : zeroL Tryz.prog 192 = some ([.int .u16 0, .slice none 0 0]) := by kernel_rfl
theorem z_240 : zeroL Tryz.prog 240 = some ([.int .u16 0, .slice none 0 0]) := by kernel_rfl
theorem z_242 : zeroL Tryz.prog 242 = some ([.int .u16 0, .slice none 0 0]) := by kernel_rfl
theorem z_286 : zeroL Tryz.prog 286 = some ([.int .u16 0, .slice none 0 0]) := by kernel_rfl
theorem zo_287 : zeroOf Tryz.prog 287 = some (.pointer none) := by kernel_rfl
theorem zo_288 : zeroOf Tryz.prog 288 = some (.pointer none) := by kernel_rfl
theorem zo_289 : zeroOf Tryz.prog 289 = some (.pointer none) := by kernel_rfl
theorem zo_290 : zeroOf Tryz.prog 290 = some (.pointer none) := by kernel_rfl
theorem zo_291 : zeroOf Tryz.prog 291 = some (.pointer none) := by kernel_rfl
theorem zo_292 : zeroOf Tryz.prog 292 = some (.pointer none) := by kernel_rfl
theorem zo_293 : zeroOf Tryz.prog 293 = some (.pointer none) := by kernel_rfl
theorem zo_294 : zeroOf Tryz.prog 294 = some (.pointer none) := by kernel_rfl
theorem zo_295 : zeroOf Tryz.prog 295 = some (.pointer none) := by kernel_rfl
theorem zo_296 : zeroOf Tryz.prog 296 = some (.pointer none) := by kernel_rfl
theorem zo_297 : zeroOf Tryz.prog 297 = some (.pointer none) := by kernel_rfl
theorem zo_298 : zeroOf Tryz.prog 298 = some (.pointer none) := by kernel_rfl
end Go.Proofs.YtmigokakpahgkaaGreatDoor
