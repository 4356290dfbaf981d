/- A part of the proof: the SILK decoder of the given program, walked by an executor that is proved sound. No statement of the program is proved in this text. -/
import Derived.KernelRfl
import Derived.Test.YtojdfjohmicopaaGreatDoorL00
set_option linter.all false
set_option maxRecDepth 100000
namespace Go.SX
open Go
noncomputable abbrev P : Program := Go.Proofs.Tryz.prog
inductive TyD where
  | int (k : IntKind)
  | bool
  | str
  | ptr (e : Nat)
  | slice (e : Nat)
  | arr (n e : Nat)
  | st (fs : List (Nat × Nat))
  | iface
  | other
structure Ty where
  d : TyD
  sz : Nat
  by_ : Nat
  z : List C
def tyTab : List Ty := [
  ⟨.other, 0, 0, []⟩,
  ⟨.other, 0, 0, []⟩,
  ⟨.int .i64, 1, 8, [.i .i64 0]⟩,
  ⟨.int .i64, 1, 8, [.i .i64 0]⟩,
  ⟨.bool, 1, 1, [.b false]⟩,
  ⟨.int .u8, 1, 1, [.i .u8 0]⟩,
  ⟨.int .u8, 1, 1, [.i .u8 0]⟩,
  ⟨.st [(0, 2), (1, 3), (2, 4), (3, 6)], 4, 24, [.i .i64 0, .i .i64 0, .b false, .i .u8 0]⟩,
  ⟨.st [(0, 2), (1, 3), (2, 4), (3, 6)], 4, 24, [.i .i64 0, .i .i64 0, .b false, .i .u8 0]⟩,
  ⟨.str, 1, 16, [.s ByteArray.empty]⟩,
  ⟨.str, 1, 16, [.s ByteArray.empty]⟩,
  ⟨.str, 1, 16, [.s ByteArray.empty]⟩,
  ⟨.int .u64, 1, 8, [.i .u64 0]⟩,
  ⟨.st [(0, 9), (1, 12)], 2, 24, [.s ByteArray.empty, .i .u64 0]⟩,
  ⟨.st [(0, 9), (1, 12)], 2, 24, [.s ByteArray.empty, .i .u64 0]⟩,
  ⟨.ptr 278, 1, 8, [.np]⟩,
  ⟨.ptr 281, 1, 8, [.np]⟩,
  ⟨.ptr 289, 1, 8, [.np]⟩,
  ⟨.st [(0, 17)], 1, 8, [.np]⟩,
  ⟨.st [(0, 17)], 1, 8, [.np]⟩,
  ⟨.iface, 1, 16, [.kv .nilIface]⟩,
  ⟨.int .i32, 1, 4, [.i .i32 0]⟩,
  ⟨.slice 46, 1, 24, [.nsl]⟩,
  ⟨.other, 0, 0, []⟩,
  ⟨.slice 48, 1, 24, [.nsl]⟩,
  ⟨.other, 0, 0, []⟩,
  ⟨.other, 0, 0, []⟩,
  ⟨.slice 39, 1, 24, [.nsl]⟩,
  ⟨.other, 0, 0, []⟩,
  ⟨.other, 0, 0, []⟩,
  ⟨.other, 0, 0, []⟩,
  ⟨.slice 85, 1, 24, [.nsl]⟩,
  ⟨.other, 0, 0, []⟩,
  ⟨.other, 0, 0, []⟩,
  ⟨.other, 0, 0, []⟩,
  ⟨.slice 4, 1, 24, [.nsl]⟩,
  ⟨.slice 44, 1, 24, [.nsl]⟩,
  ⟨.int .u32, 1, 4, [.i .u32 0]⟩,
  ⟨.st [(0, 35), (1, 35), (2, 35), (3, 35), (4, 36), (5, 37), (6, 3)], 7, 136, [.nsl, .nsl, .nsl, .nsl, .nsl, .i .u32 0, .i .i64 0]⟩,
  ⟨.st [(0, 35), (1, 35), (2, 35), (3, 35), (4, 36), (5, 37), (6, 3)], 7, 136, [.nsl, .nsl, .nsl, .nsl, .nsl, .i .u32 0, .i .i64 0]⟩,
  ⟨.slice 2, 1, 24, [.nsl]⟩,
  ⟨.slice 3, 1, 24, [.nsl]⟩,
  ⟨.slice 41, 1, 24, [.nsl]⟩,
  ⟨.st [(0, 4), (1, 4), (2, 4), (3, 4), (4, 3), (5, 3), (6, 3), (7, 3), (8, 40), (9, 3), (10, 41), (11, 41), (12, 41), (13, 3), (14, 42), (15, 3), (16, 41), (17, 42), (18, 3), (19, 2), (20, 3), (21, 41), (22, 41), (23, 40)], 24, 328, [.b false, .b false, .b false, .b false, .i .i64 0, .i .i64 0, .i .i64 0, .i .i64 0, .nsl, .i .i64 0, .nsl, .nsl, .nsl, .i .i64 0, .nsl, .i .i64 0, .nsl, .nsl, .i .i64 0, .i .i64 0, .i .i64 0, .nsl, .nsl, .nsl]⟩,
  ⟨.st [(0, 4), (1, 4), (2, 4), (3, 4), (4, 3), (5, 3), (6, 3), (7, 3), (8, 40), (9, 3), (10, 41), (11, 41), (12, 41), (13, 3), (14, 42), (15, 3), (16, 41), (17, 42), (18, 3), (19, 2), (20, 3), (21, 41), (22, 41), (23, 40)], 24, 328, [.b false, .b false, .b false, .b false, .i .i64 0, .i .i64 0, .i .i64 0, .i .i64 0, .nsl, .i .i64 0, .nsl, .nsl, .nsl, .i .i64 0, .nsl, .i .i64 0, .nsl, .nsl, .i .i64 0, .i .i64 0, .i .i64 0, .nsl, .nsl, .nsl]⟩,
  ⟨.st [(0, 9), (1, 4), (2, 3), (3, 3)], 4, 40, [.s ByteArray.empty, .b false, .i .i64 0, .i .i64 0]⟩,
  ⟨.st [(0, 9), (1, 4), (2, 3), (3, 3)], 4, 40, [.s ByteArray.empty, .b false, .i .i64 0, .i .i64 0]⟩,
  ⟨.other, 0, 0, []⟩,
  ⟨.st [(0, 9), (1, 4), (2, 3), (3, 3)], 4, 40, [.s ByteArray.empty, .b false, .i .i64 0, .i .i64 0]⟩,
  ⟨.slice 5, 1, 24, [.nsl]⟩,
  ⟨.int .u64, 1, 8, [.i .u64 0]⟩,
  ⟨.st [(0, 49), (1, 50), (2, 50), (3, 50), (4, 37), (5, 37)], 6, 56, [.nsl, .i .u64 0, .i .u64 0, .i .u64 0, .i .u32 0, .i .u32 0]⟩,
  ⟨.st [(0, 49), (1, 50), (2, 50), (3, 50), (4, 37), (5, 37)], 6, 56, [.nsl, .i .u64 0, .i .u64 0, .i .u64 0, .i .u32 0, .i .u32 0]⟩,
  ⟨.ptr 65, 1, 8, [.np]⟩,
  ⟨.int .u8, 1, 1, [.i .u8 0]⟩,
  ⟨.slice 79, 1, 24, [.nsl]⟩,
  ⟨.arr 2 21, 2, 8, [.i .i32 0, .i .i32 0]⟩,
  ⟨.slice 21, 1, 24, [.nsl]⟩,
  ⟨.slice 116, 1, 24, [.nsl]⟩,
  ⟨.slice 50, 1, 24, [.nsl]⟩,
  ⟨.arr 2 55, 2, 48, [.nsl, .nsl]⟩,
  ⟨.slice 55, 1, 24, [.nsl]⟩,
  ⟨.slice 58, 1, 24, [.nsl]⟩,
  ⟨.ptr 67, 1, 8, [.np]⟩,
  ⟨.st [(0, 52), (6, 53), (7, 54), (8, 4), (9, 4), (10, 3), (11, 21), (12, 55), (13, 56), (15, 4), (16, 4), (17, 49), (18, 49), (19, 57), (20, 57), (21, 35), (22, 35), (23, 35), (24, 35), (25, 57), (26, 58), (27, 55), (28, 55), (29, 59), (30, 55), (31, 55), (32, 57), (33, 57), (34, 57), (35, 57), (36, 60), (38, 60), (40, 61), (41, 41), (42, 62), (43, 58), (44, 63), (45, 4), (46, 4), (47, 4), (48, 4), (49, 21), (50, 21)], 51, 800, [.nsl, .i .u64 0, .i .u64 0, .i .u64 0, .i .u32 0, .i .u32 0, .np, .i .u8 0, .b false, .b false, .i .i64 0, .i .i32 0, .nsl, .i .i32 0, .i .i32 0, .b false, .b false, .nsl, .nsl, .nsl, .nsl, .nsl, .nsl, .nsl, .nsl, .nsl, .nsl, .nsl, .nsl, .nsl, .nsl, .nsl, .nsl, .nsl, .nsl, .nsl, .nsl, .nsl, .nsl, .nsl, .nsl, .nsl, .nsl, .nsl, .np, .b false, .b false, .b false, .b false, .i .i32 0, .i .i32 0]⟩,
  ⟨.st [(0, 52), (6, 53), (7, 54), (8, 4), (9, 4), (10, 3), (11, 21), (12, 55), (13, 56), (15, 4), (16, 4), (17, 49), (18, 49), (19, 57), (20, 57), (21, 35), (22, 35), (23, 35), (24, 35), (25, 57), (26, 58), (27, 55), (28, 55), (29, 59), (30, 55), (31, 55), (32, 57), (33, 57), (34, 57), (35, 57), (36, 60), (38, 60), (40, 61), (41, 41), (42, 62), (43, 58), (44, 63), (45, 4), (46, 4), (47, 4), (48, 4), (49, 21), (50, 21)], 51, 800, [.nsl, .i .u64 0, .i .u64 0, .i .u64 0, .i .u32 0, .i .u32 0, .np, .i .u8 0, .b false, .b false, .i .i64 0, .i .i32 0, .nsl, .i .i32 0, .i .i32 0, .b false, .b false, .nsl, .nsl, .nsl, .nsl, .nsl, .nsl, .nsl, .nsl, .nsl, .nsl, .nsl, .nsl, .nsl, .nsl, .nsl, .nsl, .nsl, .nsl, .nsl, .nsl, .nsl, .nsl, .nsl, .nsl, .nsl, .nsl, .nsl, .np, .b false, .b false, .b false, .b false, .i .i32 0, .i .i32 0]⟩,
  ⟨.other, 0, 0, []⟩,
  ⟨.slice 81, 1, 24, [.nsl]⟩,
  ⟨.iface, 1, 16, [.kv .nilIface]⟩,
  ⟨.iface, 1, 16, [.kv .nilIface]⟩,
  ⟨.other, 0, 0, []⟩,
  ⟨.other, 0, 0, []⟩,
  ⟨.other, 0, 0, []⟩,
  ⟨.other, 0, 0, []⟩,
  ⟨.other, 0, 0, []⟩,
  ⟨.other, 0, 0, []⟩,
  ⟨.other, 0, 0, []⟩,
  ⟨.int .u8, 1, 1, [.i .u8 0]⟩,
  ⟨.int .u8, 1, 1, [.i .u8 0]⟩,
  ⟨.int .i16, 1, 2, [.i .i16 0]⟩,
  ⟨.st [(0, 4), (1, 4), (2, 4), (3, 4), (4, 21), (5, 21), (6, 77), (7, 78), (8, 57), (9, 37), (10, 55), (11, 55), (12, 55), (13, 79), (14, 61), (15, 37), (16, 41), (17, 62), (18, 21), (19, 37), (20, 37), (21, 49), (22, 49), (23, 57)], 24, 296, [.b false, .b false, .b false, .b false, .i .i32 0, .i .i32 0, .i .u8 0, .i .u8 0, .nsl, .i .u32 0, .nsl, .nsl, .nsl, .i .i16 0, .nsl, .i .u32 0, .nsl, .nsl, .i .i32 0, .i .u32 0, .i .u32 0, .nsl, .nsl, .nsl]⟩,
  ⟨.st [(0, 4), (1, 4), (2, 4), (3, 4), (4, 21), (5, 21), (6, 77), (7, 78), (8, 57), (9, 37), (10, 55), (11, 55), (12, 55), (13, 79), (14, 61), (15, 37), (16, 41), (17, 62), (18, 21), (19, 37), (20, 37), (21, 49), (22, 49), (23, 57)], 24, 296, [.b false, .b false, .b false, .b false, .i .i32 0, .i .i32 0, .i .u8 0, .i .u8 0, .nsl, .i .u32 0, .nsl, .nsl, .nsl, .i .i16 0, .nsl, .i .u32 0, .nsl, .nsl, .i .i32 0, .i .u32 0, .i .u32 0, .nsl, .nsl, .nsl]⟩,
  ⟨.other, 0, 0, []⟩,
  ⟨.slice 88, 1, 24, [.nsl]⟩,
  ⟨.st [(0, 35), (1, 35), (2, 35), (3, 35), (4, 83), (5, 37), (6, 3)], 7, 136, [.nsl, .nsl, .nsl, .nsl, .nsl, .i .u32 0, .i .i64 0]⟩,
  ⟨.st [(0, 35), (1, 35), (2, 35), (3, 35), (4, 83), (5, 37), (6, 3)], 7, 136, [.nsl, .nsl, .nsl, .nsl, .nsl, .i .u32 0, .i .i64 0]⟩,
  ⟨.other, 0, 0, []⟩,
  ⟨.other, 0, 0, []⟩,
  ⟨.st [(0, 4), (1, 4), (2, 4), (3, 4), (4, 3), (5, 3), (6, 3), (7, 3), (8, 40), (9, 3), (10, 41), (11, 41), (12, 41), (13, 3), (14, 42), (15, 3), (16, 41), (17, 42), (18, 3), (19, 2), (20, 3), (21, 41), (22, 41), (23, 40)], 24, 328, [.b false, .b false, .b false, .b false, .i .i64 0, .i .i64 0, .i .i64 0, .i .i64 0, .nsl, .i .i64 0, .nsl, .nsl, .nsl, .i .i64 0, .nsl, .i .i64 0, .nsl, .nsl, .i .i64 0, .i .i64 0, .i .i64 0, .nsl, .nsl, .nsl]⟩,
  ⟨.other, 0, 0, []⟩,
  ⟨.other, 0, 0, []⟩,
  ⟨.slice 120, 1, 24, [.nsl]⟩,
  ⟨.other, 0, 0, []⟩,
  ⟨.slice 37, 1, 24, [.nsl]⟩,
  ⟨.st [(0, 3), (1, 37), (2, 37), (3, 37), (4, 3), (5, 93)], 6, 56, [.i .i64 0, .i .u32 0, .i .u32 0, .i .u32 0, .i .i64 0, .nsl]⟩,
  ⟨.st [(0, 3), (1, 37), (2, 37), (3, 37), (4, 3), (5, 93)], 6, 56, [.i .i64 0, .i .u32 0, .i .u32 0, .i .u32 0, .i .i64 0, .nsl]⟩,
  ⟨.slice 95, 1, 24, [.nsl]⟩,
  ⟨.slice 103, 1, 24, [.nsl]⟩,
  ⟨.other, 0, 0, []⟩,
  ⟨.other, 0, 0, []⟩,
  ⟨.other, 0, 0, []⟩,
  ⟨.other, 0, 0, []⟩,
  ⟨.st [(0, 2), (1, 4), (2, 37), (3, 37), (4, 37), (5, 3)], 6, 32, [.i .i64 0, .b false, .i .u32 0, .i .u32 0, .i .u32 0, .i .i64 0]⟩,
  ⟨.st [(0, 2), (1, 4), (2, 37), (3, 37), (4, 37), (5, 3)], 6, 32, [.i .i64 0, .b false, .i .u32 0, .i .u32 0, .i .u32 0, .i .i64 0]⟩,
  ⟨.other, 0, 0, []⟩,
  ⟨.other, 0, 0, []⟩,
  ⟨.other, 0, 0, []⟩,
  ⟨.ptr 52, 1, 8, [.np]⟩,
  ⟨.other, 0, 0, []⟩,
  ⟨.other, 0, 0, []⟩,
  ⟨.other, 0, 0, []⟩,
  ⟨.other, 0, 0, []⟩,
  ⟨.other, 0, 0, []⟩,
  ⟨.other, 0, 0, []⟩,
  ⟨.other, 0, 0, []⟩,
  ⟨.other, 0, 0, []⟩,
  ⟨.int .i8, 1, 1, [.i .i8 0]⟩,
  ⟨.int .u64, 1, 8, [.i .u64 0]⟩,
  ⟨.other, 0, 0, []⟩,
  ⟨.other, 0, 0, []⟩,
  ⟨.st [(0, 3), (1, 37), (2, 37), (3, 37), (4, 3), (5, 93)], 6, 56, [.i .i64 0, .i .u32 0, .i .u32 0, .i .u32 0, .i .i64 0, .nsl]⟩,
  ⟨.st [(0, 49), (1, 49), (2, 117), (3, 50), (4, 37), (5, 37), (6, 3), (7, 3), (8, 50)], 9, 96, [.nsl, .nsl, .i .u64 0, .i .u64 0, .i .u32 0, .i .u32 0, .i .i64 0, .i .i64 0, .i .u64 0]⟩,
  ⟨.st [(0, 49), (1, 49), (2, 117), (3, 50), (4, 37), (5, 37), (6, 3), (7, 3), (8, 50)], 9, 96, [.nsl, .nsl, .i .u64 0, .i .u64 0, .i .u32 0, .i .u32 0, .i .i64 0, .i .i64 0, .i .u64 0]⟩,
  ⟨.other, 0, 0, []⟩,
  ⟨.other, 0, 0, []⟩,
  ⟨.other, 0, 0, []⟩,
  ⟨.other, 0, 0, []⟩,
  ⟨.other, 0, 0, []⟩,
  ⟨.other, 0, 0, []⟩,
  ⟨.other, 0, 0, []⟩,
  ⟨.other, 0, 0, []⟩,
  ⟨.other, 0, 0, []⟩,
  ⟨.other, 0, 0, []⟩,
  ⟨.other, 0, 0, []⟩,
  ⟨.other, 0, 0, []⟩,
  ⟨.other, 0, 0, []⟩,
  ⟨.other, 0, 0, []⟩,
  ⟨.other, 0, 0, []⟩,
  ⟨.other, 0, 0, []⟩,
  ⟨.other, 0, 0, []⟩,
  ⟨.other, 0, 0, []⟩,
  ⟨.other, 0, 0, []⟩,
  ⟨.ptr 35, 1, 8, [.np]⟩,
  ⟨.other, 0, 0, []⟩,
  ⟨.other, 0, 0, []⟩,
  ⟨.other, 0, 0, []⟩,
  ⟨.other, 0, 0, []⟩,
  ⟨.ptr 122, 1, 8, [.np]⟩,
  ⟨.other, 0, 0, []⟩,
  ⟨.other, 0, 0, []⟩,
  ⟨.other, 0, 0, []⟩,
  ⟨.other, 0, 0, []⟩,
  ⟨.other, 0, 0, []⟩,
  ⟨.other, 0, 0, []⟩,
  ⟨.other, 0, 0, []⟩,
  ⟨.other, 0, 0, []⟩,
  ⟨.other, 0, 0, []⟩,
  ⟨.other, 0, 0, []⟩,
  ⟨.other, 0, 0, []⟩,
  ⟨.other, 0, 0, []⟩,
  ⟨.other, 0, 0, []⟩,
  ⟨.other, 0, 0, []⟩,
  ⟨.other, 0, 0, []⟩,
  ⟨.other, 0, 0, []⟩,
  ⟨.arr 24 5, 24, 24, [.i .u8 0, .i .u8 0, .i .u8 0, .i .u8 0, .i .u8 0, .i .u8 0, .i .u8 0, .i .u8 0, .i .u8 0, .i .u8 0, .i .u8 0, .i .u8 0, .i .u8 0, .i .u8 0, .i .u8 0, .i .u8 0, .i .u8 0, .i .u8 0, .i .u8 0, .i .u8 0, .i .u8 0, .i .u8 0, .i .u8 0, .i .u8 0]⟩,
  ⟨.other, 0, 0, []⟩,
  ⟨.other, 0, 0, []⟩,
  ⟨.other, 0, 0, []⟩,
  ⟨.other, 0, 0, []⟩,
  ⟨.other, 0, 0, []⟩,
  ⟨.other, 0, 0, []⟩,
  ⟨.other, 0, 0, []⟩,
  ⟨.other, 0, 0, []⟩,
  ⟨.other, 0, 0, []⟩,
  ⟨.other, 0, 0, []⟩,
  ⟨.other, 0, 0, []⟩,
  ⟨.other, 0, 0, []⟩,
  ⟨.other, 0, 0, []⟩,
  ⟨.other, 0, 0, []⟩,
  ⟨.other, 0, 0, []⟩,
  ⟨.other, 0, 0, []⟩,
  ⟨.other, 0, 0, []⟩,
  ⟨.other, 0, 0, []⟩,
  ⟨.other, 0, 0, []⟩,
  ⟨.other, 0, 0, []⟩,
  ⟨.other, 0, 0, []⟩,
  ⟨.other, 0, 0, []⟩,
  ⟨.other, 0, 0, []⟩,
  ⟨.other, 0, 0, []⟩,
  ⟨.other, 0, 0, []⟩,
  ⟨.other, 0, 0, []⟩,
  ⟨.other, 0, 0, []⟩,
  ⟨.other, 0, 0, []⟩,
  ⟨.arr 20 117, 20, 160, [.i .u64 0, .i .u64 0, .i .u64 0, .i .u64 0, .i .u64 0, .i .u64 0, .i .u64 0, .i .u64 0, .i .u64 0, .i .u64 0, .i .u64 0, .i .u64 0, .i .u64 0, .i .u64 0, .i .u64 0, .i .u64 0, .i .u64 0, .i .u64 0, .i .u64 0, .i .u64 0]⟩,
  ⟨.arr 65 5, 65, 65, [.i .u8 0, .i .u8 0, .i .u8 0, .i .u8 0, .i .u8 0, .i .u8 0, .i .u8 0, .i .u8 0, .i .u8 0, .i .u8 0, .i .u8 0, .i .u8 0, .i .u8 0, .i .u8 0, .i .u8 0, .i .u8 0, .i .u8 0, .i .u8 0, .i .u8 0, .i .u8 0, .i .u8 0, .i .u8 0, .i .u8 0, .i .u8 0, .i .u8 0, .i .u8 0, .i .u8 0, .i .u8 0, .i .u8 0, .i .u8 0, .i .u8 0, .i .u8 0, .i .u8 0, .i .u8 0, .i .u8 0, .i .u8 0, .i .u8 0, .i .u8 0, .i .u8 0, .i .u8 0, .i .u8 0, .i .u8 0, .i .u8 0, .i .u8 0, .i .u8 0, .i .u8 0, .i .u8 0, .i .u8 0, .i .u8 0, .i .u8 0, .i .u8 0, .i .u8 0, .i .u8 0, .i .u8 0, .i .u8 0, .i .u8 0, .i .u8 0, .i .u8 0, .i .u8 0, .i .u8 0, .i .u8 0, .i .u8 0, .i .u8 0, .i .u8 0, .i .u8 0]⟩,
  ⟨.other, 0, 0, []⟩,
  ⟨.other, 0, 0, []⟩,
  ⟨.other, 0, 0, []⟩,
  ⟨.ptr 57, 1, 8, [.np]⟩,
  ⟨.other, 0, 0, []⟩,
  ⟨.other, 0, 0, []⟩,
  ⟨.slice 59, 1, 24, [.nsl]⟩,
  ⟨.other, 0, 0, []⟩,
  ⟨.other, 0, 0, []⟩,
  ⟨.ptr 58, 1, 8, [.np]⟩,
  ⟨.other, 0, 0, []⟩,
  ⟨.ptr 55, 1, 8, [.np]⟩,
  ⟨.other, 0, 0, []⟩,
  ⟨.ptr 59, 1, 8, [.np]⟩,
  ⟨.other, 0, 0, []⟩,
  ⟨.other, 0, 0, []⟩,
  ⟨.other, 0, 0, []⟩,
  ⟨.other, 0, 0, []⟩,
  ⟨.other, 0, 0, []⟩,
  ⟨.other, 0, 0, []⟩,
  ⟨.other, 0, 0, []⟩,
  ⟨.other, 0, 0, []⟩,
  ⟨.other, 0, 0, []⟩,
  ⟨.other, 0, 0, []⟩,
  ⟨.other, 0, 0, []⟩,
  ⟨.other, 0, 0, []⟩,
  ⟨.ptr 41, 1, 8, [.np]⟩,
  ⟨.other, 0, 0, []⟩,
  ⟨.ptr 62, 1, 8, [.np]⟩,
  ⟨.other, 0, 0, []⟩,
  ⟨.other, 0, 0, []⟩,
  ⟨.ptr 49, 1, 8, [.np]⟩,
  ⟨.other, 0, 0, []⟩,
  ⟨.other, 0, 0, []⟩,
  ⟨.other, 0, 0, []⟩,
  ⟨.other, 0, 0, []⟩,
  ⟨.other, 0, 0, []⟩,
  ⟨.other, 0, 0, []⟩,
  ⟨.other, 0, 0, []⟩,
  ⟨.other, 0, 0, []⟩,
  ⟨.other, 0, 0, []⟩,
  ⟨.arr 2 5, 2, 2, [.i .u8 0, .i .u8 0]⟩,
  ⟨.other, 0, 0, []⟩,
  ⟨.arr 32 5, 32, 32, [.i .u8 0, .i .u8 0, .i .u8 0, .i .u8 0, .i .u8 0, .i .u8 0, .i .u8 0, .i .u8 0, .i .u8 0, .i .u8 0, .i .u8 0, .i .u8 0, .i .u8 0, .i .u8 0, .i .u8 0, .i .u8 0, .i .u8 0, .i .u8 0, .i .u8 0, .i .u8 0, .i .u8 0, .i .u8 0, .i .u8 0, .i .u8 0, .i .u8 0, .i .u8 0, .i .u8 0, .i .u8 0, .i .u8 0, .i .u8 0, .i .u8 0, .i .u8 0]⟩,
  ⟨.arr 64 5, 64, 64, [.i .u8 0, .i .u8 0, .i .u8 0, .i .u8 0, .i .u8 0, .i .u8 0, .i .u8 0, .i .u8 0, .i .u8 0, .i .u8 0, .i .u8 0, .i .u8 0, .i .u8 0, .i .u8 0, .i .u8 0, .i .u8 0, .i .u8 0, .i .u8 0, .i .u8 0, .i .u8 0, .i .u8 0, .i .u8 0, .i .u8 0, .i .u8 0, .i .u8 0, .i .u8 0, .i .u8 0, .i .u8 0, .i .u8 0, .i .u8 0, .i .u8 0, .i .u8 0, .i .u8 0, .i .u8 0, .i .u8 0, .i .u8 0, .i .u8 0, .i .u8 0, .i .u8 0, .i .u8 0, .i .u8 0, .i .u8 0, .i .u8 0, .i .u8 0, .i .u8 0, .i .u8 0, .i .u8 0, .i .u8 0, .i .u8 0, .i .u8 0, .i .u8 0, .i .u8 0, .i .u8 0, .i .u8 0, .i .u8 0, .i .u8 0, .i .u8 0, .i .u8 0, .i .u8 0, .i .u8 0, .i .u8 0, .i .u8 0, .i .u8 0, .i .u8 0]⟩,
  ⟨.other, 0, 0, []⟩,
  ⟨.int .i64, 1, 8, [.i .i64 0]⟩,
  ⟨.other, 0, 0, []⟩,
  ⟨.other, 0, 0, []⟩,
  ⟨.other, 0, 0, []⟩,
  ⟨.other, 0, 0, []⟩,
  ⟨.other, 0, 0, []⟩,
  ⟨.other, 0, 0, []⟩,
  ⟨.other, 0, 0, []⟩,
  ⟨.arr 16 21, 16, 64, [.i .i32 0, .i .i32 0, .i .i32 0, .i .i32 0, .i .i32 0, .i .i32 0, .i .i32 0, .i .i32 0, .i .i32 0, .i .i32 0, .i .i32 0, .i .i32 0, .i .i32 0, .i .i32 0, .i .i32 0, .i .i32 0]⟩,
  ⟨.arr 2 249, 32, 128, [.i .i32 0, .i .i32 0, .i .i32 0, .i .i32 0, .i .i32 0, .i .i32 0, .i .i32 0, .i .i32 0, .i .i32 0, .i .i32 0, .i .i32 0, .i .i32 0, .i .i32 0, .i .i32 0, .i .i32 0, .i .i32 0, .i .i32 0, .i .i32 0, .i .i32 0, .i .i32 0, .i .i32 0, .i .i32 0, .i .i32 0, .i .i32 0, .i .i32 0, .i .i32 0, .i .i32 0, .i .i32 0, .i .i32 0, .i .i32 0, .i .i32 0, .i .i32 0]⟩,
  ⟨.other, 0, 0, []⟩,
  ⟨.other, 0, 0, []⟩,
  ⟨.other, 0, 0, []⟩,
  ⟨.other, 0, 0, []⟩,
  ⟨.other, 0, 0, []⟩,
  ⟨.other, 0, 0, []⟩,
  ⟨.other, 0, 0, []⟩,
  ⟨.other, 0, 0, []⟩,
  ⟨.other, 0, 0, []⟩,
  ⟨.other, 0, 0, []⟩,
  ⟨.int .u64, 1, 8, [.i .u64 0]⟩,
  ⟨.other, 0, 0, []⟩,
  ⟨.other, 0, 0, []⟩,
  ⟨.other, 0, 0, []⟩,
  ⟨.ptr 3, 1, 8, [.np]⟩,
  ⟨.other, 0, 0, []⟩,
  ⟨.other, 0, 0, []⟩,
  ⟨.other, 0, 0, []⟩,
  ⟨.ptr 261, 1, 8, [.np]⟩,
  ⟨.other, 0, 0, []⟩,
  ⟨.other, 0, 0, []⟩,
  ⟨.other, 0, 0, []⟩,
  ⟨.other, 0, 0, []⟩,
  ⟨.other, 0, 0, []⟩,
  ⟨.ptr 291, 1, 8, [.np]⟩,
  ⟨.other, 0, 0, []⟩,
  ⟨.st [(0, 17), (1, 17), (2, 17), (3, 9)], 4, 40, [.np, .np, .np, .s ByteArray.empty]⟩,
  ⟨.st [(0, 17), (1, 17), (2, 17), (3, 9)], 4, 40, [.np, .np, .np, .s ByteArray.empty]⟩,
  ⟨.arr 0 16, 0, 0, []⟩,
  ⟨.st [(0, 279)], 0, 0, []⟩,
  ⟨.st [(0, 279)], 0, 0, []⟩,
  ⟨.int .u8, 1, 1, [.i .u8 0]⟩,
  ⟨.int .u8, 1, 1, [.i .u8 0]⟩,
  ⟨.other, 0, 0, []⟩,
  ⟨.ptr 5, 1, 8, [.np]⟩,
  ⟨.int .i32, 1, 4, [.i .i32 0]⟩,
  ⟨.int .i32, 1, 4, [.i .i32 0]⟩,
  ⟨.st [(0, 12), (1, 12), (2, 37), (3, 282), (4, 5), (5, 5), (6, 283), (7, 284), (8, 285), (9, 286), (10, 287)], 11, 48, [.i .u64 0, .i .u64 0, .i .u32 0, .i .u8 0, .i .u8 0, .i .u8 0, .i .u8 0, .kv .nilFunc, .np, .i .i32 0, .i .i32 0]⟩,
  ⟨.st [(0, 12), (1, 12), (2, 37), (3, 282), (4, 5), (5, 5), (6, 283), (7, 284), (8, 285), (9, 286), (10, 287)], 11, 48, [.i .u64 0, .i .u64 0, .i .u32 0, .i .u8 0, .i .u8 0, .i .u8 0, .i .u8 0, .kv .nilFunc, .np, .i .i32 0, .i .i32 0]⟩,
  ⟨.st [(0, 9)], 1, 16, [.s ByteArray.empty]⟩,
  ⟨.st [(0, 9)], 1, 16, [.s ByteArray.empty]⟩,
  ⟨.other, 0, 0, []⟩,
  ⟨.other, 0, 0, []⟩]
def ty (t : Nat) : Ty := tyTab.getD t ⟨.other, 0, 0, []⟩
def kEq : IntKind → IntKind → Bool
  | .i8, .i8 | .i16, .i16 | .i32, .i32 | .i64, .i64 | .u8, .u8 | .u16, .u16 | .u32, .u32 | .u64, .u64 => true
  | _, _ => false
theorem kEq_eq {k k' : IntKind} (h : kEq k k' = true) : k = k' := by cases k <;> cases k' <;> first | rfl | (simp [kEq] at h)
def dOk : TyD → Option TypeDesc → Bool
  | .int k, some (.int k') => kEq k k'
  | .bool, some .bool => true
  | .str, some .string => true
  | .ptr e, some (.pointer e') => Nat.beq e e'
  | .slice e, some (.slice e') => Nat.beq e e'
  | .arr n e, some (.array n' e') => Nat.beq n n' && Nat.beq e e'
  | .st fs, some (.struct fs') => Nat.beq fs.length fs'.size && (fs.zip fs'.toList).all fun (a, b) => Nat.beq a.1 b.offset && Nat.beq a.2 b.type
  | .iface, some (.interface _) => true
  | .other, _ => true
  | _, _ => false
def cIs : C → Value → Bool
  | .i k n, .int k' m => kEq k k' && decide (n = m)
  | .b x, .bool y => x == y
  | .s x, .string y => Nat.beq x.size 0 && Nat.beq y.size 0
  | .np, .pointer none => true
  | .nsl, .slice none 0 0 => true
  | .kv .nilIface, .nilIface => true
  | .kv .nilFunc, .nilFunc => true
  | .kv (.float k n), .float k' m => decide (k = k') && Nat.beq n m
  | _, _ => false
def zOk (z : List C) : Option Value → Bool
  | none => z.isEmpty
  | some v => z.isEmpty || (Nat.beq z.length v.cells.size && (z.zip v.cells.toList).all fun (c, u) => cIs c u)
noncomputable def tOk (t : Nat) : Bool :=
  match (ty t).d with
  | .other => true
  | d => dOk d (P.underlying t) && (match P.info? t with | some i => Nat.beq i.size (ty t).sz && Nat.beq i.bytes (ty t).by_ && zOk (ty t).z i.zero | none => false)
theorem allTypes : (List.range 294).all tOk = true := by kernel_rfl
theorem tOk_of (t : Nat) : tOk t = true := by
  by_cases h : t < 294
  · exact List.all_eq_true.1 allTypes t (List.mem_range.2 h)
  · have hl : tyTab.length = 294 := by kernel_rfl
    have : (ty t).d = .other := by
      unfold ty
      rw [List.getD_eq_getElem?_getD, List.getElem?_eq_none (by omega)]
      rfl
    simp [tOk, this]
theorem ty_d {t : Nat} (h : (ty t).d ≠ .other) : dOk (ty t).d (P.underlying t) = true ∧ ∃ i, P.info? t = some i ∧ i.size = (ty t).sz ∧ i.bytes = (ty t).by_ ∧ zOk (ty t).z i.zero = true := by
  have := tOk_of t
  unfold tOk at this
  split at this
  · rename_i e; exact absurd e h
  · rename_i d hd
    rw [Bool.and_eq_true] at this
    obtain ⟨h1, h2⟩ := this
    refine ⟨h1, ?_⟩
    split at h2
    · rename_i i hi
      simp only [Bool.and_eq_true] at h2
      exact ⟨i, hi, Nat.eq_of_beq_eq_true h2.1.1, Nat.eq_of_beq_eq_true h2.1.2, h2.2⟩
    · cases h2
section
variable {t : Nat}
theorem ty_int {k : IntKind} (h : (ty t).d = .int k) : P.underlying t = some (.int k) := by
  have := (ty_d (t := t) (by rw [h]; simp)).1
  rw [h] at this
  cases hu : P.underlying t with
  | none => simp [hu, dOk] at this
  | some d => cases d <;> simp [hu, dOk] at this; rw [kEq_eq this]
theorem ty_bool (h : (ty t).d = .bool) : P.underlying t = some .bool := by
  have := (ty_d (t := t) (by rw [h]; simp)).1
  rw [h] at this
  cases hu : P.underlying t with
  | none => simp [hu, dOk] at this
  | some d => cases d <;> simp [hu, dOk] at this; rfl
theorem ty_str (h : (ty t).d = .str) : P.underlying t = some .string := by
  have := (ty_d (t := t) (by rw [h]; simp)).1
  rw [h] at this
  cases hu : P.underlying t with
  | none => simp [hu, dOk] at this
  | some d => cases d <;> simp [hu, dOk] at this; rfl
theorem ty_ptr {e : Nat} (h : (ty t).d = .ptr e) : P.underlying t = some (.pointer e) := by
  have := (ty_d (t := t) (by rw [h]; simp)).1
  rw [h] at this
  cases hu : P.underlying t with
  | none => simp [hu, dOk] at this
  | some d => cases d <;> simp [hu, dOk] at this; rw [this]
theorem ty_slice {e : Nat} (h : (ty t).d = .slice e) : P.underlying t = some (.slice e) := by
  have := (ty_d (t := t) (by rw [h]; simp)).1
  rw [h] at this
  cases hu : P.underlying t with
  | none => simp [hu, dOk] at this
  | some d => cases d <;> simp [hu, dOk] at this; rw [this]
theorem ty_arr {n e : Nat} (h : (ty t).d = .arr n e) : P.underlying t = some (.array n e) := by
  have := (ty_d (t := t) (by rw [h]; simp)).1
  rw [h] at this
  cases hu : P.underlying t with
  | none => simp [hu, dOk] at this
  | some d => cases d <;> simp [hu, dOk] at this; rw [this.1, this.2]
theorem ty_st {fs : List (Nat × Nat)} (h : (ty t).d = .st fs) : ∃ fs', P.underlying t = some (.struct fs') ∧ ∀ (i : Nat) o u, fs[i]? = some (o, u) → ∃ f : Field, fs'[i]? = some f ∧ f.offset = o ∧ f.type = u := by
  have := (ty_d (t := t) (by rw [h]; simp)).1
  rw [h] at this
  cases hu : P.underlying t with
  | none => simp [hu, dOk] at this
  | some d =>
    cases d with
    | struct fs' =>
      refine ⟨fs', rfl, fun i o u hi => ?_⟩
      simp only [hu, dOk, Bool.and_eq_true] at this
      have hlen := Nat.eq_of_beq_eq_true this.1
      have hil : i < fs.length := (List.getElem?_eq_some_iff.1 hi).1
      have hil' : i < fs'.size := by omega
      refine ⟨fs'[i], by simp [hil'], ?_⟩
      have hz : (fs.zip fs'.toList)[i]? = some ((o, u), fs'[i]) := by
        rw [List.getElem?_zip_eq_some]
        exact ⟨hi, by simp [hil']⟩
      have := List.all_eq_true.1 this.2 _ (List.mem_of_getElem? hz)
      simp only [Bool.and_eq_true] at this
      exact ⟨(Nat.eq_of_beq_eq_true this.1).symm, (Nat.eq_of_beq_eq_true this.2).symm⟩
    | _ => simp [hu, dOk] at this
theorem ty_iface (h : (ty t).d = .iface) : ∃ ms, P.underlying t = some (.interface ms) := by
  have := (ty_d (t := t) (by rw [h]; simp)).1
  rw [h] at this
  cases hu : P.underlying t with
  | none => simp [hu, dOk] at this
  | some d => cases d <;> simp [hu, dOk] at this; exact ⟨_, rfl⟩
theorem ty_some (h : (ty t).d ≠ .other) : (P.underlying t).isSome = true := by
  have := (ty_d h).1
  cases hu : P.underlying t with
  | none => cases hd : (ty t).d <;> simp [hu, hd, dOk] at this h
  | some d => rfl
theorem ty_sz (h : (ty t).d ≠ .other) (w : World) : (sizeOf t).run P w = .ok (ty t).sz w := by
  obtain ⟨i, hi, hs, _⟩ := (ty_d h).2
  simp [sizeOf, typeInfo, hi, hs]
end
theorem posAll : tyTab.all (fun t => match t.d with | .other => Nat.beq t.sz 0 | _ => true) = true := by kernel_rfl
theorem ty_pos {t : Nat} (h : (ty t).sz ≠ 0) : (ty t).d ≠ .other := by
  intro hd
  unfold ty at *
  rw [List.getD_eq_getElem?_getD] at *
  cases hx : tyTab[t]? with
  | none => simp [hx] at h
  | some x =>
    simp only [hx, Option.getD_some] at h hd
    have := List.all_eq_true.1 posAll x (List.mem_of_getElem? hx)
    rw [hd] at this
    exact h (Nat.eq_of_beq_eq_true this)
def TyD.agg : TyD → Bool
  | .st _ | .arr _ _ => true
  | _ => false
theorem run_isAgg {t : Nat} (h : (ty t).d ≠ .other) (w : World) : (isAgg t).run P w = .ok (ty t).d.agg w := by
  have h1 := (ty_d h).1
  cases hu : P.underlying t with
  | none => have := ty_some h; simp [hu] at this
  | some d =>
    rw [hu] at h1
    cases hd : (ty t).d with
    | other => exact absurd hd h
    | _ => rw [hd] at h1; cases d <;> simp [dOk] at h1 <;> simp [isAgg, run_underlying hu, TyD.agg]
inductive R where
  | no
  | ok (v : V)
  | cond (φ : Prop) (v : V)
def cv : Value → V
  | .int k n => .c (.i k n)
  | .bool x => .c (.b x)
  | .string x => .c (.s x)
  | .pointer none => .c .np
  | .slice none 0 0 => .c .nsl
  | v => .c (.kv v)
theorem cv_den (X : Ctx) (v : Value) : VDen X (cv v) v := by
  unfold cv
  split
  · exact .c .i
  · exact .c .b
  · exact .c .s
  · exact .c .np
  · exact .c .nsl
  · exact .c .kv
theorem cv_has (v : Value) (nm : Nat) : ¬ (cv v).Has nm := by
  unfold cv
  split <;> (intro h; cases h with | c h => exact h)
def rd (e : Nat → Option V) : Operand → Option V
  | .tmp t => e t
  | .const v => some (cv v)
  | _ => none
def binI (op : BinOp) (k k' : IntKind) (x y : Int) : R :=
  match op with
  | .shl => .cond (0 ≤ y) (.c (.i k (k.wrap (x * 2 ^ (min y.toNat k.bits)))))
  | .shr => .cond (0 ≤ y) (.c (.i k (x.fdiv (2 ^ (min y.toNat k.bits)))))
  | op => bif kEq k k' then
      match op with
      | .add => .ok (.c (.i k (k.wrap (x + y))))
      | .sub => .ok (.c (.i k (k.wrap (x - y))))
      | .mul => .ok (.c (.i k (k.wrap (x * y))))
      | .quo => .cond (y ≠ 0) (.c (.i k (k.wrap (x.tdiv y))))
      | .rem => .cond (y ≠ 0) (.c (.i k (x.tmod y)))
      | .and => .ok (.c (.i k (bits .and k x y)))
      | .or => .ok (.c (.i k (bits .or k x y)))
      | .xor => .ok (.c (.i k (bits .xor k x y)))
      | .andNot => .ok (.c (.i k (bits .andNot k x y)))
      | .eql => .ok (.c (.b (x == y)))
      | .neq => .ok (.c (.b (x != y)))
      | .lss => .ok (.c (.b (decide (x < y))))
      | .leq => .ok (.c (.b (decide (x ≤ y))))
      | .gtr => .ok (.c (.b (decide (x > y))))
      | .geq => .ok (.c (.b (decide (x ≥ y))))
      | _ => .no
    else .no
def isConst : Operand → Bool
  | .const _ => true
  | _ => false
def binC (op : BinOp) (t : Nat) (y : Operand) : C → C → R
  | .i k x, .i k' z => binI op k k' x z
  | .b x, .b z => match (ty t).d, op with
    | .bool, .eql => .ok (.c (.b (x == z)))
    | .bool, .neq => .ok (.c (.b (!(x == z))))
    | _, _ => .no
  | .s x, .s z => match op with
    | .add => .cond (x.size + z.size ≤ 9223372036854775807) (.c (.s (x ++ z)))
    | .eql => .ok (.c (.b (x.toList == z.toList)))
    | .neq => .ok (.c (.b (!(x.toList == z.toList))))
    | _ => .no
  | .p _ _, .np => match (ty t).d, op with
    | .ptr _, .eql => .ok (.c (.b false))
    | .ptr _, .neq => .ok (.c (.b true))
    | _, _ => .no
  | .np, .np => match (ty t).d, op with
    | .ptr _, .eql => .ok (.c (.b true))
    | .ptr _, .neq => .ok (.c (.b false))
    | _, _ => .no
  | .nsl, .nsl => match (ty t).d, op with
    | .slice _, .eql => .ok (.c (.b true))
    | .slice _, .neq => .ok (.c (.b false))
    | _, _ => .no
  | .sl _ _ len _, .nsl => match (ty t).d, op with
    | .slice _, .eql => .cond (0 < len) (.c (.b false))
    | .slice _, .neq => .cond (0 < len) (.c (.b true))
    | _, _ => .no
  | .kv .nilIface, .kv .nilIface => match (isConst y), (ty t).d, op with
    | true, .iface, .neq => .ok (.c (.b false))
    | true, .iface, .eql => .ok (.c (.b true))
    | _, _, _ => .no
  | _, _ => .no
def fieldOf (s f : Nat) : Option (Nat × Nat) :=
  match (ty s).d with
  | .st fs => fs[f]?
  | _ => none
def partOf (t : Nat) (cs : List C) (off : Nat) : R :=
  match (ty t).d with
  | .st _ | .arr _ _ => bif Nat.ble (off + (ty t).sz) cs.length then .ok (.ag ((cs.drop off).take (ty t).sz)) else .no
  | .other => .no
  | _ => match cs[off]? with
    | some c => .ok (.c c)
    | none => .no
def mulSz (e off n : Nat) : Option Nat :=
  match (ty e).sz with
  | 0 => none
  | 1 => some (off + n)
  | s + 2 => some (off + n * (s + 2))
def idxC (t : Nat) (x : C) (n : Int) : R :=
  match (ty t).d, x with
  | .slice e, .sl nm off len _ => match mulSz e off n.toNat with
    | some o => .cond (0 ≤ n ∧ n < len) (.c (.p nm o))
    | none => .no
  | .slice e, .osl nm len => match mulSz e 0 n.toNat with
    | some o => .cond (0 ≤ n ∧ n < len) (.c (.p nm o))
    | none => .no
  | .slice e, .is k xs => bif Nat.beq (ty e).sz 1 then .cond (0 ≤ n ∧ n < xs.length) (.c (.ca (.i k (xs.getD n.toNat 0)))) else .no
  | .slice e, .ibs xs => bif Nat.beq (ty e).sz 1 then .cond (0 ≤ n ∧ n < xs.length) (.c (.ca (.b (xs.getD n.toNat false)))) else .no
  | .slice e, .iss k xss => bif Nat.beq (ty e).sz 1 then .cond (0 ≤ n ∧ n < xss.length) (.c (.ca (.is k (xss.getD n.toNat [])))) else .no
  | .slice e, .irs (sz + 1) rs => bif Nat.beq (ty e).sz (sz + 1) then .cond (0 ≤ n ∧ n < rs.length) (.c (.ra (rs.getD n.toNat []))) else .no
  | .arr m e, .p nm off => match mulSz e off n.toNat with
    | some o => .cond (0 ≤ n ∧ n < m) (.c (.p nm o))
    | none => .no
  | _, _ => .no
def bound (ρ : Operand → Option V) (d : Int) : Option Operand → Option Int
  | none => some d
  | some x => match ρ x with
    | some (.c (.i _ n)) => some n
    | _ => none
def sliceC (t : Nat) (x : C) (lo hi : Option Operand) (ρ : Operand → Option V) : R :=
  match (ty t).d, x with
  | .slice e, .sl nm off len cap => match bound ρ 0 lo, bound ρ len hi with
    | some l, some h => match lo with
      | none => match (ty e).sz with
        | 0 => .no
        | _ + 1 => .cond (0 ≤ h ∧ h ≤ cap) (.c (.sl nm off h.toNat cap))
      | some _ => match mulSz e off l.toNat with
        | some o => .cond (0 ≤ l ∧ l ≤ h ∧ h ≤ cap ∧ l < cap) (.c (.sl nm o (h.toNat - l.toNat) (cap - l.toNat)))
        | none => .no
    | _, _ => .no
  | .slice e, .is k xs => bif Nat.beq (ty e).sz 1 then match bound ρ 0 lo, bound ρ xs.length hi with
    | some l, some h => .cond (0 ≤ l ∧ l ≤ h ∧ h ≤ xs.length) (.c (.is k ((xs.take h.toNat).drop l.toNat)))
    | _, _ => .no
    else .no
  | .slice e, .irs (sz + 1) rs => bif Nat.beq (ty e).sz (sz + 1) then match bound ρ 0 lo, bound ρ rs.length hi with
    | some l, some h => .cond (0 ≤ l ∧ l ≤ h ∧ h ≤ rs.length) (.c (.irs (sz + 1) ((rs.take h.toNat).drop l.toNat)))
    | _, _ => .no
    else .no
  | .arr m e, .p nm off => match bound ρ 0 lo, bound ρ m hi with
    | some l, some h => match lo with
      | none => match (ty e).sz with
        | 0 => .no
        | _ + 1 => .cond (0 ≤ h ∧ h ≤ m) (.c (.sl nm off h.toNat m))
      | some _ => match mulSz e off l.toNat with
        | some o => .cond (0 ≤ l ∧ l ≤ h ∧ h ≤ m ∧ l < m) (.c (.sl nm o (h.toNat - l.toNat) (m - l.toNat)))
        | none => .no
    | _, _ => .no
  | .str, .s s => match bound ρ 0 lo, bound ρ s.size hi with
    | some l, some h => .cond (0 ≤ l ∧ l ≤ h ∧ h ≤ s.size) (.c (.s (s.extract l.toNat h.toNat)))
    | _, _ => .no
  | _, _ => .no
def lenC (t : Nat) : C → Option Int
  | .sl _ _ len _ => match (ty t).d with | .slice _ => some len | _ => none
  | .osl _ len => match (ty t).d with | .slice _ => some len | _ => none
  | .nsl => match (ty t).d with | .slice _ => some 0 | _ => none
  | .is _ xs => match (ty t).d with | .slice _ => some xs.length | _ => none
  | .ibs xs => match (ty t).d with | .slice _ => some xs.length | _ => none
  | .iss _ xs => match (ty t).d with | .slice _ => some xs.length | _ => none
  | .irs _ xs => match (ty t).d with | .slice _ => some xs.length | _ => none
  | .s x => match (ty t).d with | .str => some x.size | _ => none
  | _ => none
def builtinV (b : Builtin) (ts : Array TypeId) (args : List V) : R :=
  match b, ts.toList, args with
  | .len, [t], [.c x] => match lenC t x with
    | some n => .ok (.c (.i .i64 n))
    | none => .no
  | .cap, [t], [.c (.sl _ _ _ cap)] => match (ty t).d with
    | .slice _ => .ok (.c (.i .i64 cap))
    | _ => .no
  | .cap, [t], [.c .nsl] => match (ty t).d with
    | .slice _ => .ok (.c (.i .i64 0))
    | _ => .no
  | .min, _, [.c (.i k x), .c (.i _ y)] => .ok (.c (.i k (if y < x then y else x)))
  | .max, _, [.c (.i k x), .c (.i _ y)] => .ok (.c (.i k (if y > x then y else x)))
  | _, _, _ => .no
def rds (ρ : Operand → Option V) : List Operand → Option (List V)
  | [] => some []
  | x :: r => match ρ x with
    | some v => match rds ρ r with
      | some vs => some (v :: vs)
      | none => none
    | none => none
def pureV (op : Op) (ρ : Operand → Option V) : R :=
  match op with
  | .move x | .assign x => match ρ x with
    | some v => .ok v
    | none => .no
  | .pick c a b => match ρ c with
    | some (.c (.b x)) => match x with
      | true => match ρ a with | some v => .ok v | none => .no
      | false => match ρ b with | some v => .ok v | none => .no
    | _ => .no
  | .nilCheck x => match ρ x with
    | some (.c (.p nm off)) => .ok (.c (.p nm off))
    | some (.c (.ca c)) => .ok (.c (.ca c))
    | some (.c (.ra cs)) => .ok (.c (.ra cs))
    | _ => .no
  | .binOp op t x y _ => match ρ x with
    | some (.c a) => match ρ y with
      | some (.c b) => binC op t y a b
      | _ => .no
    | _ => .no
  | .unOp op _ x => match ρ x with
    | some (.c (.i k n)) => match op with
      | .neg => .ok (.c (.i k (k.wrap (0 - n))))
      | _ => .no
    | some (.c (.b x)) => match op with
      | .not => .ok (.c (.b (!x)))
      | _ => .no
    | _ => .no
  | .convert src dst x => match ρ x with
    | some (.c (.i _ n)) => match (ty src).d, (ty dst).d with
      | .int _, .int k => .ok (.c (.i k (k.wrap n)))
      | _, _ => .no
    | _ => .no
  | .fieldAddr s x f => match fieldOf s f with
    | some (o, t) => match (ty t).sz with
      | 0 => .no
      | _ + 1 => match ρ x with
        | some (.c (.p nm off)) => .ok (.c (.p nm (off + o)))
        | some (.c (.ra cs)) => match (ty t).d.agg, cs[o]? with
          | false, some c => .ok (.c (.ca c))
          | _, _ => .no
        | _ => .no
    | none => .no
  | .field s x f => match fieldOf s f with
    | some (o, t) => match ρ x with
      | some (.ag cs) => partOf t cs o
      | _ => .no
    | none => .no
  | .indexAddr t x ix => match ρ x with
    | some (.c a) => match ρ ix with
      | some (.c (.i _ n)) => idxC t a n
      | _ => .no
    | _ => .no
  | .index t x ix => match ρ x with
    | some (.c (.s s)) => match ρ ix with
      | some (.c (.i _ n)) => match (ty t).d with
        | .str => .cond (0 ≤ n ∧ n < s.size) (.c (.i .u8 (s.data.getD n.toNat 0).toNat))
        | _ => .no
      | _ => .no
    | _ => .no
  | .slice t x lo hi none => match ρ x with
    | some (.c a) => sliceC t a lo hi ρ
    | _ => .no
  | .extract x i => match ρ x with
    | some (.tu vs) => match vs[i]? with
      | some v => .ok v
      | none => .no
    | _ => .no
  | .load t x => match ρ x with
    | some (.c (.ca c)) => match (ty t).d.agg, (ty t).d with
      | _, .other => .no
      | false, _ => .ok (.c c)
      | true, _ => .no
    | some (.c (.ra cs)) => match (ty t).d.agg with
      | true => .cond (cs.length = (ty t).sz) (.ag cs)
      | false => .no
    | _ => .no
  | .call c => match c.callee with
    | .builtin b => match rds ρ c.args.toList with
      | some vs => builtinV b c.argTypes vs
      | none => .no
    | _ => .no
  | _ => .no
end Go.SX
