/- The program's table of types, as short lists. -/
import Derived.Test.YteepnepebilckaaE1
import Derived.Test.YteepnepebilckaaProg
namespace Go.Proofs.Yteepnepebilckaa
open Go Go.Eng
noncomputable instance : Tab Try.prog where
  one := [1, 2, 3, 4, 5, 6, 9, 10, 11, 12, 15, 16, 17, 20, 21, 22, 23, 26, 27, 28, 29, 32, 33, 34, 39, 40, 41, 42, 43, 44, 45, 46, 47, 48, 49, 51, 52, 54, 55, 56, 59, 60, 61, 62, 63, 64, 65, 68, 69, 70, 71, 73, 74, 75, 76, 77, 78, 79, 80, 81, 82, 87, 88, 91, 92, 93, 94, 100, 101, 102, 103, 104, 105, 106, 107, 108, 109, 110, 111, 112, 113, 114, 115, 116, 117, 118, 119, 120, 121, 122, 123, 126, 127, 133, 134, 135, 136, 137, 138, 139, 142, 144, 145, 146, 147]
  agg := [(7, 4), (8, 4), (13, 2), (14, 2), (18, 1), (19, 1), (24, 2), (25, 2), (30, 2), (31, 2), (35, 4), (36, 4), (37, 4), (38, 4), (50, 4), (53, 4), (57, 2), (58, 2), (66, 4), (67, 4), (83, 8), (84, 8), (89, 6), (90, 6), (96, 7), (97, 7), (98, 1), (99, 1), (124, 2), (125, 2), (128, 4), (129, 4), (140, 11), (141, 11)]
  fld := [(7, 0, 0), (7, 1, 1), (7, 2, 2), (7, 3, 3), (8, 0, 0), (8, 1, 1), (8, 2, 2), (8, 3, 3), (13, 0, 0), (13, 1, 1), (14, 0, 0), (14, 1, 1), (18, 0, 0), (19, 0, 0), (24, 0, 0), (24, 1, 1), (25, 0, 0), (25, 1, 1), (30, 0, 0), (30, 1, 1), (31, 0, 0), (31, 1, 1), (35, 0, 0), (35, 1, 1), (35, 2, 2), (35, 3, 3), (36, 0, 0), (36, 1, 1), (36, 2, 2), (36, 3, 3), (37, 0, 0), (37, 1, 1), (37, 2, 2), (37, 3, 3), (38, 0, 0), (38, 1, 1), (38, 2, 2), (38, 3, 3), (50, 0, 0), (50, 1, 1), (50, 2, 2), (50, 3, 3), (53, 0, 0), (53, 1, 1), (53, 2, 2), (53, 3, 3), (57, 0, 0), (57, 1, 1), (58, 0, 0), (58, 1, 1), (66, 0, 0), (66, 1, 1), (66, 2, 2), (66, 3, 3), (67, 0, 0), (67, 1, 1), (67, 2, 2), (67, 3, 3), (83, 0, 0), (83, 1, 1), (83, 2, 2), (83, 3, 3), (83, 4, 4), (83, 5, 5), (83, 6, 6), (83, 7, 7), (84, 0, 0), (84, 1, 1), (84, 2, 2), (84, 3, 3), (84, 4, 4), (84, 5, 5), (84, 6, 6), (84, 7, 7), (89, 0, 0), (89, 1, 1), (89, 3, 2), (89, 4, 3), (89, 5, 4), (89, 6, 5), (90, 0, 0), (90, 1, 1), (90, 3, 2), (90, 4, 3), (90, 5, 4), (90, 6, 5), (96, 0, 0), (96, 1, 1), (96, 2, 2), (96, 3, 3), (96, 4, 4), (96, 5, 5), (96, 6, 6), (97, 0, 0), (97, 1, 1), (97, 2, 2), (97, 3, 3), (97, 4, 4), (97, 5, 5), (97, 6, 6), (98, 0, 0), (99, 0, 0), (124, 0, 0), (124, 1, 1), (125, 0, 0), (125, 1, 1), (128, 0, 0), (128, 1, 1), (128, 2, 2), (128, 3, 3), (129, 0, 0), (129, 1, 1), (129, 2, 2), (129, 3, 3), (140, 0, 0), (140, 1, 1), (140, 2, 2), (140, 3, 3), (140, 4, 4), (140, 5, 5), (140, 6, 6), (140, 7, 7), (140, 8, 8), (140, 9, 9), (140, 10, 10), (141, 0, 0), (141, 1, 1), (141, 2, 2), (141, 3, 3), (141, 4, 4), (141, 5, 5), (141, 6, 6), (141, 7, 7), (141, 8, 8), (141, 9, 9), (141, 10, 10)]
  sl := [(22, 4), (23, 4), (28, 4), (29, 4), (34, 1), (39, 1), (43, 1), (46, 1), (48, 1), (55, 4), (56, 4), (74, 1), (81, 1), (82, 1), (116, 1), (123, 1)]
  ptr := [15, 17, 68, 76, 93, 113, 137]
  ints := [(2, .i64), (3, .i64), (5, .u8), (6, .u8), (12, .u64), (21, .i32), (77, .i32), (78, .i64), (79, .i8), (80, .i8), (91, .i64), (92, .i64), (133, .u32), (134, .u8), (135, .u8), (138, .i32), (139, .i32), (147, .u64)]
  hone := by kernel_rfl
  hagg := by kernel_rfl
  hfld := by kernel_rfl
  hsl := by kernel_rfl
  hptr := by kernel_rfl
  hints := by kernel_rfl
theorem info2 : (Try.prog.info? 2).map (fun i => (i.zero, i.size, i.bytes)) = some (some (.int .i64 0), 1, 8) := by kernel_rfl
theorem info3 : (Try.prog.info? 3).map (fun i => (i.zero, i.size, i.bytes)) = some (some (.int .i64 0), 1, 8) := by kernel_rfl
theorem info4 : (Try.prog.info? 4).map (fun i => (i.zero, i.size, i.bytes)) = some (some (.bool false), 1, 1) := by kernel_rfl
theorem info7 : (Try.prog.info? 7).map (fun i => (i.zero, i.size, i.bytes)) = some (some (.agg #[.int .i64 0, .int .i64 0, .bool false, .int .u8 0]), 4, 24) := by kernel_rfl
theorem info8 : (Try.prog.info? 8).map (fun i => (i.zero, i.size, i.bytes)) = some (some (.agg #[.int .i64 0, .int .i64 0, .bool false, .int .u8 0]), 4, 24) := by kernel_rfl
theorem info13 : (Try.prog.info? 13).map (fun i => (i.zero, i.size, i.bytes)) = some (some (.agg #[.string ByteArray.empty, .int .u64 0]), 2, 24) := by kernel_rfl
theorem info14 : (Try.prog.info? 14).map (fun i => (i.zero, i.size, i.bytes)) = some (some (.agg #[.string ByteArray.empty, .int .u64 0]), 2, 24) := by kernel_rfl
theorem info18 : (Try.prog.info? 18).map (fun i => (i.zero, i.size, i.bytes)) = some (some (.agg #[.pointer none]), 1, 8) := by kernel_rfl
theorem info19 : (Try.prog.info? 19).map (fun i => (i.zero, i.size, i.bytes)) = some (some (.agg #[.pointer none]), 1, 8) := by kernel_rfl
theorem info21 : (Try.prog.info? 21).map (fun i => (i.zero, i.size, i.bytes)) = some (some (.int .i32 0), 1, 4) := by kernel_rfl
theorem info24 : (Try.prog.info? 24).map (fun i => (i.zero, i.size, i.bytes)) = some (some (.agg #[.slice none 0 0, .slice none 0 0]), 2, 48) := by kernel_rfl
theorem info25 : (Try.prog.info? 25).map (fun i => (i.zero, i.size, i.bytes)) = some (some (.agg #[.slice none 0 0, .slice none 0 0]), 2, 48) := by kernel_rfl
theorem info30 : (Try.prog.info? 30).map (fun i => (i.zero, i.size, i.bytes)) = some (some (.agg #[.slice none 0 0, .slice none 0 0]), 2, 48) := by kernel_rfl
theorem info31 : (Try.prog.info? 31).map (fun i => (i.zero, i.size, i.bytes)) = some (some (.agg #[.slice none 0 0, .slice none 0 0]), 2, 48) := by kernel_rfl
theorem info34 : (Try.prog.info? 34).map (fun i => (i.zero, i.size, i.bytes)) = some (some (.slice none 0 0), 1, 24) := by kernel_rfl
theorem info35 : (Try.prog.info? 35).map (fun i => (i.zero, i.size, i.bytes)) = some (some (.agg #[.int .i64 0, .int .i64 0, .slice none 0 0, .int .i64 0]), 4, 48) := by kernel_rfl
theorem info36 : (Try.prog.info? 36).map (fun i => (i.zero, i.size, i.bytes)) = some (some (.agg #[.int .i64 0, .int .i64 0, .slice none 0 0, .int .i64 0]), 4, 48) := by kernel_rfl
theorem info37 : (Try.prog.info? 37).map (fun i => (i.zero, i.size, i.bytes)) = some (some (.agg #[.int .i64 0, .int .i64 0, .slice none 0 0, .int .i64 0]), 4, 48) := by kernel_rfl
theorem info38 : (Try.prog.info? 38).map (fun i => (i.zero, i.size, i.bytes)) = some (some (.agg #[.int .i64 0, .int .i64 0, .slice none 0 0, .int .i64 0]), 4, 48) := by kernel_rfl
theorem info43 : (Try.prog.info? 43).map (fun i => (i.zero, i.size, i.bytes)) = some (some (.slice none 0 0), 1, 24) := by kernel_rfl
theorem info50 : (Try.prog.info? 50).map (fun i => (i.zero, i.size, i.bytes)) = some (some (.agg #[.int .i64 0, .int .i64 0, .slice none 0 0, .int .i64 0]), 4, 48) := by kernel_rfl
theorem info53 : (Try.prog.info? 53).map (fun i => (i.zero, i.size, i.bytes)) = some (some (.agg #[.int .i64 0, .int .i64 0, .slice none 0 0, .int .i64 0]), 4, 48) := by kernel_rfl
theorem info57 : (Try.prog.info? 57).map (fun i => (i.zero, i.size, i.bytes)) = some (some (.agg #[.slice none 0 0, .slice none 0 0]), 2, 48) := by kernel_rfl
theorem info58 : (Try.prog.info? 58).map (fun i => (i.zero, i.size, i.bytes)) = some (some (.agg #[.slice none 0 0, .slice none 0 0]), 2, 48) := by kernel_rfl
theorem info66 : (Try.prog.info? 66).map (fun i => (i.zero, i.size, i.bytes)) = some (some (.agg #[.int .i64 0, .int .i64 0, .slice none 0 0, .int .i64 0]), 4, 48) := by kernel_rfl
theorem info67 : (Try.prog.info? 67).map (fun i => (i.zero, i.size, i.bytes)) = some (some (.agg #[.int .i64 0, .int .i64 0, .slice none 0 0, .int .i64 0]), 4, 48) := by kernel_rfl
theorem info76 : (Try.prog.info? 76).map (fun i => (i.zero, i.size, i.bytes)) = some (some (.pointer none), 1, 8) := by kernel_rfl
theorem info77 : (Try.prog.info? 77).map (fun i => (i.zero, i.size, i.bytes)) = some (some (.int .i32 0), 1, 4) := by kernel_rfl
theorem info83 : (Try.prog.info? 83).map (fun i => (i.zero, i.size, i.bytes)) = some (some (.agg #[.int .i32 0, .int .i64 0, .int .i8 0, .slice none 0 0, .slice none 0 0, .slice none 0 0, .slice none 0 0, .pointer none]), 8, 128) := by kernel_rfl
theorem info84 : (Try.prog.info? 84).map (fun i => (i.zero, i.size, i.bytes)) = some (some (.agg #[.int .i32 0, .int .i64 0, .int .i8 0, .slice none 0 0, .slice none 0 0, .slice none 0 0, .slice none 0 0, .pointer none]), 8, 128) := by kernel_rfl
theorem info89 : (Try.prog.info? 89).map (fun i => (i.zero, i.size, i.bytes)) = some (some (.agg #[.pointer none, .slice none 0 0, .slice none 0 0, .map none, .bool false, .slice none 0 0]), 6, 96) := by kernel_rfl
theorem info90 : (Try.prog.info? 90).map (fun i => (i.zero, i.size, i.bytes)) = some (some (.agg #[.pointer none, .slice none 0 0, .slice none 0 0, .map none, .bool false, .slice none 0 0]), 6, 96) := by kernel_rfl
theorem info93 : (Try.prog.info? 93).map (fun i => (i.zero, i.size, i.bytes)) = some (some (.pointer none), 1, 8) := by kernel_rfl
theorem info96 : (Try.prog.info? 96).map (fun i => (i.zero, i.size, i.bytes)) = some (some (.agg #[.int .i32 0, .int .i64 0, .int .i64 0, .int .i64 0, .pointer none, .slice none 0 0, .pointer none]), 7, 80) := by kernel_rfl
theorem info97 : (Try.prog.info? 97).map (fun i => (i.zero, i.size, i.bytes)) = some (some (.agg #[.int .i32 0, .int .i64 0, .int .i64 0, .int .i64 0, .pointer none, .slice none 0 0, .pointer none]), 7, 80) := by kernel_rfl
theorem info98 : (Try.prog.info? 98).map (fun i => (i.zero, i.size, i.bytes)) = some (some (.agg #[.pointer none]), 1, 8) := by kernel_rfl
theorem info99 : (Try.prog.info? 99).map (fun i => (i.zero, i.size, i.bytes)) = some (some (.agg #[.pointer none]), 1, 8) := by kernel_rfl
theorem info124 : (Try.prog.info? 124).map (fun i => (i.zero, i.size, i.bytes)) = some (some (.agg #[.slice none 0 0, .slice none 0 0]), 2, 48) := by kernel_rfl
theorem info125 : (Try.prog.info? 125).map (fun i => (i.zero, i.size, i.bytes)) = some (some (.agg #[.slice none 0 0, .slice none 0 0]), 2, 48) := by kernel_rfl
theorem info128 : (Try.prog.info? 128).map (fun i => (i.zero, i.size, i.bytes)) = some (some (.agg #[.pointer none, .pointer none, .pointer none, .string ByteArray.empty]), 4, 40) := by kernel_rfl
theorem info129 : (Try.prog.info? 129).map (fun i => (i.zero, i.size, i.bytes)) = some (some (.agg #[.pointer none, .pointer none, .pointer none, .string ByteArray.empty]), 4, 40) := by kernel_rfl
theorem info140 : (Try.prog.info? 140).map (fun i => (i.zero, i.size, i.bytes)) = some (some (.agg #[.int .u64 0, .int .u64 0, .int .u32 0, .int .u8 0, .int .u8 0, .int .u8 0, .int .u8 0, .nilFunc, .pointer none, .int .i32 0, .int .i32 0]), 11, 48) := by kernel_rfl
theorem info141 : (Try.prog.info? 141).map (fun i => (i.zero, i.size, i.bytes)) = some (some (.agg #[.int .u64 0, .int .u64 0, .int .u32 0, .int .u8 0, .int .u8 0, .int .u8 0, .int .u8 0, .nilFunc, .pointer none, .int .i32 0, .int .i32 0]), 11, 48) := by kernel_rfl

end Go.Proofs.Yteepnepebilckaa
