/- Closed facts on the loaded program's tables. -/
import Derived.Test.YtaflcjoagfnhfaaGreatDoorE
import Derived.Test.YtaflcjoagfnhfaaGreatDoorProg
import Derived.KernelRfl
namespace Go.Proofs.YtaflcjoagfnhfaaGreatDoor
namespace V
open Go Go.Proofs

theorem mixed : Tryz.prog.follows .mixedOrders = true := by kernel_rfl

theorem fa31_0 (g : Nat) (w : World) : (Instr.fieldAt 31 (.pointer (some ⟨g, 0, none⟩)) 0).run Tryz.prog w = .ok (.pointer (some ⟨g, 0, none⟩)) w := by kernel_rfl
theorem fa31_1 (g : Nat) (w : World) : (Instr.fieldAt 31 (.pointer (some ⟨g, 0, none⟩)) 1).run Tryz.prog w = .ok (.pointer (some ⟨g, 1, none⟩)) w := by kernel_rfl
theorem fa31_2 (g : Nat) (w : World) : (Instr.fieldAt 31 (.pointer (some ⟨g, 0, none⟩)) 2).run Tryz.prog w = .ok (.pointer (some ⟨g, 2, none⟩)) w := by kernel_rfl
theorem fa31_3 (g : Nat) (w : World) : (Instr.fieldAt 31 (.pointer (some ⟨g, 0, none⟩)) 3).run Tryz.prog w = .ok (.pointer (some ⟨g, 3, none⟩)) w := by kernel_rfl
theorem fa33_0 (g : Nat) (w : World) : (Instr.fieldAt 33 (.pointer (some ⟨g, 0, none⟩)) 0).run Tryz.prog w = .ok (.pointer (some ⟨g, 0, none⟩)) w := by kernel_rfl
theorem fa33_1 (g : Nat) (w : World) : (Instr.fieldAt 33 (.pointer (some ⟨g, 0, none⟩)) 1).run Tryz.prog w = .ok (.pointer (some ⟨g, 1, none⟩)) w := by kernel_rfl
theorem fa33_2 (g : Nat) (w : World) : (Instr.fieldAt 33 (.pointer (some ⟨g, 0, none⟩)) 2).run Tryz.prog w = .ok (.pointer (some ⟨g, 2, none⟩)) w := by kernel_rfl
theorem fa33_3 (g : Nat) (w : World) : (Instr.fieldAt 33 (.pointer (some ⟨g, 0, none⟩)) 3).run Tryz.prog w = .ok (.pointer (some ⟨g, 3, none⟩)) w := by kernel_rfl
theorem fa33_4 (g : Nat) (w : World) : (Instr.fieldAt 33 (.pointer (some ⟨g, 0, none⟩)) 4).run Tryz.prog w = .ok (.pointer (some ⟨g, 4, none⟩)) w := by kernel_rfl
theorem fa33_5 (g : Nat) (w : World) : (Instr.fieldAt 33 (.pointer (some ⟨g, 0, none⟩)) 5).run Tryz.prog w = .ok (.pointer (some ⟨g, 5, none⟩)) w := by kernel_rfl
theorem fa33_6 (g : Nat) (w : World) : (Instr.fieldAt 33 (.pointer (some ⟨g, 0, none⟩)) 6).run Tryz.prog w = .ok (.pointer (some ⟨g, 6, none⟩)) w := by kernel_rfl
theorem fa33_7 (g : Nat) (w : World) : (Instr.fieldAt 33 (.pointer (some ⟨g, 0, none⟩)) 7).run Tryz.prog w = .ok (.pointer (some ⟨g, 7, none⟩)) w := by kernel_rfl
theorem fa33_8 (g : Nat) (w : World) : (Instr.fieldAt 33 (.pointer (some ⟨g, 0, none⟩)) 8).run Tryz.prog w = .ok (.pointer (some ⟨g, 8, none⟩)) w := by kernel_rfl
theorem fa33_9 (g : Nat) (w : World) : (Instr.fieldAt 33 (.pointer (some ⟨g, 0, none⟩)) 9).run Tryz.prog w = .ok (.pointer (some ⟨g, 9, none⟩)) w := by kernel_rfl
theorem fa33_10 (g : Nat) (w : World) : (Instr.fieldAt 33 (.pointer (some ⟨g, 0, none⟩)) 10).run Tryz.prog w = .ok (.pointer (some ⟨g, 10, none⟩)) w := by kernel_rfl
theorem fa39_0 (g : Nat) (w : World) : (Instr.fieldAt 39 (.pointer (some ⟨g, 0, none⟩)) 0).run Tryz.prog w = .ok (.pointer (some ⟨g, 0, none⟩)) w := by kernel_rfl
theorem fa39_1 (g : Nat) (w : World) : (Instr.fieldAt 39 (.pointer (some ⟨g, 0, none⟩)) 1).run Tryz.prog w = .ok (.pointer (some ⟨g, 1, none⟩)) w := by kernel_rfl
theorem fa39_2 (g : Nat) (w : World) : (Instr.fieldAt 39 (.pointer (some ⟨g, 0, none⟩)) 2).run Tryz.prog w = .ok (.pointer (some ⟨g, 2, none⟩)) w := by kernel_rfl
theorem fa48_0 (g : Nat) (w : World) : (Instr.fieldAt 48 (.pointer (some ⟨g, 0, none⟩)) 0).run Tryz.prog w = .ok (.pointer (some ⟨g, 0, none⟩)) w := by kernel_rfl
theorem fa48_1 (g : Nat) (w : World) : (Instr.fieldAt 48 (.pointer (some ⟨g, 0, none⟩)) 1).run Tryz.prog w = .ok (.pointer (some ⟨g, 1, none⟩)) w := by kernel_rfl
theorem fa48_2 (g : Nat) (w : World) : (Instr.fieldAt 48 (.pointer (some ⟨g, 0, none⟩)) 2).run Tryz.prog w = .ok (.pointer (some ⟨g, 2, none⟩)) w := by kernel_rfl
theorem fa48_3 (g : Nat) (w : World) : (Instr.fieldAt 48 (.pointer (some ⟨g, 0, none⟩)) 3).run Tryz.prog w = .ok (.pointer (some ⟨g, 3, none⟩)) w := by kernel_rfl
theorem fa64_0 (g : Nat) (w : World) : (Instr.fieldAt 64 (.pointer (some ⟨g, 0, none⟩)) 0).run Tryz.prog w = .ok (.pointer (some ⟨g, 0, none⟩)) w := by kernel_rfl
theorem fa64_1 (g : Nat) (w : World) : (Instr.fieldAt 64 (.pointer (some ⟨g, 0, none⟩)) 1).run Tryz.prog w = .ok (.pointer (some ⟨g, 1, none⟩)) w := by kernel_rfl
theorem fa64_2 (g : Nat) (w : World) : (Instr.fieldAt 64 (.pointer (some ⟨g, 0, none⟩)) 2).run Tryz.prog w = .ok (.pointer (some ⟨g, 2, none⟩)) w := by kernel_rfl
theorem fa80_0 (g : Nat) (w : World) : (Instr.fieldAt 80 (.pointer (some ⟨g, 0, none⟩)) 0).run Tryz.prog w = .ok (.pointer (some ⟨g, 0, none⟩)) w := by kernel_rfl
theorem fa80_1 (g : Nat) (w : World) : (Instr.fieldAt 80 (.pointer (some ⟨g, 0, none⟩)) 1).run Tryz.prog w = .ok (.pointer (some ⟨g, 1, none⟩)) w := by kernel_rfl
theorem fa80_2 (g : Nat) (w : World) : (Instr.fieldAt 80 (.pointer (some ⟨g, 0, none⟩)) 2).run Tryz.prog w = .ok (.pointer (some ⟨g, 2, none⟩)) w := by kernel_rfl
theorem fa80_3 (g : Nat) (w : World) : (Instr.fieldAt 80 (.pointer (some ⟨g, 0, none⟩)) 3).run Tryz.prog w = .ok (.pointer (some ⟨g, 6, none⟩)) w := by kernel_rfl
theorem fa80_4 (g : Nat) (w : World) : (Instr.fieldAt 80 (.pointer (some ⟨g, 0, none⟩)) 4).run Tryz.prog w = .ok (.pointer (some ⟨g, 7, none⟩)) w := by kernel_rfl
theorem fa80_5 (g : Nat) (w : World) : (Instr.fieldAt 80 (.pointer (some ⟨g, 0, none⟩)) 5).run Tryz.prog w = .ok (.pointer (some ⟨g, 8, none⟩)) w := by kernel_rfl
theorem fa80_6 (g : Nat) (w : World) : (Instr.fieldAt 80 (.pointer (some ⟨g, 0, none⟩)) 6).run Tryz.prog w = .ok (.pointer (some ⟨g, 9, none⟩)) w := by kernel_rfl
theorem fa124_0 (g : Nat) (w : World) : (Instr.fieldAt 124 (.pointer (some ⟨g, 0, none⟩)) 0).run Tryz.prog w = .ok (.pointer (some ⟨g, 0, none⟩)) w := by kernel_rfl
theorem fa124_1 (g : Nat) (w : World) : (Instr.fieldAt 124 (.pointer (some ⟨g, 0, none⟩)) 1).run Tryz.prog w = .ok (.pointer (some ⟨g, 1, none⟩)) w := by kernel_rfl
theorem fa128_0 (g : Nat) (w : World) : (Instr.fieldAt 128 (.pointer (some ⟨g, 0, none⟩)) 0).run Tryz.prog w = .ok (.pointer (some ⟨g, 0, none⟩)) w := by kernel_rfl
theorem fa128_1 (g : Nat) (w : World) : (Instr.fieldAt 128 (.pointer (some ⟨g, 0, none⟩)) 1).run Tryz.prog w = .ok (.pointer (some ⟨g, 1, none⟩)) w := by kernel_rfl
theorem fb48_0 (g : Nat) (w : World) : (Instr.fieldAt 48 (.pointer (some ⟨g, 2, none⟩)) 0).run Tryz.prog w = .ok (.pointer (some ⟨g, 2, none⟩)) w := by kernel_rfl
theorem fb48_1 (g : Nat) (w : World) : (Instr.fieldAt 48 (.pointer (some ⟨g, 2, none⟩)) 1).run Tryz.prog w = .ok (.pointer (some ⟨g, 3, none⟩)) w := by kernel_rfl
theorem fb48_2 (g : Nat) (w : World) : (Instr.fieldAt 48 (.pointer (some ⟨g, 2, none⟩)) 2).run Tryz.prog w = .ok (.pointer (some ⟨g, 4, none⟩)) w := by kernel_rfl
theorem fb48_3 (g : Nat) (w : World) : (Instr.fieldAt 48 (.pointer (some ⟨g, 2, none⟩)) 3).run Tryz.prog w = .ok (.pointer (some ⟨g, 5, none⟩)) w := by kernel_rfl
theorem sz3 : (Tryz.prog.info? 3).map (·.size) = some 1 := by kernel_rfl
theorem sz2 : (Tryz.prog.info? 2).map (·.size) = some 1 := by kernel_rfl
theorem sz4 : (Tryz.prog.info? 4).map (·.size) = some 1 := by kernel_rfl
theorem sz5 : (Tryz.prog.info? 5).map (·.size) = some 1 := by kernel_rfl
theorem sz9 : (Tryz.prog.info? 9).map (·.size) = some 1 := by kernel_rfl
theorem sz22 : (Tryz.prog.info? 22).map (·.size) = some 1 := by kernel_rfl
theorem sz23 : (Tryz.prog.info? 23).map (·.size) = some 1 := by kernel_rfl
theorem sz26 : (Tryz.prog.info? 26).map (·.size) = some 1 := by kernel_rfl
theorem sz31 : (Tryz.prog.info? 31).map (·.size) = some 4 := by kernel_rfl
theorem sz33 : (Tryz.prog.info? 33).map (·.size) = some 11 := by kernel_rfl
theorem sz35 : (Tryz.prog.info? 35).map (·.size) = some 1 := by kernel_rfl
theorem sz39 : (Tryz.prog.info? 39).map (·.size) = some 4 := by kernel_rfl
theorem sz43 : (Tryz.prog.info? 43).map (·.size) = some 1 := by kernel_rfl
theorem sz45 : (Tryz.prog.info? 45).map (·.size) = some 1 := by kernel_rfl
theorem sz46 : (Tryz.prog.info? 46).map (·.size) = some 1 := by kernel_rfl
theorem sz48 : (Tryz.prog.info? 48).map (·.size) = some 4 := by kernel_rfl
theorem sz50 : (Tryz.prog.info? 50).map (·.size) = some 1 := by kernel_rfl
theorem sz59 : (Tryz.prog.info? 59).map (·.size) = some 1 := by kernel_rfl
theorem sz60 : (Tryz.prog.info? 60).map (·.size) = some 1 := by kernel_rfl
theorem sz64 : (Tryz.prog.info? 64).map (·.size) = some 3 := by kernel_rfl
theorem sz65 : (Tryz.prog.info? 65).map (·.size) = some 1 := by kernel_rfl
theorem sz69 : (Tryz.prog.info? 69).map (·.size) = some 1 := by kernel_rfl
theorem sz70 : (Tryz.prog.info? 70).map (·.size) = some 1 := by kernel_rfl
theorem sz74 : (Tryz.prog.info? 74).map (·.size) = some 1 := by kernel_rfl
theorem sz76 : (Tryz.prog.info? 76).map (·.size) = some 1 := by kernel_rfl
theorem sz77 : (Tryz.prog.info? 77).map (·.size) = some 1 := by kernel_rfl
theorem sz78 : (Tryz.prog.info? 78).map (·.size) = some 1 := by kernel_rfl
theorem sz80 : (Tryz.prog.info? 80).map (·.size) = some 14 := by kernel_rfl
theorem sz82 : (Tryz.prog.info? 82).map (·.size) = some 3 := by kernel_rfl
theorem sz89 : (Tryz.prog.info? 89).map (·.size) = some 1 := by kernel_rfl
theorem sz97 : (Tryz.prog.info? 97).map (·.size) = some 0 := by kernel_rfl
theorem sz98 : (Tryz.prog.info? 98).map (·.size) = some 0 := by kernel_rfl
theorem sz100 : (Tryz.prog.info? 100).map (·.size) = some 1 := by kernel_rfl
theorem sz104 : (Tryz.prog.info? 104).map (·.size) = some 1 := by kernel_rfl
theorem sz107 : (Tryz.prog.info? 107).map (·.size) = some 1 := by kernel_rfl
theorem sz122 : (Tryz.prog.info? 122).map (·.size) = some 1 := by kernel_rfl
theorem sz124 : (Tryz.prog.info? 124).map (·.size) = some 2 := by kernel_rfl
theorem sz127 : (Tryz.prog.info? 127).map (·.size) = some 1 := by kernel_rfl
theorem sz128 : (Tryz.prog.info? 128).map (·.size) = some 2 := by kernel_rfl
theorem sz135 : (Tryz.prog.info? 135).map (·.size) = some 2 := by kernel_rfl
theorem sz139 : (Tryz.prog.info? 139).map (·.size) = some 4 := by kernel_rfl
theorem inf3 : (Tryz.prog.info? 3).map (fun i => (i.zero, i.size, i.bytes)) = some (some (.int .i64 0), 1, 8) := by kernel_rfl
theorem inf5 : (Tryz.prog.info? 5).map (fun i => (i.zero, i.size, i.bytes)) = some (some (.int .u8 0), 1, 1) := by kernel_rfl
theorem inf23 : (Tryz.prog.info? 23).map (fun i => (i.zero, i.size, i.bytes)) = some (some (.slice none 0 0), 1, 24) := by kernel_rfl
theorem inf59 : (Tryz.prog.info? 59).map (fun i => (i.zero, i.size, i.bytes)) = some (some (.int .u64 0), 1, 8) := by kernel_rfl
theorem inf39 : (Tryz.prog.info? 39).map (fun i => (i.zero, i.size, i.bytes)) = some (some (.agg #[.int .i64 0, .int .i64 0, .int .i64 0, .int .i64 0]), 4, 32) := by kernel_rfl
theorem inf31 : (Tryz.prog.info? 31).map (fun i => (i.zero, i.size, i.bytes)) = some (some (.agg #[.int .u8 0, .int .u8 0, .int .u8 0, .int .u8 0]), 4, 4) := by kernel_rfl
theorem inf64 : (Tryz.prog.info? 64).map (fun i => (i.zero, i.size, i.bytes)) = some (some (.agg #[.int .i64 0, .int .i64 0, .slice none 0 0]), 3, 40) := by kernel_rfl
theorem inf89 : (Tryz.prog.info? 89).map (fun i => (i.zero, i.size, i.bytes)) = some (some (.nilIface), 1, 16) := by kernel_rfl
theorem ze122 : (Tryz.prog.info? 122).map (·.zero) = some (some (.pointer none)) := by kernel_rfl
theorem ze3 : (Tryz.prog.info? 3).map (·.zero) = some (some (.int .i64 0)) := by kernel_rfl
theorem ze31 : (Tryz.prog.info? 31).map (·.zero) = some (some (.agg #[.int .u8 0, .int .u8 0, .int .u8 0, .int .u8 0])) := by kernel_rfl
theorem ze33 : (Tryz.prog.info? 33).map (·.zero) = some (some (.agg #[.bool false, .int .i64 0, .int .i64 0, .int .i64 0, .int .i64 0, .int .i64 0, .int .i64 0, .bool false, .int .i64 0, .int .i64 0, .int .i64 0])) := by kernel_rfl
theorem ze39 : (Tryz.prog.info? 39).map (·.zero) = some (some (.agg #[.int .i64 0, .int .i64 0, .int .i64 0, .int .i64 0])) := by kernel_rfl
theorem ze48 : (Tryz.prog.info? 48).map (·.zero) = some (some (.agg #[.int .i64 0, .slice none 0 0, .int .i64 0, .int .i64 0])) := by kernel_rfl
theorem ze60 : (Tryz.prog.info? 60).map (·.zero) = some (some (.slice none 0 0)) := by kernel_rfl
theorem ze64 : (Tryz.prog.info? 64).map (·.zero) = some (some (.agg #[.int .i64 0, .int .i64 0, .slice none 0 0])) := by kernel_rfl
theorem bs23_0 (w : World) : (Instr.buildSlice 23 0 [].toArray).run Tryz.prog w = .ok (.slice (some ⟨w.heap.size, 0, none⟩) 0 0) (w.alloc (.cells [].toArray 5)) := by kernel_rfl
theorem bs35_0 (w : World) : (Instr.buildSlice 35 0 [].toArray).run Tryz.prog w = .ok (.slice (some ⟨w.heap.size, 0, none⟩) 0 0) (w.alloc (.cells [].toArray 39)) := by kernel_rfl
theorem bs43_0 (w : World) : (Instr.buildSlice 43 0 [].toArray).run Tryz.prog w = .ok (.slice (some ⟨w.heap.size, 0, none⟩) 0 0) (w.alloc (.cells [].toArray 3)) := by kernel_rfl
theorem bs60_0 (w : World) : (Instr.buildSlice 60 0 [].toArray).run Tryz.prog w = .ok (.slice (some ⟨w.heap.size, 0, none⟩) 0 0) (w.alloc (.cells [].toArray 23)) := by kernel_rfl
theorem bs23_1 (x : Int) (w : World) : (Instr.buildSlice 23 1 [(0, .int .u8 x)].toArray).run Tryz.prog w = .ok (.slice (some ⟨w.heap.size, 0, none⟩) 1 1) (w.alloc (.cells [.int .u8 x].toArray 5)) := by kernel_rfl
theorem bs23_2 (x y : Int) (w : World) : (Instr.buildSlice 23 2 [(0, .int .u8 x), (1, .int .u8 y)].toArray).run Tryz.prog w = .ok (.slice (some ⟨w.heap.size, 0, none⟩) 2 2) (w.alloc (.cells [.int .u8 x, .int .u8 y].toArray 5)) := by kernel_rfl
theorem bs23_4 (x y z u : Int) (w : World) : (Instr.buildSlice 23 4 [(0, .int .u8 x), (1, .int .u8 y), (2, .int .u8 z), (3, .int .u8 u)].toArray).run Tryz.prog w = .ok (.slice (some ⟨w.heap.size, 0, none⟩) 4 4) (w.alloc (.cells [.int .u8 x, .int .u8 y, .int .u8 z, .int .u8 u].toArray 5)) := by kernel_rfl
theorem bs43_1 (x : Int) (w : World) : (Instr.buildSlice 43 1 [(0, .int .i64 x)].toArray).run Tryz.prog w = .ok (.slice (some ⟨w.heap.size, 0, none⟩) 1 1) (w.alloc (.cells [.int .i64 x].toArray 3)) := by kernel_rfl
theorem bs43_3 (x y z : Int) (w : World) : (Instr.buildSlice 43 3 [(0, .int .i64 x), (1, .int .i64 y), (2, .int .i64 z)].toArray).run Tryz.prog w = .ok (.slice (some ⟨w.heap.size, 0, none⟩) 3 3) (w.alloc (.cells [.int .i64 x, .int .i64 y, .int .i64 z].toArray 3)) := by kernel_rfl
theorem bs43_4 (x y z u : Int) (w : World) : (Instr.buildSlice 43 4 [(0, .int .i64 x), (1, .int .i64 y), (2, .int .i64 z), (3, .int .i64 u)].toArray).run Tryz.prog w = .ok (.slice (some ⟨w.heap.size, 0, none⟩) 4 4) (w.alloc (.cells [.int .i64 x, .int .i64 y, .int .i64 z, .int .i64 u].toArray 3)) := by kernel_rfl
theorem bs43_5 (a b c d e : Int) (w : World) : (Instr.buildSlice 43 5 [(0, .int .i64 a), (1, .int .i64 b), (2, .int .i64 c), (3, .int .i64 d), (4, .int .i64 e)].toArray).run Tryz.prog w = .ok (.slice (some ⟨w.heap.size, 0, none⟩) 5 5) (w.alloc (.cells [.int .i64 a, .int .i64 b, .int .i64 c, .int .i64 d, .int .i64 e].toArray 3)) := by kernel_rfl
theorem bs43_10 (w : World) : (Instr.buildSlice 43 10 [(0, .int .i64 1), (1, .int .i64 2), (2, .int .i64 3), (3, .int .i64 4), (4, .int .i64 6), (5, .int .i64 8), (6, .int .i64 12), (7, .int .i64 17), (8, .int .i64 33), (9, .int .i64 65)].toArray).run Tryz.prog w = .ok (.slice (some ⟨w.heap.size, 0, none⟩) 10 10) (w.alloc (.cells [.int .i64 1, .int .i64 2, .int .i64 3, .int .i64 4, .int .i64 6, .int .i64 8, .int .i64 12, .int .i64 17, .int .i64 33, .int .i64 65].toArray 3)) := by kernel_rfl
theorem bs60_1 (A : Option Addr) (n c : Nat) (w : World) : (Instr.buildSlice 60 1 [(0, .slice A n c)].toArray).run Tryz.prog w = .ok (.slice (some ⟨w.heap.size, 0, none⟩) 1 1) (w.alloc (.cells [.slice A n c].toArray 23)) := by kernel_rfl
theorem bs107_1 (x : Int) (w : World) : (Instr.buildSlice 107 1 [(0, .int .u64 x)].toArray).run Tryz.prog w = .ok (.slice (some ⟨w.heap.size, 0, none⟩) 1 1) (w.alloc (.cells [.int .u64 x].toArray 59)) := by kernel_rfl
theorem bs35_1 (x y z u : Int) (w : World) : (Instr.buildSlice 35 1 [(0, .agg [.int .i64 x, .int .i64 y, .int .i64 z, .int .i64 u].toArray)].toArray).run Tryz.prog w = .ok (.slice (some ⟨w.heap.size, 0, none⟩) 1 1) (w.alloc (.cells [.int .i64 x, .int .i64 y, .int .i64 z, .int .i64 u].toArray 39)) := by kernel_rfl
theorem bs26_1 (x y z u : Int) (w : World) : (Instr.buildSlice 26 1 [(0, .agg [.int .u8 x, .int .u8 y, .int .u8 z, .int .u8 u].toArray)].toArray).run Tryz.prog w = .ok (.slice (some ⟨w.heap.size, 0, none⟩) 1 1) (w.alloc (.cells [.int .u8 x, .int .u8 y, .int .u8 z, .int .u8 u].toArray 31)) := by kernel_rfl
theorem bs65_1 (t0 k0 : Int) (A0 : Option Addr) (n0 c0 : Nat) (w : World) : (Instr.buildSlice 65 1 [(0, .agg [.int .i64 t0, .int .i64 k0, .slice A0 n0 c0].toArray)].toArray).run Tryz.prog w = .ok (.slice (some ⟨w.heap.size, 0, none⟩) 1 1) (w.alloc (.cells [.int .i64 t0, .int .i64 k0, .slice A0 n0 c0].toArray 64)) := by kernel_rfl
theorem bs65_2 (t0 k0 : Int) (A0 : Option Addr) (n0 c0 : Nat) (t1 k1 : Int) (A1 : Option Addr) (n1 c1 : Nat) (w : World) : (Instr.buildSlice 65 2 [(0, .agg [.int .i64 t0, .int .i64 k0, .slice A0 n0 c0].toArray), (1, .agg [.int .i64 t1, .int .i64 k1, .slice A1 n1 c1].toArray)].toArray).run Tryz.prog w = .ok (.slice (some ⟨w.heap.size, 0, none⟩) 2 2) (w.alloc (.cells [.int .i64 t0, .int .i64 k0, .slice A0 n0 c0, .int .i64 t1, .int .i64 k1, .slice A1 n1 c1].toArray 64)) := by kernel_rfl
theorem bs65_4 (t0 k0 : Int) (A0 : Option Addr) (n0 c0 : Nat) (t1 k1 : Int) (A1 : Option Addr) (n1 c1 : Nat) (t2 k2 : Int) (A2 : Option Addr) (n2 c2 : Nat) (t3 k3 : Int) (A3 : Option Addr) (n3 c3 : Nat) (w : World) : (Instr.buildSlice 65 4 [(0, .agg [.int .i64 t0, .int .i64 k0, .slice A0 n0 c0].toArray), (1, .agg [.int .i64 t1, .int .i64 k1, .slice A1 n1 c1].toArray), (2, .agg [.int .i64 t2, .int .i64 k2, .slice A2 n2 c2].toArray), (3, .agg [.int .i64 t3, .int .i64 k3, .slice A3 n3 c3].toArray)].toArray).run Tryz.prog w = .ok (.slice (some ⟨w.heap.size, 0, none⟩) 4 4) (w.alloc (.cells [.int .i64 t0, .int .i64 k0, .slice A0 n0 c0, .int .i64 t1, .int .i64 k1, .slice A1 n1 c1, .int .i64 t2, .int .i64 k2, .slice A2 n2 c2, .int .i64 t3, .int .i64 k3, .slice A3 n3 c3].toArray 64)) := by kernel_rfl
theorem bs65_5 (t0 k0 : Int) (A0 : Option Addr) (n0 c0 : Nat) (t1 k1 : Int) (A1 : Option Addr) (n1 c1 : Nat) (t2 k2 : Int) (A2 : Option Addr) (n2 c2 : Nat) (t3 k3 : Int) (A3 : Option Addr) (n3 c3 : Nat) (t4 k4 : Int) (A4 : Option Addr) (n4 c4 : Nat) (w : World) : (Instr.buildSlice 65 5 [(0, .agg [.int .i64 t0, .int .i64 k0, .slice A0 n0 c0].toArray), (1, .agg [.int .i64 t1, .int .i64 k1, .slice A1 n1 c1].toArray), (2, .agg [.int .i64 t2, .int .i64 k2, .slice A2 n2 c2].toArray), (3, .agg [.int .i64 t3, .int .i64 k3, .slice A3 n3 c3].toArray), (4, .agg [.int .i64 t4, .int .i64 k4, .slice A4 n4 c4].toArray)].toArray).run Tryz.prog w = .ok (.slice (some ⟨w.heap.size, 0, none⟩) 5 5) (w.alloc (.cells [.int .i64 t0, .int .i64 k0, .slice A0 n0 c0, .int .i64 t1, .int .i64 k1, .slice A1 n1 c1, .int .i64 t2, .int .i64 k2, .slice A2 n2 c2, .int .i64 t3, .int .i64 k3, .slice A3 n3 c3, .int .i64 t4, .int .i64 k4, .slice A4 n4 c4].toArray 64)) := by kernel_rfl
theorem bd64 (x y : Int) (A : Option Addr) (n c : Nat) (w : World) : (Instr.build 64 [(0, .int .i64 x), (1, .int .i64 y), (2, .slice A n c)].toArray).run Tryz.prog w = .ok (.agg [.int .i64 x, .int .i64 y, .slice A n c].toArray) w := by kernel_rfl
theorem bd124 (w : World) : (Instr.build 124 [].toArray).run Tryz.prog w = .ok (.agg [.slice none 0 0, .int .i64 0].toArray) w := by kernel_rfl
theorem bd128 (w : World) : (Instr.build 128 [].toArray).run Tryz.prog w = .ok (.agg [.slice none 0 0, .int .i64 0].toArray) w := by kernel_rfl
theorem bd39 (w : World) : (Instr.build 39 [].toArray).run Tryz.prog w = .ok (.agg [.int .i64 0, .int .i64 0, .int .i64 0, .int .i64 0].toArray) w := by kernel_rfl
theorem bd39_4 (x y z u : Int) (w : World) : (Instr.build 39 [(0, .int .i64 x), (1, .int .i64 y), (2, .int .i64 z), (3, .int .i64 u)].toArray).run Tryz.prog w = .ok (.agg [.int .i64 x, .int .i64 y, .int .i64 z, .int .i64 u].toArray) w := by kernel_rfl
theorem bd31_4 (x y z u : Int) (w : World) : (Instr.build 31 [(0, .int .u8 x), (1, .int .u8 y), (2, .int .u8 z), (3, .int .u8 u)].toArray).run Tryz.prog w = .ok (.agg [.int .u8 x, .int .u8 y, .int .u8 z, .int .u8 u].toArray) w := by kernel_rfl
theorem bd139_4 (x y z u : Int) (w : World) : (Instr.build 139 [(0, .int .u16 x), (1, .int .u16 y), (2, .int .u16 z), (3, .int .u16 u)].toArray).run Tryz.prog w = .ok (.agg [.int .u16 x, .int .u16 y, .int .u16 z, .int .u16 u].toArray) w := by kernel_rfl
theorem nm4 : (Tryz.f4.name == "runtime.NumGoroutine") = false := by kernel_rfl
theorem bo4 : Tryz.f4.body.isNone = false := by kernel_rfl
theorem nm5 : (Tryz.f5.name == "runtime.NumGoroutine") = false := by kernel_rfl
theorem bo5 : Tryz.f5.body.isNone = false := by kernel_rfl
theorem nm6 : (Tryz.f6.name == "runtime.NumGoroutine") = false := by kernel_rfl
theorem bo6 : Tryz.f6.body.isNone = false := by kernel_rfl
theorem nm7 : (Tryz.f7.name == "runtime.NumGoroutine") = false := by kernel_rfl
theorem bo7 : Tryz.f7.body.isNone = false := by kernel_rfl
theorem nm8 : (Tryz.f8.name == "runtime.NumGoroutine") = false := by kernel_rfl
theorem bo8 : Tryz.f8.body.isNone = false := by kernel_rfl
theorem nm9 : (Tryz.f9.name == "runtime.NumGoroutine") = false := by kernel_rfl
theorem bo9 : Tryz.f9.body.isNone = false := by kernel_rfl
theorem nm10 : (Tryz.f10.name == "runtime.NumGoroutine") = false := by kernel_rfl
theorem bo10 : Tryz.f10.body.isNone = false := by kernel_rfl
theorem nm11 : (Tryz.f11.name == "runtime.NumGoroutine") = false := by kernel_rfl
theorem bo11 : Tryz.f11.body.isNone = false := by kernel_rfl
theorem nm12 : (Tryz.f12.name == "runtime.NumGoroutine") = false := by kernel_rfl
theorem bo12 : Tryz.f12.body.isNone = false := by kernel_rfl
theorem nm13 : (Tryz.f13.name == "runtime.NumGoroutine") = false := by kernel_rfl
theorem bo13 : Tryz.f13.body.isNone = false := by kernel_rfl
theorem nm14 : (Tryz.f14.name == "runtime.NumGoroutine") = false := by kernel_rfl
theorem bo14 : Tryz.f14.body.isNone = false := by kernel_rfl
theorem nm15 : (Tryz.f15.name == "runtime.NumGoroutine") = false := by kernel_rfl
theorem bo15 : Tryz.f15.body.isNone = false := by kernel_rfl
theorem nm16 : (Tryz.f16.name == "runtime.NumGoroutine") = false := by kernel_rfl
theorem bo16 : Tryz.f16.body.isNone = false := by kernel_rfl
theorem nm18 : (Tryz.f18.name == "runtime.NumGoroutine") = false := by kernel_rfl
theorem bo18 : Tryz.f18.body.isNone = false := by kernel_rfl
theorem nm19 : (Tryz.f19.name == "runtime.NumGoroutine") = false := by kernel_rfl
theorem bo19 : Tryz.f19.body.isNone = false := by kernel_rfl
theorem nm20 : (Tryz.f20.name == "runtime.NumGoroutine") = false := by kernel_rfl
theorem bo20 : Tryz.f20.body.isNone = false := by kernel_rfl
theorem nm21 : (Tryz.f21.name == "runtime.NumGoroutine") = false := by kernel_rfl
theorem bo21 : Tryz.f21.body.isNone = false := by kernel_rfl
theorem nm22 : (Tryz.f22.name == "runtime.NumGoroutine") = false := by kernel_rfl
theorem bo22 : Tryz.f22.body.isNone = false := by kernel_rfl
theorem nm23 : (Tryz.f23.name == "runtime.NumGoroutine") = false := by kernel_rfl
theorem bo23 : Tryz.f23.body.isNone = false := by kernel_rfl
theorem nm24 : (Tryz.f24.name == "runtime.NumGoroutine") = false := by kernel_rfl
theorem bo24 : Tryz.f24.body.isNone = false := by kernel_rfl
theorem nm25 : (Tryz.f25.name == "runtime.NumGoroutine") = false := by kernel_rfl
theorem bo25 : Tryz.f25.body.isNone = false := by kernel_rfl
theorem nm27 : (Tryz.f27.name == "runtime.NumGoroutine") = false := by kernel_rfl
theorem bo27 : Tryz.f27.body.isNone = false := by kernel_rfl
theorem nm28 : (Tryz.f28.name == "runtime.NumGoroutine") = false := by kernel_rfl
theorem bo28 : Tryz.f28.body.isNone = false := by kernel_rfl
theorem nm29 : (Tryz.f29.name == "runtime.NumGoroutine") = false := by kernel_rfl
theorem bo29 : Tryz.f29.body.isNone = false := by kernel_rfl
theorem nm30 : (Tryz.f30.name == "runtime.NumGoroutine") = false := by kernel_rfl
theorem bo30 : Tryz.f30.body.isNone = false := by kernel_rfl
theorem nm31 : (Tryz.f31.name == "runtime.NumGoroutine") = false := by kernel_rfl
theorem bo31 : Tryz.f31.body.isNone = false := by kernel_rfl
theorem nm32 : (Tryz.f32.name == "runtime.NumGoroutine") = false := by kernel_rfl
theorem bo32 : Tryz.f32.body.isNone = false := by kernel_rfl
theorem nm33 : (Tryz.f33.name == "runtime.NumGoroutine") = false := by kernel_rfl
theorem bo33 : Tryz.f33.body.isNone = false := by kernel_rfl
theorem nm38 : (Tryz.f38.name == "runtime.NumGoroutine") = false := by kernel_rfl
theorem bo38 : Tryz.f38.body.isNone = false := by kernel_rfl
theorem nm39 : (Tryz.f39.name == "runtime.NumGoroutine") = false := by kernel_rfl
theorem bo39 : Tryz.f39.body.isNone = false := by kernel_rfl
theorem nm40 : (Tryz.f40.name == "runtime.NumGoroutine") = false := by kernel_rfl
theorem bo40 : Tryz.f40.body.isNone = false := by kernel_rfl
theorem nm41 : (Tryz.f41.name == "runtime.NumGoroutine") = false := by kernel_rfl
theorem bo41 : Tryz.f41.body.isNone = false := by kernel_rfl
theorem nm42 : (Tryz.f42.name == "runtime.NumGoroutine") = false := by kernel_rfl
theorem bo42 : Tryz.f42.body.isNone = false := by kernel_rfl
theorem nm43 : (Tryz.f43.name == "runtime.NumGoroutine") = false := by kernel_rfl
theorem bo43 : Tryz.f43.body.isNone = false := by kernel_rfl
theorem nm44 : (Tryz.f44.name == "runtime.NumGoroutine") = false := by kernel_rfl
theorem bo44 : Tryz.f44.body.isNone = false := by kernel_rfl
theorem nm45 : (Tryz.f45.name == "runtime.NumGoroutine") = false := by kernel_rfl
theorem bo45 : Tryz.f45.body.isNone = false := by kernel_rfl
theorem nm46 : (Tryz.f46.name == "runtime.NumGoroutine") = false := by kernel_rfl
theorem bo46 : Tryz.f46.body.isNone = false := by kernel_rfl
theorem nm50 : (Tryz.f50.name == "runtime.NumGoroutine") = false := by kernel_rfl
theorem bo50 : Tryz.f50.body.isNone = false := by kernel_rfl
theorem nm51 : (Tryz.f51.name == "runtime.NumGoroutine") = false := by kernel_rfl
theorem bo51 : Tryz.f51.body.isNone = false := by kernel_rfl
theorem nm52 : (Tryz.f52.name == "runtime.NumGoroutine") = false := by kernel_rfl
theorem bo52 : Tryz.f52.body.isNone = false := by kernel_rfl
theorem nm53 : (Tryz.f53.name == "runtime.NumGoroutine") = false := by kernel_rfl
theorem bo53 : Tryz.f53.body.isNone = false := by kernel_rfl
theorem nm54 : (Tryz.f54.name == "runtime.NumGoroutine") = false := by kernel_rfl
theorem bo54 : Tryz.f54.body.isNone = false := by kernel_rfl
theorem nm55 : (Tryz.f55.name == "runtime.NumGoroutine") = false := by kernel_rfl
theorem bo55 : Tryz.f55.body.isNone = false := by kernel_rfl
theorem nm75 : (Tryz.f75.name == "runtime.NumGoroutine") = false := by kernel_rfl
theorem bo75 : Tryz.f75.body.isNone = false := by kernel_rfl
theorem nm85 : (Tryz.f85.name == "runtime.NumGoroutine") = false := by kernel_rfl
theorem bo85 : Tryz.f85.body.isNone = false := by kernel_rfl
theorem nm86 : (Tryz.f86.name == "runtime.NumGoroutine") = false := by kernel_rfl
theorem bo86 : Tryz.f86.body.isNone = false := by kernel_rfl
theorem nm93 : (Tryz.f93.name == "runtime.NumGoroutine") = false := by kernel_rfl
theorem bo93 : Tryz.f93.body.isNone = false := by kernel_rfl
theorem nm94 : (Tryz.f94.name == "runtime.NumGoroutine") = false := by kernel_rfl
theorem bo94 : Tryz.f94.body.isNone = false := by kernel_rfl
theorem nm103 : (Tryz.f103.name == "runtime.NumGoroutine") = false := by kernel_rfl
theorem bo103 : Tryz.f103.body.isNone = false := by kernel_rfl

end V
end Go.Proofs.YtaflcjoagfnhfaaGreatDoor
