/- What a literal of each type makes. -/
import Derived.Test.YteepnepebilckaaD1
import Derived.Test.YteepnepebilckaaE4
namespace Go.Proofs.Yteepnepebilckaa
open Go Go.Eng Go.RowKit

section
variable {w : World} {ρ : Operand → Value} {d : Option Tmp} {ty : TypeId} {pos : String} {af : Array Edge} {g : Option (Nat × Bool)}

theorem mixed : Try.prog.follows .mixedOrders = true := by kernel_rfl

theorem bld_block {x0 x1 x2 x7 : Operand} {a b c : Int} {p : Option Addr} (h0 : ρ x0 = .int .i32 a) (h1 : ρ x1 = .int .i64 b) (h2 : ρ x2 = .int .i8 c) (h7 : ρ x7 = .pointer p) :
    (execOp ρ ⟨d, .build 84 #[(0, x0), (1, x1), (2, x2), (7, x7)], ty, pos, af, g⟩).run Try.prog w = .ok (.value (.agg #[.int .i32 a, .int .i64 b, .int .i8 c, nilS, nilS, nilS, nilS, .pointer p])) w := by
  have key : (Instr.build 84 #[(0, Value.int .i32 a), (1, Value.int .i64 b), (2, Value.int .i8 c), (7, Value.pointer p)]).run Try.prog w = .ok (.agg #[.int .i32 a, .int .i64 b, .int .i8 c, nilS, nilS, nilS, nilS, .pointer p]) w := by kernel_rfl
  simp [execOp, h0, h1, h2, h7, key]

theorem bld_value {x0 x1 x2 x3 x6 : Operand} {a b c e : Int} {p : Option Addr} (h0 : ρ x0 = .int .i32 a) (h1 : ρ x1 = .int .i64 b) (h2 : ρ x2 = .int .i64 c) (h3 : ρ x3 = .int .i64 e) (h6 : ρ x6 = .pointer p) :
    (execOp ρ ⟨d, .build 97 #[(0, x0), (1, x1), (2, x2), (3, x3), (6, x6)], ty, pos, af, g⟩).run Try.prog w = .ok (.value (.agg #[.int .i32 a, .int .i64 b, .int .i64 c, .int .i64 e, .pointer none, nilS, .pointer p])) w := by
  have key : (Instr.build 97 #[(0, Value.int .i32 a), (1, Value.int .i64 b), (2, Value.int .i64 c), (3, Value.int .i64 e), (6, Value.pointer p)]).run Try.prog w = .ok (.agg #[.int .i32 a, .int .i64 b, .int .i64 c, .int .i64 e, .pointer none, nilS, .pointer p]) w := by kernel_rfl
  simp [execOp, h0, h1, h2, h3, h6, key]

theorem bld_edge {x0 : Operand} {p : Option Addr} (h0 : ρ x0 = .pointer p) :
    (execOp ρ ⟨d, .build 99 #[(0, x0)], ty, pos, af, g⟩).run Try.prog w = .ok (.value (.agg #[.pointer p])) w := by
  have key : (Instr.build 99 #[(0, Value.pointer p)]).run Try.prog w = .ok (.agg #[.pointer p]) w := by kernel_rfl
  simp [execOp, h0, key]

theorem bsl_edge {x0 : Operand} {p : Option Addr} (h0 : ρ x0 = .agg #[.pointer p]) :
    (execOp ρ ⟨d, .buildSlice 81 1 #[(0, x0)], ty, pos, af, g⟩).run Try.prog w = .ok (.value (.slice (some ⟨w.heap.size, 0, none⟩) 1 1)) (w.alloc (.cells #[.pointer p] 99)) := by
  have key : (Instr.buildSlice 81 1 #[(0, Value.agg #[.pointer p])]).run Try.prog w = .ok (.slice (some ⟨w.heap.size, 0, none⟩) 1 1) (w.alloc (.cells #[.pointer p] 99)) := by kernel_rfl
  simp [execOp, h0, key]

theorem bsl_ints0 : (execOp ρ ⟨d, .buildSlice 34 0 #[], ty, pos, af, g⟩).run Try.prog w = .ok (.value (.slice (some ⟨w.heap.size, 0, none⟩) 0 0)) (w.alloc (.cells #[] 3)) := by
  have key : (Instr.buildSlice 34 0 #[]).run Try.prog w = .ok (.slice (some ⟨w.heap.size, 0, none⟩) 0 0) (w.alloc (.cells #[] 3)) := by kernel_rfl
  simp [execOp, key]
theorem bld_sv {x0 x1 x2 x3 : Operand} {a b c : Int} {p : Option Addr} {n m : Nat} (h0 : ρ x0 = .int .i64 a) (h1 : ρ x1 = .int .i64 b) (h2 : ρ x2 = .slice p n m) (h3 : ρ x3 = .int .i64 c) :
    (execOp ρ ⟨d, .build 50 #[(0, x0), (1, x1), (2, x2), (3, x3)], ty, pos, af, g⟩).run Try.prog w = .ok (.value (.agg #[.int .i64 a, .int .i64 b, .slice p n m, .int .i64 c])) w := by
  have key : (Instr.build 50 #[(0, Value.int .i64 a), (1, Value.int .i64 b), (2, Value.slice p n m), (3, Value.int .i64 c)]).run Try.prog w = .ok (.agg #[.int .i64 a, .int .i64 b, .slice p n m, .int .i64 c]) w := by kernel_rfl
  simp [execOp, h0, h1, h2, h3, key]
theorem bsl_sv {x0 : Operand} {a b c : Int} {p : Option Addr} {n m : Nat} (h0 : ρ x0 = .agg #[.int .i64 a, .int .i64 b, .slice p n m, .int .i64 c]) :
    (execOp ρ ⟨d, .buildSlice 28 1 #[(0, x0)], ty, pos, af, g⟩).run Try.prog w = .ok (.value (.slice (some ⟨w.heap.size, 0, none⟩) 1 1)) (w.alloc (.cells #[.int .i64 a, .int .i64 b, .slice p n m, .int .i64 c] 50)) := by
  have key : (Instr.buildSlice 28 1 #[(0, Value.agg #[.int .i64 a, .int .i64 b, .slice p n m, .int .i64 c])]).run Try.prog w = .ok (.slice (some ⟨w.heap.size, 0, none⟩) 1 1) (w.alloc (.cells #[.int .i64 a, .int .i64 b, .slice p n m, .int .i64 c] 50)) := by kernel_rfl
  simp [execOp, h0, key]
theorem zero_sv : zeroB Try.prog 50 #[.int .i64 0, .int .i64 0, nilS, .int .i64 0] := by unfold zeroB; kernel_rfl
theorem bld_sb {x0 x1 x2 x3 : Operand} {a b c : Int} {p : Option Addr} {n m : Nat} (h0 : ρ x0 = .int .i64 a) (h1 : ρ x1 = .int .i64 b) (h2 : ρ x2 = .slice p n m) (h3 : ρ x3 = .int .i64 c) :
    (execOp ρ ⟨d, .build 53 #[(0, x0), (1, x1), (2, x2), (3, x3)], ty, pos, af, g⟩).run Try.prog w = .ok (.value (.agg #[.int .i64 a, .int .i64 b, .slice p n m, .int .i64 c])) w := by
  have key : (Instr.build 53 #[(0, Value.int .i64 a), (1, Value.int .i64 b), (2, Value.slice p n m), (3, Value.int .i64 c)]).run Try.prog w = .ok (.agg #[.int .i64 a, .int .i64 b, .slice p n m, .int .i64 c]) w := by kernel_rfl
  simp [execOp, h0, h1, h2, h3, key]
theorem bsl_sb {x0 : Operand} {a b c : Int} {p : Option Addr} {n m : Nat} (h0 : ρ x0 = .agg #[.int .i64 a, .int .i64 b, .slice p n m, .int .i64 c]) :
    (execOp ρ ⟨d, .buildSlice 29 1 #[(0, x0)], ty, pos, af, g⟩).run Try.prog w = .ok (.value (.slice (some ⟨w.heap.size, 0, none⟩) 1 1)) (w.alloc (.cells #[.int .i64 a, .int .i64 b, .slice p n m, .int .i64 c] 53)) := by
  have key : (Instr.buildSlice 29 1 #[(0, Value.agg #[.int .i64 a, .int .i64 b, .slice p n m, .int .i64 c])]).run Try.prog w = .ok (.slice (some ⟨w.heap.size, 0, none⟩) 1 1) (w.alloc (.cells #[.int .i64 a, .int .i64 b, .slice p n m, .int .i64 c] 53)) := by kernel_rfl
  simp [execOp, h0, key]
theorem zero_sb : zeroB Try.prog 53 #[.int .i64 0, .int .i64 0, nilS, .int .i64 0] := by unfold zeroB; kernel_rfl
theorem bld_iv {x0 x1 x2 x3 : Operand} {a b c : Int} {p : Option Addr} {n m : Nat} (h0 : ρ x0 = .int .i64 a) (h1 : ρ x1 = .int .i64 b) (h2 : ρ x2 = .slice p n m) (h3 : ρ x3 = .int .i64 c) :
    (execOp ρ ⟨d, .build 36 #[(0, x0), (1, x1), (2, x2), (3, x3)], ty, pos, af, g⟩).run Try.prog w = .ok (.value (.agg #[.int .i64 a, .int .i64 b, .slice p n m, .int .i64 c])) w := by
  have key : (Instr.build 36 #[(0, Value.int .i64 a), (1, Value.int .i64 b), (2, Value.slice p n m), (3, Value.int .i64 c)]).run Try.prog w = .ok (.agg #[.int .i64 a, .int .i64 b, .slice p n m, .int .i64 c]) w := by kernel_rfl
  simp [execOp, h0, h1, h2, h3, key]
theorem bsl_iv {x0 : Operand} {a b c : Int} {p : Option Addr} {n m : Nat} (h0 : ρ x0 = .agg #[.int .i64 a, .int .i64 b, .slice p n m, .int .i64 c]) :
    (execOp ρ ⟨d, .buildSlice 22 1 #[(0, x0)], ty, pos, af, g⟩).run Try.prog w = .ok (.value (.slice (some ⟨w.heap.size, 0, none⟩) 1 1)) (w.alloc (.cells #[.int .i64 a, .int .i64 b, .slice p n m, .int .i64 c] 36)) := by
  have key : (Instr.buildSlice 22 1 #[(0, Value.agg #[.int .i64 a, .int .i64 b, .slice p n m, .int .i64 c])]).run Try.prog w = .ok (.slice (some ⟨w.heap.size, 0, none⟩) 1 1) (w.alloc (.cells #[.int .i64 a, .int .i64 b, .slice p n m, .int .i64 c] 36)) := by kernel_rfl
  simp [execOp, h0, key]
theorem zero_iv : zeroB Try.prog 36 #[.int .i64 0, .int .i64 0, nilS, .int .i64 0] := by unfold zeroB; kernel_rfl
theorem bld_ib {x0 x1 x2 x3 : Operand} {a b c : Int} {p : Option Addr} {n m : Nat} (h0 : ρ x0 = .int .i64 a) (h1 : ρ x1 = .int .i64 b) (h2 : ρ x2 = .slice p n m) (h3 : ρ x3 = .int .i64 c) :
    (execOp ρ ⟨d, .build 38 #[(0, x0), (1, x1), (2, x2), (3, x3)], ty, pos, af, g⟩).run Try.prog w = .ok (.value (.agg #[.int .i64 a, .int .i64 b, .slice p n m, .int .i64 c])) w := by
  have key : (Instr.build 38 #[(0, Value.int .i64 a), (1, Value.int .i64 b), (2, Value.slice p n m), (3, Value.int .i64 c)]).run Try.prog w = .ok (.agg #[.int .i64 a, .int .i64 b, .slice p n m, .int .i64 c]) w := by kernel_rfl
  simp [execOp, h0, h1, h2, h3, key]
theorem bsl_ib {x0 : Operand} {a b c : Int} {p : Option Addr} {n m : Nat} (h0 : ρ x0 = .agg #[.int .i64 a, .int .i64 b, .slice p n m, .int .i64 c]) :
    (execOp ρ ⟨d, .buildSlice 23 1 #[(0, x0)], ty, pos, af, g⟩).run Try.prog w = .ok (.value (.slice (some ⟨w.heap.size, 0, none⟩) 1 1)) (w.alloc (.cells #[.int .i64 a, .int .i64 b, .slice p n m, .int .i64 c] 38)) := by
  have key : (Instr.buildSlice 23 1 #[(0, Value.agg #[.int .i64 a, .int .i64 b, .slice p n m, .int .i64 c])]).run Try.prog w = .ok (.slice (some ⟨w.heap.size, 0, none⟩) 1 1) (w.alloc (.cells #[.int .i64 a, .int .i64 b, .slice p n m, .int .i64 c] 38)) := by kernel_rfl
  simp [execOp, h0, key]
theorem zero_ib : zeroB Try.prog 38 #[.int .i64 0, .int .i64 0, nilS, .int .i64 0] := by unfold zeroB; kernel_rfl
theorem bld_av {x0 x1 x2 x3 : Operand} {a b c : Int} {p : Option Addr} {n m : Nat} (h0 : ρ x0 = .int .i64 a) (h1 : ρ x1 = .int .i64 b) (h2 : ρ x2 = .slice p n m) (h3 : ρ x3 = .int .i64 c) :
    (execOp ρ ⟨d, .build 66 #[(0, x0), (1, x1), (2, x2), (3, x3)], ty, pos, af, g⟩).run Try.prog w = .ok (.value (.agg #[.int .i64 a, .int .i64 b, .slice p n m, .int .i64 c])) w := by
  have key : (Instr.build 66 #[(0, Value.int .i64 a), (1, Value.int .i64 b), (2, Value.slice p n m), (3, Value.int .i64 c)]).run Try.prog w = .ok (.agg #[.int .i64 a, .int .i64 b, .slice p n m, .int .i64 c]) w := by kernel_rfl
  simp [execOp, h0, h1, h2, h3, key]
theorem bsl_av {x0 : Operand} {a b c : Int} {p : Option Addr} {n m : Nat} (h0 : ρ x0 = .agg #[.int .i64 a, .int .i64 b, .slice p n m, .int .i64 c]) :
    (execOp ρ ⟨d, .buildSlice 55 1 #[(0, x0)], ty, pos, af, g⟩).run Try.prog w = .ok (.value (.slice (some ⟨w.heap.size, 0, none⟩) 1 1)) (w.alloc (.cells #[.int .i64 a, .int .i64 b, .slice p n m, .int .i64 c] 66)) := by
  have key : (Instr.buildSlice 55 1 #[(0, Value.agg #[.int .i64 a, .int .i64 b, .slice p n m, .int .i64 c])]).run Try.prog w = .ok (.slice (some ⟨w.heap.size, 0, none⟩) 1 1) (w.alloc (.cells #[.int .i64 a, .int .i64 b, .slice p n m, .int .i64 c] 66)) := by kernel_rfl
  simp [execOp, h0, key]
theorem zero_av : zeroB Try.prog 66 #[.int .i64 0, .int .i64 0, nilS, .int .i64 0] := by unfold zeroB; kernel_rfl
theorem bld_ab {x0 x1 x2 x3 : Operand} {a b c : Int} {p : Option Addr} {n m : Nat} (h0 : ρ x0 = .int .i64 a) (h1 : ρ x1 = .int .i64 b) (h2 : ρ x2 = .slice p n m) (h3 : ρ x3 = .int .i64 c) :
    (execOp ρ ⟨d, .build 67 #[(0, x0), (1, x1), (2, x2), (3, x3)], ty, pos, af, g⟩).run Try.prog w = .ok (.value (.agg #[.int .i64 a, .int .i64 b, .slice p n m, .int .i64 c])) w := by
  have key : (Instr.build 67 #[(0, Value.int .i64 a), (1, Value.int .i64 b), (2, Value.slice p n m), (3, Value.int .i64 c)]).run Try.prog w = .ok (.agg #[.int .i64 a, .int .i64 b, .slice p n m, .int .i64 c]) w := by kernel_rfl
  simp [execOp, h0, h1, h2, h3, key]
theorem bsl_ab {x0 : Operand} {a b c : Int} {p : Option Addr} {n m : Nat} (h0 : ρ x0 = .agg #[.int .i64 a, .int .i64 b, .slice p n m, .int .i64 c]) :
    (execOp ρ ⟨d, .buildSlice 56 1 #[(0, x0)], ty, pos, af, g⟩).run Try.prog w = .ok (.value (.slice (some ⟨w.heap.size, 0, none⟩) 1 1)) (w.alloc (.cells #[.int .i64 a, .int .i64 b, .slice p n m, .int .i64 c] 67)) := by
  have key : (Instr.buildSlice 56 1 #[(0, Value.agg #[.int .i64 a, .int .i64 b, .slice p n m, .int .i64 c])]).run Try.prog w = .ok (.slice (some ⟨w.heap.size, 0, none⟩) 1 1) (w.alloc (.cells #[.int .i64 a, .int .i64 b, .slice p n m, .int .i64 c] 67)) := by kernel_rfl
  simp [execOp, h0, key]
theorem zero_ab : zeroB Try.prog 67 #[.int .i64 0, .int .i64 0, nilS, .int .i64 0] := by unfold zeroB; kernel_rfl
theorem bld_fn_s : (execOp ρ ⟨d, .build 31 #[], ty, pos, af, g⟩).run Try.prog w = .ok (.value (.agg #[nilS, nilS])) w := by
  have key : (Instr.build 31 #[]).run Try.prog w = .ok (.agg #[nilS, nilS]) w := by kernel_rfl
  simp [execOp, key]
theorem zero_fn_s : zeroB Try.prog 31 #[nilS, nilS] := by unfold zeroB; kernel_rfl
theorem bld_fn_i : (execOp ρ ⟨d, .build 25 #[], ty, pos, af, g⟩).run Try.prog w = .ok (.value (.agg #[nilS, nilS])) w := by
  have key : (Instr.build 25 #[]).run Try.prog w = .ok (.agg #[nilS, nilS]) w := by kernel_rfl
  simp [execOp, key]
theorem zero_fn_i : zeroB Try.prog 25 #[nilS, nilS] := by unfold zeroB; kernel_rfl
theorem bld_fn_a : (execOp ρ ⟨d, .build 58 #[], ty, pos, af, g⟩).run Try.prog w = .ok (.value (.agg #[nilS, nilS])) w := by
  have key : (Instr.build 58 #[]).run Try.prog w = .ok (.agg #[nilS, nilS]) w := by kernel_rfl
  simp [execOp, key]
theorem zero_fn_a : zeroB Try.prog 58 #[nilS, nilS] := by unfold zeroB; kernel_rfl
theorem bld3_av {x0 x1 x3 : Operand} {a b c : Int} (h0 : ρ x0 = .int .i64 a) (h1 : ρ x1 = .int .i64 b) (h3 : ρ x3 = .int .i64 c) :
    (execOp ρ ⟨d, .build 66 #[(0, x0), (1, x1), (3, x3)], ty, pos, af, g⟩).run Try.prog w = .ok (.value (.agg #[.int .i64 a, .int .i64 b, nilS, .int .i64 c])) w := by
  have key : (Instr.build 66 #[(0, Value.int .i64 a), (1, Value.int .i64 b), (3, Value.int .i64 c)]).run Try.prog w = .ok (.agg #[.int .i64 a, .int .i64 b, nilS, .int .i64 c]) w := by kernel_rfl
  simp [execOp, h0, h1, h3, key]
theorem bld3_ab {x0 x1 x3 : Operand} {a b c : Int} (h0 : ρ x0 = .int .i64 a) (h1 : ρ x1 = .int .i64 b) (h3 : ρ x3 = .int .i64 c) :
    (execOp ρ ⟨d, .build 67 #[(0, x0), (1, x1), (3, x3)], ty, pos, af, g⟩).run Try.prog w = .ok (.value (.agg #[.int .i64 a, .int .i64 b, nilS, .int .i64 c])) w := by
  have key : (Instr.build 67 #[(0, Value.int .i64 a), (1, Value.int .i64 b), (3, Value.int .i64 c)]).run Try.prog w = .ok (.agg #[.int .i64 a, .int .i64 b, nilS, .int .i64 c]) w := by kernel_rfl
  simp [execOp, h0, h1, h3, key]
theorem zero_func : zeroB Try.prog 90 #[.pointer none, nilS, nilS, .map none, .bool false, nilS] := by unfold zeroB; kernel_rfl
theorem zero_edge : zeroB Try.prog 99 #[.pointer none] := by unfold zeroB; kernel_rfl
end
end Go.Proofs.Yteepnepebilckaa
