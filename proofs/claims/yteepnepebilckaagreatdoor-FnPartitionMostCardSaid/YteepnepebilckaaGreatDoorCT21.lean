/- For every input in which the opcode table reads as laid the law FnPartitionMost returns true, and its argument reads as it did, the table being tied to the text of the program. -/
import Derived.Test.YteepnepebilckaaGreatDoorCT20
namespace Go.Proofs.YteepnepebilckaaGreatDoor
open Go Go.Eng Go.RowKit Go.Shelf
def laySort_ren : Go.Shelf.Ren := ⟨fun | 6 => 76 | 15 => 81 | 14 => 80 | 28 => 101 | 29 => 102 | 20 => 93 | 21 => 94 | 22 => 95 | 23 => 96 | 24 => 97 | 25 => 98 | 26 => 99 | 27 => 100 | 46 => 109 | 47 => 110 | 48 => 111 | 49 => 112 | 50 => 113 | 57 => 129 | n => n, fun | 22 => 78 | 24 => 97 | 25 => 124 | 3 => 3 | 39 => 132 | 0 => 0 | 53 => 121 | 55 => 171 | 4 => 4 | 46 => 163 | 45 => 162 | 50 => 167 | 5 => 5 | 9 => 9 | 66 => 177 | 70 => 181 | 76 => 194 | 77 => 195 | n => n, fun | n => n⟩
set_option maxRecDepth 100000 in
theorem Ep : Go.Proofs.SlLaysF.n6 Tryz.prog laySort_ren := {
 mixed := by kernel_rfl,
 f6 := ⟨Tryz.f76.name, by decide, Tryz.func76.trans (congrArg some (by kernel_rfl))⟩,
 f14 := ⟨Tryz.f80.name, by decide, Tryz.func80.trans (congrArg some (by kernel_rfl))⟩,
 f15 := Tryz.func81.trans (congrArg some (by kernel_rfl)),
 f20 := ⟨Tryz.f93.name, by decide, Tryz.func93.trans (congrArg some (by kernel_rfl))⟩,
 f21 := ⟨Tryz.f94.name, by decide, Tryz.func94.trans (congrArg some (by kernel_rfl))⟩,
 f22 := ⟨Tryz.f95.name, by decide, Tryz.func95.trans (congrArg some (by kernel_rfl))⟩,
 f23 := ⟨Tryz.f96.name, by decide, Tryz.func96.trans (congrArg some (by kernel_rfl))⟩,
 f24 := ⟨Tryz.f97.name, by decide, Tryz.func97.trans (congrArg some (by kernel_rfl))⟩,
 f25 := ⟨Tryz.f98.name, by decide, Tryz.func98.trans (congrArg some (by kernel_rfl))⟩,
 f26 := ⟨Tryz.f99.name, by decide, Tryz.func99.trans (congrArg some (by kernel_rfl))⟩,
 f27 := ⟨Tryz.f100.name, by decide, Tryz.func100.trans (congrArg some (by kernel_rfl))⟩,
 f28 := Tryz.func101.trans (congrArg some (by kernel_rfl)),
 f29 := Tryz.func102.trans (congrArg some (by kernel_rfl)),
 f46 := ⟨Tryz.f109.name, by decide, Tryz.func109.trans (congrArg some (by kernel_rfl))⟩,
 f47 := Tryz.func110.trans (congrArg some (by kernel_rfl)),
 f48 := Tryz.func111.trans (congrArg some (by kernel_rfl)),
 f49 := ⟨Tryz.f112.name, by decide, Tryz.func112.trans (congrArg some (by kernel_rfl))⟩,
 f50 := ⟨Tryz.f113.name, by decide, Tryz.func113.trans (congrArg some (by kernel_rfl))⟩,
 f57 := ⟨Tryz.f129.name, by decide, Tryz.func129.trans (congrArg some (by kernel_rfl))⟩,
 t0 := Tryz.underlying0,
 a0 := Tryz.isAgg0,
 z0 := Tryz.sizeOf0,
 v0 := Tryz.zeroValue0,
 t3 := Tryz.underlying3,
 a3 := Tryz.isAgg3,
 z3 := Tryz.sizeOf3,
 v3 := Tryz.zeroValue3,
 t4 := Tryz.underlying4,
 a4 := Tryz.isAgg4,
 z4 := Tryz.sizeOf4,
 v4 := Tryz.zeroValue4,
 t5 := Tryz.underlying5,
 a5 := Tryz.isAgg5,
 z5 := Tryz.sizeOf5,
 v5 := Tryz.zeroValue5,
 t9 := Tryz.underlying9,
 a9 := Tryz.isAgg9,
 z9 := Tryz.sizeOf9,
 v9 := Tryz.zeroValue9,
 t22 := Tryz.underlying78,
 a22 := Tryz.isAgg78,
 z22 := Tryz.sizeOf78,
 v22 := Tryz.zeroValue78,
 a24 := Tryz.isAgg97,
 z24 := Tryz.sizeOf97,
 t25 := Tryz.underlying124,
 a25 := Tryz.isAgg124,
 z25 := Tryz.sizeOf124,
 v25 := Tryz.zeroValue124,
 t39 := Tryz.underlying132,
 a39 := Tryz.isAgg132,
 z39 := Tryz.sizeOf132,
 v39 := Tryz.zeroValue132,
 t45 := Tryz.underlying162,
 a45 := Tryz.isAgg162,
 z45 := Tryz.sizeOf162,
 v45 := Tryz.zeroValue162,
 t46 := Tryz.underlying163,
 a46 := Tryz.isAgg163,
 z46 := Tryz.sizeOf163,
 v46 := Tryz.zeroValue163,
 t50 := Tryz.underlying167,
 a50 := Tryz.isAgg167,
 z50 := Tryz.sizeOf167,
 v50 := Tryz.zeroValue167,
 t53 := Tryz.underlying121,
 a53 := Tryz.isAgg121,
 z53 := Tryz.sizeOf121,
 v53 := Tryz.zeroValue121,
 t55 := Tryz.underlying171,
 a55 := Tryz.isAgg171,
 z55 := Tryz.sizeOf171,
 v55 := Tryz.zeroValue171,
 t66 := Tryz.underlying177,
 a66 := Tryz.isAgg177,
 z66 := Tryz.sizeOf177,
 v66 := Tryz.zeroValue177,
 t70 := Tryz.underlying181,
 a70 := Tryz.isAgg181,
 z70 := Tryz.sizeOf181,
 v70 := Tryz.zeroValue181,
 t76 := Tryz.underlying194,
 a76 := Tryz.isAgg194,
 z76 := Tryz.sizeOf194,
 v76 := Tryz.zeroValue194,
 t77 := Tryz.underlying195,
 a77 := Tryz.isAgg195,
 z77 := Tryz.sizeOf195,
 v77 := Tryz.zeroValue195}
def layInts_ren : Go.Shelf.Ren := ⟨fun | 5 => 82 | 8 => 81 | 7 => 103 | 19 => 101 | 20 => 102 | 10 => 114 | 11 => 115 | 12 => 116 | 13 => 117 | 14 => 118 | 15 => 119 | 16 => 120 | 17 => 121 | 18 => 122 | 30 => 130 | 31 => 110 | 32 => 111 | 33 => 131 | 34 => 132 | 35 => 133 | 40 => 136 | n => n, fun | 23 => 35 | 25 => 3 | 3 => 3 | 32 => 132 | 22 => 35 | 0 => 0 | 44 => 121 | 46 => 171 | 4 => 4 | 36 => 163 | 35 => 162 | 41 => 167 | 5 => 5 | 9 => 9 | 53 => 177 | 57 => 181 | 63 => 194 | 64 => 195 | n => n, fun | n => n⟩
set_option maxRecDepth 100000 in
theorem GW : Go.Proofs.SlLaysM.n5 Tryz.prog layInts_ren := {
 mixed := by kernel_rfl,
 f5 := ⟨Tryz.f82.name, by decide, Tryz.func82.trans (congrArg some (by kernel_rfl))⟩,
 f7 := ⟨Tryz.f103.name, by decide, Tryz.func103.trans (congrArg some (by kernel_rfl))⟩,
 f8 := Tryz.func81.trans (congrArg some (by kernel_rfl)),
 f10 := ⟨Tryz.f114.name, by decide, Tryz.func114.trans (congrArg some (by kernel_rfl))⟩,
 f11 := ⟨Tryz.f115.name, by decide, Tryz.func115.trans (congrArg some (by kernel_rfl))⟩,
 f12 := ⟨Tryz.f116.name, by decide, Tryz.func116.trans (congrArg some (by kernel_rfl))⟩,
 f13 := ⟨Tryz.f117.name, by decide, Tryz.func117.trans (congrArg some (by kernel_rfl))⟩,
 f14 := ⟨Tryz.f118.name, by decide, Tryz.func118.trans (congrArg some (by kernel_rfl))⟩,
 f15 := ⟨Tryz.f119.name, by decide, Tryz.func119.trans (congrArg some (by kernel_rfl))⟩,
 f16 := ⟨Tryz.f120.name, by decide, Tryz.func120.trans (congrArg some (by kernel_rfl))⟩,
 f17 := ⟨Tryz.f121.name, by decide, Tryz.func121.trans (congrArg some (by kernel_rfl))⟩,
 f18 := ⟨Tryz.f122.name, by decide, Tryz.func122.trans (congrArg some (by kernel_rfl))⟩,
 f19 := Tryz.func101.trans (congrArg some (by kernel_rfl)),
 f20 := Tryz.func102.trans (congrArg some (by kernel_rfl)),
 f30 := ⟨Tryz.f130.name, by decide, Tryz.func130.trans (congrArg some (by kernel_rfl))⟩,
 f31 := Tryz.func110.trans (congrArg some (by kernel_rfl)),
 f32 := Tryz.func111.trans (congrArg some (by kernel_rfl)),
 f33 := ⟨Tryz.f131.name, by decide, Tryz.func131.trans (congrArg some (by kernel_rfl))⟩,
 f34 := ⟨Tryz.f132.name, by decide, Tryz.func132.trans (congrArg some (by kernel_rfl))⟩,
 f35 := ⟨Tryz.f133.name, by decide, Tryz.func133.trans (congrArg some (by kernel_rfl))⟩,
 f40 := ⟨Tryz.f136.name, by decide, Tryz.func136.trans (congrArg some (by kernel_rfl))⟩,
 t0 := Tryz.underlying0,
 a0 := Tryz.isAgg0,
 z0 := Tryz.sizeOf0,
 v0 := Tryz.zeroValue0,
 t3 := Tryz.underlying3,
 a3 := Tryz.isAgg3,
 z3 := Tryz.sizeOf3,
 v3 := Tryz.zeroValue3,
 t4 := Tryz.underlying4,
 a4 := Tryz.isAgg4,
 z4 := Tryz.sizeOf4,
 v4 := Tryz.zeroValue4,
 t5 := Tryz.underlying5,
 a5 := Tryz.isAgg5,
 z5 := Tryz.sizeOf5,
 v5 := Tryz.zeroValue5,
 t9 := Tryz.underlying9,
 a9 := Tryz.isAgg9,
 z9 := Tryz.sizeOf9,
 v9 := Tryz.zeroValue9,
 t22 := Tryz.underlying35,
 a22 := Tryz.isAgg35,
 z22 := Tryz.sizeOf35,
 v22 := Tryz.zeroValue35,
 t23 := Tryz.underlying35,
 a23 := Tryz.isAgg35,
 z23 := Tryz.sizeOf35,
 v23 := Tryz.zeroValue35,
 t25 := Tryz.underlying3,
 a25 := Tryz.isAgg3,
 z25 := Tryz.sizeOf3,
 v25 := Tryz.zeroValue3,
 t32 := Tryz.underlying132,
 a32 := Tryz.isAgg132,
 z32 := Tryz.sizeOf132,
 v32 := Tryz.zeroValue132,
 t35 := Tryz.underlying162,
 a35 := Tryz.isAgg162,
 z35 := Tryz.sizeOf162,
 v35 := Tryz.zeroValue162,
 t36 := Tryz.underlying163,
 a36 := Tryz.isAgg163,
 z36 := Tryz.sizeOf163,
 v36 := Tryz.zeroValue163,
 t41 := Tryz.underlying167,
 a41 := Tryz.isAgg167,
 z41 := Tryz.sizeOf167,
 v41 := Tryz.zeroValue167,
 t44 := Tryz.underlying121,
 a44 := Tryz.isAgg121,
 z44 := Tryz.sizeOf121,
 v44 := Tryz.zeroValue121,
 t46 := Tryz.underlying171,
 a46 := Tryz.isAgg171,
 z46 := Tryz.sizeOf171,
 v46 := Tryz.zeroValue171,
 t53 := Tryz.underlying177,
 a53 := Tryz.isAgg177,
 z53 := Tryz.sizeOf177,
 v53 := Tryz.zeroValue177,
 t57 := Tryz.underlying181,
 a57 := Tryz.isAgg181,
 z57 := Tryz.sizeOf181,
 v57 := Tryz.zeroValue181,
 t63 := Tryz.underlying194,
 a63 := Tryz.isAgg194,
 z63 := Tryz.sizeOf194,
 v63 := Tryz.zeroValue194,
 t64 := Tryz.underlying195,
 a64 := Tryz.isAgg195,
 z64 := Tryz.sizeOf195,
 v64 := Tryz.zeroValue195}
end Go.Proofs.YteepnepebilckaaGreatDoor
namespace Go.Proofs.YteepnepebilckaaGreatDoor
open Go Go.Eng Go.RowKit
def Gn (w w' : World) : Prop := ∃ q os, w' = Go.Sort.grow (w.drewN q) os
theorem Gn.refl (w : World) : Gn w w := ⟨0, #[], by rw [Go.Sort.grow_empty]; rfl⟩
theorem Gn.trans {a b c : World} (h : Gn a b) (k : Gn b c) : Gn a c := by
 obtain ⟨q, os, rfl⟩ := h
 obtain ⟨q', os', rfl⟩ := k
 refine ⟨q + q', os ++ os', ?_⟩
 show Go.Sort.grow (Go.Sort.grow ((a.drewN q).drewN q') os) os' = _
 rw [Go.Sort.grow_grow, World.drewN_drewN]
theorem Gn.drew' (w : World) : Gn w w.drew := ⟨1, #[], by rw [Go.Sort.grow_empty]; rfl⟩
theorem Gn.alloc' (w : World) (o : Obj) : Gn w (w.alloc o) := ⟨0, #[o], by
 show w.alloc o = { w with heap := w.heap ++ #[o] }
 rw [← Array.push_eq_append]; rfl⟩
theorem Gn.drew {a b : World} (h : Gn a b) : Gn a b.drew := h.trans (Gn.drew' b)
theorem Gn.below {a b : World} (h : Gn a b) : Below a.heap.size a b := by
 obtain ⟨q, os, rfl⟩ := h
 refine ⟨rfl, rfl, rfl, ?_, fun j hj => ?_⟩
 ·show _ ≤ (a.heap ++ os).size
  rw [Array.size_append]; omega
 show (a.heap ++ os)[j]? = _
 rw [Array.getElem?_append_left hj]
def c2 (b : Bool) : Int := if b then -1 else 1
def Dc (a b : Int) : Int := if a < b then -1 else if b < a then 1 else 0
def cv (g : Gph) (x y : Nat) : Int :=
 if g.op x ≠ g.op y then c2 (decide (g.op x < g.op y)) else
 if g.aux x ≠ g.aux y then c2 (decide (g.aux x < g.aux y)) else
 if ((g.args x).length : Int) ≠ ((g.args y).length : Int) then c2 (decide (((g.args x).length : Int) < ((g.args y).length : Int))) else
 if g.op x = 13 ∧ g.blk x ≠ g.blk y then c2 (decide (((g.blk x : Nat) : Int) + 1 < ((g.blk y : Nat) : Int) + 1)) else 0
def cp (g : Gph) (x y : Nat) : Int := if cv g x y = -1 then -1 else if cv g x y = 1 then 1 else Dc ((x : Int) + 1) ((y : Int) + 1)
section
variable {w : World} {B : Nat} {L : Lay} {g : Gph}
theorem GRep.vTy (h : GRep w B L g) {i : Nat} (hi : i < g.nv) : w.cell? ⟨L.vb i, 0 + 2, none⟩ = some (.int .i64 (g.ty i)) := Am (h.val hi) rfl
theorem GRep.vNil (h : GRep w B L g) {i : Nat} (hi : i < g.nv) : w.cell? ⟨L.vb i, 0 + 4, none⟩ = some (.pointer none) := Am (h.val hi) rfl
end
theorem Ga {w : World} {ρ : Operand → Value} {d : Option Tmp} {ty u : TypeId} {pos : String} {af : Array Edge} {g : Option (Nat × Bool)} {x y : Operand} (hx : ρ x = .pointer none) (hy : ρ y = .pointer none) :
 (execOp ρ ⟨d, .binOp .neq 98 x y u, ty, pos, af, g⟩).run Tryz.prog w = .ok (.value (.bool false)) w := by
 have key : (Op.equal 98 (.pointer none) (.pointer none)).run Tryz.prog w = .ok true w := by kernel_rfl
 simp [execOp, hx, hy, eqGuard, binOp, key]
set_option maxHeartbeats 4000000
attribute [local irreducible] EC EL DL Ret thenQ blockQ Bf bodyQ onlyN execOp Sem.run World.cell? World.frozen? World.setCell World.alloc
theorem EB {w : World} (a : Int) : Ret Tryz.prog 92 #[.int .i32 a] w fun v w' => v = .bool false ∧ w' = w := by
 refine ret_of_EC Tryz.func92 rfl rfl (Ae (Ac (Ab Ah rfl (Af (Aa (Ae (Ac (Ab Ad rfl (Ab Ad rfl (Ab (Br rfl rfl) rfl (Ab Ah rfl ?_)))))))))))
 refine Af (Aa (AD ?_))
 exact Aw rfl rfl rfl ⟨congrArg Value.bool (decide_eq_false (fun h => h rfl)), rfl⟩
theorem DY {w : World} (a : Int) : Ret Tryz.prog 85 #[.int .i32 a] w fun v w' => v = .bool false ∧ w' = w := by
 refine ret_of_EC Tryz.func85 rfl rfl (Ae (Ac (Ab Ah rfl (Af (Aa (Ae (Ac (Ab Ad rfl (Ab Ad rfl (Ab (Br rfl rfl) rfl (Ab Ah rfl ?_)))))))))))
 refine Af (Aa (AD ?_))
 exact Aw rfl rfl rfl ⟨congrArg Value.bool (decide_eq_false (fun h => h rfl)), rfl⟩
theorem F7 {w : World} (a b : Int) : Ret Tryz.prog 79 #[.int .i32 a, .int .i32 b] w fun v w' => v = .int .i64 (Dc a b) ∧ w' = w := by
 refine ret_of_EC Tryz.func79 rfl rfl (Ae (Ac (Ab Ah rfl (Af (Aa (Ae (Ac (Ab Ad rfl (Bg (AH Tryz.func92 rfl rfl rfl rfl) rfl (EB a) ?_)))))))))
 rintro _ wx ⟨rfl, ew⟩
 rw [ew]
 clear ew wx
 refine Ab Ah rfl (Af (Aa (Ae (Ac (Ab Ad rfl (Bg (AH Tryz.func92 rfl rfl rfl rfl) rfl (EB b) ?_))))))
 rintro _ wx ⟨rfl, ew⟩
 rw [ew]
 clear ew wx
 refine Ab Ah rfl (Af (Aa (Ae (Ae (Ac (Ab Ad rfl (Af (Aa (A6 rfl rfl (Aq (Aa ?_)))))))))))
 refine Ae (Ae (Ac (Ab Ad rfl (Af (Aa (A6 rfl rfl (Aq (Aa ?_))))))))
 unfold Dc
 refine Ae (Ae (Ac (Ab Ad rfl (Ab Ad rfl (Ab (AW rfl rfl) rfl (Af (Aa ?_)))))))
 refine AG rfl rfl (fun h1 => ?_) (fun h1 => ?_)
 ·rw [if_pos h1]
  refine Ae (Ac (Ab Ah rfl (Af (Aa (AD (AJ ?_))))))
  exact Aw rfl rfl rfl ⟨rfl, rfl⟩
 rw [if_neg h1]
 refine Aq (Aa (Ae (Ae (Ac (Ab Ad rfl (Ab Ad rfl (Ab (BC rfl rfl) rfl (Af (Aa ?_)))))))))
 refine AG rfl rfl (fun h1 => ?_) (fun h1 => ?_)
 ·rw [if_pos h1]
  refine Ae (Ac (Ab Ah rfl (Af (Aa (AD (AJ ?_))))))
  exact Aw rfl rfl rfl ⟨rfl, rfl⟩
 rw [if_neg h1]
 refine Aq (Aa (Ae (Ac (Ab Ah rfl (Af (Aa (AD ?_)))))))
 exact Aw rfl rfl rfl ⟨rfl, rfl⟩
theorem FU {w : World} (a b : Int) : Ret Tryz.prog 61 #[.int .i32 a, .int .i32 b] w fun v w' => v = .int .i64 (Dc a b) ∧ w' = w := by
 refine ret_of_EC Tryz.func61 rfl rfl (Ae (Ac (Ab Ah rfl (Af (Aa (Ae (Ac (Ab Ad rfl (Bg (AH Tryz.func85 rfl rfl rfl rfl) rfl (DY a) ?_)))))))))
 rintro _ wx ⟨rfl, ew⟩
 rw [ew]
 clear ew wx
 refine Ab Ah rfl (Af (Aa (Ae (Ac (Ab Ad rfl (Bg (AH Tryz.func85 rfl rfl rfl rfl) rfl (DY b) ?_))))))
 rintro _ wx ⟨rfl, ew⟩
 rw [ew]
 clear ew wx
 refine Ab Ah rfl (Af (Aa (Ae (Ae (Ac (Ab Ad rfl (Af (Aa (A6 rfl rfl (Aq (Aa ?_)))))))))))
 refine Ae (Ae (Ac (Ab Ad rfl (Af (Aa (A6 rfl rfl (Aq (Aa ?_))))))))
 unfold Dc
 refine Ae (Ae (Ac (Ab Ad rfl (Ab Ad rfl (Ab (AW rfl rfl) rfl (Af (Aa ?_)))))))
 refine AG rfl rfl (fun h1 => ?_) (fun h1 => ?_)
 ·rw [if_pos h1]
  refine Ae (Ac (Ab Ah rfl (Af (Aa (AD (AJ ?_))))))
  exact Aw rfl rfl rfl ⟨rfl, rfl⟩
 rw [if_neg h1]
 refine Aq (Aa (Ae (Ae (Ac (Ab Ad rfl (Ab Ad rfl (Ab (BC rfl rfl) rfl (Af (Aa ?_)))))))))
 refine AG rfl rfl (fun h1 => ?_) (fun h1 => ?_)
 ·rw [if_pos h1]
  refine Ae (Ac (Ab Ah rfl (Af (Aa (AD (AJ ?_))))))
  exact Aw rfl rfl rfl ⟨rfl, rfl⟩
 rw [if_neg h1]
 refine Aq (Aa (Ae (Ac (Ab Ah rfl (Af (Aa (AD ?_)))))))
 exact Aw rfl rfl rfl ⟨rfl, rfl⟩
theorem DR {w : World} (b : Bool) : Ret Tryz.prog 90 #[.bool b] w fun v w' => v = .int .i8 (c2 b) ∧ w' = w := by
 refine ret_of_EC Tryz.func90 rfl rfl (Ae (Ac (Ab Ah rfl (Af (Aa (Ae (Ae (Ac (Ab Ad rfl (Af (Aa ?_)))))))))))
 cases b with
 | true =>
   refine Ba rfl rfl (Ae (Ac (Ab Ah rfl (Af (Aa (AD (AJ ?_)))))))
   exact Aw rfl rfl rfl ⟨rfl, rfl⟩
 | false =>
   refine A6 rfl rfl (Aq (Aa (Ae (Ac (Ab Ah rfl (Af (Aa (AD ?_))))))))
   exact Aw rfl rfl rfl ⟨rfl, rfl⟩
theorem FV {w : World} (a : Int) : Ret Tryz.prog 91 #[.int .i64 a, .int .i64 a] w fun v w' => v = .int .i8 0 ∧ w' = w := by
 refine ret_of_EC Tryz.func91 rfl rfl (Ae (Ac (Ab Ah rfl (Af (Aa (Ae (Ao (Ae (Ac (Ab Ad rfl (Ab Ad rfl ?_)))))))))))
 refine Ab (AW rfl rfl) rfl (Ab Ah rfl (Af (Aa ?_)))
 refine AG rfl rfl (fun h => absurd h (Int.lt_irrefl _)) (fun _ => ?_)
 refine Ae (Ac (Ab Ad rfl (Ab Ad rfl (Ab (BC rfl rfl) rfl (Ab Ah rfl (Af (Aa ?_)))))))
 refine AG rfl rfl (fun h => absurd h (Int.lt_irrefl _)) (fun _ => ?_)
 refine Aq (Ap (Aa (Ae (Ac (Ab Ah rfl (Af (Aa (AD ?_))))))))
 exact Aw rfl rfl rfl ⟨rfl, rfl⟩
theorem EG {w : World} (a : Int) : Ret Tryz.prog 50 #[.int .i64 a] w fun v w' => v = .bool false ∧ w' = w := by
 refine ret_of_EC Tryz.func50 rfl rfl (Ae (Ac (Ab Ah rfl (Af (Aa (Ae (Ac (Ab Ah rfl (Af (Aa (AD ?_)))))))))))
 exact Aw rfl rfl rfl ⟨rfl, rfl⟩
theorem cmpVal_ret {w : World} {B : Nat} {L : Lay} {g : Gph} {x y : Nat} {am : Value} (hg : GRep w B L g) (hx : x < g.nv) (hy : y < g.nv) (hbx : g.blk x < g.nb) (hby : g.blk y < g.nb)
 (hty : g.op x = g.op y → g.ty x = g.ty y) (hop : g.op x ≤ 15) :
 Ret Tryz.prog 78 #[L.vp x, L.vp y, am] w fun v w' => v = .int .i8 (cv g x y) ∧ Gn w w' := by
 refine ret_of_EC Tryz.func78 rfl rfl ?_
 obtain ⟨ax, capx, hax⟩ := Row.len (hg.comp (.args x) hx)
 obtain ⟨ay, capy, hay⟩ := Row.len (hg.comp (.args y) hy)
 have hW : Gn w w := Gn.refl w
 refine Ae (Ac (Ab Ah rfl (Af (Aa (Ae (Ae (AZ mixed (fun w' => GRep w' B L g) [(0, false), (1, false), (2, false), (3, false), (4, false), (5, false), (6, false), (7, false), (8, false)] (by kernel_rfl) hg.drew ?_)))))))
 replace hg := hg.drew
 replace hW := hW.drew
 generalize w.drew = w1 at hg hW ⊢
 refine Aj rfl (fun _ _ => Ad) (Aj rfl (fun _ _ => Ax rfl) (Aj rfl (fun _ _ => Ak rfl (Al rfl)) (Aj rfl (fun _ hS => Ai rfl (Ag rfl) (by first | exact GRep.vOp hS hx | exact GRep.vOp hS hy | exact GRep.vID hS hx | exact GRep.vID hS hy | exact GRep.vAux hS hx | exact GRep.vAux hS hy | exact GRep.vArgs hS hx | exact GRep.vArgs hS hy | exact GRep.vBlk hS hx | exact GRep.vBlk hS hy | exact GRep.vTy hS hx | exact GRep.vTy hS hy | exact GRep.vNil hS hx | exact GRep.vNil hS hy | exact GRep.bID hS hbx | exact GRep.bID hS hby)) ?_)))
 refine Aj rfl (fun _ _ => Ad) (Aj rfl (fun _ _ => Ax rfl) (Aj rfl (fun _ _ => Ak rfl (Al rfl)) (Aj rfl (fun _ hS => Ai rfl (Ag rfl) (by first | exact GRep.vOp hS hx | exact GRep.vOp hS hy | exact GRep.vID hS hx | exact GRep.vID hS hy | exact GRep.vAux hS hx | exact GRep.vAux hS hy | exact GRep.vArgs hS hx | exact GRep.vArgs hS hy | exact GRep.vBlk hS hx | exact GRep.vBlk hS hy | exact GRep.vTy hS hx | exact GRep.vTy hS hy | exact GRep.vNil hS hx | exact GRep.vNil hS hy | exact GRep.bID hS hbx | exact GRep.bID hS hby)) ?_)))
 refine Aj rfl (fun _ _ => Br rfl rfl) (AR (Aa ?_))
 unfold cv
 refine AG rfl rfl (fun hne => ?_) (fun heq => ?_)
 ·rw [if_pos hne]
  refine Ae (AZ mixed (fun w' => GRep w' B L g) [(0, false), (1, false), (2, false), (3, false), (4, false), (5, false), (6, false), (7, false), (8, false), (9, true), (10, false)] (by kernel_rfl) hg.drew ?_)
  replace hg := hg.drew
  replace hW := hW.drew
  generalize w1.drew = w2 at hg hW ⊢
  refine Aj rfl (fun _ _ => Ad) (Aj rfl (fun _ _ => Ax rfl) (Aj rfl (fun _ _ => Ak rfl (Al rfl)) (Aj rfl (fun _ hS => Ai rfl (Ag rfl) (by first | exact GRep.vOp hS hx | exact GRep.vOp hS hy | exact GRep.vID hS hx | exact GRep.vID hS hy | exact GRep.vAux hS hx | exact GRep.vAux hS hy | exact GRep.vArgs hS hx | exact GRep.vArgs hS hy | exact GRep.vBlk hS hx | exact GRep.vBlk hS hy | exact GRep.vTy hS hx | exact GRep.vTy hS hy | exact GRep.vNil hS hx | exact GRep.vNil hS hy | exact GRep.bID hS hbx | exact GRep.bID hS hby)) ?_)))
  refine Aj rfl (fun _ _ => Ad) (Aj rfl (fun _ _ => Ax rfl) (Aj rfl (fun _ _ => Ak rfl (Al rfl)) (Aj rfl (fun _ hS => Ai rfl (Ag rfl) (by first | exact GRep.vOp hS hx | exact GRep.vOp hS hy | exact GRep.vID hS hx | exact GRep.vID hS hy | exact GRep.vAux hS hx | exact GRep.vAux hS hy | exact GRep.vArgs hS hx | exact GRep.vArgs hS hy | exact GRep.vBlk hS hx | exact GRep.vBlk hS hy | exact GRep.vTy hS hx | exact GRep.vTy hS hy | exact GRep.vNil hS hx | exact GRep.vNil hS hy | exact GRep.bID hS hbx | exact GRep.bID hS hby)) ?_)))
  refine Aj rfl (fun _ _ => AW rfl rfl) (BL rfl (AH Tryz.func90 rfl rfl rfl rfl) (DR _) ?_)
  rintro _ wx ⟨rfl, ew⟩
  rw [ew]
  clear ew wx
  refine ⟨.inr hg, ?_⟩
  refine Aj rfl (fun _ _ => Ah) (AR (Aa (AD (AJ ?_))))
  exact Aw rfl rfl rfl ⟨rfl, hW⟩
 rw [if_neg heq]
 have ho : g.op x = g.op y := Classical.not_not.1 heq
 refine Aq (Aa (Ae (Ae (AZ mixed (fun w' => GRep w' B L g) [(0, false), (1, false), (2, false), (3, false), (4, false), (5, false), (6, false), (7, false), (8, false)] (by kernel_rfl) hg.drew ?_))))
 replace hg := hg.drew
 replace hW := hW.drew
 generalize w1.drew = w2 at hg hW ⊢
 refine Aj rfl (fun _ _ => Ad) (Aj rfl (fun _ _ => Ax rfl) (Aj rfl (fun _ _ => Ak rfl (Al rfl)) (Aj rfl (fun _ hS => Ai rfl (Ag rfl) (by first | exact GRep.vOp hS hx | exact GRep.vOp hS hy | exact GRep.vID hS hx | exact GRep.vID hS hy | exact GRep.vAux hS hx | exact GRep.vAux hS hy | exact GRep.vArgs hS hx | exact GRep.vArgs hS hy | exact GRep.vBlk hS hx | exact GRep.vBlk hS hy | exact GRep.vTy hS hx | exact GRep.vTy hS hy | exact GRep.vNil hS hx | exact GRep.vNil hS hy | exact GRep.bID hS hbx | exact GRep.bID hS hby)) ?_)))
 refine Aj rfl (fun _ _ => Ad) (Aj rfl (fun _ _ => Ax rfl) (Aj rfl (fun _ _ => Ak rfl (Al rfl)) (Aj rfl (fun _ hS => Ai rfl (Ag rfl) (by first | exact GRep.vOp hS hx | exact GRep.vOp hS hy | exact GRep.vID hS hx | exact GRep.vID hS hy | exact GRep.vAux hS hx | exact GRep.vAux hS hy | exact GRep.vArgs hS hx | exact GRep.vArgs hS hy | exact GRep.vBlk hS hx | exact GRep.vBlk hS hy | exact GRep.vTy hS hx | exact GRep.vTy hS hy | exact GRep.vNil hS hx | exact GRep.vNil hS hy | exact GRep.bID hS hbx | exact GRep.bID hS hby)) ?_)))
 refine Aj rfl (fun _ _ => Br rfl rfl) (AR (Aa ?_))
 refine AG rfl rfl (fun hne => ?_) (fun heq => ?_)
 ·rw [if_pos hne]
  refine Ae (AZ mixed (fun w' => GRep w' B L g) [(0, false), (1, false), (2, false), (3, false), (4, false), (5, false), (6, false), (7, false), (8, false), (9, true), (10, false)] (by kernel_rfl) hg.drew ?_)
  replace hg := hg.drew
  replace hW := hW.drew
  generalize w2.drew = w3 at hg hW ⊢
  refine Aj rfl (fun _ _ => Ad) (Aj rfl (fun _ _ => Ax rfl) (Aj rfl (fun _ _ => Ak rfl (Al rfl)) (Aj rfl (fun _ hS => Ai rfl (Ag rfl) (by first | exact GRep.vOp hS hx | exact GRep.vOp hS hy | exact GRep.vID hS hx | exact GRep.vID hS hy | exact GRep.vAux hS hx | exact GRep.vAux hS hy | exact GRep.vArgs hS hx | exact GRep.vArgs hS hy | exact GRep.vBlk hS hx | exact GRep.vBlk hS hy | exact GRep.vTy hS hx | exact GRep.vTy hS hy | exact GRep.vNil hS hx | exact GRep.vNil hS hy | exact GRep.bID hS hbx | exact GRep.bID hS hby)) ?_)))
  refine Aj rfl (fun _ _ => Ad) (Aj rfl (fun _ _ => Ax rfl) (Aj rfl (fun _ _ => Ak rfl (Al rfl)) (Aj rfl (fun _ hS => Ai rfl (Ag rfl) (by first | exact GRep.vOp hS hx | exact GRep.vOp hS hy | exact GRep.vID hS hx | exact GRep.vID hS hy | exact GRep.vAux hS hx | exact GRep.vAux hS hy | exact GRep.vArgs hS hx | exact GRep.vArgs hS hy | exact GRep.vBlk hS hx | exact GRep.vBlk hS hy | exact GRep.vTy hS hx | exact GRep.vTy hS hy | exact GRep.vNil hS hx | exact GRep.vNil hS hy | exact GRep.bID hS hbx | exact GRep.bID hS hby)) ?_)))
  refine Aj rfl (fun _ _ => AW rfl rfl) (BL rfl (AH Tryz.func90 rfl rfl rfl rfl) (DR _) ?_)
  rintro _ wx ⟨rfl, ew⟩
  rw [ew]
  clear ew wx
  refine ⟨.inr hg, ?_⟩
  refine Aj rfl (fun _ _ => Ah) (AR (Aa (AD (AJ ?_))))
  exact Aw rfl rfl rfl ⟨rfl, hW⟩
 rw [if_neg heq]
 refine Aq (Aa (Ae (Ae (AZ mixed (fun w' => GRep w' B L g) [(0, false), (1, false), (2, false), (3, false), (4, false), (5, false), (6, false), (7, false), (8, false), (9, false), (10, false)] (by kernel_rfl) hg.drew ?_))))
 replace hg := hg.drew
 replace hW := hW.drew
 generalize w2.drew = w3 at hg hW ⊢
 refine Aj rfl (fun _ _ => Ad) (Aj rfl (fun _ _ => Ax rfl) (Aj rfl (fun _ _ => Ak rfl (Al rfl)) (Aj rfl (fun _ hS => Ai rfl (Ag rfl) (by first | exact GRep.vOp hS hx | exact GRep.vOp hS hy | exact GRep.vID hS hx | exact GRep.vID hS hy | exact GRep.vAux hS hx | exact GRep.vAux hS hy | exact GRep.vArgs hS hx | exact GRep.vArgs hS hy | exact GRep.vBlk hS hx | exact GRep.vBlk hS hy | exact GRep.vTy hS hx | exact GRep.vTy hS hy | exact GRep.vNil hS hx | exact GRep.vNil hS hy | exact GRep.bID hS hbx | exact GRep.bID hS hby)) ?_)))
 refine Aj rfl (fun _ _ => AP hax (An rfl)) (Aj rfl (fun _ _ => Ad) (Aj rfl (fun _ _ => Ax rfl) (Aj rfl (fun _ _ => Ak rfl (Al rfl)) (Aj rfl (fun _ hS => Ai rfl (Ag rfl) (by first | exact GRep.vOp hS hx | exact GRep.vOp hS hy | exact GRep.vID hS hx | exact GRep.vID hS hy | exact GRep.vAux hS hx | exact GRep.vAux hS hy | exact GRep.vArgs hS hx | exact GRep.vArgs hS hy | exact GRep.vBlk hS hx | exact GRep.vBlk hS hy | exact GRep.vTy hS hx | exact GRep.vTy hS hy | exact GRep.vNil hS hx | exact GRep.vNil hS hy | exact GRep.bID hS hbx | exact GRep.bID hS hby)) ?_))))
 refine Aj rfl (fun _ _ => AP hay (An rfl)) (Aj rfl (fun _ _ => Br rfl rfl) (AR (Aa ?_)))
 refine AG rfl rfl (fun hne => ?_) (fun heq => ?_)
 ·rw [if_pos hne]
  refine Ae (AZ mixed (fun w' => GRep w' B L g) [(0, false), (1, false), (2, false), (3, false), (4, false), (5, false), (6, false), (7, false), (8, false), (9, false), (10, false), (11, true), (12, false)] (by kernel_rfl) hg.drew ?_)
  replace hg := hg.drew
  replace hW := hW.drew
  generalize w3.drew = w4 at hg hW ⊢
  refine Aj rfl (fun _ _ => Ad) (Aj rfl (fun _ _ => Ax rfl) (Aj rfl (fun _ _ => Ak rfl (Al rfl)) (Aj rfl (fun _ hS => Ai rfl (Ag rfl) (by first | exact GRep.vOp hS hx | exact GRep.vOp hS hy | exact GRep.vID hS hx | exact GRep.vID hS hy | exact GRep.vAux hS hx | exact GRep.vAux hS hy | exact GRep.vArgs hS hx | exact GRep.vArgs hS hy | exact GRep.vBlk hS hx | exact GRep.vBlk hS hy | exact GRep.vTy hS hx | exact GRep.vTy hS hy | exact GRep.vNil hS hx | exact GRep.vNil hS hy | exact GRep.bID hS hbx | exact GRep.bID hS hby)) ?_)))
  refine Aj rfl (fun _ _ => AP hax (An rfl)) (Aj rfl (fun _ _ => Ad) (Aj rfl (fun _ _ => Ax rfl) (Aj rfl (fun _ _ => Ak rfl (Al rfl)) (Aj rfl (fun _ hS => Ai rfl (Ag rfl) (by first | exact GRep.vOp hS hx | exact GRep.vOp hS hy | exact GRep.vID hS hx | exact GRep.vID hS hy | exact GRep.vAux hS hx | exact GRep.vAux hS hy | exact GRep.vArgs hS hx | exact GRep.vArgs hS hy | exact GRep.vBlk hS hx | exact GRep.vBlk hS hy | exact GRep.vTy hS hx | exact GRep.vTy hS hy | exact GRep.vNil hS hx | exact GRep.vNil hS hy | exact GRep.bID hS hbx | exact GRep.bID hS hby)) ?_))))
  refine Aj rfl (fun _ _ => AP hay (An rfl)) (Aj rfl (fun _ _ => AW rfl rfl) (BL rfl (AH Tryz.func90 rfl rfl rfl rfl) (DR _) ?_))
  rintro _ wx ⟨rfl, ew⟩
  rw [ew]
  clear ew wx
  refine ⟨.inr hg, ?_⟩
  refine Aj rfl (fun _ _ => Ah) (AR (Aa (AD (AJ ?_))))
  exact Aw rfl rfl rfl ⟨rfl, hW⟩
 rw [if_neg heq]
 refine Aq (Aa (Ae (Ae (AZ mixed (fun w' => GRep w' B L g) [(0, false), (1, false), (2, false), (3, false), (4, false), (5, false), (6, false), (7, false), (8, false), (9, false), (10, false), (11, false), (12, false), (13, false), (14, false), (15, false)] (by kernel_rfl) hg.drew ?_))))
 replace hg := hg.drew
 replace hW := hW.drew
 generalize w3.drew = w4 at hg hW ⊢
 have hdec : decide ((⟨L.bb (g.blk x), 0, none⟩ : Addr) = ⟨L.bb (g.blk y), 0, none⟩) = decide (g.blk x = g.blk y) := by
  by_cases hb : g.blk x = g.blk y
  ·rw [hb, decide_eq_true rfl, decide_eq_true rfl]
  rw [decide_eq_false hb, decide_eq_false]
  intro e
  injection e with e
  exact hb (FC hg hbx hby e)
 refine DL_cut 16 (fun e w' => w' = w4 ∧ At e [(84, .bool (decide (g.op x = 13 ∧ g.blk x ≠ g.blk y))), (0, L.vp x), (1, L.vp y), (2, am)]) rfl ?_ ?_
 ·refine Aj rfl (fun _ _ => Ad) (Aj rfl (fun _ _ => Ax rfl) (Aj rfl (fun _ _ => Ak rfl (Al rfl)) (Aj rfl (fun _ hS => Ai rfl (Ag rfl) (by first | exact GRep.vOp hS hx | exact GRep.vOp hS hy | exact GRep.vID hS hx | exact GRep.vID hS hy | exact GRep.vAux hS hx | exact GRep.vAux hS hy | exact GRep.vArgs hS hx | exact GRep.vArgs hS hy | exact GRep.vBlk hS hx | exact GRep.vBlk hS hy | exact GRep.vTy hS hx | exact GRep.vTy hS hy | exact GRep.vNil hS hx | exact GRep.vNil hS hy | exact GRep.bID hS hbx | exact GRep.bID hS hby)) ?_)))
  refine Aj rfl (fun _ _ => Bi rfl rfl) (Aj rfl (fun _ _ => Ad) ?_)
  by_cases h13 : g.op x = 13
  ·rw [decide_eq_true h13]
   refine AF rfl rfl (fun _ _ => Ad) (AF rfl rfl (fun _ _ => Ax rfl) (AF rfl rfl (fun _ _ => Ak rfl (Al rfl)) (AF rfl rfl (fun _ hS => Ai rfl (Ag rfl) (by first | exact GRep.vOp hS hx | exact GRep.vOp hS hy | exact GRep.vID hS hx | exact GRep.vID hS hy | exact GRep.vAux hS hx | exact GRep.vAux hS hy | exact GRep.vArgs hS hx | exact GRep.vArgs hS hy | exact GRep.vBlk hS hx | exact GRep.vBlk hS hy | exact GRep.vTy hS hx | exact GRep.vTy hS hy | exact GRep.vNil hS hx | exact GRep.vNil hS hy | exact GRep.bID hS hbx | exact GRep.bID hS hby)) ?_)))
   refine AF rfl rfl (fun _ _ => Ad) (AF rfl rfl (fun _ _ => Ax rfl) (AF rfl rfl (fun _ _ => Ak rfl (Al rfl)) (AF rfl rfl (fun _ hS => Ai rfl (Ag rfl) (by first | exact GRep.vOp hS hx | exact GRep.vOp hS hy | exact GRep.vID hS hx | exact GRep.vID hS hy | exact GRep.vAux hS hx | exact GRep.vAux hS hy | exact GRep.vArgs hS hx | exact GRep.vArgs hS hy | exact GRep.vBlk hS hx | exact GRep.vBlk hS hy | exact GRep.vTy hS hx | exact GRep.vTy hS hy | exact GRep.vNil hS hx | exact GRep.vNil hS hy | exact GRep.bID hS hbx | exact GRep.bID hS hby)) ?_)))
   refine AF rfl rfl (fun _ hS => x_neqp (a := ⟨L.bb (g.blk x), 0, none⟩) (b := ⟨L.bb (g.blk y), 0, none⟩) rfl rfl (BQ rfl) (GRep.bPlain hS hbx) (GRep.bPlain hS hby)) ?_
   rw [hdec]
   refine Aj rfl (fun _ _ => AQ rfl) ?_
   refine AR ⟨rfl, Ar rfl ⟨?_, rfl, rfl, rfl, trivial⟩⟩
   show Value.bool (!decide (g.blk x = g.blk y)) = _
   by_cases hb : g.blk x = g.blk y
   ·rw [decide_eq_true hb, decide_eq_false (fun h => h.2 hb)]; rfl
   rw [decide_eq_false hb, decide_eq_true ⟨h13, hb⟩]; rfl
  rw [decide_eq_false h13]
  refine AK rfl rfl (AK rfl rfl (AK rfl rfl (AK rfl rfl (AK rfl rfl (AK rfl rfl (AK rfl rfl (AK rfl rfl (AK rfl rfl (Aj rfl (fun _ _ => AN rfl) ?_)))))))))
  refine AR ⟨rfl, Ar rfl ⟨?_, rfl, rfl, rfl, trivial⟩⟩
  exact congrArg Value.bool (decide_eq_false (fun h : g.op x = 13 ∧ _ => h13 h.1)).symm
 rintro e w' ⟨rfl, t, rfl⟩
 refine AR (Aa ?_)
 refine AG rfl rfl (fun hne => ?_) (fun heq => ?_)
 ·rw [if_pos hne]
  refine Ae (AZ mixed (fun w' => GRep w' B L g) [(0, false), (1, false), (2, false), (3, false), (4, false), (5, false), (6, false), (7, false), (8, false), (9, false), (10, false), (11, false), (12, false), (13, false), (14, false), (15, true), (16, false)] (by kernel_rfl) hg.drew ?_)
  replace hg := hg.drew
  replace hW := hW.drew
  generalize w'.drew = w5 at hg hW ⊢
  refine Aj rfl (fun _ _ => Ad) (Aj rfl (fun _ _ => Ax rfl) (Aj rfl (fun _ _ => Ak rfl (Al rfl)) (Aj rfl (fun _ hS => Ai rfl (Ag rfl) (by first | exact GRep.vOp hS hx | exact GRep.vOp hS hy | exact GRep.vID hS hx | exact GRep.vID hS hy | exact GRep.vAux hS hx | exact GRep.vAux hS hy | exact GRep.vArgs hS hx | exact GRep.vArgs hS hy | exact GRep.vBlk hS hx | exact GRep.vBlk hS hy | exact GRep.vTy hS hx | exact GRep.vTy hS hy | exact GRep.vNil hS hx | exact GRep.vNil hS hy | exact GRep.bID hS hbx | exact GRep.bID hS hby)) ?_)))
  refine Aj rfl (fun _ _ => Ax rfl) (Aj rfl (fun _ _ => Ak rfl (Al rfl)) (Aj rfl (fun _ hS => Ai rfl (Ag rfl) (by first | exact GRep.vOp hS hx | exact GRep.vOp hS hy | exact GRep.vID hS hx | exact GRep.vID hS hy | exact GRep.vAux hS hx | exact GRep.vAux hS hy | exact GRep.vArgs hS hx | exact GRep.vArgs hS hy | exact GRep.vBlk hS hx | exact GRep.vBlk hS hy | exact GRep.vTy hS hx | exact GRep.vTy hS hy | exact GRep.vNil hS hx | exact GRep.vNil hS hy | exact GRep.bID hS hbx | exact GRep.bID hS hby)) ?_))
  refine Aj rfl (fun _ _ => Ad) (Aj rfl (fun _ _ => Ax rfl) (Aj rfl (fun _ _ => Ak rfl (Al rfl)) (Aj rfl (fun _ hS => Ai rfl (Ag rfl) (by first | exact GRep.vOp hS hx | exact GRep.vOp hS hy | exact GRep.vID hS hx | exact GRep.vID hS hy | exact GRep.vAux hS hx | exact GRep.vAux hS hy | exact GRep.vArgs hS hx | exact GRep.vArgs hS hy | exact GRep.vBlk hS hx | exact GRep.vBlk hS hy | exact GRep.vTy hS hx | exact GRep.vTy hS hy | exact GRep.vNil hS hx | exact GRep.vNil hS hy | exact GRep.bID hS hbx | exact GRep.bID hS hby)) ?_)))
  refine Aj rfl (fun _ _ => Ax rfl) (Aj rfl (fun _ _ => Ak rfl (Al rfl)) (Aj rfl (fun _ hS => Ai rfl (Ag rfl) (by first | exact GRep.vOp hS hx | exact GRep.vOp hS hy | exact GRep.vID hS hx | exact GRep.vID hS hy | exact GRep.vAux hS hx | exact GRep.vAux hS hy | exact GRep.vArgs hS hx | exact GRep.vArgs hS hy | exact GRep.vBlk hS hx | exact GRep.vBlk hS hy | exact GRep.vTy hS hx | exact GRep.vTy hS hy | exact GRep.vNil hS hx | exact GRep.vNil hS hy | exact GRep.bID hS hbx | exact GRep.bID hS hby)) ?_))
  refine Aj rfl (fun _ _ => AW rfl rfl) (BL rfl (AH Tryz.func90 rfl rfl rfl rfl) (DR _) ?_)
  rintro _ wx ⟨rfl, ew⟩
  rw [ew]
  clear ew wx
  refine ⟨.inr hg, ?_⟩
  refine Aj rfl (fun _ _ => Ah) (AR (Aa (AD (AJ ?_))))
  exact Aw rfl rfl rfl ⟨rfl, hW⟩
 rw [if_neg heq]
 refine Aq (Aa (Ae (Ae (Ac ?_))))
 have h1 := hg.vTy hx
 refine Ab Ad rfl (Ab (Ax rfl) rfl (Ab (Ak rfl (Al rfl)) rfl (Ab (Ai rfl (Ag rfl) ‹_›) rfl ?_)))
 refine Bg (AH Tryz.func50 rfl rfl rfl rfl) rfl (EG _) ?_
 rintro _ wx ⟨rfl, ew⟩
 rw [ew]
 clear ew wx
 refine Af (Aa (A6 rfl rfl (Aq (Aa (Ae (Ae (Ac ?_)))))))
 have h2 := hg.vOp hx
 refine Cj 19 (fun e w'' => w'' = w' ∧ At e [(134, .bool true), (0, L.vp x), (1, L.vp y), (2, am)]) ?_ ?_
 ·refine Ab Ad rfl (Ab (Ax rfl) rfl (Ab (Ak rfl (Al rfl)) rfl (Ab (Ai rfl (Ag rfl) ‹_›) rfl ?_)))
  refine Ab (Br rfl rfl) rfl (Ab Ad rfl ?_)
  rw [decide_eq_true (show g.op x ≠ 18 by omega)]
  refine Au rfl rfl Ad rfl (Au rfl rfl (Ax rfl) rfl (Au rfl rfl (Ak rfl (Al rfl)) rfl (Au rfl rfl (Ai rfl (Ag rfl) ‹_›) rfl ?_)))
  refine Au rfl rfl (Br rfl rfl) rfl (Ab (AQ rfl) rfl (Ab Ad rfl ?_))
  rw [decide_eq_true (show g.op x ≠ 19 by omega)]
  refine Au rfl rfl Ad rfl (Au rfl rfl (Ax rfl) rfl (Au rfl rfl (Ak rfl (Al rfl)) rfl (Au rfl rfl (Ai rfl (Ag rfl) ‹_›) rfl ?_)))
  refine Au rfl rfl (Br rfl rfl) rfl (Ab (AQ rfl) rfl (Af ?_))
  rw [decide_eq_true (show g.op x ≠ 20 by omega)]
  exact ⟨rfl, Ar rfl ⟨rfl, rfl, rfl, rfl, trivial⟩⟩
 rintro e w'' ⟨rfl, t, rfl⟩
 refine Af (Aa (Ba rfl rfl (Ae (AZ mixed (fun w' => GRep w' B L g) [(0, false), (1, false), (2, false), (3, false), (4, false), (5, false), (6, false), (7, false), (8, true), (9, false)] (by kernel_rfl) hg.drew ?_))))
 replace hg := hg.drew
 replace hW := hW.drew
 generalize w''.drew = w5 at hg hW ⊢
 refine Aj rfl (fun _ _ => Ad) (Aj rfl (fun _ _ => Ax rfl) (Aj rfl (fun _ _ => Ak rfl (Al rfl)) (Aj rfl (fun _ hS => Ai rfl (Ag rfl) (by first | exact GRep.vOp hS hx | exact GRep.vOp hS hy | exact GRep.vID hS hx | exact GRep.vID hS hy | exact GRep.vAux hS hx | exact GRep.vAux hS hy | exact GRep.vArgs hS hx | exact GRep.vArgs hS hy | exact GRep.vBlk hS hx | exact GRep.vBlk hS hy | exact GRep.vTy hS hx | exact GRep.vTy hS hy | exact GRep.vNil hS hx | exact GRep.vNil hS hy | exact GRep.bID hS hbx | exact GRep.bID hS hby)) ?_)))
 refine Aj rfl (fun _ _ => Ad) (Aj rfl (fun _ _ => Ax rfl) (Aj rfl (fun _ _ => Ak rfl (Al rfl)) (Aj rfl (fun _ hS => Ai rfl (Ag rfl) (by first | exact GRep.vOp hS hx | exact GRep.vOp hS hy | exact GRep.vID hS hx | exact GRep.vID hS hy | exact GRep.vAux hS hx | exact GRep.vAux hS hy | exact GRep.vArgs hS hx | exact GRep.vArgs hS hy | exact GRep.vBlk hS hx | exact GRep.vBlk hS hy | exact GRep.vTy hS hx | exact GRep.vTy hS hy | exact GRep.vNil hS hx | exact GRep.vNil hS hy | exact GRep.bID hS hbx | exact GRep.bID hS hby)) ?_)))
 rw [hty ho]
 refine BL rfl (AH Tryz.func91 rfl rfl rfl rfl) (FV _) ?_
 rintro _ wx ⟨rfl, ew⟩
 rw [ew]
 clear ew wx
 refine ⟨.inr hg, ?_⟩
 refine Aj rfl (fun _ _ => Ah) (AR (Aa (Ae (Ac (Ab Ad rfl (Ab (Br rfl rfl) rfl (Af (Aa (A6 rfl rfl (Aq (Aa ?_)))))))))))
 refine Ae (Ae (AZ mixed (fun w' => GRep w' B L g) [(0, false), (1, false), (2, false), (3, false), (4, false), (5, false), (6, false), (7, false), (8, false)] (by kernel_rfl) hg.drew ?_))
 replace hg := hg.drew
 replace hW := hW.drew
 generalize w5.drew = w6 at hg hW ⊢
 refine Aj rfl (fun _ _ => Ad) (Aj rfl (fun _ _ => Ax rfl) (Aj rfl (fun _ _ => Ak rfl (Al rfl)) (Aj rfl (fun _ hS => Ai rfl (Ag rfl) (by first | exact GRep.vOp hS hx | exact GRep.vOp hS hy | exact GRep.vID hS hx | exact GRep.vID hS hy | exact GRep.vAux hS hx | exact GRep.vAux hS hy | exact GRep.vArgs hS hx | exact GRep.vArgs hS hy | exact GRep.vBlk hS hx | exact GRep.vBlk hS hy | exact GRep.vTy hS hx | exact GRep.vTy hS hy | exact GRep.vNil hS hx | exact GRep.vNil hS hy | exact GRep.bID hS hbx | exact GRep.bID hS hby)) ?_)))
 refine Aj rfl (fun _ _ => Ad) (Aj rfl (fun _ _ => Ax rfl) (Aj rfl (fun _ _ => Ak rfl (Al rfl)) (Aj rfl (fun _ hS => Ai rfl (Ag rfl) (by first | exact GRep.vOp hS hx | exact GRep.vOp hS hy | exact GRep.vID hS hx | exact GRep.vID hS hy | exact GRep.vAux hS hx | exact GRep.vAux hS hy | exact GRep.vArgs hS hx | exact GRep.vArgs hS hy | exact GRep.vBlk hS hx | exact GRep.vBlk hS hy | exact GRep.vTy hS hx | exact GRep.vTy hS hy | exact GRep.vNil hS hx | exact GRep.vNil hS hy | exact GRep.bID hS hbx | exact GRep.bID hS hby)) ?_)))
 refine Aj rfl (fun _ _ => Ga rfl rfl) (AR (Aa (A6 rfl rfl (Aq (Aa (Ae (Ac (Ab Ah rfl (Af (Aa (AD ?_)))))))))))
 exact Aw rfl rfl rfl ⟨rfl, hW⟩
theorem Fz {w : World} {B : Nat} {L : Lay} {g : Gph} {x y bx : Nat} {am : Value} (hg : GRep w B L g) (hx : x < g.nv) (hy : y < g.nv) (hbx : g.blk x < g.nb) (hby : g.blk y < g.nb)
 (hty : g.op x = g.op y → g.ty x = g.ty y) (hop : g.op x ≤ 15) (hbx : w.cell? ⟨bx, 0, none⟩ = some am) :
 Ret Tryz.prog 77 #[L.vp x, L.vp y, .pointer (some ⟨bx, 0, none⟩)] w fun v w' => v = .int .i64 (cp g x y) ∧ Gn w w' := by
 refine ret_of_EC Tryz.func77 rfl rfl (Ae (Ac (Ab Ah rfl (Af (Aa (Ae (Ac (Ab Ad rfl (Ab Ad rfl (Ab (Ai rfl (Ag rfl) ‹_›) rfl ?_))))))))))
 refine Bg (AH Tryz.func78 rfl rfl rfl rfl) rfl (cmpVal_ret hg hx hy ‹_› hby hty hop) ?_
 rintro _ w1 ⟨rfl, hW⟩
 replace hg := hg.on hW.below
 refine Af (Aa ?_)
 unfold cp
 refine Ao (Ae (Ac (Ab (Bi rfl rfl) rfl (Ab Ah rfl (Af (Aa ?_))))))
 refine AG rfl rfl (fun h1 => ?_) (fun h1 => ?_)
 ·rw [if_pos h1]
  refine Ae (Ac (Ab Ah rfl (Af (Aa (AD (AO ?_))))))
  exact Aw rfl rfl rfl ⟨rfl, hW⟩
 rw [if_neg h1]
 refine Ae (Ac (Ab (Bi rfl rfl) rfl (Ab Ah rfl (Af (Aa ?_)))))
 refine AG rfl rfl (fun h1 => ?_) (fun h1 => ?_)
 ·rw [if_pos h1]
  refine Ae (Ac (Ab Ah rfl (Af (Aa (AD (AO ?_))))))
  exact Aw rfl rfl rfl ⟨rfl, hW⟩
 rw [if_neg h1]
 refine Ae (AZ mixed (fun w' => GRep w' B L g) [(0, false), (1, false), (2, false), (3, false), (4, false), (5, false), (6, false), (7, false), (8, true), (9, false)] (by kernel_rfl) hg.drew ?_)
 replace hg := hg.drew
 replace hW := hW.drew
 generalize w1.drew = w2 at hg hW ⊢
 refine Aj rfl (fun _ _ => Ad) (Aj rfl (fun _ _ => Ax rfl) (Aj rfl (fun _ _ => Ak rfl (Al rfl)) (Aj rfl (fun _ hS => Ai rfl (Ag rfl) (by first | exact GRep.vOp hS hx | exact GRep.vOp hS hy | exact GRep.vID hS hx | exact GRep.vID hS hy | exact GRep.vAux hS hx | exact GRep.vAux hS hy | exact GRep.vArgs hS hx | exact GRep.vArgs hS hy | exact GRep.vBlk hS hx | exact GRep.vBlk hS hy | exact GRep.vTy hS hx | exact GRep.vTy hS hy | exact GRep.vNil hS hx | exact GRep.vNil hS hy | exact GRep.bID hS hbx | exact GRep.bID hS hby)) ?_)))
 refine Aj rfl (fun _ _ => Ad) (Aj rfl (fun _ _ => Ax rfl) (Aj rfl (fun _ _ => Ak rfl (Al rfl)) (Aj rfl (fun _ hS => Ai rfl (Ag rfl) (by first | exact GRep.vOp hS hx | exact GRep.vOp hS hy | exact GRep.vID hS hx | exact GRep.vID hS hy | exact GRep.vAux hS hx | exact GRep.vAux hS hy | exact GRep.vArgs hS hx | exact GRep.vArgs hS hy | exact GRep.vBlk hS hx | exact GRep.vBlk hS hy | exact GRep.vTy hS hx | exact GRep.vTy hS hy | exact GRep.vNil hS hx | exact GRep.vNil hS hy | exact GRep.bID hS hbx | exact GRep.bID hS hby)) ?_)))
 refine BL rfl (AH Tryz.func79 rfl rfl rfl rfl) (F7 _ _) ?_
 rintro _ wx ⟨rfl, ew⟩
 rw [ew]
 clear ew wx
 refine ⟨.inr hg, ?_⟩
 refine Aj rfl (fun _ _ => Ah) (AR (Aa (AD (AO ?_))))
 exact Aw rfl rfl rfl ⟨rfl, hW⟩
end Go.Proofs.YteepnepebilckaaGreatDoor
