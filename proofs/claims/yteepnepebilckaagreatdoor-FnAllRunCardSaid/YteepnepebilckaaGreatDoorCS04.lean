/- The law FnAllRun returns true for every input in which the opcode table reads as laid, and its arguments read as they did, the table being tied to the text of the program. -/
import Derived.Test.YteepnepebilckaaGreatDoorCS03
namespace Go.Proofs.YteepnepebilckaaGreatDoor
open Go Go.Eng Go.RowKit
section
variable {w : World} {ρ : Operand → Value} {d : Option Tmp} {ty : TypeId} {pos : String} {af : Array Edge} {g : Option (Nat × Bool)}
theorem mixed:Tryz.prog.follows .mixedOrders=true:=by kernel_rfl
theorem GU {x0 x1 x2 x7:Operand} {a b c:Int} {p:Option Addr} (h0:ρ x0= .int .i32 a) (h1:ρ x1= .int .i64 b) (h2:ρ x2= .int .i8 c) (h7:ρ x7= .pointer p):
 (execOp ρ ⟨d,.build 94 #[(0,x0),(1,x1),(2,x2),(7,x7)],ty,pos,af,g⟩).run Tryz.prog w= .ok (.value (.agg #[.int .i32 a,.int .i64 b,.int .i8 c,nilS,nilS,nilS,nilS,.pointer p])) w:=by
 have key:(Instr.build 94 #[(0,Value.int .i32 a),(1,Value.int .i64 b),(2,Value.int .i8 c),(7,Value.pointer p)]).run Tryz.prog w= .ok (.agg #[.int .i32 a,.int .i64 b,.int .i8 c,nilS,nilS,nilS,nilS,.pointer p]) w:=by kernel_rfl
 simp [execOp,h0,h1,h2,h7,key]
theorem GR {x0 x1 x2 x3 x6:Operand} {a b c e:Int} {p:Option Addr} (h0:ρ x0= .int .i32 a) (h1:ρ x1= .int .i64 b) (h2:ρ x2= .int .i64 c) (h3:ρ x3= .int .i64 e) (h6:ρ x6= .pointer p):
 (execOp ρ ⟨d,.build 101 #[(0,x0),(1,x1),(2,x2),(3,x3),(6,x6)],ty,pos,af,g⟩).run Tryz.prog w= .ok (.value (.agg #[.int .i32 a,.int .i64 b,.int .i64 c,.int .i64 e,.pointer none,nilS,.pointer p])) w:=by
 have key:(Instr.build 101 #[(0,Value.int .i32 a),(1,Value.int .i64 b),(2,Value.int .i64 c),(3,Value.int .i64 e),(6,Value.pointer p)]).run Tryz.prog w= .ok (.agg #[.int .i32 a,.int .i64 b,.int .i64 c,.int .i64 e,.pointer none,nilS,.pointer p]) w:=by kernel_rfl
 simp [execOp,h0,h1,h2,h3,h6,key]
theorem FA {x0:Operand} {p:Option Addr} (h0:ρ x0= .pointer p):
 (execOp ρ ⟨d,.build 103 #[(0,x0)],ty,pos,af,g⟩).run Tryz.prog w= .ok (.value (.agg #[.pointer p])) w:=by
 have key:(Instr.build 103 #[(0,Value.pointer p)]).run Tryz.prog w= .ok (.agg #[.pointer p]) w:=by kernel_rfl
 simp [execOp,h0,key]
theorem Fx {x0:Operand} {p:Option Addr} (h0:ρ x0= .agg #[.pointer p]):
 (execOp ρ ⟨d,.buildSlice 92 1 #[(0,x0)],ty,pos,af,g⟩).run Tryz.prog w= .ok (.value (.slice (some ⟨w.heap.size,0,none⟩) 1 1)) (w.alloc (.cells #[.pointer p] 103)):=by
 have key:(Instr.buildSlice 92 1 #[(0,Value.agg #[.pointer p])]).run Tryz.prog w= .ok (.slice (some ⟨w.heap.size,0,none⟩) 1 1) (w.alloc (.cells #[.pointer p] 103)):=by kernel_rfl
 simp [execOp,h0,key]
theorem Dt:(execOp ρ ⟨d,.buildSlice 35 0 #[],ty,pos,af,g⟩).run Tryz.prog w= .ok (.value (.slice (some ⟨w.heap.size,0,none⟩) 0 0)) (w.alloc (.cells #[] 3)):=by
 have key:(Instr.buildSlice 35 0 #[]).run Tryz.prog w= .ok (.slice (some ⟨w.heap.size,0,none⟩) 0 0) (w.alloc (.cells #[] 3)):=by kernel_rfl
 simp [execOp,key]
theorem bld_sv {x0 x1 x2 x3:Operand} {a b c:Int} {p:Option Addr} {n m:Nat} (h0:ρ x0= .int .i64 a) (h1:ρ x1= .int .i64 b) (h2:ρ x2= .slice p n m) (h3:ρ x3= .int .i64 c):
 (execOp ρ ⟨d,.build 39 #[(0,x0),(1,x1),(2,x2),(3,x3)],ty,pos,af,g⟩).run Tryz.prog w= .ok (.value (.agg #[.int .i64 a,.int .i64 b,.slice p n m,.int .i64 c])) w:=by
 have key:(Instr.build 39 #[(0,Value.int .i64 a),(1,Value.int .i64 b),(2,Value.slice p n m),(3,Value.int .i64 c)]).run Tryz.prog w= .ok (.agg #[.int .i64 a,.int .i64 b,.slice p n m,.int .i64 c]) w:=by kernel_rfl
 simp [execOp,h0,h1,h2,h3,key]
theorem bsl_sv {x0:Operand} {a b c:Int} {p:Option Addr} {n m:Nat} (h0:ρ x0= .agg #[.int .i64 a,.int .i64 b,.slice p n m,.int .i64 c]):
 (execOp ρ ⟨d,.buildSlice 27 1 #[(0,x0)],ty,pos,af,g⟩).run Tryz.prog w= .ok (.value (.slice (some ⟨w.heap.size,0,none⟩) 1 1)) (w.alloc (.cells #[.int .i64 a,.int .i64 b,.slice p n m,.int .i64 c] 39)):=by
 have key:(Instr.buildSlice 27 1 #[(0,Value.agg #[.int .i64 a,.int .i64 b,.slice p n m,.int .i64 c])]).run Tryz.prog w= .ok (.slice (some ⟨w.heap.size,0,none⟩) 1 1) (w.alloc (.cells #[.int .i64 a,.int .i64 b,.slice p n m,.int .i64 c] 39)):=by kernel_rfl
 simp [execOp,h0,key]
theorem CQ:Bz Tryz.prog 39 #[.int .i64 0,.int .i64 0,nilS,.int .i64 0]:=by unfold Bz;kernel_rfl
theorem bld_sb {x0 x1 x2 x3:Operand} {a b c:Int} {p:Option Addr} {n m:Nat} (h0:ρ x0= .int .i64 a) (h1:ρ x1= .int .i64 b) (h2:ρ x2= .slice p n m) (h3:ρ x3= .int .i64 c):
 (execOp ρ ⟨d,.build 54 #[(0,x0),(1,x1),(2,x2),(3,x3)],ty,pos,af,g⟩).run Tryz.prog w= .ok (.value (.agg #[.int .i64 a,.int .i64 b,.slice p n m,.int .i64 c])) w:=by
 have key:(Instr.build 54 #[(0,Value.int .i64 a),(1,Value.int .i64 b),(2,Value.slice p n m),(3,Value.int .i64 c)]).run Tryz.prog w= .ok (.agg #[.int .i64 a,.int .i64 b,.slice p n m,.int .i64 c]) w:=by kernel_rfl
 simp [execOp,h0,h1,h2,h3,key]
theorem bsl_sb {x0:Operand} {a b c:Int} {p:Option Addr} {n m:Nat} (h0:ρ x0= .agg #[.int .i64 a,.int .i64 b,.slice p n m,.int .i64 c]):
 (execOp ρ ⟨d,.buildSlice 28 1 #[(0,x0)],ty,pos,af,g⟩).run Tryz.prog w= .ok (.value (.slice (some ⟨w.heap.size,0,none⟩) 1 1)) (w.alloc (.cells #[.int .i64 a,.int .i64 b,.slice p n m,.int .i64 c] 54)):=by
 have key:(Instr.buildSlice 28 1 #[(0,Value.agg #[.int .i64 a,.int .i64 b,.slice p n m,.int .i64 c])]).run Tryz.prog w= .ok (.slice (some ⟨w.heap.size,0,none⟩) 1 1) (w.alloc (.cells #[.int .i64 a,.int .i64 b,.slice p n m,.int .i64 c] 54)):=by kernel_rfl
 simp [execOp,h0,key]
theorem D8:Bz Tryz.prog 54 #[.int .i64 0,.int .i64 0,nilS,.int .i64 0]:=by unfold Bz;kernel_rfl
theorem bld_iv {x0 x1 x2 x3:Operand} {a b c:Int} {p:Option Addr} {n m:Nat} (h0:ρ x0= .int .i64 a) (h1:ρ x1= .int .i64 b) (h2:ρ x2= .slice p n m) (h3:ρ x3= .int .i64 c):
 (execOp ρ ⟨d,.build 48 #[(0,x0),(1,x1),(2,x2),(3,x3)],ty,pos,af,g⟩).run Tryz.prog w= .ok (.value (.agg #[.int .i64 a,.int .i64 b,.slice p n m,.int .i64 c])) w:=by
 have key:(Instr.build 48 #[(0,Value.int .i64 a),(1,Value.int .i64 b),(2,Value.slice p n m),(3,Value.int .i64 c)]).run Tryz.prog w= .ok (.agg #[.int .i64 a,.int .i64 b,.slice p n m,.int .i64 c]) w:=by kernel_rfl
 simp [execOp,h0,h1,h2,h3,key]
theorem bsl_iv {x0:Operand} {a b c:Int} {p:Option Addr} {n m:Nat} (h0:ρ x0= .agg #[.int .i64 a,.int .i64 b,.slice p n m,.int .i64 c]):
 (execOp ρ ⟨d,.buildSlice 22 1 #[(0,x0)],ty,pos,af,g⟩).run Tryz.prog w= .ok (.value (.slice (some ⟨w.heap.size,0,none⟩) 1 1)) (w.alloc (.cells #[.int .i64 a,.int .i64 b,.slice p n m,.int .i64 c] 48)):=by
 have key:(Instr.buildSlice 22 1 #[(0,Value.agg #[.int .i64 a,.int .i64 b,.slice p n m,.int .i64 c])]).run Tryz.prog w= .ok (.slice (some ⟨w.heap.size,0,none⟩) 1 1) (w.alloc (.cells #[.int .i64 a,.int .i64 b,.slice p n m,.int .i64 c] 48)):=by kernel_rfl
 simp [execOp,h0,key]
theorem EU:Bz Tryz.prog 48 #[.int .i64 0,.int .i64 0,nilS,.int .i64 0]:=by unfold Bz;kernel_rfl
theorem bld_ib {x0 x1 x2 x3:Operand} {a b c:Int} {p:Option Addr} {n m:Nat} (h0:ρ x0= .int .i64 a) (h1:ρ x1= .int .i64 b) (h2:ρ x2= .slice p n m) (h3:ρ x3= .int .i64 c):
 (execOp ρ ⟨d,.build 53 #[(0,x0),(1,x1),(2,x2),(3,x3)],ty,pos,af,g⟩).run Tryz.prog w= .ok (.value (.agg #[.int .i64 a,.int .i64 b,.slice p n m,.int .i64 c])) w:=by
 have key:(Instr.build 53 #[(0,Value.int .i64 a),(1,Value.int .i64 b),(2,Value.slice p n m),(3,Value.int .i64 c)]).run Tryz.prog w= .ok (.agg #[.int .i64 a,.int .i64 b,.slice p n m,.int .i64 c]) w:=by kernel_rfl
 simp [execOp,h0,h1,h2,h3,key]
theorem bsl_ib {x0:Operand} {a b c:Int} {p:Option Addr} {n m:Nat} (h0:ρ x0= .agg #[.int .i64 a,.int .i64 b,.slice p n m,.int .i64 c]):
 (execOp ρ ⟨d,.buildSlice 23 1 #[(0,x0)],ty,pos,af,g⟩).run Tryz.prog w= .ok (.value (.slice (some ⟨w.heap.size,0,none⟩) 1 1)) (w.alloc (.cells #[.int .i64 a,.int .i64 b,.slice p n m,.int .i64 c] 53)):=by
 have key:(Instr.buildSlice 23 1 #[(0,Value.agg #[.int .i64 a,.int .i64 b,.slice p n m,.int .i64 c])]).run Tryz.prog w= .ok (.slice (some ⟨w.heap.size,0,none⟩) 1 1) (w.alloc (.cells #[.int .i64 a,.int .i64 b,.slice p n m,.int .i64 c] 53)):=by kernel_rfl
 simp [execOp,h0,key]
theorem E3:Bz Tryz.prog 53 #[.int .i64 0,.int .i64 0,nilS,.int .i64 0]:=by unfold Bz;kernel_rfl
theorem bld_av {x0 x1 x2 x3:Operand} {a b c:Int} {p:Option Addr} {n m:Nat} (h0:ρ x0= .int .i64 a) (h1:ρ x1= .int .i64 b) (h2:ρ x2= .slice p n m) (h3:ρ x3= .int .i64 c):
 (execOp ρ ⟨d,.build 83 #[(0,x0),(1,x1),(2,x2),(3,x3)],ty,pos,af,g⟩).run Tryz.prog w= .ok (.value (.agg #[.int .i64 a,.int .i64 b,.slice p n m,.int .i64 c])) w:=by
 have key:(Instr.build 83 #[(0,Value.int .i64 a),(1,Value.int .i64 b),(2,Value.slice p n m),(3,Value.int .i64 c)]).run Tryz.prog w= .ok (.agg #[.int .i64 a,.int .i64 b,.slice p n m,.int .i64 c]) w:=by kernel_rfl
 simp [execOp,h0,h1,h2,h3,key]
theorem GD {x0:Operand} {a b c:Int} {p:Option Addr} {n m:Nat} (h0:ρ x0= .agg #[.int .i64 a,.int .i64 b,.slice p n m,.int .i64 c]):
 (execOp ρ ⟨d,.buildSlice 59 1 #[(0,x0)],ty,pos,af,g⟩).run Tryz.prog w= .ok (.value (.slice (some ⟨w.heap.size,0,none⟩) 1 1)) (w.alloc (.cells #[.int .i64 a,.int .i64 b,.slice p n m,.int .i64 c] 83)):=by
 have key:(Instr.buildSlice 59 1 #[(0,Value.agg #[.int .i64 a,.int .i64 b,.slice p n m,.int .i64 c])]).run Tryz.prog w= .ok (.slice (some ⟨w.heap.size,0,none⟩) 1 1) (w.alloc (.cells #[.int .i64 a,.int .i64 b,.slice p n m,.int .i64 c] 83)):=by kernel_rfl
 simp [execOp,h0,key]
theorem Ec:Bz Tryz.prog 83 #[.int .i64 0,.int .i64 0,nilS,.int .i64 0]:=by unfold Bz;kernel_rfl
theorem bld_ab {x0 x1 x2 x3:Operand} {a b c:Int} {p:Option Addr} {n m:Nat} (h0:ρ x0= .int .i64 a) (h1:ρ x1= .int .i64 b) (h2:ρ x2= .slice p n m) (h3:ρ x3= .int .i64 c):
 (execOp ρ ⟨d,.build 84 #[(0,x0),(1,x1),(2,x2),(3,x3)],ty,pos,af,g⟩).run Tryz.prog w= .ok (.value (.agg #[.int .i64 a,.int .i64 b,.slice p n m,.int .i64 c])) w:=by
 have key:(Instr.build 84 #[(0,Value.int .i64 a),(1,Value.int .i64 b),(2,Value.slice p n m),(3,Value.int .i64 c)]).run Tryz.prog w= .ok (.agg #[.int .i64 a,.int .i64 b,.slice p n m,.int .i64 c]) w:=by kernel_rfl
 simp [execOp,h0,h1,h2,h3,key]
theorem Gf {x0:Operand} {a b c:Int} {p:Option Addr} {n m:Nat} (h0:ρ x0= .agg #[.int .i64 a,.int .i64 b,.slice p n m,.int .i64 c]):
 (execOp ρ ⟨d,.buildSlice 60 1 #[(0,x0)],ty,pos,af,g⟩).run Tryz.prog w= .ok (.value (.slice (some ⟨w.heap.size,0,none⟩) 1 1)) (w.alloc (.cells #[.int .i64 a,.int .i64 b,.slice p n m,.int .i64 c] 84)):=by
 have key:(Instr.buildSlice 60 1 #[(0,Value.agg #[.int .i64 a,.int .i64 b,.slice p n m,.int .i64 c])]).run Tryz.prog w= .ok (.slice (some ⟨w.heap.size,0,none⟩) 1 1) (w.alloc (.cells #[.int .i64 a,.int .i64 b,.slice p n m,.int .i64 c] 84)):=by kernel_rfl
 simp [execOp,h0,key]
theorem D7:Bz Tryz.prog 84 #[.int .i64 0,.int .i64 0,nilS,.int .i64 0]:=by unfold Bz;kernel_rfl
theorem Hb:(execOp ρ ⟨d,.build 30 #[],ty,pos,af,g⟩).run Tryz.prog w= .ok (.value (.agg #[nilS,nilS])) w:=by
 have key:(Instr.build 30 #[]).run Tryz.prog w= .ok (.agg #[nilS,nilS]) w:=by kernel_rfl
 simp [execOp,key]
theorem DV:Bz Tryz.prog 30 #[nilS,nilS]:=by unfold Bz;kernel_rfl
theorem G3:(execOp ρ ⟨d,.build 25 #[],ty,pos,af,g⟩).run Tryz.prog w= .ok (.value (.agg #[nilS,nilS])) w:=by
 have key:(Instr.build 25 #[]).run Tryz.prog w= .ok (.agg #[nilS,nilS]) w:=by kernel_rfl
 simp [execOp,key]
theorem C5:Bz Tryz.prog 25 #[nilS,nilS]:=by unfold Bz;kernel_rfl
theorem Hy:(execOp ρ ⟨d,.build 62 #[],ty,pos,af,g⟩).run Tryz.prog w= .ok (.value (.agg #[nilS,nilS])) w:=by
 have key:(Instr.build 62 #[]).run Tryz.prog w= .ok (.agg #[nilS,nilS]) w:=by kernel_rfl
 simp [execOp,key]
theorem Cx:Bz Tryz.prog 62 #[nilS,nilS]:=by unfold Bz;kernel_rfl
theorem HF {x0 x1 x3:Operand} {a b c:Int} (h0:ρ x0= .int .i64 a) (h1:ρ x1= .int .i64 b) (h3:ρ x3= .int .i64 c):
 (execOp ρ ⟨d,.build 83 #[(0,x0),(1,x1),(3,x3)],ty,pos,af,g⟩).run Tryz.prog w= .ok (.value (.agg #[.int .i64 a,.int .i64 b,nilS,.int .i64 c])) w:=by
 have key:(Instr.build 83 #[(0,Value.int .i64 a),(1,Value.int .i64 b),(3,Value.int .i64 c)]).run Tryz.prog w= .ok (.agg #[.int .i64 a,.int .i64 b,nilS,.int .i64 c]) w:=by kernel_rfl
 simp [execOp,h0,h1,h3,key]
theorem HD {x0 x1 x3:Operand} {a b c:Int} (h0:ρ x0= .int .i64 a) (h1:ρ x1= .int .i64 b) (h3:ρ x3= .int .i64 c):
 (execOp ρ ⟨d,.build 84 #[(0,x0),(1,x1),(3,x3)],ty,pos,af,g⟩).run Tryz.prog w= .ok (.value (.agg #[.int .i64 a,.int .i64 b,nilS,.int .i64 c])) w:=by
 have key:(Instr.build 84 #[(0,Value.int .i64 a),(1,Value.int .i64 b),(3,Value.int .i64 c)]).run Tryz.prog w= .ok (.agg #[.int .i64 a,.int .i64 b,nilS,.int .i64 c]) w:=by kernel_rfl
 simp [execOp,h0,h1,h3,key]
theorem GZ:Bz Tryz.prog 82 #[.pointer none,nilS,nilS,.map none,.bool false,nilS]:=by unfold Bz;kernel_rfl
theorem D0:Bz Tryz.prog 103 #[.pointer none]:=by unfold Bz;kernel_rfl
end
end Go.Proofs.YteepnepebilckaaGreatDoor
namespace Go.Eng
open Go Go.RowKit
section
variable {P : Program} {w : World} {ρ : Operand → Value} {d : Option Tmp} {ty : TypeId} {pos : String} {af : Array Edge} {g : Option (Nat × Bool)}
theorem C9 {t el:TypeId} {x y:Operand} {z:Value} {bytes n:Nat} (ht:P.underlying t=some (.slice el)) (hi:(P.info? el).map (fun i=>(i.zero,i.size,i.bytes))=some (some z,1,bytes)) (hz:z.cells=#[z])
 (hx:ρ x= .int .i64 (n:Int)) (hy:ρ y= .int .i64 (n:Int)) (hb:bytes * n≤281474976710656) (h63:n≤9223372036854775807):
 (execOp ρ ⟨d,.makeSlice t x y,ty,pos,af,g⟩).run P w= .ok (.value (.slice (some ⟨w.heap.size,0,none⟩) n n)) (w.alloc (.cells (madeCells #[z] n) el)):=by
 have:=run_make_row' (P:=P) t el z bytes ht hi hz .i64 .i64 n hb h63 w
 simp [execOp,hx,hy,this]
theorem x_slice1 {t el:TypeId} {x:Operand} {b o n cap:Nat} {z:Value} {bytes:Nat} (ht:P.underlying t=some (.slice el)) (hi:(P.info? el).map (fun i=>(i.zero,i.size,i.bytes))=some (some z,1,bytes))
 (hx:ρ x= .slice (some ⟨b,o,none⟩) (n+1) cap) {c:Operand} (hc:ρ c= .int .i64 1):
 (execOp ρ ⟨d,.slice t x (some c) none none,ty,pos,af,g⟩).run P w= .ok (.value (.slice (some ⟨b,if cap=1 then o else o+1,none⟩) n (cap - 1))) w:=by
 obtain ⟨i,hi1,_,hi3,_⟩:=info_parts hi
 have:(Instr.slice t (.slice (some ⟨b,o,none⟩) (n+1) cap) (some (.int .i64 1)) none none).run P w= .ok (.slice (some ⟨b,if cap=1 then o else o+1,none⟩) n (cap - 1)) w:=by
  unfold Instr.slice Instr.sliceBounds Instr.sliceBound
  simp only [Sem.run_bind,run_underlying ht,Result.andThen_ok,Sem.run_pure,asIntOf]
  have h1:(0:Int)≤1∧(1:Int)≤((n+1:Nat):Int):=by omega
  simp only [if_pos h1,Sem.run_pure,Result.andThen_ok,sizeOf,typeInfo,Sem.run_bind]
  by_cases h:cap=1
  ·simp [h,hi1,hi3]
  simp [h,hi1,hi3,Addr.add]
 simp [execOp,hx,hc,Instr.sliceAt,run_underlying ht,this]
def Qu (w:World) (base:Nat) (el:TypeId) (v:Value) (xs:List Value):Prop:=
 ∃g off cap cur,v= .slice (some ⟨g,off,none⟩) xs.length cap∧base≤g∧w.heap[g]? =some (.cells cur el (0,0))∧off+cap≤cur.size∧xs.length≤cap∧cap≤maxLen∧∀k u,xs[k]? =some u→cur[off+k]? =some u
theorem Qu.lt {base:Nat} {el:TypeId} {v:Value} {xs:List Value} (h:Qu w base el v xs):∀k,v.ownBlock=some k→base≤k∧k<w.heap.size:=by
 intro k hk
 obtain ⟨g,off,cap,cur,rfl,hb,hg,_⟩:=h
 have hk:g=k:=Option.some.inj hk
 subst hk
 exact ⟨hb,(Array.getElem?_eq_some_iff.1 hg).1⟩
theorem Qu.congr {w':World} {base:Nat} {el:TypeId} {v:Value} {xs:List Value} (h:Qu w base el v xs) (hk:∀k,v.ownBlock=some k→w'.heap[k]? =w.heap[k]?):Qu w' base el v xs:=by
 obtain ⟨g,off,cap,cur,rfl,hb,hg,r⟩:=h
 exact ⟨g,off,cap,cur,rfl,hb,(hk g rfl).trans hg,r⟩
theorem Qu.head {base:Nat} {el:TypeId} {v x:Value} {xs:List Value} (h:Qu w base el v (x :: xs)):∃g off cap,v= .slice (some ⟨g,off,none⟩) (xs.length+1) cap∧w.cell? ⟨g,off+0,none⟩=some x∧
 Qu w base el (.slice (some ⟨g,if cap=1 then off else off+1,none⟩) xs.length (cap - 1)) xs:=by
 obtain ⟨g,off,cap,cur,rfl,hb,hg,hs,hl,hm,hc⟩:=h
 refine ⟨g,off,cap,rfl,?_,g,_,cap - 1,cur,rfl,hb,hg,?_,?_,?_,fun k u hk=>?_⟩
 ·rw[cell_of_row w g _ cur el (0,0) hg];exact hc 0 x rfl
 ·have:xs.length+1≤cap:=hl
  split <;> omega
 ·have:xs.length+1≤cap:=hl
  omega
 ·omega
 have h1:xs.length+1≤cap:=hl
 have h2:=(List.getElem?_eq_some_iff.1 hk).1
 rw[if_neg (by omega)]
 have:=hc (k+1) u (by simpa using hk)
 rw[show off+1+k=off+(k+1) by omega];exact this
theorem x_appendQ {t el:TypeId} {s x:Operand} {z:Value} {bytes base:Nat}
 (ht:P.underlying t=some (.slice el)) (hi:(P.info? el).map (fun i=>(i.zero,i.size,i.bytes))=some (some z,1,bytes)) (hzs:z.cells.size=1)
 {v:Value} {xs:List Value} (hs:ρ s=v) (hown:Qu w base el v xs)
 {b:Nat} {u:Value} (hx:ρ x= .slice (some ⟨b,0,none⟩) 1 1) (hu:w.cell? ⟨b,0,none⟩=some u) (h1:u.oneCell'=true)
 (hbytes:(xs.length+1) * bytes≤140737488355328) (hb0:0<bytes) (hbase:base≤w.heap.size):
 ∃v' w',(execOp ρ ⟨d,.call { callee:=.builtin .append,args:=#[s,x],argTypes:=#[t,t] },ty,pos,af,g⟩).run P w= .ok (.value v') w'∧
  Qu w' base el v' (xs ++ [u])∧w.grownBy w' v.ownBlock∧(v'.ownBlock=v.ownBlock∨v'.ownBlock=some w.heap.size):=by
 obtain ⟨i,hi1,hi2,hi3,hi4⟩:=info_parts hi
 have h63:xs.length+1≤maxLen:=by
  have:xs.length+1≤(xs.length+1) * bytes:=Nat.le_mul_of_pos_right _ hb0
  simp only [maxLen];omega
 have hnews:∀j y,[u][j]? =some y→w.cell? ((⟨b,0,none⟩:Addr).add j)=some y:=fun j y hj=>by
  cases j with
  |zero=>simp at hj;subst hj;simpa [Addr.add] using hu
  |succ j=>simp at hj
 have h1':∀y∈ [u],y.oneCell'=true:=fun y hy=>by simp at hy;subst hy;exact h1
 obtain ⟨gg,off,cap,cur,rfl,hb,hg,hsz,hl,hm,hc⟩:=hown
 by_cases hr:xs.length+1≤cap
 ·have hlt:off+xs.length<cur.size:=by omega
  have hr2:=run_append_room_cells (P:=P) w t ty el i ht hi1 gg off xs.length cap ⟨b,0,none⟩ 1 1 [u] (by rw[hi3];rfl) hnews h1' hr
   (fun j hj=>by
     have:j=0:=by simpa using hj
     subst this
     rw[hi3,cell_of_row w gg _ cur el (0,0) hg,Nat.mul_one,Nat.add_zero,Array.getElem?_eq_getElem hlt];rfl)
   (fun j hj=>frozen_of_row w gg _ cur el hg)
  refine ⟨.slice (some ⟨gg,off,none⟩) (xs.length+1) cap,w.setCells gg (off+xs.length * i.size) [u],by unfold execOp;simp only [resolve,invoke,builtin,Sem.run_bind,Sem.run_pure,Result.andThen_ok,List.map_toArray,List.map_cons,List.map_nil,hs,hx,hr2],?_,?_,.inl rfl⟩
  ·rw[hi3,Nat.mul_one]
   refine ⟨gg,off,cap,cur.setIfInBounds (off+xs.length) u,by simp,hb,?_,by simpa using hsz,by simpa using hr,hm,fun k y hk=>?_⟩
   ·show (w.setCell ⟨gg,off+xs.length,none⟩ u).heap[gg]? =_
    unfold World.setCell
    simp only [Array.getElem?_modify,if_true]
    rw[hg]
    rfl
   rw[Array.getElem?_setIfInBounds]
   by_cases e:k<xs.length
   ·rw[List.getElem?_append_left e] at hk
    rw[if_neg (by omega)]
    exact hc k y hk
   have hk1:=(List.getElem?_eq_some_iff.1 hk).1
   have:k=xs.length:=by simp at hk1;omega
   subst this
   rw[List.getElem?_append_right (Nat.le_refl _)] at hk
   simp at hk
   subst hk
   rw[if_pos rfl,if_pos hlt]
  refine ⟨rfl,rfl,rfl,?_,fun k hk hne=>?_⟩
  ·show w.heap.size≤(w.setCell _ u).heap.size
   simp [World.setCell]
  exact Below.heap_setCell _ _ _ _ (fun e=>hne (by rw[e];rfl))
 obtain ⟨v',w',hr2,h2,h3⟩:=run_append_arg_grows (P:=P) w t ty el i z 1 bytes ht hi1 hi2 hi3 hi4 hzs (by omega) ⟨gg,off,none⟩ xs.length cap xs (by simp) (fun j y hj=>by
  rw[Addr.add_lit,cell_of_row w gg _ cur el (0,0) hg];exact hc j y hj) ⟨b,0,none⟩ 1 1 [u] rfl hnews (by omega) h63 hbytes
 refine ⟨v',w',by unfold execOp;simp only [resolve,invoke,builtin,Sem.run_bind,Sem.run_pure,Result.andThen_ok,List.map_toArray,List.map_cons,List.map_nil,hs,hx,hr2],?_,⟨h3.os,h3.tape,h3.output,h3.size,fun k hk _=>h3.block k hk (by simp)⟩,?_⟩
 ·rcases h2.2 with ⟨_,h0⟩|⟨g',cap',cur',rfl,hb',hg',hn',hm',hs',ht'⟩
  ·omega
  refine ⟨g',0,cap',cur',by simp,by omega,hg',by omega,by simpa using hn',hm',fun k y hk=>?_⟩
  rw[← ht',List.getElem?_take] at hk
  split at hk
  ·rw[Array.getElem?_toList] at hk
   rw[Nat.zero_add];exact hk
  cases hk
 rcases h2.2 with ⟨_,h0⟩|⟨g',cap',cur',rfl,hb',hg',_⟩
 ·omega
 right
 have hr3:=run_append_grow (P:=P) w t ty el i z ht hi1 hi2 ⟨gg,off,none⟩ xs.length cap xs (by rw[hi3];simp) (fun j y hj=>by
  rw[Addr.add_lit,cell_of_row w gg _ cur el (0,0) hg];exact hc j y hj) ⟨b,0,none⟩ 1 1 [u] (by rw[hi3];rfl) hnews (by omega) (by simp only [maxLen] at h63;omega) (growslice_fits (by omega) (by rw[hi4];exact hbytes))
 rw[hr3] at hr2
 injection hr2 with h4 h5
 rw[← h4];rfl
end
theorem F0 {P:Program} {ops:Array Oper} {N:Nat} {Q:Env→World→Prop} {e:Env} {w:World} {rest:List Oper} {d:Nat} {s x:Operand} {t el:TypeId} {ty:TypeId} {pos:String} {af:Array Edge} {z:Value} {bytes base:Nat}
 {v:Value} {xs:List Value} {b:Nat} {u:Value}
 (hown:Qu w base el v xs) (hu:w.cell? ⟨b,0,none⟩=some u) (h1:u.oneCell'=true) (hbytes:(xs.length+1) * bytes≤140737488355328) (hb0:0<bytes) (hbase:base≤w.heap.size)
 (ht:P.underlying t=some (.slice el)) (hi:(P.info? el).map (fun i=>(i.zero,i.size,i.bytes))=some (some z,1,bytes)) (hzs:z.cells.size=1)
 (hs:e.ev s=v) (hx:e.ev x= .slice (some ⟨b,0,none⟩) 1 1)
 (hk:okO N ⟨some d,.call { callee:=.builtin .append,args:=#[s,x],argTypes:=#[t,t] },ty,pos,af,none⟩=true)
 (h:∀v' w',Qu w' base el v' (xs ++ [u])→w.grownBy w' v.ownBlock→(v'.ownBlock=v.ownBlock∨v'.ownBlock=some w.heap.size)→EL P ops N Q rest (e.set d v') w'):
 EL P ops N Q (⟨some d,.call { callee:=.builtin .append,args:=#[s,x],argTypes:=#[t,t] },ty,pos,af,none⟩ :: rest) e w:=by
 obtain ⟨v',w',hr,h2,h3,h4⟩:=x_appendQ (d:=some d) (ty:=ty) (pos:=pos) (af:=af) (g:=none) ht hi hzs hs hown hx hu h1 hbytes hb0 hbase
 exact Ab hr hk (h v' w' h2 h3 h4)
end Go.Eng
namespace Go.Eng
open Go Go.RowKit
def Qf (Ψ:Act→World→Prop):Exit→Act→World→Prop
 |.normal,a,w=>Ψ a w
 |_,_,_=>False
theorem not_letsOut {Ψ:Act→World→Prop}:¬ LetsOut (Qf Ψ):=fun ⟨_,_,h⟩=>h
theorem wp_cut {P:Program} {o:Oper} {a:Act} {w:World} {K K':Act→World→Prop} {Ψ:Act→World→Prop} {Q:Exit→Act→World→Prop} (h:∀a w,K a w→K' a w)
 (hh:o.wp P a w K (Qf Ψ)):o.wp P a w K' Q:=by
 unfold Oper.wp at *
 generalize (execOp a.eval o).run P w=r at *
 cases r with
 |ok n w'=>
  cases n <;> simp only [Oper.upon] at hh ⊢ <;>
   first
    |exact h _ _ hh
    |exact Calls.mono hh (fun e w'' he=>by cases e <;> first|exact h _ _ he|exact he.elim|exact absurd he not_letsOut)
    |exact Rows.mono hh (fun _ _ he=>h _ _ he)
 |halt x w'=>cases x <;> simp only [Oper.upon] at hh ⊢ <;> first|exact hh|exact hh.elim
theorem wpList_cut {P:Program} {ops:Array Oper} {Q:Exit→Act→World→Prop} {l2:List Oper}:∀{l1:List Oper} {a:Act} {w:World},wpList P ops (Qf (wpList P ops Q l2)) l1 a w→wpList P ops Q (l1 ++ l2) a w
 | [],_,_,h=>h
 |o :: l1,a,w,h=>by
  show wpList P ops Q (o :: (l1 ++ l2)) a w
  unfold wpList at h ⊢
  split
  ·rename_i hw
   rw[if_pos hw] at h
   rcases h with h|⟨_,h⟩
   ·exact .inl (wp_cut (fun _ _ h=>wpList_cut h) h)
   exact absurd h not_letsOut
  rename_i hw
  rw[if_neg hw] at h
  exact wpList_cut h
theorem B9 {P:Program} {ops:Array Oper} {N:Nat} {Q:Env→World→Prop} {l:List Oper} {e:Env} {w:World} (n:Nat) (Φ:Env→World→Prop)
 (h1:EL P ops N Φ (l.take n) e w) (h2:∀e w,Φ e w→EL P ops N Q (l.drop n) e w):EL P ops N Q l e w:=by
 intro Qx a hr hq
 rw[← List.take_append_drop n l]
 exact wpList_cut (h1 _ a hr fun e' a' w' hr' hΦ=>h2 e' w' hΦ Qx a' hr' hq)
theorem DL_cut {P:Program} {l:List Oper} {S:World→Prop} {Q:Env→World→Prop}:∀{r:List (Nat×Bool)} {e:Env} {w:World} (n:Nat) (Φ:Env→World→Prop),
 (r.take n).all (fun x=> !x.2)=true→DL P l S Φ (r.take n) e w→(∀e w,Φ e w→DL P l S Q (r.drop n) e w)→DL P l S Q r e w
 |r,_,_,0,_,_,h1,h2=>by simpa using h2 _ _ (by simpa [DL] using h1)
 | [],_,_,_+1,_,_,h1,h2=>h2 _ _ h1
 |(i,true) :: r,_,_,n+1,_,hb,_,_=>by simp at hb
 |(i,false) :: r,e,w,n+1,Φ,hb,h1,h2=>by
  obtain ⟨v,hv,h1⟩:=h1
  exact ⟨v,hv,DL_cut n Φ (by simpa using hb) h1 h2⟩
theorem Bt {P:Program} {ops:Array Oper} {N:Nat} {Q:Env→World→Prop} {e:Env} {w:World} {rest:List Oper} {d:Nat} {op:Op} {ty:TypeId} {pos:String} {af:Array Edge} {j:Nat} {b:Bool}
 (hg:gEv ops e j=none) (hk:okG N ops ⟨some d,op,ty,pos,af,some (j,b)⟩=true)
 (h:EL P ops N Q rest (e.set d undef) w):EL P ops N Q (⟨some d,op,ty,pos,af,some (j,b)⟩ :: rest) e w:=by
 intro Qx a hr hq
 have hw:Region.wanted ⟨some d,op,ty,pos,af,some (j,b)⟩ (yielded ops a.tmps)=false:=by
  rw[hr.wanted ops _ hk]
  simp [Region.wanted,hg]
 unfold wpList
 rw[hw]
 exact h Qx _ (hr.set d undef) hq
theorem D6 {P:Program} {l:List Oper} {S:World→Prop} {Q:Env→World→Prop} {r:List (Nat×Bool)} {e:Env} {w:World} {i d:Nat} {op:Op} {ty:TypeId} {pos:String} {af:Array Edge} {j:Nat} {b:Bool}
 (ho:nthO l i=⟨some d,op,ty,pos,af,some (j,b)⟩) (hg:gEv l.toArray e j=none)
 (h:DL P l S Q r (e.set d undef) w):DL P l S Q ((i,false) :: r) e w:=by
 have hw:Ct l e i=false:=by
  unfold Ct Region.wanted;rw[ho];dsimp only;rw[hg];rfl
 refine ⟨undef,fun w' _=>.inr ⟨hw,rfl⟩,?_⟩
 rw[ho];exact h
def orN (Φ:Env→World→Prop) (Q:Exit→Env→World→Prop):Exit→Env→World→Prop
 |.normal,e,w=>Φ e w
 |x,e,w=>Q x e w
theorem Ch {Φ:Env→World→Prop} {Q:Exit→Env→World→Prop} {e:Env} {w:World} (h:Φ e w):orN Φ Q .normal e w:=h
theorem CA {Φ:Env→World→Prop} {Q:Exit→Env→World→Prop} {e:Env} {w:World} (h:Q .ret e w):orN Φ Q .ret e w:=h
theorem BK {P:Program} {N:Nat} {c c':Code} {Q:Exit→Env→World→Prop} {e:Env} {w:World} (Φ:Env→World→Prop) (h1:EC P N c (orN Φ Q) e w) (h2:∀e w,Φ e w→EC P N c' Q e w):EC P N (.seq c c') Q e w:=by
 refine Ae (EC.mono h1 fun x e w hx=>?_)
 cases x <;> first|exact h2 e w hx|exact hx
end Go.Eng
namespace Go.Proofs.YteepnepebilckaaGreatDoor
open Go Go.Eng Go.RowKit
structure Qd where
 x:Int
 y:Int
 l:List Int
 z:Int
instance:Inhabited Qd:=⟨⟨0,0,[],0⟩⟩
def q4 (q:Qd) (s:Value):List Value:=[.int .i64 q.x,.int .i64 q.y,s,.int .i64 q.z]
def qflat:List Qd→List Value→List Value
 |q :: l,s :: ss=>q4 q s ++ qflat l ss
 |_,_=>[]
theorem qflat_app:∀{l:List Qd} {ss:List Value} {q:Qd} {s:Value},ss.length=l.length→qflat (l ++ [q]) (ss ++ [s])=qflat l ss ++ q4 q s
 | [],[],q,s,_=>by simp [qflat]
 | [],_ :: _,_,_,h=>by simp at h
 |_ :: _,[],_,_,h=>by simp at h
 |a :: l,b :: ss,q,s,h=>by
  show q4 a b ++ qflat (l ++ [q]) (ss ++ [s])=(q4 a b ++ qflat l ss) ++ q4 q s
  rw[qflat_app (by simpa using h),List.append_assoc]
theorem qflat_get:∀{l:List Qd} {ss:List Value} {k j:Nat} {v:Value},ss.length=l.length→k<l.length→(q4 (l.getD k default) (ss.getD k nilS))[j]? =some v→(qflat l ss)[k * 4+j]? =some v
 | [],_,k,_,_,_,h,_=>by simp at h
 |_ :: _,[],_,_,_,h,_,_=>by simp at h
 |a :: l,b :: ss,0,j,v,hs,hk,hv=>by
  have hj:j<4:=by
   have:=(List.getElem?_eq_some_iff.1 hv).1
   simpa [q4] using this
  show (q4 a b ++ qflat l ss)[0 * 4+j]? =some v
  rw[List.getElem?_append_left (by simp [q4];omega)]
  simpa using hv
 |a :: l,b :: ss,k+1,j,v,hs,hk,hv=>by
  show (q4 a b ++ qflat l ss)[(k+1) * 4+j]? =some v
  rw[List.getElem?_append_right (by simp [q4];omega)]
  have:(k+1) * 4+j - (q4 a b).length=k * 4+j:=by simp [q4];omega
  rw[this]
  exact qflat_get (by simpa using hs) (by simpa using hk) (by simpa using hv)
def Loose (w:World) (lo X Y:Nat) (o:Option Nat) (s:Value) (l:List Int):Prop:=
 IntsV w s l∧(l=[]∨∀b,s.ownBlock=some b→b<w.heap.size∧lo≤b∧b≠X∧b≠Y∧o≠some b)
def QRow (w:World) (base:Nat) (el:TypeId) (lo X Y:Nat) (R:Value) (l:List Qd):Prop:=
 lo≤base∧R.ownBlock≠some X∧R.ownBlock≠some Y∧∃ss:List Value,ss.length=l.length∧w.ownsRow base el 4 R l.length (qflat l ss)∧∀k,k<l.length→Loose w lo X Y R.ownBlock (ss.getD k nilS) (l.getD k default).l
theorem QRow.nil (w:World) (base:Nat) (el:TypeId) (lo X Y:Nat) (h:lo≤base):QRow w base el lo X Y nilS []:=
 ⟨h,(by intro h;cases h),(by intro h;cases h),[],rfl,⟨rfl,.inl ⟨rfl,rfl⟩⟩,fun _ h=>absurd h (Nat.not_lt_zero _)⟩
theorem Loose.congr {w w':World} {lo X Y:Nat} {o o':Option Nat} {s:Value} {l:List Int} (h:Loose w lo X Y o s l)
 (hk:∀k,k<w.heap.size→lo≤k→k≠X→k≠Y→o≠some k→w'.heap[k]? =w.heap[k]?) (hs:w.heap.size≤w'.heap.size) (ho:∀k,k<w.heap.size→o≠some k→o'≠some k):Loose w' lo X Y o' s l:=by
 obtain ⟨⟨a,c,hv,hlc,hl⟩,h2⟩:=h
 rcases h2 with h2|h2
 ·exact ⟨⟨a,c,hv,hlc,.inl h2⟩,.inl h2⟩
 refine ⟨⟨a,c,hv,hlc,?_⟩,.inr fun b hb=>?_⟩
 ·rcases hl with hl|⟨b,off,ha,hc⟩
  ·exact .inl hl
  refine .inr ⟨b,off,ha,fun k hk'=>?_⟩
  have hb:=h2 b (by rw[hv,ha];rfl)
  rw[World.cell?_of_block (w:=w) (hk b hb.1 hb.2.1 hb.2.2.1 hb.2.2.2.1 hb.2.2.2.2)]
  exact hc k hk'
 have:=h2 b hb
 exact ⟨by omega,this.2.1,this.2.2.1,this.2.2.2.1,ho b this.1 this.2.2.2.2⟩
theorem Au {w:World} {base:Nat} {el:TypeId} {size:Nat} {v:Value} {n:Nat} {xs:List Value} (h:w.ownsRow base el size v n xs):∀k,v.ownBlock=some k→base≤k∧k<w.heap.size:=by
 intro k hk
 rcases h.2 with ⟨rfl,_⟩|⟨g,cap,cur,rfl,hb,hg,_⟩
 ·simp [Value.ownBlock] at hk
 simp only [Value.ownBlock,Option.some.injEq] at hk
 subst hk
 exact ⟨hb,(Array.getElem?_eq_some_iff.1 hg).1⟩
theorem AA {w w':World} {base:Nat} {el:TypeId} {size:Nat} {v:Value} {n:Nat} {xs:List Value} (h:w.ownsRow base el size v n xs) (hk:∀k,v.ownBlock=some k→w'.heap[k]? =w.heap[k]?):w'.ownsRow base el size v n xs:=by
 refine ⟨h.1,?_⟩
 rcases h.2 with h2|⟨g,cap,cur,rfl,hb,hg,hr⟩
 ·exact .inl h2
 exact .inr ⟨g,cap,cur,rfl,hb,(hk g rfl).trans hg,hr⟩
theorem QRow.stay {w w':World} {base:Nat} {el:TypeId} {lo X Y:Nat} {R:Value} {l:List Qd} (h:QRow w base el lo X Y R l)
 (hk:∀k,k<w.heap.size→lo≤k→k≠X→k≠Y→w'.heap[k]? =w.heap[k]?) (hs:w.heap.size≤w'.heap.size):QRow w' base el lo X Y R l:=by
 obtain ⟨hlo,hX,hY,ss,hl,hrow,hloose⟩:=h
 exact ⟨hlo,hX,hY,ss,hl,AA hrow fun k e=>hk k (Au hrow k e).2 (Nat.le_trans hlo (Au hrow k e).1) (fun e2=>hX (e2 ▸ e)) (fun e2=>hY (e2 ▸ e)),fun k hk'=>(hloose k hk').congr (fun j h1 h2 h3 h4 _=>hk j h1 h2 h3 h4) hs (fun _ _ h=>h)⟩
theorem QRow.push {w w':World} {base:Nat} {el:TypeId} {lo X Y:Nat} {R R':Value} {l:List Qd} {ss:List Value} {q:Qd} {s:Value}
 (hlo:lo≤base) (hXR:R.ownBlock≠some X) (hYR:R.ownBlock≠some Y) (hl:ss.length=l.length) (hloose:∀k,k<l.length→Loose w lo X Y R.ownBlock (ss.getD k nilS) (l.getD k default).l)
 (hs:Loose w lo X Y R.ownBlock s q.l) (hrow:w'.ownsRow base el 4 R' (l.length+1) (qflat l ss ++ q4 q s))
 (hgr:w.grownBy w' R.ownBlock) (hR:R'.ownBlock=R.ownBlock∨R'.ownBlock=some w.heap.size) (hX:X<w.heap.size) (hY:Y<w.heap.size) (o:Nat):
 QRow (w'.setCell ⟨X,o,none⟩ R') base el lo X Y R' (l ++ [q]):=by
 have hRX:R'.ownBlock≠some X:=by
  rcases hR with e|e
  ·rw[e];exact hXR
  rw[e];intro e2;have:=Option.some.inj e2;omega
 have hRY:R'.ownBlock≠some Y:=by
  rcases hR with e|e
  ·rw[e];exact hYR
  rw[e];intro e2;have:=Option.some.inj e2;omega
 have hsz:w.heap.size≤w'.heap.size:=hgr.size
 have hk:∀k,k<w.heap.size→lo≤k→k≠X→k≠Y→R.ownBlock≠some k→(w'.setCell ⟨X,o,none⟩ R').heap[k]? =w.heap[k]? :=fun k h1 _ h2 _ h3=>by
  rw[Below.heap_setCell _ _ _ _ h2,hgr.block k h1 (fun e=>h3 e.symm)]
 have ho:∀k,k<w.heap.size→R.ownBlock≠some k→R'.ownBlock≠some k:=fun k h1 h2=>by
  rcases hR with e|e
  ·rw[e];exact h2
  rw[e];intro e2;have:=Option.some.inj e2;omega
 have hsz':w.heap.size≤(w'.setCell ⟨X,o,none⟩ R').heap.size:=by simpa [World.setCell] using hsz
 refine ⟨hlo,hRX,hRY,ss ++ [s],by simp [hl],?_,fun k hk'=>?_⟩
 ·rw[qflat_app hl]
  rw[List.length_append]
  exact AA hrow fun k e=>Below.heap_setCell _ _ _ _ (fun e2=>hRX (by rw[e,e2]))
 by_cases hlt:k<l.length
 ·have h1:(ss ++ [s]).getD k nilS=ss.getD k nilS:=by rw[List.getD_eq_getElem?_getD,List.getElem?_append_left (by omega),← List.getD_eq_getElem?_getD]
  have h2:(l ++ [q]).getD k default=l.getD k default:=by rw[List.getD_eq_getElem?_getD,List.getElem?_append_left hlt,← List.getD_eq_getElem?_getD]
  rw[h1,h2]
  exact (hloose k hlt).congr hk hsz' ho
 have hke:k=l.length:=by simp at hk';omega
 subst hke
 have h1:(ss ++ [s]).getD l.length nilS=s:=by rw[List.getD_eq_getElem?_getD,List.getElem?_append_right (by omega),hl];simp
 have h2:(l ++ [q]).getD l.length default=q:=by rw[List.getD_eq_getElem?_getD,List.getElem?_append_right (by omega)];simp
 rw[h1,h2]
 exact hs.congr hk hsz' ho
theorem QRow.read {w:World} {base:Nat} {el:TypeId} {lo X Y:Nat} {R:Value} {l:List Qd} (h:QRow w base el lo X Y R l):
 ∃a c,R= .slice a l.length c∧(l=[]∨∃b o,a=some ⟨b,o,none⟩∧∀k,k<l.length→Quad w b (o+k * 4) (l.getD k default).x (l.getD k default).y (l.getD k default).l (l.getD k default).z):=by
 obtain ⟨hlo,hX,hY,ss,hl,hrow,hloose⟩:=h
 rcases hrow.2 with ⟨rfl,h0⟩|⟨g,cap,cur,rfl,hb,hg,h1,h2,h3,h4⟩
 ·refine ⟨none,0,by rw[h0],.inl (List.eq_nil_of_length_eq_zero h0)⟩
 refine ⟨some ⟨g,0,none⟩,cap,rfl,.inr ⟨g,0,rfl,fun k hk=>?_⟩⟩
 refine ⟨ss.getD k nilS,fun j v hv=>?_,(hloose k hk).1⟩
 have hj:j<4:=by simpa using (List.getElem?_eq_some_iff.1 hv).1
 have h5:=qflat_get (j:=j) (v:=v) hl hk hv
 rw[← h4,List.getElem?_take] at h5
 split at h5
 ·rw[cell_of_row w g _ cur el (0,0) hg]
  rw[Array.getElem?_toList] at h5
  rw[show 0+k * 4+j=k * 4+j by omega]
  exact h5
 cases h5
def Own (B:Nat) (w':World) (v:Value) (f:Fn):Prop:=∀w'':World,(∀k,B≤k→k<w'.heap.size→w''.heap[k]? =w'.heap[k]?)→w'.heap.size≤w''.heap.size→FnV w'' v f
theorem Own.at {B:Nat} {w':World} {v:Value} {f:Fn} (h:Own B w' v f):FnV w' v f:=h w' (fun _ _ _=>rfl) (Nat.le_refl _)
theorem below_setRow' {B g:Nat} {w0 w:World} (hb:Below B w0 w) (hBg:B≤g) (cs:Array Value):Below B w0 (w.setRow g cs):=
 hb.trans ⟨rfl,rfl,rfl,by simp [World.setRow],fun k hk=>setRow_other _ _ _ _ (by omega)⟩
theorem CK {P:Program} {l:List Oper} {S:World→Prop} {Q:Env→World→Prop} {r:List (Nat×Bool)} {e:Env} {w:World} {i d:Nat} {s x:Operand} {t el:TypeId} {ty:TypeId} {pos:String} {af:Array Edge} {bytes base:Nat}
 {v:Value} {n:Nat} {xs:List Value} {sa:Option Addr} {sc:Nat} {ys:List Int}
 (hints0:IntsC w sa ys sc) (hown:w.ownsRow base el 1 v n xs) (hbytes:(n+ys.length) * bytes≤140737488355328) (hb0:0<bytes) (hbase:base≤w.heap.size)
 (ho:nthO l i=⟨some d,.call { callee:=.builtin .append,args:=#[s,x],argTypes:=#[t,t] },ty,pos,af,none⟩)
 (ht:P.underlying t=some (.slice el)) (hi:(P.info? el).map (fun i=>(i.zero,i.size,i.bytes))=some (some (.int .i64 0),1,bytes))
 (hs:e.ev s=v) (hx:e.ev x= .slice sa ys.length sc)
 (h:∀v' w',w'.ownsRow base el 1 v' (n+ys.length) (xs ++ ys.map (.int .i64))→w.grownBy w' v.ownBlock→(v'.ownBlock=v.ownBlock∨v'.ownBlock=some w.heap.size)→(r=[]∨S w')∧DL P l S Q r (e.set d v') w'):
 DL P l S Q ((i,true) :: r) e w:=by
 have hints:=hints0.2
 rcases sa with _|ad
 ·have hy:ys=[]:=by
   rcases hints with h|⟨b,o,h,_⟩
   ·exact h
   cases h
  subst hy
  obtain ⟨h1,h2⟩:=h v w (by simpa using hown) ⟨rfl,rfl,rfl,Nat.le_refl _,fun _ _ _=>rfl⟩ (.inl rfl)
  exact BP ho (Fl ht hi hs hown hx) h1 h2
 refine C6 (news:=ys.map (.int .i64)) (m:=ys.length) (c:=sc) (ad:=ad) hown ?_ ?_ (by simp) hbytes hb0 hbase ho ht hi rfl (by decide) hs hx h
 ·intro j u hj
  rcases hints with hy|⟨b,o,ha,hc⟩
  ·subst hy;simp at hj
  have ha:=Option.some.inj ha
  subst ha
  rw[List.getElem?_map] at hj
  cases hyj:ys[j]? with
  |none=>rw[hyj] at hj;cases hj
  |some y=>
   rw[hyj] at hj
   have hu:Value.int .i64 y=u:=Option.some.inj hj
   have hlt:=(List.getElem?_eq_some_iff.1 hyj).1
   rw[Addr.add_lit,← hu]
   have:=hc j hlt
   rw[List.getD_eq_getElem?_getD,hyj] at this
   exact this
 intro u hu
 obtain ⟨y,_,rfl⟩:=List.mem_map.1 hu
 rfl
theorem BO {w:World} {base:Nat} {el:TypeId} {v:Value} {l:List Int} (h:w.ownsRow base el 1 v l.length (l.map (.int .i64))):IntsV w v l:=by
 rcases h.2 with ⟨rfl,h0⟩|⟨g,cap,cur,rfl,hb,hg,h1,h2,h3,h4⟩
 ·exact ⟨none,0,by rw[h0],Nat.le_of_eq h0,.inl (List.eq_nil_of_length_eq_zero h0)⟩
 refine ⟨some ⟨g,0,none⟩,cap,rfl,h1,.inr ⟨g,0,rfl,fun k hk=>?_⟩⟩
 rw[cell_of_row w g _ cur el (0,0) hg]
 have h5:(l.map (Value.int .i64))[k]? =some (.int .i64 (l.getD k 0)):=by
  rw[List.getElem?_map,List.getElem?_eq_getElem hk,List.getD_eq_getElem?_getD,List.getElem?_eq_getElem hk];rfl
 rw[← h4,List.getElem?_take] at h5
 split at h5
 ·rw[Array.getElem?_toList] at h5
  rw[Nat.zero_add];exact h5
 cases h5
theorem BH {w:World} {base:Nat} {el:TypeId} {size:Nat} {v:Value} {n:Nat} {xs:List Value} (h:w.ownsRow base el size v n xs):∃a c,v= .slice a n c:=by
 rcases h.2 with ⟨rfl,h0⟩|⟨g,cap,cur,rfl,_⟩
 ·exact ⟨none,0,by rw[h0]⟩
 exact ⟨_,_,rfl⟩
def vq (v:Vl):Qd:=⟨v.op,v.blk,v.args,v.aux⟩
def bq (b:Bk):Qd:=⟨b.kind,b.ctrl,b.succs,b.likely⟩
theorem QRow.vals {w:World} {base:Nat} {el:TypeId} {lo X Y:Nat} {R:Value} {l:List Vl} (h:QRow w base el lo X Y R (l.map vq)):ValsV w R l:=by
 obtain ⟨a,c,hR,h⟩:=h.read
 rw[List.length_map] at hR h
 refine ⟨a,c,hR,?_⟩
 rcases h with h|⟨b,o,ha,h⟩
 ·exact .inl (by simpa using h)
 refine .inr ⟨b,o,ha,fun k hk=>?_⟩
 have:=h k hk
 rw[List.getD_eq_getElem?_getD,List.getElem?_map,List.getElem?_eq_getElem hk] at this
 rw[List.getD_eq_getElem?_getD,List.getElem?_eq_getElem hk]
 exact this
theorem QRow.blks {w:World} {base:Nat} {el:TypeId} {lo X Y:Nat} {R:Value} {l:List Bk} (h:QRow w base el lo X Y R (l.map bq)):BlksV w R l:=by
 obtain ⟨a,c,hR,h⟩:=h.read
 rw[List.length_map] at hR h
 refine ⟨a,c,hR,?_⟩
 rcases h with h|⟨b,o,ha,h⟩
 ·exact .inl (by simpa using h)
 refine .inr ⟨b,o,ha,fun k hk=>?_⟩
 have:=h k hk
 rw[List.getD_eq_getElem?_getD,List.getElem?_map,List.getElem?_eq_getElem hk] at this
 rw[List.getD_eq_getElem?_getD,List.getElem?_eq_getElem hk]
 exact this
end Go.Proofs.YteepnepebilckaaGreatDoor
namespace Go.Proofs.YteepnepebilckaaGreatDoor
open Go Go.Eng Go.RowKit
inductive Rch (f:Fn) (wo:Int):Nat→Prop where
 |entry:wo≠0→Rch f wo 0
 |step {b:Nat} {s:Int}:Rch f wo b→s∈(f.b b).succs→s≠wo→Rch f wo s.toNat
structure Shp (f:Fn):Prop where
 one:1≤f.blks.length
 nb:f.blks.length≤9
 succs:∀b,b<f.blks.length→(f.b b).succs.length≤2∧∀s∈(f.b b).succs,0≤s∧s<f.blks.length
def bools (S:Nat→Bool) (n:Nat):Array Value:=((List.range n).map fun i=>Value.bool (S i)).toArray
theorem BU (S:Nat→Bool) {n i:Nat} (h:i<n):(bools S n)[i]? =some (.bool (S i)):=by
 simp [bools,List.getElem?_range h]
theorem CS (S:Nat→Bool) (n:Nat):(bools S n).size=n:=by simp [bools]
theorem bools_set (S:Nat→Bool) (n s:Nat) (v:Bool):(bools S n).setIfInBounds s (.bool v)=bools (fun x=>if x=s then v else S x) n:=by
 apply Array.ext_getElem?
 intro i
 rw[Array.getElem?_setIfInBounds,CS]
 by_cases hi:i<n
 ·rw[BU _ hi,BU _ hi]
  by_cases e:s=i
  ·subst e;simp [hi]
  rw[if_neg e]
  have:¬ i=s:=fun h=>e h.symm
  simp [this]
 have h1:(bools S n)[i]? =none:=by rw[Array.getElem?_eq_none];rw[CS];omega
 have h2:(bools (fun x=>if x=s then v else S x) n)[i]? =none:=by rw[Array.getElem?_eq_none];rw[CS];omega
 rw[h1,h2]
 split
 ·rw[if_neg (by omega)]
 rfl
theorem EI (n:Nat):madeCells #[.bool false] n=bools (fun _=>false) n:=by
 simp [madeCells,bools]
 apply Array.ext
 ·simp
 intro i h1 h2
 simp [Nat.mod_one]
def cnt (S:Nat→Bool):Nat→Nat
 |0=>0
 |n+1=>cnt S n+if S n then 0 else 1
theorem cnt_le (S:Nat→Bool):∀n,cnt S n≤n
 |0=>Nat.le_refl _
 |n+1=>by
  have:=cnt_le S n
  show cnt S n+_≤_
  split <;> omega
theorem cnt_congr {S S':Nat→Bool}:∀{n:Nat},(∀i,i<n→S i=S' i)→cnt S n=cnt S' n
 |0,_=>rfl
 |n+1,h=>by
  show cnt S n+_=cnt S' n+_
  rw[cnt_congr fun i hi=>h i (by omega),h n (by omega)]
theorem cnt_set {S:Nat→Bool}:∀{n s:Nat},s<n→S s=false→cnt (fun x=>if x=s then true else S x) n+1=cnt S n
 |0,s,h,_=>absurd h (Nat.not_lt_zero _)
 |n+1,s,h,hs=>by
  show cnt (fun x=>if x=s then true else S x) n+(if (if n=s then true else S n)=true then 0 else 1)+1=cnt S n+_
  by_cases e:s=n
  ·subst e
   rw[cnt_congr (S':=S) fun i hi=>if_neg (by omega)]
   simp [hs]
  have ih:=cnt_set (S:=S) (n:=n) (s:=s) (by omega) hs
  have hne:¬ n=s:=fun h=>e h.symm
  rw[if_neg hne]
  omega
structure RI (f:Fn) (wo:Int) (S:Nat→Bool) (q:List Int):Prop where
 snd:∀i,i<f.blks.length→S i=true→Rch f wo i
 que:∀x∈q,∃i:Nat,x=(i:Int)∧i<f.blks.length∧S i=true
 ent:S 0=true
 clo:∀i,i<f.blks.length→S i=true→(i:Int)∈q∨∀s∈(f.b i).succs,s≠wo→S s.toNat=true
structure RJ (f:Fn) (wo:Int) (b k:Nat) (S:Nat→Bool) (q:List Int):Prop where
 snd:∀i,i<f.blks.length→S i=true→Rch f wo i
 que:∀x∈q,∃i:Nat,x=(i:Int)∧i<f.blks.length∧S i=true
 ent:S 0=true
 bs:b<f.blks.length∧S b=true
 clo:∀i,i<f.blks.length→S i=true→(i:Int)∈q∨i=b∨∀s∈(f.b i).succs,s≠wo→S s.toNat=true
 don:∀j,j<k→(f.b b).succs.getD j 0≠wo→S ((f.b b).succs.getD j 0).toNat=true
section
variable {f : Fn} {wo : Int} {S : Nat → Bool} {q : List Int} {b k : Nat}
theorem RI.pop {x:Int} (h:RI f wo S (x :: q)):∃b:Nat,x=(b:Int)∧RJ f wo b 0 S q:=by
 obtain ⟨b,rfl,hb,hs⟩:=h.que x (.head _)
 refine ⟨b,rfl,h.snd,fun y hy=>h.que y (.tail _ hy),h.ent,⟨hb,hs⟩,fun i hi hS=>?_,fun j hj=>absurd hj (Nat.not_lt_zero _)⟩
 rcases h.clo i hi hS with h1|h1
 ·rcases List.mem_cons.1 h1 with h2|h2
  ·exact .inr (.inl (by omega))
  exact .inl h2
 exact .inr (.inr h1)
theorem RJ.skip (h:RJ f wo b k S q) (hs:(f.b b).succs.getD k 0≠wo→S ((f.b b).succs.getD k 0).toNat=true):RJ f wo b (k+1) S q:=
 ⟨h.snd,h.que,h.ent,h.bs,h.clo,fun j hj=>by
   by_cases e:j=k
   ·subst e;exact hs
   exact h.don j (by omega)⟩
theorem RJ.add (h:RJ f wo b k S q) {s:Int} (hs:s=(f.b b).succs.getD k 0) (hk:k<(f.b b).succs.length) (hr:0≤s∧s<f.blks.length) (hw:s≠wo):
 RJ f wo b (k+1) (fun x=>if x=s.toNat then true else S x) (q ++ [s]):=by
 have hmem:s∈(f.b b).succs:=by rw[hs,List.getD_eq_getElem?_getD,List.getElem?_eq_getElem hk];simp
 have hmono:∀i,S i=true→(if i=s.toNat then true else S i)=true:=fun i hi=>by split <;> simp [hi]
 refine ⟨fun i hi hS=>?_,fun x hx=>?_,hmono _ h.ent,⟨h.bs.1,hmono _ h.bs.2⟩,fun i hi hS=>?_,fun j hj hne=>?_⟩
 ·by_cases e:i=s.toNat
  ·subst e;exact .step (h.snd b h.bs.1 h.bs.2) hmem hw
  simp only [if_neg e] at hS;exact h.snd i hi hS
 ·rcases List.mem_append.1 hx with h1|h1
  ·obtain ⟨i,e,hi,hS⟩:=h.que x h1
   exact ⟨i,e,hi,hmono i hS⟩
  simp at h1
  subst h1
  exact ⟨x.toNat,by omega,by omega,by simp⟩
 ·by_cases e:i=s.toNat
  ·left;subst e;rw[List.mem_append];right;simp;omega
  simp only [if_neg e] at hS
  rcases h.clo i hi hS with h1|h1|h1
  ·exact .inl (List.mem_append.2 (.inl h1))
  ·exact .inr (.inl h1)
  exact .inr (.inr fun y hy hyw=>hmono _ (h1 y hy hyw))
 by_cases e:j=k
 ·subst e;rw[← hs];simp
 exact hmono _ (h.don j (by omega) hne)
theorem RJ.done (h:RJ f wo b (f.b b).succs.length S q):RI f wo S q:=
 ⟨h.snd,h.que,h.ent,fun i hi hS=>by
   rcases h.clo i hi hS with h1|h1|h1
   ·exact .inl h1
   ·subst h1
    right
    intro s hs hw
    obtain ⟨j,hj,rfl⟩:=List.getElem_of_mem hs
    have:=h.don j hj
    rw[List.getD_eq_getElem?_getD,List.getElem?_eq_getElem hj] at this
    exact this hw
   exact .inr h1⟩
theorem RI.fin (sh:Shp f) (h:RI f wo S []):∀i,i<f.blks.length→(S i=true↔Rch f wo i):=by
 intro i hi
 refine ⟨h.snd i hi,fun hr=>?_⟩
 have key:i<f.blks.length∧S i=true:=by
  clear hi
  induction hr with
  |entry _=>exact ⟨sh.one,h.ent⟩
  | @step b s _ hs hw ih=>
    have h1:=(sh.succs b ih.1).2 s hs
    refine ⟨by omega,?_⟩
    rcases h.clo b ih.1 ih.2 with h2|h2
    ·simp at h2
    exact h2 s hs hw
 exact key.2
theorem Hh (f:Fn) (i:Nat):¬ Rch f 0 i:=by
 intro h
 induction h with
 |entry h=>exact h rfl
 |step _ _ _ ih=>exact ih
end
theorem Ev {B:Nat} {w0 w:World} (h:Below B w0 w) (hB:w0.heap.size≤B):Keep w0 w:=Keep.of_below h hB
set_option maxHeartbeats 4000000
attribute [local irreducible] EC EL DL Ret thenQ blockQ Bi bodyQ onlyN execOp Sem.run World.cell? World.frozen? World.setCell World.alloc
theorem reach_ret {w:World} {x:Value} {f:Fn} (hx:FnV w x f) (sh:Shp f) (wo:Int):
 Ret Tryz.prog 34 #[x,.int .i64 wo] w fun v w'=>∃G S,v= .slice (some ⟨G,0,none⟩) f.blks.length f.blks.length∧w.heap.size≤G∧w'.heap[G]? =some (.cells (bools S f.blks.length) 4 (0,0))∧
  (∀i,i<f.blks.length→(S i=true↔Rch f wo i))∧Below w.heap.size w w':=by
 obtain ⟨xv,xb,rfl,hvals,hblks⟩:=hx
 refine ret_of_EC Tryz.func34 rfl rfl ?_
 obtain ⟨ab,cb,rfl,hbl⟩:=hblks
 obtain ⟨B,hBd⟩:∃B,B=w.heap.size:=⟨_,rfl⟩
 have hnb:=sh.nb
 have hone:=sh.one
 refine Ae (Ac (Ab (Br (v:=.agg #[xv,.slice ab f.blks.length cb]) rfl) rfl (el_new (.cells #[xv,.slice ab f.blks.length cb] 30) B (by omega) fun wa hN1 hO1 hZ1 hB1 hK1=>(Ab Ah rfl (Af (Aa ?_))))))
 obtain ⟨b1,hb1⟩:∃b1,b1=w.heap.size:=⟨_,rfl⟩
 rw[← hb1] at hN1 ⊢
 have g1:wa.cell? ⟨b1,0+1,none⟩=some (.slice ab f.blks.length cb):=Am hN1 rfl
 refine Ae (Ac (Ab (Ak rfl (Al rfl)) rfl (Ab (Ai rfl (Ag rfl) ‹_›) rfl ?_)))
 refine Ab (AM rfl (An rfl)) rfl (Ab (C9 Tryz.underlying49 info4 rfl rfl rfl (by omega) (by omega)) rfl ?_)
 rw[EI]
 have hBle:B≤wa.heap.size:=by omega
 refine el_new (.cells (bools (fun _=>false) f.blks.length) 4) B (by omega) fun wb hN2 hO2 hZ2 hB2 hK2=>?_
 obtain ⟨G,hG⟩:∃G,G=wa.heap.size:=⟨_,rfl⟩
 rw[← hG] at hN2 ⊢
 refine Ab Ah rfl (Af (Aa ?_))
 have hbelB:Below B w wb:=hB1.trans hB2
 have hbx:wb.heap[b1]? =some (.cells #[xv,.slice ab f.blks.length cb] 30 (0,0)):=(hO2 _ (by omega)).trans hN1
 refine Ae (Ae (Ac (Ab Ad rfl (Ab (A6 rfl rfl) rfl (Af (Aa ?_))))))
 refine AF rfl rfl (fun hw0=>?_) (fun hw0=>?_)
 ·refine Ae (Ac (Ab Ad rfl (Ab Ah rfl (Af (Aa (AC (AE ?_)))))))
  refine Ax rfl rfl rfl ⟨G,fun _=>false,rfl,by omega,hN2,fun i hi=>?_,by rw[hb1,← hBd];exact hbelB⟩
  rw[hw0]
  exact ⟨fun h=>(by cases h),fun h=>absurd h (Hh f i)⟩
 refine Ar (Aa (Ae (Ac (Ab Ad rfl (Ab (x_index0 rfl rfl (An rfl) (by omega)) rfl ?_)))))
 have hold:wb.cell? ⟨G,0+0,none⟩=some (.bool false):=Am hN2 (BU _ hone)
 refine Bb (AV rfl rfl rfl (AK rfl) hold (AT hN2)) rfl (Af (Aa ?_))
 have hM:=AD (o:=0+0) (u:=.bool true) hN2
 rw[bools_set] at hM
 have hMo:∀j,j<G→(wb.setCell ⟨G,0+0,none⟩ (.bool true)).heap[j]? =wb.heap[j]? :=fun j hj=>Below.heap_setCell _ _ _ _ (by show j≠G;omega)
 have hbelM:Below B w (wb.setCell ⟨G,0+0,none⟩ (.bool true)):=hbelB.setCell (by show B≤G;omega) _
 have hMz:(wb.setCell ⟨G,0+0,none⟩ (.bool true)).heap.size=G+1:=by rw[Bq];omega
 change EC _ _ _ _ _ (wb.setCell ⟨G,0+0,none⟩ (.bool true))
 generalize wb.setCell ⟨G,0+0,none⟩ (.bool true)=wm at hM hMo hbelM hMz ⊢
 refine Ae (Ac ?_)
 have hBle:B≤wm.heap.size:=by omega
 refine Ab (Bp (v:=.int .i64 0) rfl rfl Tryz.underlying35 (by kernel_rfl) (z:=.int .i64 0) rfl) rfl (el_new (.cells #[.int .i64 0] 3) B (by omega) fun wq hN3 hO3 hZ3 hB3 hK3=>(Ab Ah rfl (Af (Aa ?_))))
 have hQ0:Qu wq (G+1) 3 (.slice (some ⟨wm.heap.size,0,none⟩) 1 1) ([(0:Int)].map (.int .i64)):=
  ⟨wm.heap.size,0,1,#[.int .i64 0],rfl,by omega,hN3,by simp,by simp,by decide,fun k u hk=>by
    cases k with
    |zero=>simpa using hk
    |succ k=>simp at hk⟩
 have hS0:wq.heap[G]? =some (.cells (bools (fun x=>if x=0 then true else false) f.blks.length) 4 (0,0)):=(hO3 _ (by omega)).trans hM
 have hst0:∀j,j<G→wq.heap[j]? =wb.heap[j]? :=fun j hj=>(hO3 _ (by omega)).trans (hMo j hj)
 have hbel0:Below B w wq:=hbelM.trans hB3
 have hRI0:RI f wo (fun x=>if x=0 then true else false) [0]:=⟨fun i _ hS=>by
  by_cases e:i=0
  ·subst e;exact .entry hw0
  simp [e] at hS,
  fun x hx=>by simp at hx;exact ⟨0,by simpa using hx,hone,rfl⟩,rfl,fun i _ hS=>by
   by_cases e:i=0
   ·subst e;exact .inl (.head _)
   simp [e] at hS⟩
 have hszq:G+1≤wq.heap.size:=by omega
 refine A4 (fun e wr=>∃S v,At e [(1,.int .i64 wo),(2,.pointer (some ⟨b1,0,none⟩)),(5,.slice (some ⟨G,0,none⟩) f.blks.length f.blks.length),(6,v)]∧wr.heap[G]? =some (.cells (bools S f.blks.length) 4 (0,0))∧RI f wo S []∧Below B w wr) ?_ ?_
 ·refine Ap ?_
  refine EC_loop (fun n e wr=>∃(S:Nat→Bool) (v:Value) (q:List Int),At e [(1,.int .i64 wo),(2,.pointer (some ⟨b1,0,none⟩)),(5,.slice (some ⟨G,0,none⟩) f.blks.length f.blks.length),(6,v)]∧Qu wr (G+1) 3 v (q.map (.int .i64))∧wr.heap[G]? =some (.cells (bools S f.blks.length) 4 (0,0))∧RI f wo S q∧(∀j,j<G→wr.heap[j]? =wb.heap[j]?)∧G+1≤wr.heap.size∧Below B w wr∧q.length+cnt S f.blks.length≤1000∧n=2 * cnt S f.blks.length+q.length) (2 * cnt (fun x=>if x=0 then true else false) f.blks.length+1)
   ⟨_,_,[0],Aq rfl ⟨rfl,rfl,rfl,rfl,trivial⟩,hQ0,hS0,hRI0,hst0,hszq,hbel0,by have:=cnt_le (fun x=>if x=0 then true else false) f.blks.length;show 1+_≤1000;omega,rfl⟩ ?_
  rintro n e wr ⟨S,v,q,⟨t,rfl⟩,hQ,hS,hRI,hst,hsz,hb,hql,rfl⟩
  refine Ae ?_
  cases q with
  |nil=>
   obtain ⟨g6,o6,c6,cur6,rfl,_⟩:=id hQ
   refine Ae (Ac (Ab Ad rfl (Ab (AM rfl (An rfl)) rfl (Ab (BF rfl rfl) rfl (Af (Aa ?_))))))
   refine AF rfl rfl (fun hp=>absurd (show (0:Int)<((0:Nat):Int) from hp) (by decide)) (fun _=>?_)
   refine AJ (Az (AB (Ay ?_)))
   exact AS ⟨S,_,Aq rfl ⟨rfl,rfl,rfl,rfl,trivial⟩,hS,hRI,hb⟩
  |cons x q=>
   obtain ⟨z,hz,hRJ⟩:=hRI.pop
   obtain ⟨g6,o6,c6,rfl,hx6,hQ6⟩:=hQ.head
   rw[List.length_map] at hQ6 ⊢
   have hx6:wr.cell? ⟨g6,o6+0,none⟩=some (.int .i64 x):=hx6
   refine Ae (Ac (Ab Ad rfl (Ab (AM rfl (An rfl)) rfl (Ab (BF rfl rfl) rfl (Af (Aa ?_))))))
   refine AF rfl rfl (fun _=>?_) (fun hp=>absurd (show (0:Int)<((q.length+1:Nat):Int) from by omega) hp)
   refine Ar (Aa (Ap (Ae (Ac (Ab Ad rfl (Ab (x_index0 rfl rfl (An rfl) (by omega)) rfl (Ab (Ai rfl (Ag rfl) ‹_›) rfl ?_)))))))
   refine Ab Ah rfl (Af (Aa (Ae (Ac (Ab Ad rfl (Ab (x_slice1 (n:=q.length) Tryz.underlying35 Cd rfl rfl) rfl (Ab Ah rfl (Af (Aa ?_)))))))))
   have hzb:=hRJ.bs.1
   obtain ⟨bb,ob,rfl,hq⟩:=hbl.resolve_left (fun e=>by rw[e] at hzb;simp at hzb)
   obtain ⟨s0,hcells0,⟨sa,sc,rfl,hints⟩⟩:=hq z hzb
   have hKw:Keep w wr:=Keep.of_below hb (by omega)
   have hcells:=hcells0.keep hKw
   have h33:wr.cell? ⟨bb,ob+z * 4+2,none⟩=some (.slice sa (f.b z).succs.length sc):=hcells 2 _ rfl
   have hbxr:wr.heap[b1]? =some (.cells #[xv,.slice (some ⟨bb,ob,none⟩) f.blks.length cb] 30 (0,0)):=(hst b1 (by omega)).trans hbx
   have h29:wr.cell? ⟨b1,0+1,none⟩=some (.slice (some ⟨bb,ob,none⟩) f.blks.length cb):=Am hbxr rfl
   refine Ae (Ac (Ab (Ak rfl (Al rfl)) rfl (Ab (Ai rfl (Ag rfl) ‹_›) rfl ?_)))
   refine Ab Ad rfl (Ab (Hm (n:=4) rfl rfl hz (An rfl) hzb) rfl (Ab (Ak rfl (Al rfl)) rfl (Ab (Ai rfl (Ag rfl) ‹_›) rfl ?_)))
   refine Ab (AM rfl (An rfl)) rfl (Ab Ad rfl (Af (Aa ?_)))
   obtain ⟨hsl,hsm⟩:=sh.succs z hzb
   refine Ap ?_
   refine EC_loop (fun m e wi=>∃(S':Nat→Bool) (v:Value) (q':List Int) (k:Nat),k≤(f.b z).succs.length∧At e [(1,.int .i64 wo),(2,.pointer (some ⟨b1,0,none⟩)),(5,.slice (some ⟨G,0,none⟩) f.blks.length f.blks.length),(6,v),(33,.slice sa (f.b z).succs.length sc),(34,.int .i64 ((f.b z).succs.length:Int)),(35,.int .i64 (k:Int))]∧Qu wi (G+1) 3 v (q'.map (.int .i64))∧wi.heap[G]? =some (.cells (bools S' f.blks.length) 4 (0,0))∧RJ f wo z k S' q'∧(∀j,j<G→wi.heap[j]? =wb.heap[j]?)∧G+1≤wi.heap.size∧Below B w wi∧q'.length+cnt S' f.blks.length≤q.length+cnt S f.blks.length∧2 * cnt S' f.blks.length+q'.length≤2 * cnt S f.blks.length+q.length∧m=(f.b z).succs.length - k) (f.b z).succs.length
    ⟨S,_,q,0,Nat.zero_le _,Aq rfl ⟨rfl,rfl,rfl,rfl,rfl,rfl,rfl,trivial⟩,by simpa using hQ6,hS,hRJ,hst,hsz,hb,Nat.le_refl _,Nat.le_refl _,rfl⟩ ?_
   rintro m e wi ⟨S',v,q',k,hk,⟨t,rfl⟩,hQ,hS,hRJ,hst,hsz,hb,hm1,hm2,rfl⟩
   refine Ae (Ac (Ab (AY rfl rfl) rfl (Af (Aa (Ae ?_)))))
   refine AF rfl rfl (fun hlk=>?_) (fun hge=>?_)
   rotate_left
   ·have hk:k=(f.b z).succs.length:=by omega
    subst hk
    refine AJ (Az (AB (Ay (Ao ?_))))
    refine Av (2 * cnt S' f.blks.length+q'.length) (by simp;omega) ⟨S',v,q',Aq rfl ⟨rfl,rfl,rfl,rfl,trivial⟩,hQ,hS,hRJ.done,hst,hsz,hb,?_,rfl⟩
    simp at hql;omega
   have hlk:k<(f.b z).succs.length:=by omega
   obtain ⟨_,_,e3,hintI⟩:IntsV wi (.slice sa (f.b z).succs.length sc) (f.b z).succs:=IntsV.keep ⟨sa,sc,rfl,hints⟩ (Ev hb (by omega))
   obtain ⟨bi,oi,rfl,hai⟩:=hintI.get hlk
   injection e3 with e4 e5 e6
   subst e4
   have hmem:(f.b z).succs.getD k 0∈(f.b z).succs:=by rw[List.getD_eq_getElem?_getD,List.getElem?_eq_getElem hlk];simp
   obtain ⟨hy0,hy1⟩:=hsm _ hmem
   have hskip:=hRJ.skip
   have hadd:=fun h=>hRJ.add (s:=(f.b z).succs.getD k 0) rfl hlk ⟨hy0,hy1⟩ h
   generalize (f.b z).succs.getD k 0=y at hai hy0 hy1 hskip hadd
   have hyy:y=((y.toNat:Nat):Int):=by omega
   have hyl:y.toNat<f.blks.length:=by omega
   have hcy:wi.cell? ⟨G,0+y.toNat,none⟩=some (.bool (S' y.toNat)):=Am hS (by rw[Nat.zero_add];exact BU _ hyl)
   have hno:∀(h:y=wo∨S' y.toNat=true),RJ f wo z (k+1) S' q':=fun h=>hskip fun hne=>h.resolve_left hne
   refine Ar (Aa (Ae (Ap (Ae (Ac (Ab (x_index1 rfl rfl (An rfl) (by omega)) rfl (Ab (Ai rfl (Ag rfl) ‹_›) rfl ?_)))))))
   refine Ab Ah rfl (Af (Aa (Ae (Ac (Ab Ad rfl (Ab Ad rfl (Ab (Bx rfl rfl) rfl (Ab Ad rfl ?_))))))))
   by_cases hyw:y=wo
   ·refine AH (congrArg some (decide_eq_false (fun h=>h hyw))) rfl (AH (congrArg some (decide_eq_false (fun h=>h hyw))) rfl (AH (congrArg some (decide_eq_false (fun h=>h hyw))) rfl (AH (congrArg some (decide_eq_false (fun h=>h hyw))) rfl (AH (congrArg some (decide_eq_false (fun h=>h hyw))) rfl (Ab (AN (congrArg Value.bool (decide_eq_false (fun h=>h hyw)))) rfl (Af (Aa (Bj rfl rfl (Ar (Ao (Aa ?_)))))))))))
    refine Ac (Ab (x_inc rfl rfl (by omega)) rfl (Ab Ad rfl (Af ?_)))
    exact Av ((f.b z).succs.length - (k+1)) (by omega) ⟨S',v,q',k+1,by omega,Aq rfl ⟨rfl,rfl,rfl,rfl,rfl,rfl,rfl,trivial⟩,hQ,hS,hno (.inl hyw),hst,hsz,hb,hm1,hm2,rfl⟩
   have hty:=congrArg some (decide_eq_true hyw)
   refine As hty rfl Ad rfl (As hty rfl Ad rfl (As hty rfl (Bg rfl rfl hyy (An rfl) hyl) rfl (As hty rfl (Ai rfl (Ag rfl) hcy) rfl (As hty rfl (BS rfl) rfl (Ab (AQ (congrArg Value.bool (decide_eq_true hyw))) rfl (Af (Aa ?_)))))))
   rcases Bool.eq_false_or_eq_true (S' y.toNat) with hSy|hSy
   ·refine Bj (congrArg (fun b=>Value.bool (!b)) hSy) rfl (Ar (Ao (Aa (Ac (Ab (x_inc rfl rfl (by omega)) rfl (Ab Ad rfl (Af ?_)))))))
    exact Av ((f.b z).succs.length - (k+1)) (by omega) ⟨S',v,q',k+1,by omega,Aq rfl ⟨rfl,rfl,rfl,rfl,rfl,rfl,rfl,trivial⟩,hQ,hS,hno (.inr hSy),hst,hsz,hb,hm1,hm2,rfl⟩
   refine Bn (congrArg (fun b=>Value.bool (!b)) hSy) rfl ?_
   have hcn:=cnt_set (S:=S') hyl hSy
   have hRJ':=hadd hyw
   refine Ae (Ac (Ab Ad rfl (Ab Ad rfl (Ab (Bg rfl rfl hyy (An rfl) hyl) rfl (Bb (AV (v:=.bool true) rfl rfl rfl (AK rfl) hcy (AT hS)) rfl (Af (Aa ?_)))))))
   have hS2:=AD (o:=0+y.toNat) (u:=.bool true) hS
   rw[bools_set,Nat.zero_add] at hS2
   have hoM:∀j,j≠G→(wi.setCell ⟨G,0+y.toNat,none⟩ (.bool true)).heap[j]? =wi.heap[j]? :=fun j hj=>Below.heap_setCell _ _ _ _ hj
   have hbM:Below B w (wi.setCell ⟨G,0+y.toNat,none⟩ (.bool true)):=hb.setCell (by show B≤G;omega) _
   have hzM:=Bq (w:=wi) ⟨G,0+y.toNat,none⟩ (.bool true)
   rw[Nat.zero_add] at hoM hbM hzM
   change EC _ _ _ _ _ (wi.setCell ⟨G,0+y.toNat,none⟩ (.bool true))
   rw[Nat.zero_add]
   generalize wi.setCell ⟨G,y.toNat,none⟩ (.bool true)=ws at hS2 hoM hbM hzM ⊢
   have hQs:Qu ws (G+1) 3 v (q'.map (.int .i64)):=hQ.congr fun j e=>hoM j (by have:=hQ.lt j e;omega)
   refine Ac ?_
   have hBle:B≤ws.heap.size:=by omega
   refine Ab Ad rfl (Ab Ad rfl (Ab (Bp (v:=.int .i64 y) rfl rfl Tryz.underlying35 (by kernel_rfl) (z:=.int .i64 0) rfl) rfl (el_new (.cells #[.int .i64 y] 3) B (by omega) fun wt hN7 hO7 hZ7 hB7 hK7=>?_)))
   have hQt:Qu wt (G+1) 3 v (q'.map (.int .i64)):=hQs.congr fun j e=>hO7 j (hQs.lt j e).2
   have hlt:=hQt.lt
   have hq'l:q'.length≤1000:=by simp at hql;omega
   refine F0 hQt (Am hN7 rfl) rfl (by rw[List.length_map];omega) (by decide) (by omega) Tryz.underlying35 Cd rfl rfl rfl rfl ?_
   intro v8 w8 hQ8 hgr8 _
   refine Ab Ah rfl (Af (Ao (Aa ?_)))
   have hS8:w8.heap[G]? =some (.cells (bools (fun x=>if x=y.toNat then true else S' x) f.blks.length) 4 (0,0)):=by
    rw[hgr8.block G (by omega) (fun e=>by have:=hlt G e.symm;omega),hO7 G (by omega)];exact hS2
   have hst8:∀j,j<G→w8.heap[j]? =wb.heap[j]? :=fun j hj=>by
    rw[hgr8.block j (by omega) (fun e=>by have:=hlt j e.symm;omega),hO7 j (by omega),hoM j (by omega)]
    exact hst j hj
   have hb8:Below B w w8:=(hbM.trans hB7).grown hgr8 (by omega) (fun j e=>by have:=hlt j e;omega)
   refine Ac (Ab (x_inc rfl rfl (by omega)) rfl (Ab Ad rfl (Af ?_)))
   exact Av ((f.b z).succs.length - (k+1)) (by omega) ⟨_,v8,q' ++ [y],k+1,by omega,Aq rfl ⟨rfl,rfl,rfl,rfl,rfl,rfl,rfl,trivial⟩,by rw[List.map_append];exact hQ8,hS8,hRJ',hst8,by have:=hgr8.size;omega,hb8,by rw[List.length_append];show q'.length+1+_≤_;omega,by rw[List.length_append];show _+(q'.length+1)≤_;omega,rfl⟩
 rintro e wr ⟨S,v,⟨t,rfl⟩,hS,hRI,hb⟩
 refine Ae (Ac (Ab Ad rfl (Ab Ah rfl (Af (Aa (AC ?_))))))
 exact Ax rfl rfl rfl ⟨G,S,rfl,by omega,hS,hRI.fin sh,by rw[hb1,← hBd];exact hb⟩
end Go.Proofs.YteepnepebilckaaGreatDoor
