/- The law FnAllRun returns true for every input in which the opcode table reads as laid, and its arguments read as they did, the table being tied to the text of the program. -/
import Derived.Test.YteepnepebilckaaGreatDoorCS08
namespace Go.Proofs.YteepnepebilckaaGreatDoor
open Go Go.Eng Go.RowKit
section
variable {P : Program} {N : Nat} {c : Code} {Q : Exit → Env → World → Prop} {e : Env} {w : World}
theorem BW (l:List (Nat×Value)) (hd:e.d=[]) (h:Eng.Holds e l) (k:∀t,EC P N c Q (Env.sets ⟨t,[]⟩ l) w):EC P N c Q e w:=by
 obtain ⟨t,rfl⟩:=Aq hd h
 exact k t
theorem Bm (ds:List Deferred) (l:List (Nat×Value)) (hd:e.d=ds) (h:Eng.Holds e l) (k:∀t,EC P N c Q (Env.sets ⟨t,ds⟩ l) w):EC P N c Q e w:=by
 obtain ⟨t,rfl⟩:=AW hd h
 exact k t
end
section
variable {w w' : World} {base n : Nat} {el : Nat → TypeId} {R : Nat → Value} {xs : Nat → List Value}
theorem row_form {el:TypeId} {v:Value} {xs:List Value} (h:w.ownsRow base el 1 v xs.length xs) {k:Nat} (hk:k<xs.length):
 ∃g cap,v= .slice (some ⟨g,0,none⟩) xs.length cap∧base≤g∧g<w.heap.size∧xs.length≤cap∧w.cell? ⟨g,0+k,none⟩=some xs[k]:=by
 rcases h.2 with ⟨rfl,h0⟩|⟨g,cap,cur,rfl,hb,hg,h1,h2,h3,h4⟩
 ·omega
 refine ⟨g,cap,rfl,hb,(Array.getElem?_eq_some_iff.1 hg).1,h1,?_⟩
 rw[cell_of_row w g _ cur el (0,0) hg]
 have h5:(cur.toList.take (xs.length * 1))[k]? =some xs[k]:=by rw[h4];simp [hk]
 rw[List.getElem?_take] at h5
 split at h5
 ·rw[Array.getElem?_toList] at h5
  rw[Nat.zero_add];exact h5
 cases h5
theorem row_pop {el:TypeId} {g cap:Nat} {ys:List Value} {u:Value} (h:w.ownsRow base el 1 (.slice (some ⟨g,0,none⟩) (ys ++ [u]).length cap) (ys ++ [u]).length (ys ++ [u])):
 w.ownsRow base el 1 (.slice (some ⟨g,0,none⟩) ys.length cap) ys.length ys:=by
 rcases h.2 with ⟨h0,_⟩|⟨g',cap',cur,e,hb,hg,h1,h2,h3,h4⟩
 ·cases h0
 injection e with e1 e2 e3
 injection e1 with e1
 injection e1 with e1 _ _
 subst e1
 subst e3
 rw[List.length_append] at h1 h4
 refine ⟨by simp,.inr ⟨g,cap,cur,rfl,hb,hg,by have: [u].length=1:=rfl;omega,h2,h3,?_⟩⟩
 have h5:cur.toList.take (ys.length * 1)=(cur.toList.take ((ys.length+ [u].length) * 1)).take ys.length:=by
  rw[List.take_take]
  congr 1
  have: [u].length=1:=rfl
  omega
 rw[h5,h4,List.take_left]
theorem HS {el:TypeId} {g cap:Nat} {xs:List Value} (h:w.ownsRow base el 1 (.slice (some ⟨g,0,none⟩) xs.length cap) xs.length xs) {k:Nat} (_hk:k<xs.length) (u:Value):
 (w.setCell ⟨g,0+k,none⟩ u).ownsRow base el 1 (.slice (some ⟨g,0,none⟩) xs.length cap) (xs.set k u).length (xs.set k u):=by
 rcases h.2 with ⟨h0,_⟩|⟨g',cap',cur,e,hb,hg,h1,h2,h3,h4⟩
 ·cases h0
 injection e with e1 e2 e3
 injection e1 with e1
 injection e1 with e1 _ _
 subst e1
 subst e3
 have hs:=AD (o:=0+k) (u:=u) hg
 refine ⟨by simp,.inr ⟨g,cap,cur.setIfInBounds (0+k) u,by rw[List.length_set],hb,hs,by rw[List.length_set];exact h1,h2,by simpa using h3,?_⟩⟩
 rw[List.length_set,Nat.zero_add,Array.toList_setIfInBounds,List.take_set,h4]
end
structure Only (A:Nat→Prop) (w w':World):Prop where
 os:w'.os=w.os
 tape:w'.tape=w.tape
 output:w'.output=w.output
 size:w.heap.size≤w'.heap.size
 block:∀j,j<w.heap.size→¬ A j→w'.heap[j]? =w.heap[j]?
theorem Only.of_below {A:Nat→Prop} {w w':World} (h:Below w.heap.size w w'):Only A w w':=⟨h.os,h.tape,h.output,h.size,fun j hj _=>h.block j hj⟩
theorem Only.trans {A:Nat→Prop} {a b c:World} (h:Only A a b) (k:Only A b c):Only A a c:=
 ⟨k.os.trans h.os,k.tape.trans h.tape,k.output.trans h.output,Nat.le_trans h.size k.size,fun j hj hA=>(k.block j (Nat.lt_of_lt_of_le hj h.size) hA).trans (h.block j hj hA)⟩
theorem Only.set {A:Nat→Prop} {a b:World} (h:Only A a b) {s o:Nat} (u:Value) (hs:A s):Only A a (b.setCell ⟨s,o,none⟩ u):=by
 have h1:Below 0 b (b.setCell ⟨s,o,none⟩ u):=(Below.refl 0 b).setCell (Nat.zero_le _) u
 refine h.trans ⟨h1.os,h1.tape,h1.output,h1.size,fun j _ hA=>Below.heap_setCell _ _ _ _ (fun e=>hA (e ▸ hs))⟩
theorem Only.mono {A A':Nat→Prop} {a b:World} (h:Only A a b) (hA:∀j,A j→A' j):Only A' a b:=
 ⟨h.os,h.tape,h.output,h.size,fun j hj hn=>h.block j hj fun e=>hn (hA j e)⟩
theorem Only.below {A:Nat→Prop} {E:Nat} {a b:World} (h:Only A a b) (hE:E≤a.heap.size) (hA:∀j,A j→E≤j):Below E a b:=
 ⟨h.os,h.tape,h.output,h.size,fun j hj=>h.block j (by omega) fun k=>by have:=hA j k;omega⟩
theorem Only.refl (A:Nat→Prop) (a:World):Only A a a:=⟨rfl,rfl,rfl,Nat.le_refl _,fun _ _ _=>rfl⟩
theorem Only.drew {A:Nat→Prop} {a b:World} (h:Only A a b):Only A a b.drew:=⟨h.os,h.tape,h.output,h.size,h.block⟩
theorem Only.bel {A:Nat→Prop} {B:Nat} {a b c:World} (h:Only A a b) (hB:a.heap.size≤B) (k:Below B b c):Only A a c:=
 ⟨k.os.trans h.os,k.tape.trans h.tape,k.output.trans h.output,Nat.le_trans h.size k.size,fun j hj hA=>(k.block j (by omega)).trans (h.block j hj hA)⟩
theorem Only.grow {A:Nat→Prop} {a b c:World} {row:Option Nat} (h:Only A a b) (k:b.grownBy c row) (hr:∀j,row=some j→a.heap.size≤j):Only A a c:=
 ⟨k.os.trans h.os,k.tape.trans h.tape,k.output.trans h.output,Nat.le_trans h.size k.size,fun j hj hA=>(k.block j (by have:=h.size;omega) (fun e=>by have:=hr j e.symm;omega)).trans (h.block j hj hA)⟩
theorem BE {R R':Nat→Value} {n:Nat} (h:∀i,i<n→R i=R' i):cellsOf R n=cellsOf R' n:=by
 unfold cellsOf
 congr 1
 exact List.map_congr_left fun i hi=>h i (List.mem_range.1 hi)
theorem GRep.on {w w':World} {B:Nat} {L:Lay} {g:Gph} (h:GRep w B L g) (hb:Below w.heap.size w w'):GRep w' B L g:=h.keep fun k hk=>hb.block k hk
theorem i86:((Tryz.prog.info? 77).map (·.size))=some 0:=by kernel_rfl
theorem c90:Tryz.prog.cellsOf 82=6:=by kernel_rfl
theorem b900:byteOfCell Tryz.prog Tryz.prog.depth 82 0=some 0:=by kernel_rfl
theorem b902:byteOfCell Tryz.prog Tryz.prog.depth 82 2=some 32:=by kernel_rfl
theorem EH {w:World} {b o n:Nat} {cs:Array Value} (hb:w.heap[b]? =some (.cells cs 82 (0,0))) (ho:o<6) (hn:byteOfCell Tryz.prog Tryz.prog.depth 82 o=some n):
 (byteOf ⟨b,o,none⟩).run Tryz.prog w= .ok n w:=by
 have hsh:w.shape? b=some (82,cs.size):=by simp [World.shape?,hb]
 have ho2:o % 6=o:=Nat.mod_eq_of_lt ho
 have ho3:o / 6=0:=Nat.div_eq_of_lt ho
 simp [byteOf,program,Sem.run_bind,noView,viewAt,shape,Sem.run,hsh,c90,ho2,ho3,hn]
section
variable {w : World} {ρ : Operand → Value} {d : Option Tmp} {ty : TypeId} {pos : String} {af : Array Edge} {g : Option (Nat × Bool)} {x : Operand}
theorem B6 {b:Nat} {cs:Array Value} (hx:ρ x= .pointer (some ⟨b,0,none⟩)) (hb:w.heap[b]? =some (.cells cs 82 (0,0))):
 (execOp ρ ⟨d,.fieldAddr 82 x 2,ty,pos,af,g⟩).run Tryz.prog w= .ok (.value (.pointer (some ⟨b,2,none⟩))) w:=by
 obtain ⟨i,hi,hz⟩:=Option.map_eq_some_iff.1 i86
 have h0:=EH (o:=0) hb (by decide) b900
 have h2:=EH (o:=2) hb (by decide) b902
 have hp:(partAt ⟨b,0,none⟩ 2 32).run Tryz.prog w= .ok ⟨b,2,none⟩ w:=by
  unfold partAt
  simp [Sem.run_bind,h0,h2]
 simp [execOp,hx,Instr.fieldAt,run_underlying Tryz.underlying82,Instr.sureAddr,fieldPlace,Go.sizeOf,typeInfo,hi,hz,hp]
theorem B8 {a:Addr} (hx:ρ x= .pointer (some a)):(execOp ρ ⟨d,.load 77 x,ty,pos,af,g⟩).run Tryz.prog w= .ok (.value (.agg #[])) w:=by
 have key:(Instr.loadAt 77 (.pointer (some a))).run Tryz.prog w= .ok (.agg #[]) w:=by kernel_rfl
 simp [execOp,hx,key]
theorem DB {P:Program} {f:FuncId} {xs:Array Operand} {ts:Array TypeId} {l:List Value} (hρ:ρ (.func f)= .func (.func f) #[] #[]) (ha:xs.toList.map ρ=l):
 (execOp ρ ⟨none,.defer { callee:=.value (.func f),args:=xs,argTypes:=ts },ty,pos,af,g⟩).run P w= .ok (.defer ⟨.fn (.func f) #[],l.toArray⟩) w:=by
 subst ha
 simp [execOp,resolve,Deferred.ofValue,hρ]
 cases xs
 simp
theorem x_make0 {P:Program} {t el:TypeId} {y z0:Operand} {z:Value} {bytes n:Nat} (ht:P.underlying t=some (.slice el)) (hi:(P.info? el).map (fun i=>(i.zero,i.size,i.bytes))=some (some z,1,bytes)) 
 (hx:ρ z0= .int .i64 0) (hy:ρ y= .int .i64 (n:Int)) (hb:bytes * n≤281474976710656) (h63:n≤9223372036854775807):
 (execOp ρ ⟨d,.makeSlice t z0 y,ty,pos,af,g⟩).run P w= .ok (.value (.slice (some ⟨w.heap.size,0,none⟩) 0 n)) (w.alloc (.cells (madeCells z.cells n) el)):=by
 obtain ⟨i,hi1,hi2,hi3,hi4⟩:=info_parts hi
 have:=run_make w t el i z ht hi1 hi2 .i64 .i64 0 (n:Int) (by omega) (by omega) (by rw[hi4];omega) (by omega)
 simp only [Int.toNat_natCast,hi3,Nat.mul_one,Int.toNat_zero] at this
 simp [execOp,hx,hy,this]
end
section
variable {P : Program} {w : World} {ρ : Operand → Value} {d : Option Tmp} {ty : TypeId} {pos : String} {af : Array Edge} {g : Option (Nat × Bool)}
theorem x_sliceK {t el:TypeId} {x:Operand} {b o n cap k:Nat} {z:Value} {bytes:Nat} (ht:P.underlying t=some (.slice el)) (hi:(P.info? el).map (fun i=>(i.zero,i.size,i.bytes))=some (some z,1,bytes))
 (hx:ρ x= .slice (some ⟨b,o,none⟩) n cap) {c:Operand} (hc:ρ c= .int .i64 (k:Int)) (hk:k≤cap):
 (execOp ρ ⟨d,.slice t x none (some c) none,ty,pos,af,g⟩).run P w= .ok (.value (.slice (some ⟨b,o,none⟩) k cap)) w:=by
 obtain ⟨i,hi1,_,hi3,_⟩:=info_parts hi
 have:(Instr.slice t (.slice (some ⟨b,o,none⟩) n cap) none (some (.int .i64 (k:Int))) none).run P w= .ok (.slice (some ⟨b,o,none⟩) k cap) w:=by
  unfold Instr.slice Instr.sliceBounds Instr.sliceBound
  simp only [Sem.run_bind,run_underlying ht,Result.andThen_ok,Sem.run_pure,asIntOf]
  have h1:(0:Int)≤(k:Int)∧(k:Int)≤(cap:Int):=by omega
  simp only [if_pos h1,Sem.run_pure,Result.andThen_ok,sizeOf,typeInfo,Sem.run_bind]
  simp [hi1,hi3,Addr.add]
 simp [execOp,hx,hc,Instr.sliceAt,run_underlying ht,this]
theorem x_sliceLH {t el:TypeId} {x:Operand} {b o n cap l k:Nat} {z:Value} {bytes:Nat} (ht:P.underlying t=some (.slice el)) (hi:(P.info? el).map (fun i=>(i.zero,i.size,i.bytes))=some (some z,1,bytes))
 (hx:ρ x= .slice (some ⟨b,o,none⟩) n cap) {c c2:Operand} (hc:ρ c= .int .i64 (l:Int)) (hc2:ρ c2= .int .i64 (k:Int)) (hl:l≤k) (hk:k≤cap) (hlc:l<cap):
 (execOp ρ ⟨d,.slice t x (some c) (some c2) none,ty,pos,af,g⟩).run P w= .ok (.value (.slice (some ⟨b,o+l,none⟩) (k - l) (cap - l))) w:=by
 obtain ⟨i,hi1,_,hi3,_⟩:=info_parts hi
 have:(Instr.slice t (.slice (some ⟨b,o,none⟩) n cap) (some (.int .i64 (l:Int))) (some (.int .i64 (k:Int))) none).run P w= .ok (.slice (some ⟨b,o+l,none⟩) (k - l) (cap - l)) w:=by
  unfold Instr.slice Instr.sliceBounds Instr.sliceBound
  simp only [Sem.run_bind,run_underlying ht,Result.andThen_ok,Sem.run_pure,asIntOf]
  have h1:(0:Int)≤(k:Int)∧(k:Int)≤(cap:Int):=by omega
  simp only [if_pos h1,Sem.run_pure,Result.andThen_ok,sizeOf,typeInfo,Sem.run_bind]
  simp [hi1,hi3,Addr.add,show ¬ cap=l by omega,hl]
 simp [execOp,hx,hc,hc2,Instr.sliceAt,run_underlying ht,this]
end
theorem Ek {P:Program} {f:FuncId} {fn:Func} {c:Code} {l:List Value} (hf:P.funcs[f]? =some fn) (hb:fn.body=some c) (hn:(fn.name == "runtime.NumGoroutine")=false) (hl:Nat.ble l.length fn.ntmps=true)
 (h:∀w,EC P fn.ntmps c (bodyQ P fn fun _ w'=>Below w.heap.size w w') ⟨env0 l 0,[]⟩ w):Idle P ⟨.fn (.func f) #[],l.toArray⟩:=by
 refine ⟨.func f,#[],f,l.toArray,rfl,fun w=>?_,fun u w=>callsD_of_EC hf hb hl (h w)⟩
 have hn':¬ fn.name= "runtime.NumGoroutine" :=by simpa using hn
 have hb':¬ fn.body=none:=by rw[hb];simp
 simp [invoke,callFunc,hf,hb',hn']
set_option maxHeartbeats 4000000
attribute [local irreducible] EC EL DL Ret thenQ blockQ Bi bodyQ onlyN execOp Sem.run World.cell? World.frozen? World.setCell World.alloc
theorem Gr (v:Value):Idle Tryz.prog ⟨.fn (.func 138) #[],#[.agg #[],v]⟩:=by
 refine Ek (l:=[.agg #[],v]) Tryz.func138 rfl rfl rfl fun w=>(Ac (Ab (Br (v:=.agg #[]) rfl) rfl (Af ?_)))
 exact Bw rfl rfl ((Below.refl _ w).alloc (Nat.le_refl _) _)
theorem G7 (v:Value):Idle Tryz.prog ⟨.fn (.func 125) #[],#[.agg #[],v]⟩:=by
 refine Ek (l:=[.agg #[],v]) Tryz.func125 rfl rfl rfl fun w=>(Ac (Ab (Br (v:=.agg #[]) rfl) rfl (Af ?_)))
 exact Bw rfl rfl ((Below.refl _ w).alloc (Nat.le_refl _) _)
theorem FN (v:Value):Idle Tryz.prog ⟨.fn (.func 53) #[],#[.agg #[],v]⟩:=by
 refine Ek (l:=[.agg #[],v]) Tryz.func53 rfl rfl rfl fun w=>(Ac (Ab (Br (v:=.agg #[]) rfl) rfl (Af ?_)))
 exact Bw rfl rfl ((Below.refl _ w).alloc (Nat.le_refl _) _)
theorem Hi (v:Value):Idle Tryz.prog ⟨.fn (.func 49) #[],#[.agg #[],v]⟩:=by
 refine Ek (l:=[.agg #[],v]) Tryz.func49 rfl rfl rfl fun w=>(Ac (Ab (Br (v:=.agg #[]) rfl) rfl (Af ?_)))
 exact Bw rfl rfl ((Below.refl _ w).alloc (Nat.le_refl _) _)
theorem NumBlocks_ret {w:World} {B:Nat} {L:Lay} {g:Gph} (h:GRep w B L g) (hn:g.nb≤9):Ret Tryz.prog 105 #[L.fp] w fun v w'=>v= .int .i64 ((g.nb+1:Nat):Int)∧w'=w:=by
 refine ret_of_EC Tryz.func105 rfl rfl ?_
 obtain ⟨a2,cap2,ha2⟩:=h.fblocksV
 have h1:w.cell? ⟨L.fb,0+1,none⟩=some (L.sl .fblocks):=Am (h.comp .fn) rfl
 rw[ha2] at h1
 refine Ae (Ac (Ab Ah rfl (Af (Aa (Ae (Ac (Ab Ad rfl (Ab (Aw rfl) rfl (Ab (Ak rfl (Al rfl)) rfl (Ab (Ai rfl (Ag rfl) ‹_›) rfl ?_))))))))))
 refine Ab (AM rfl (An rfl)) rfl (Ab (x_inc rfl rfl (by omega)) rfl (Ab Ah rfl (Af (Aa (AC ?_)))))
 exact Ax rfl rfl rfl ⟨rfl,rfl⟩
theorem allocBool_ret {w:World} {n:Nat} (hn:n≤64):Ret Tryz.prog 137 #[.agg #[],.int .i64 (n:Int)] w fun v w'=>∃G,v= .slice (some ⟨G,0,none⟩) n n∧w.heap.size≤G∧w'.heap[G]? =some (.cells (bools (fun _=>false) n) 4 (0,0))∧Below w.heap.size w w':=by
 refine ret_of_EC Tryz.func137 rfl rfl ?_
 obtain ⟨B,hBd⟩:∃B,B=w.heap.size:=⟨_,rfl⟩
 refine Ae (Ac (Ab (Br (v:=.agg #[]) rfl) rfl (el_new (.cells #[] 77) B (by omega) fun wa hN1 hO1 hZ1 hB1 hK1=>(Ab Ah rfl (Af (Aa (Ae (Ac (Ab Ad rfl (Ab (C9 Tryz.underlying49 info4 rfl rfl rfl (by omega) (by omega)) rfl ?_))))))))))
 rw[EI]
 have hBle:B≤wa.heap.size:=by omega
 refine el_new (.cells (bools (fun _=>false) n) 4) B (by omega) fun wb hN2 hO2 hZ2 hB2 hK2=>(Ab Ah rfl (Af (Aa (AC ?_))))
 exact Ax rfl rfl rfl ⟨wa.heap.size,rfl,by omega,hN2,by rw[← hBd];exact hB1.trans hB2⟩
theorem allocID_ret {w:World} {n:Nat} (hn:n≤128):Ret Tryz.prog 52 #[.agg #[],.int .i64 (n:Int)] w fun v w'=>∃G,v= .slice (some ⟨G,0,none⟩) n n∧w.heap.size≤G∧w'.heap[G]? =some (.cells (cellsOf (fun _=>.int .i32 0) n) 88 (0,0))∧Below w.heap.size w w':=by
 refine ret_of_EC Tryz.func52 rfl rfl ?_
 obtain ⟨B,hBd⟩:∃B,B=w.heap.size:=⟨_,rfl⟩
 refine Ae (Ac (Ab (Br (v:=.agg #[]) rfl) rfl (el_new (.cells #[] 77) B (by omega) fun wa hN1 hO1 hZ1 hB1 hK1=>(Ab Ah rfl (Af (Aa (Ae (Ac (Ab Ad rfl (Ab (C9 Tryz.underlying110 GP rfl rfl rfl (by omega) (by omega)) rfl ?_))))))))))
 rw[Dg]
 have hBle:B≤wa.heap.size:=by omega
 refine el_new (.cells (cellsOf (fun _=>.int .i32 0) n) 88) B (by omega) fun wb hN2 hO2 hZ2 hB2 hK2=>(Ab Ah rfl (Af (Aa (AC ?_))))
 exact Ax rfl rfl rfl ⟨wa.heap.size,rfl,by omega,hN2,by rw[← hBd];exact hB1.trans hB2⟩
theorem allocBlock_ret {w:World} {n:Nat} (hn:n≤128):Ret Tryz.prog 124 #[.agg #[],.int .i64 (n:Int)] w fun v w'=>∃G,v= .slice (some ⟨G,0,none⟩) n n∧w.heap.size≤G∧w'.heap[G]? =some (.cells (cellsOf (fun _=>.pointer none) n) 74 (0,0))∧Below w.heap.size w w':=by
 refine ret_of_EC Tryz.func124 rfl rfl ?_
 obtain ⟨B,hBd⟩:∃B,B=w.heap.size:=⟨_,rfl⟩
 refine Ae (Ac (Ab (Br (v:=.agg #[]) rfl) rfl (el_new (.cells #[] 77) B (by omega) fun wa hN1 hO1 hZ1 hB1 hK1=>(Ab Ah rfl (Af (Aa (Ae (Ac (Ab Ad rfl (Ab (C9 Tryz.underlying75 CZ rfl rfl rfl (by omega) (by omega)) rfl ?_))))))))))
 rw[Dg]
 have hBle:B≤wa.heap.size:=by omega
 refine el_new (.cells (cellsOf (fun _=>.pointer none) n) 74) B (by omega) fun wb hN2 hO2 hZ2 hB2 hK2=>(Ab Ah rfl (Af (Aa (AC ?_))))
 exact Ax rfl rfl rfl ⟨wa.heap.size,rfl,by omega,hN2,by rw[← hBd];exact hB1.trans hB2⟩
theorem C0 {w:World} {n:Nat} (hn:n≤128):Ret Tryz.prog 46 #[.agg #[],.int .i64 (n:Int)] w fun v w'=>∃G,v= .slice (some ⟨G,0,none⟩) n n∧w.heap.size≤G∧w'.heap[G]? =some (.cells (cellsOf (fun _=>.pointer none) n) 97 (0,0))∧Below w.heap.size w w':=by
 refine ret_of_EC Tryz.func46 rfl rfl ?_
 obtain ⟨B,hBd⟩:∃B,B=w.heap.size:=⟨_,rfl⟩
 refine Ae (Ac (Ab (Br (v:=.agg #[]) rfl) rfl (el_new (.cells #[] 77) B (by omega) fun wa hN1 hO1 hZ1 hB1 hK1=>(Ab Ah rfl (Af (Aa (Ae (Ac (Ab Ad rfl (Ab (C9 Tryz.underlying78 CU rfl rfl rfl (by omega) (by omega)) rfl ?_))))))))))
 rw[Dg]
 have hBle:B≤wa.heap.size:=by omega
 refine el_new (.cells (cellsOf (fun _=>.pointer none) n) 97) B (by omega) fun wb hN2 hO2 hZ2 hB2 hK2=>(Ab Ah rfl (Af (Aa (AC ?_))))
 exact Ax rfl rfl rfl ⟨wa.heap.size,rfl,by omega,hN2,by rw[← hBd];exact hB1.trans hB2⟩
end Go.Proofs.YteepnepebilckaaGreatDoor
namespace Go.Proofs.YteepnepebilckaaGreatDoor.LT
inductive Anc (par:Nat→Nat) (rt:Nat):Nat→Nat→Prop where
 |refl (a:Nat):Anc par rt a a
 |step {a b:Nat}:b≠rt→Anc par rt a (par b)→Anc par rt a b
section
variable {par par' : Nat → Nat} {rt : Nat}
theorem Anc.trans {a b c:Nat} (h:Anc par rt a b) (k:Anc par rt b c):Anc par rt a c:=by
 induction k with
 |refl=>exact h
 |step h1 _ ih=>exact .step h1 ih
theorem Anc.one {b:Nat} (h:b≠rt):Anc par rt (par b) b:=.step h (.refl _)
theorem Anc.up {a b:Nat} (h:Anc par rt a b):a=b∨(b≠rt∧Anc par rt a (par b)):=by
 cases h with
 |refl=>exact .inl rfl
 |step h1 h2=>exact .inr ⟨h1,h2⟩
theorem Anc.cmp {a b c:Nat} (h:Anc par rt a c) (k:Anc par rt b c):Anc par rt a b∨Anc par rt b a:=by
 induction h with
 |refl=>exact .inr k
 |step h1 h2 ih=>
  rcases k.up with e|⟨_,k2⟩
  ·subst e;exact .inl (.step h1 h2)
  exact ih k2
theorem Anc.congr {V:Nat→Prop} (hc:∀v,V v→v≠rt→V (par v)) (he:∀v,V v→par' v=par v) {a b:Nat} (h:Anc par rt a b) (hb:V b):Anc par' rt a b:=by
 induction h with
 |refl=>exact .refl _
 |step h1 _ ih=>exact .step h1 (by rw[he _ hb];exact ih (hc _ hb h1))
end
structure Dfs (V:Nat→Prop) (S:Nat→List Nat) (rt:Nat) (num par:Nat→Nat):Prop where
 rtV:V rt
 pos:∀v,V v→1≤num v
 one:num rt=1
 inj:∀v u,V v→V u→num v=num u→v=u
 parV:∀v,V v→v≠rt→V (par v)
 parLt:∀v,V v→v≠rt→num (par v)<num v
 next:∀v u,V v→V u→v≠rt→num v=num u+1→Anc par rt (par v) u
 all:∀v,V v→1<num v→∃u,V u∧num v=num u+1
 edge:∀v w,V v→V w→w∈S v→num v<num w→Anc par rt v w
section
variable {V : Nat → Prop} {S : Nat → List Nat} {rt : Nat} {num par : Nat → Nat}
theorem Dfs.le (h:Dfs V S rt num par) {a b:Nat} (hb:V b) (k:Anc par rt a b):V a∧num a≤num b∧(a≠b→num a<num b):=by
 induction k with
 |refl=>exact ⟨hb,Nat.le_refl _,fun e=>absurd rfl e⟩
 |step h1 _ ih=>
  obtain ⟨i1,i2,_⟩:=ih (h.parV _ hb h1)
  have:=h.parLt _ hb h1
  exact ⟨i1,by omega,fun _=>by omega⟩
theorem Dfs.gt1 (h:Dfs V S rt num par) {v:Nat} (hv:V v) (hne:v≠rt):1<num v:=by
 have h1:=h.pos v hv
 have h2:=h.inj v rt hv h.rtV
 rw[h.one] at h2
 rcases Nat.lt_or_ge 1 (num v) with h3|h3
 ·exact h3
 exact absurd (h2 (by omega)) hne
theorem Dfs.mid (h:Dfs V S rt num par) {c:Nat}:∀n v,num v=n→V v→Anc par rt c v→∀u,V u→num c≤num u→num u≤num v→Anc par rt c u:=by
 intro n
 induction n using Nat.strongRecOn with
 |ind n ih=>
  intro v hn hv hc u hu h1 h2
  by_cases e:num u=num v
  ·rw[h.inj u v hu hv e];exact hc
  rcases hc.up with e2|⟨hne,hc2⟩
  ·subst e2;omega
  obtain ⟨x,hx,hxn⟩:=h.all v hv (h.gt1 hv hne)
  have h3:=h.next v x hv hx hne hxn
  exact ih (num x) (by omega) x rfl hx (hc2.trans h3) u hu h1 (by omega)
theorem Dfs.mid' (h:Dfs V S rt num par) {c v u:Nat} (hv:V v) (hc:Anc par rt c v) (hu:V u) (h1:num c≤num u) (h2:num u≤num v):Anc par rt c u:=h.mid _ v rfl hv hc u hu h1 h2
theorem Dfs.anc_of_le (h:Dfs V S rt num par) {a b c:Nat} (hc:V c) (h1:Anc par rt a c) (h2:Anc par rt b c) (hle:num a≤num b):Anc par rt a b:=by
 rcases h1.cmp h2 with k|k
 ·exact k
 have hb:=(h.le hc h2).1
 have ha:=(h.le hc h1).1
 have:=(h.le ha k).2.1
 rw[h.inj a b ha hb (by omega)];exact .refl _
structure Semi (V:Nat→Prop) (S:Nat→List Nat) (rt:Nat) (num par sd:Nat→Nat):Prop where
 low:∀v w,V v→V w→w≠rt→w∈S v→num v<num w→sd w≤num v
 high:∀v w u,V v→V w→w≠rt→w∈S v→num w<num v→Anc par rt u v→num w<num u→sd w≤sd u
inductive Gt (S:Nat→List Nat) (num:Nat→Nat) (m x:Nat):Nat→Prop where
 |base {y:Nat}:y∈S x→m<num y→Gt S num m x y
 |step {y z:Nat}:Gt S num m x y→z∈S y→m<num z→Gt S num m x z
theorem Gt.anc {sd:Nat→Nat} (h:Dfs V S rt num par) (hs:Semi V S rt num par sd) (hV:∀v,V v→∀w∈S v,V w) {m x y:Nat} (hx:V x) (hxm:num x≤m) (hg:Gt S num m x y):
 V y∧∃u,Anc par rt u y∧m<num u∧sd u≤num x:=by
 have hm:=h.pos x hx
 have hrt:∀z,m<num z→z≠rt:=fun z hz e=>by subst e;rw[h.one] at hz;omega
 induction hg with
 | @base y h1 h2=>exact ⟨hV x hx _ h1,y,.refl _,h2,hs.low x y hx (hV x hx _ h1) (hrt y h2) h1 (by omega)⟩
 | @step y z h0 h1 h2 ih=>
   obtain ⟨hy,u,hu1,hu2,hu3⟩:=ih
   have hz:=hV y hy _ h1
   refine ⟨hz,?_⟩
   rcases Nat.lt_or_ge (num y) (num z) with hlt|hge
   ·exact ⟨u,hu1.trans (h.edge y z hy hz h1 hlt),hu2,hu3⟩
   rcases Nat.lt_or_ge (num z) (num u) with h3|h3
   ·have huy:=(h.le hy hu1).2.1
    exact ⟨z,.refl _,h2,Nat.le_trans (hs.high y z u hy hz (hrt z h2) h1 (by omega) hu1 h3) hu3⟩
   exact ⟨u,h.mid' hy hu1 hz h3 hge,hu2,hu3⟩
structure Dm (V:Nat→Prop) (rt:Nat) (num par sd:Nat→Nat) (z w:Nat):Prop where
 anc:Anc par rt z w
 ne:z≠w
 all:∀u,Anc par rt u w→num z<num u→num z≤sd u
inductive Rh (S:Nat→List Nat) (rt z:Nat):Nat→Prop where
 |entry:z≠rt→Rh S rt z rt
 |step {b s:Nat}:Rh S rt z b→s∈S b→s≠z→Rh S rt z s
theorem Dm.dom {sd:Nat→Nat} (h:Dfs V S rt num par) (hs:Semi V S rt num par sd) (hV:∀v,V v→∀w∈S v,V w) {z w:Nat} (hw:V w) (hd:Dm V rt num par sd z w):¬ Rh S rt z w:=by
 intro hr
 have hz:=(h.le hw hd.anc).1
 have key:∀y,Rh S rt z y→V y∧(num y<num z∨∃x,V x∧num x<num z∧Gt S num (num z) x y):=by
  intro y hy
  induction hy with
  |entry hne=> 
   refine ⟨h.rtV,.inl ?_⟩
   rw[h.one];exact h.gt1 hz hne
  | @step b s _ h2 h3 ih=>
    obtain ⟨hb,ih⟩:=ih
    have hsV:=hV b hb s h2
    refine ⟨hsV,?_⟩
    rcases Nat.lt_trichotomy (num s) (num z) with k|k|k
    ·exact .inl k
    ·exact absurd (h.inj s z hsV hz k) h3
    rcases ih with i1|⟨x,hx,i1,i2⟩
    ·exact .inr ⟨b,hb,i1,.base h2 k⟩
    exact .inr ⟨x,hx,i1,.step i2 h2 k⟩
 have hlt:=(h.le hw hd.anc).2.2 hd.ne
 rcases (key w hr).2 with k|⟨x,hx,k1,k2⟩
 ·omega
 obtain ⟨_,u,u1,u2,u3⟩:=k2.anc h hs hV hx (by omega)
 have:=hd.all u u1 u2
 omega
def Ok3 (rt:Nat) (num par sd:Nat→Nat) (v d:Nat):Prop:=
 (num d=sd v∧∀u,Anc par rt u v→sd v<num u→sd v≤sd u)∨
 (Anc par rt d v∧sd v<num d∧sd d<sd v∧∀u,Anc par rt u v→sd v<num u→sd d≤sd u)
theorem Ok3.near {sd:Nat→Nat} {v d s:Nat} (h1:Anc par rt s v) (h2:num s=sd v) (hne:s≠v) (hds:d=s) (ho:Ok3 rt num par sd v d):Dm V rt num par sd d v:=by
 subst hds
 rcases ho with ⟨_,h4⟩|⟨_,h4,_⟩
 ·exact ⟨h1,hne,fun u hu hlt=>by rw[h2] at hlt ⊢;exact h4 u hu hlt⟩
 omega
theorem Ok3.far {sd:Nat→Nat} (h:Dfs V S rt num par) {v d s z:Nat} (hv:V v) (h1:Anc par rt s v) (h2:num s=sd v) (hds:d≠s) (hd:V d) (ho:Ok3 rt num par sd v d) (hz:Dm V rt num par sd z d):
 Anc par rt d v∧Dm V rt num par sd z v:=by
 have hsV:=(h.le hv h1).1
 rcases ho with ⟨h3,_⟩|⟨h3,h4,h5,h6⟩
 ·exact absurd (h.inj d s hd hsV (by omega)) hds
 refine ⟨h3,hz.anc.trans h3,?_,fun u hu hlt=>?_⟩
 ·intro e
  subst e
  have k1:=(h.le hd hz.anc).2.2 hz.ne
  have k2:=(h.le hv h3).2.1
  omega
 have hzd:=hz.all d (.refl _) ((h.le hd hz.anc).2.2 hz.ne)
 rcases Nat.lt_or_ge (sd v) (num u) with k|k
 ·have:=h6 u hu k;omega
 exact hz.all u (h.anc_of_le hv hu h3 (by omega)) hlt
end
end Go.Proofs.YteepnepebilckaaGreatDoor.LT
namespace Go.Proofs.YteepnepebilckaaGreatDoor.LT
def upd (f:Nat→Nat) (i v:Nat):Nat→Nat:=fun j=>if j=i then v else f j
theorem upd_same (f:Nat→Nat) (i v:Nat):upd f i v i=v:=if_pos rfl
theorem upd_ne (f:Nat→Nat) {i j:Nat} (v:Nat) (h:j≠i):upd f i v j=f j:=if_neg h
structure DI (V:Nat→Prop) (S:Nat→List Nat) (R:Nat→Nat→Prop) (cnt:Nat) (num vert par:Nat→Nat) (stk:List (Nat×Nat)):Prop where
 le:∀v,num v≤cnt
 vis:∀k,1≤k→k≤cnt→V (vert k)∧num (vert k)=k
 inv:∀v,1≤num v→vert (num v)=v
 rt:num 1=1
 parV:∀v,1≤num v→v≠1→1≤num (par v)∧num (par v)<num v
 next:∀v u,1≤num v→1≤num u→v≠1→num v=num u+1→Anc par 1 (par v) u
 edge:∀v w,1≤num v→1≤num w→w∈S v→num v<num w→Anc par 1 v w
 pend:∀v w,1≤num v→num w=0→R v w→(w,v)∈stk
 top:∀w q A B,stk=A ++ (w,q) :: B→num w=0→(∀x∈B,x.1≠w)→par w=q
 chain:stk.Pairwise fun x y=>Anc par 1 x.2 y.2
 push:∀x∈stk,V x.1∧1≤num x.2∧Anc par 1 x.2 (vert cnt)
 way:∀x∈stk,x.1∈S x.2
 parE:∀v,1≤num v→v≠1→v∈S (par v)
section
variable {V : Nat → Prop} {S : Nat → List Nat} {R R' : Nat → Nat → Prop} {cnt : Nat} {num vert par : Nat → Nat} {stk : List (Nat × Nat)}
theorem DI.start {nb:Nat} (hV:V 1) (_hn:1≤nb) (h0:∀v,num v=0) (hR:∀w,¬ R 1 w):DI V S R 1 (upd num 1 1) (upd vert 1 1) par []:=by
 have hv:∀v,1≤upd num 1 1 v→v=1:=fun v h=>by
  refine Classical.byContradiction fun e=>?_
  rw[upd_ne _ _ e,h0] at h;omega
 refine ⟨fun v=>?_,fun k h1 h2=>?_,fun v h=>?_,upd_same ..,fun v h hne=>absurd (hv v h) hne,fun v _ h _ hne=>absurd (hv v h) hne,fun v w h1 h2 _ h3=>?_,fun v w h1 _ h3=>?_,fun w q A B h=>?_,.nil,fun x hx=>(by cases hx),fun x hx=>(by cases hx),fun v h hne=>absurd (hv v h) hne⟩
 ·by_cases e:v=1
  ·subst e;rw[upd_same];exact Nat.le_refl _
  rw[upd_ne _ _ e,h0];omega
 ·have:k=1:=by omega
  subst this
  rw[upd_same,upd_same];exact ⟨hV,rfl⟩
 ·have:=hv v h;subst this;rw[upd_same,upd_same]
 ·have:=hv v h1;have:=hv w h2;subst_vars;omega
 ·have:=hv v h1;subst this;exact absurd h3 (hR w)
 cases A <;> simp at h
theorem DI.mono (h:DI V S R cnt num vert par stk) (hR:∀v w,1≤num v→num w=0→R' v w→R v w):DI V S R' cnt num vert par stk:=
 ⟨h.le,h.vis,h.inv,h.rt,h.parV,h.next,h.edge,fun v w h1 h2 h3=>h.pend v w h1 h2 (hR v w h1 h2 h3),h.top,h.chain,h.push,h.way,h.parE⟩
theorem DI.pop {w q:Nat} {A:List (Nat×Nat)} (h:DI V S R cnt num vert par (A ++ [(w,q)])) (hw:1≤num w):DI V S R cnt num vert par A:=by
 refine ⟨h.le,h.vis,h.inv,h.rt,h.parV,h.next,h.edge,fun v u h1 h2 h3=>?_,fun u p A' B' e h1 h2=>?_,(List.pairwise_append.1 h.chain).1,fun x hx=>h.push x (List.mem_append.2 (.inl hx)),fun x hx=>h.way x (List.mem_append.2 (.inl hx)),h.parE⟩
 ·rcases List.mem_append.1 (h.pend v u h1 h2 h3) with k|k
  ·exact k
  have:(u,v)=(w,q):=by simpa using k
  injection this with e1 e2
  subst e1;omega
 refine h.top u p A' (B' ++ [(w,q)]) (by rw[e];simp) h1 fun x hx=>?_
 rcases List.mem_append.1 hx with k|k
 ·exact h2 x k
 have:x=(w,q):=by simpa using k
 subst this
 intro e;have e:w=u:=e;subst e;omega
theorem DI.visit {w q:Nat} {A:List (Nat×Nat)} (h:DI V S (fun v u=>u∈S v) cnt num vert par (A ++ [(w,q)])) (hw:num w=0) (hc:1≤cnt):
 DI V S (fun v u=>v≠w∧u∈S v) (cnt+1) (upd num w (cnt+1)) (upd vert (cnt+1) w) par A∧par w=q∧V w:=by
 have hq:par w=q:=h.top w q A [] rfl hw fun x hx=>by cases hx
 obtain ⟨hVw,hq1,hq2⟩:=h.push (w,q) (List.mem_append.2 (.inr (.head _)))
 have hw1:w≠1:=fun e=>by subst e;rw[h.rt] at hw;omega
 have hn:∀v,v≠w→upd num w (cnt+1) v=num v:=fun v e=>upd_ne _ _ e
 have hnw:upd num w (cnt+1) w=cnt+1:=upd_same ..
 have hvt:∀k,k≤cnt→upd vert (cnt+1) w k=vert k:=fun k hk=>upd_ne _ _ (by omega)
 have hpr:∀x∈A,Anc par 1 x.2 w:=fun x hx=>.step hw1 (by rw[hq];exact (List.pairwise_append.1 h.chain).2.2 x hx (w,q) (.head _))
 have hpos:∀v,1≤num v→v≠w:=fun v hv e=>by subst e;omega
 refine ⟨⟨fun v=>?_,fun k h1 h2=>?_,fun v hv=>?_,?_,fun v hv hne=>?_,fun v u hv hu hne he=>?_,fun v u hv hu hs hlt=>?_,fun v u hv hu hR=>?_,fun u p A' B' e h1 h2=>?_,(List.pairwise_append.1 h.chain).1,fun x hx=>?_,fun x hx=>h.way x (List.mem_append.2 (.inl hx)),fun v hv hne=>?_⟩,hq,hVw⟩
 ·by_cases e:v=w
  ·subst e;rw[hnw];exact Nat.le_refl _
  rw[hn v e];have:=h.le v;omega
 ·by_cases e:k=cnt+1
  ·subst e;rw[upd_same,hnw];exact ⟨hVw,rfl⟩
  rw[hvt k (by omega)]
  obtain ⟨h3,h4⟩:=h.vis k h1 (by omega)
  refine ⟨h3,?_⟩
  rw[hn _ (hpos _ (by omega))];exact h4
 ·by_cases e:v=w
  ·subst e;rw[hnw,upd_same]
  rw[hn v e] at hv ⊢
  rw[hvt _ (h.le v)];exact h.inv v hv
 ·rw[hn 1 fun e=>hw1 e.symm];exact h.rt
 ·by_cases e:v=w
  ·subst e
   rw[hnw,hq,hn q (hpos q hq1)]
   have:=h.le q
   exact ⟨hq1,by omega⟩
  rw[hn v e] at hv ⊢
  obtain ⟨h1,h2⟩:=h.parV v hv hne
  rw[hn _ (hpos _ h1)];exact ⟨h1,h2⟩
 ·by_cases e:v=w
  ·subst e
   rw[hnw] at he
   have hu2:u≠v:=fun e=>by subst e;rw[hnw] at he;omega
   rw[hn u hu2] at he hu
   have:vert cnt=u:=by
    have:=h.inv u hu
    rw[← this];congr 1;omega
   rw[hq,← this];exact hq2
  rw[hn v e] at hv he
  by_cases e2:u=w
  ·subst e2
   rw[hnw] at he
   have:=h.le v;omega
  rw[hn u e2] at hu he
  exact h.next v u hv hu hne he
 ·by_cases e:v=w
  ·subst e
   rw[hnw] at hlt
   by_cases e2:u=v
   ·subst e2;rw[hnw] at hlt;omega
   rw[hn u e2] at hlt;have:=h.le u;omega
  rw[hn v e] at hv hlt
  by_cases e2:u=w
  ·subst e2
   have h1:=h.pend v u hv hw hs
   rcases List.mem_append.1 h1 with k|k
   ·exact hpr _ k
   have:(u,v)=(u,q):=by simpa using k
   injection this with _ e3
   rw[e3,← hq];exact .one hw1
  rw[hn u e2] at hu hlt
  exact h.edge v u hv hu hs hlt
 ·obtain ⟨h1,h2⟩:=hR
  rw[hn v h1] at hv
  have e2:u≠w:=fun e=>by subst e;rw[hnw] at hu;omega
  rw[hn u e2] at hu
  rcases List.mem_append.1 (h.pend v u hv hu h2) with k|k
  ·exact k
  have:(u,v)=(w,q):=by simpa using k
  injection this with e3 _
  exact absurd e3 e2
 ·have e2:u≠w:=fun e=>by subst e;rw[hnw] at h1;omega
  rw[hn u e2] at h1
  refine h.top u p A' (B' ++ [(w,q)]) (by rw[e];simp) h1 fun x hx=>?_
  rcases List.mem_append.1 hx with k|k
  ·exact h2 x k
  have:x=(w,q):=by simpa using k
  subst this
  exact fun e=>e2 e.symm
 ·obtain ⟨h1,h2,_⟩:=h.push x (List.mem_append.2 (.inl hx))
  refine ⟨h1,?_,?_⟩
  ·rw[hn _ (hpos _ h2)];exact h2
  rw[upd_same];exact hpr x hx
 by_cases e:v=w
 ·subst e;rw[hq];exact h.way (v,q) (List.mem_append.2 (.inr (.head _)))
 rw[hn v e] at hv;exact h.parE v hv hne
theorem DI.pushed {x w:Nat} (h:DI V S R cnt num vert par stk) (hx:vert cnt=x) (hc:1≤cnt) (hw:num w=0) (hVw:V w) (hSw:w∈S x) (hR:∀v u,1≤num v→num u=0→R' v u→R v u∨(v=x∧u=w)):
 DI V S R' cnt num vert (upd par w x) (stk ++ [(w,x)]):=by
 have hnx:1≤num x:=by rw[← hx,(h.vis cnt hc (Nat.le_refl _)).2];exact hc
 have hcl:∀v,1≤num v→v≠1→1≤num (par v):=fun v h1 h2=>(h.parV v h1 h2).1
 have he:∀v,1≤num v→upd par w x v=par v:=fun v hv=>upd_ne _ _ fun e=>by subst e;omega
 have hA:∀{a b:Nat},1≤num b→Anc par 1 a b→Anc (upd par w x) 1 a b:=fun hb k=>k.congr (V:=fun v=>1≤num v) hcl he hb
 refine ⟨h.le,h.vis,h.inv,h.rt,fun v hv hne=>by rw[he v hv];exact h.parV v hv hne,fun v u hv hu hne e=>by rw[he v hv];exact hA hu (h.next v u hv hu hne e),fun v u hv hu hs hlt=>hA hu (h.edge v u hv hu hs hlt),fun v u h1 h2 h3=>?_,fun u q A B e h1 h2=>?_,?_,fun y hy=>?_,fun y hy=>?_,fun v hv hne=>by rw[he v hv];exact h.parE v hv hne⟩
 ·rcases hR v u h1 h2 h3 with k|⟨rfl,rfl⟩
  ·exact List.mem_append.2 (.inl (h.pend v u h1 h2 k))
  exact List.mem_append.2 (.inr (.head _))
 ·rcases List.eq_nil_or_concat B with rfl|⟨B',y,rfl⟩
  ·have e':=List.append_inj_right' e rfl
   have:(w,x)=(u,q):=by simpa using e'
   injection this with e1 e2
   subst e1;subst e2
   exact upd_same ..
  have e3:stk ++ [(w,x)]=(A ++ (u,q) :: B') ++ [y]:=by rw[e];simp
  have e4:=List.append_inj_left' e3 rfl
  have e5:(w,x)=y:=by simpa using List.append_inj_right' e3 rfl
  have hne:w≠u:=fun e=>h2 y (by simp) (by rw[← e5];exact e)
  rw[upd_ne _ _ fun e=>hne e.symm]
  exact h.top u q A B' e4 h1 fun z hz=>h2 z (by simp [hz])
 ·refine List.pairwise_append.2 ⟨?_,List.pairwise_singleton _ _,fun y hy z hz=>?_⟩
  ·refine h.chain.imp_of_mem fun hy hz hyz=>?_
   exact hA (h.push _ hz).2.1 hyz
  have:z=(w,x):=by simpa using hz
  subst this
  have k:=hA (by rw[hx];exact hnx) (h.push y hy).2.2
  rw[hx] at k
  exact k
 ·rcases List.mem_append.1 hy with k|k
  ·obtain ⟨h1,h2,h3⟩:=h.push y k
   exact ⟨h1,h2,hA (by rw[hx];exact hnx) h3⟩
  have:y=(w,x):=by simpa using k
  subst this
  exact ⟨hVw,hnx,by rw[hx];exact .refl _⟩
 rcases List.mem_append.1 hy with k|k
 ·exact h.way y k
 have:y=(w,x):=by simpa using k
 subst this;exact hSw
theorem DI.dfs (h:DI V S (fun v u=>u∈S v) cnt num vert par []) (hV:V 1) (hr:∀P:Nat→Prop,P 1→(∀v,P v→V v→∀w∈S v,P w)→∀v,V v→P v):
 Dfs V S 1 num par∧∀v,V v→1≤num v:=by
 have hall:∀v,V v→1≤num v:=by
  refine hr (fun v=>1≤num v) (by rw[h.rt];exact Nat.le_refl _) fun v h1 h2 w hw=>?_
  refine Classical.byContradiction fun e=>?_
  have:=h.pend v w h1 (by omega) hw
  cases this
 have hVn:∀v,1≤num v→V v:=fun v hv=>by rw[← h.inv v hv];exact (h.vis _ hv (h.le v)).1
 refine ⟨⟨hV,hall,h.rt,fun v u hv hu e=>?_,fun v hv hne=>hVn _ (h.parV v (hall v hv) hne).1,fun v hv hne=>(h.parV v (hall v hv) hne).2,fun v u hv hu=>h.next v u (hall v hv) (hall u hu),fun v hv hlt=>?_,fun v w hv hw=>h.edge v w (hall v hv) (hall w hw)⟩,hall⟩
 ·rw[← h.inv v (hall v hv),← h.inv u (hall u hu),e]
 obtain ⟨h1,h2⟩:=h.vis (num v - 1) (by omega) (by have:=h.le v;omega)
 exact ⟨_,h1,by omega⟩
end
end Go.Proofs.YteepnepebilckaaGreatDoor.LT
namespace Go.Proofs.YteepnepebilckaaGreatDoor.LT
section
variable {V : Nat → Prop} {S : Nat → List Nat} {num par : Nat → Nat}
structure AL (V:Nat→Prop) (num par:Nat→Nat) (i:Nat) (sd a lab:Nat→Nat):Prop where
 unl:∀v,V v→num v≤i→a v=0
 lnk:∀v,V v→i<num v→V (a v)∧Anc par 1 (a v) v∧num (a v)<num v∧Anc par 1 (lab v) v∧num (a v)<num (lab v)∧∀u,Anc par 1 u v→num (a v)<num u→i<num u∧sd (lab v)≤sd u
 self:∀v,V v→num v≤i→lab v=v
theorem AL.congr {i:Nat} {sd sd' a lab:Nat→Nat} (h:AL V num par i sd a lab) (hd:Dfs V S 1 num par) (he:∀v,V v→i<num v→sd' v=sd v):AL V num par i sd' a lab:=by
 refine ⟨h.unl,fun v hv hi=>?_,h.self⟩
 obtain ⟨h1,h2,h3,h4,h5,h6⟩:=h.lnk v hv hi
 refine ⟨h1,h2,h3,h4,h5,fun u hu hlt=>?_⟩
 obtain ⟨k1,k2⟩:=h6 u hu hlt
 have hl:=(h6 _ h4 h5).1
 rw[he _ (hd.le hv h4).1 hl,he _ (hd.le hv hu).1 k1]
 exact ⟨k1,k2⟩
theorem AL.squeeze {i:Nat} {sd a lab:Nat→Nat} (h:AL V num par i sd a lab) (hd:Dfs V S 1 num par) {v:Nat} (hv:V v) (hi:i<num v) (hx:i<num (a v)):
 AL V num par i sd (upd a v (a (a v))) (upd lab v (if sd (lab (a v))<sd (lab v) then lab (a v) else lab v)):=by
 obtain ⟨h1,h2,h3,h4,h5,h6⟩:=h.lnk v hv hi
 obtain ⟨g1,g2,g3,g4,g5,g6⟩:=h.lnk _ h1 hx
 refine ⟨fun u hu hl=>?_,fun u hu hl=>?_,fun u hu hl=>?_⟩
 ·rw[upd_ne _ _ fun e=>by subst e;omega];exact h.unl u hu hl
 ·by_cases e:u=v
  ·subst e
   rw[upd_same,upd_same]
   refine ⟨g1,g2.trans h2,by omega,?_,?_,fun z hz hlt=>?_⟩
   ·split
    ·exact g4.trans h2
    exact h4
   ·split
    ·exact g5
    omega
   have key:i<num z∧(sd (lab (a u))≤sd z∨sd (lab u)≤sd z):=by
    rcases Nat.lt_or_ge (num (a u)) (num z) with k|k
    ·obtain ⟨k1,k2⟩:=h6 z hz k
     exact ⟨k1,.inr k2⟩
    obtain ⟨k1,k2⟩:=g6 z (hd.anc_of_le hv hz h2 k) hlt
    exact ⟨k1,.inl k2⟩
   refine ⟨key.1,?_⟩
   rcases key.2 with k|k <;> split <;> omega
  rw[upd_ne _ _ e,upd_ne _ _ e];exact h.lnk u hu hl
 rw[upd_ne _ _ fun e=>by subst e;omega];exact h.self u hu hl
theorem AL.label {i:Nat} {sd a lab:Nat→Nat} (h:AL V num par i sd a lab) {v:Nat} (hv:V v) (hi:i<num v) (hr:num (a v)≤i):
 Anc par 1 (lab v) v∧i<num (lab v)∧∀u,Anc par 1 u v→i<num u→sd (lab v)≤sd u:=by
 obtain ⟨h1,h2,h3,h4,h5,h6⟩:=h.lnk v hv hi
 exact ⟨h4,(h6 _ h4 h5).1,fun u hu hl=>(h6 u hu (by omega)).2⟩
def Chn (nx:Nat→Nat):Nat→List Nat→Prop
 |h,[]=>h=0
 |h,v :: L=>h=v∧h≠0∧Chn nx (nx v) L
theorem Chn.congr {nx nx':Nat→Nat}:∀{L:List Nat} {h:Nat},Chn nx h L→(∀v∈L,nx' v=nx v)→Chn nx' h L
 | [],_,h,_=>h
 |v :: L,_,h,he=>⟨h.1,h.2.1,by rw[he v (.head _)];exact h.2.2.congr fun u hu=>he u (.tail _ hu)⟩
structure LI (V:Nat→Prop) (S:Nat→List Nat) (num par:Nat→Nat) (i:Nat) (sd a lab bh bl idom:Nat→Nat):Prop where
 al:AL V num par i sd a lab
 sda:∀v,V v→i<num v→∃s,V s∧num s=sd v∧Anc par 1 s v∧s≠v
 clo:∀v w,V v→V w→i<num w→w∈S v→(num v<num w→sd w≤num v)∧(num w<num v→∀u,Anc par 1 u v→num w<num u→sd w≤sd u)
 bkt:∀p,V p→∃L,Chn bl (bh p) L∧∀v,v∈L↔(V v∧i<num v∧sd v=num p)
 idm:∀v,V v→i<num v→(∀u,Anc par 1 u v→sd v<num u→i<num u)→V (idom v)∧Ok3 1 num par sd v (idom v)
theorem Ok3.congr {sd sd':Nat→Nat} (hd:Dfs V S 1 num par) {i v d:Nat} (hv:V v) (hi:i<num v) (hc:∀u,Anc par 1 u v→sd v<num u→i<num u) (he:∀v,V v→i<num v→sd' v=sd v) (h:Ok3 1 num par sd v d):Ok3 1 num par sd' v d:=by
 unfold Ok3 at *
 rw[he v hv hi]
 rcases h with ⟨h1,h2⟩|⟨h1,h2,h3,h4⟩
 ·refine .inl ⟨h1,fun u hu hl=>?_⟩
  rw[he u (hd.le hv hu).1 (hc u hu hl)];exact h2 u hu hl
 have hd':=he d (hd.le hv h1).1 (hc d h1 h2)
 rw[hd']
 refine .inr ⟨h1,h2,h3,fun u hu hl=>?_⟩
 rw[he u (hd.le hv hu).1 (hc u hu hl)];exact h4 u hu hl
theorem LI.congr {i:Nat} {sd sd' a lab bh bl idom:Nat→Nat} (hd:Dfs V S 1 num par) (h:LI V S num par i sd a lab bh bl idom) (he:∀v,V v→i<num v→sd' v=sd v):LI V S num par i sd' a lab bh bl idom:=by
 refine ⟨h.al.congr hd he,fun v hv hi=>by rw[he v hv hi];exact h.sda v hv hi,fun v w hv hw hi hs=>?_,fun p hp=>?_,fun v hv hi hc=>?_⟩
 ·obtain ⟨h1,h2⟩:=h.clo v w hv hw hi hs
  rw[he w hw hi]
  exact ⟨h1,fun hl u hu hlt=>by rw[he u (hd.le hv hu).1 (by omega)];exact h2 hl u hu hlt⟩
 ·obtain ⟨L,h1,h2⟩:=h.bkt p hp
  refine ⟨L,h1,fun v=>?_⟩
  rw[h2]
  exact ⟨fun ⟨k1,k2,k3⟩=>⟨k1,k2,by rw[he v k1 k2];exact k3⟩,fun ⟨k1,k2,k3⟩=>⟨k1,k2,by rw[he v k1 k2] at k3;exact k3⟩⟩
 rw[he v hv hi] at hc
 obtain ⟨h1,h2⟩:=h.idm v hv hi hc
 exact ⟨h1,h2.congr hd hv hi hc he⟩
theorem LI.forest {i:Nat} {sd a a' lab lab' bh bl idom:Nat→Nat} (h:LI V S num par i sd a lab bh bl idom) (hl:AL V num par i sd a' lab'):LI V S num par i sd a' lab' bh bl idom:=⟨hl,h.sda,h.clo,h.bkt,h.idm⟩
structure LW (V:Nat→Prop) (S:Nat→List Nat) (num par:Nat→Nat) (i w:Nat) (D:Nat→Prop) (sd a lab bh bl idom:Nat→Nat):Prop extends LI V S num par i sd a lab bh bl idom where
 sdu:∀v,V v→num v≤i→v≠w→sd v=num v
 sdw:∃s,V s∧num s=sd w∧Anc par 1 s w
 don:∀v,D v→(num v<num w→sd w≤num v)∧(num w<num v→∀u,Anc par 1 u v→num w<num u→sd w≤sd u)
theorem LW.start {i w:Nat} {D:Nat→Prop} {sd a lab bh bl idom:Nat→Nat} (h:LI V S num par i sd a lab bh bl idom) (hw:V w) (hwi:num w=i) (hs:∀v,V v→num v≤i→sd v=num v) (hD:∀v,¬ D v):LW V S num par i w D sd a lab bh bl idom:=
 ⟨h,fun v hv hi _=>hs v hv hi,⟨w,hw,(hs w hw (by omega)).symm,.refl _⟩,fun v h=>absurd h (hD v)⟩
theorem LW.forest {i w:Nat} {D:Nat→Prop} {sd a a' lab lab' bh bl idom:Nat→Nat} (h:LW V S num par i w D sd a lab bh bl idom) (hl:AL V num par i sd a' lab'):LW V S num par i w D sd a' lab' bh bl idom:=⟨h.toLI.forest hl,h.sdu,h.sdw,h.don⟩
theorem LW.sdle {i w:Nat} {D:Nat→Prop} {sd a lab bh bl idom:Nat→Nat} (hd:Dfs V S 1 num par) (hw:V w) (hwi:num w=i) (h:LW V S num par i w D sd a lab bh bl idom) {v:Nat} (hv:V v):1≤sd v∧sd v≤num v:=by
 rcases Nat.lt_or_ge i (num v) with k|k
 ·obtain ⟨s,h1,h2,h3,_⟩:=h.sda v hv k
  have:=(hd.le hv h3).2.1
  have:=hd.pos s h1
  omega
 by_cases e:v=w
 ·subst e
  obtain ⟨s,h1,h2,h3⟩:=h.sdw
  have:=(hd.le hv h3).2.1
  have:=hd.pos s h1
  omega
 have:=h.sdu v hv k e
 have:=hd.pos v hv
 omega
theorem LW.way {i w:Nat} {D D':Nat→Prop} {sd a lab bh bl idom:Nat→Nat} (hd:Dfs V S 1 num par) (hw:V w) (hwi:num w=i) (h:LW V S num par i w D sd a lab bh bl idom) {v u:Nat} (hv:V v) (hs:w∈S v)
 (hu:(num v≤i∧u=v)∨(i<num v∧Anc par 1 u v∧i<num u∧∀z,Anc par 1 z v→i<num z→sd u≤sd z)) (hD:∀z,D' z→D z∨z=v):
 LW V S num par i w D' (upd sd w (if sd u<sd w then sd u else sd w)) a lab bh bl idom:=by
 have he:∀z x,V z→i<num z→upd sd w x z=sd z:=fun z x _ hz=>upd_ne _ _ fun e=>by subst e;omega
 have hle:(if sd u<sd w then sd u else sd w)≤sd w:=by split <;> omega
 refine ⟨h.toLI.congr hd fun z hz hi=>he z _ hz hi,fun z hz hi hne=>by rw[upd_ne _ _ hne];exact h.sdu z hz hi hne,?_,fun z hz=>?_⟩
 ·rw[upd_same]
  split
  ·rename_i hlt
   have hsw:=(h.sdle hd hw hwi hw).2
   rcases hu with ⟨h1,rfl⟩|⟨h1,h2,h3,_⟩
   ·by_cases e:u=w
    ·subst e;omega
    have hsu:=h.sdu u hv h1 e
    have hlt2:num u<num w:=by
     rcases Nat.lt_or_ge (num u) (num w) with k|k
     ·exact k
     exact absurd (hd.inj u w hv hw (by omega)) e
    exact ⟨u,hv,hsu.symm,hd.edge u w hv hw hs hlt2⟩
   have hun:=(hd.le hv h2).1
   obtain ⟨s,k1,k2,k3,_⟩:=h.sda u hun h3
   exact ⟨s,k1,k2,hd.mid' hv (k3.trans h2) hw (by omega) (by omega)⟩
  exact h.sdw
 rw[upd_same]
 rcases hD z hz with k|rfl
 ·obtain ⟨h1,h2⟩:=h.don z k
  refine ⟨fun hl=>Nat.le_trans hle (h1 hl),fun hl x hx hlt=>?_⟩
  rw[upd_ne _ _ fun e=>by subst e;omega]
  exact Nat.le_trans hle (h2 hl x hx hlt)
 refine ⟨fun hl=>?_,fun hl x hx hlt=>?_⟩
 ·rcases hu with ⟨h1,rfl⟩|⟨h1,_⟩
  ·have hne:u≠w:=fun e=>by subst e;omega
   have:=h.sdu u hv h1 hne
   split <;> omega
  omega
 rw[upd_ne _ _ fun e=>by subst e;omega]
 rcases hu with ⟨h1,rfl⟩|⟨h1,h2,h3,h4⟩
 ·omega
 have:=h4 x hx (by omega)
 split <;> omega
structure LB (V:Nat→Prop) (S:Nat→List Nat) (num par:Nat→Nat) (i w:Nat) (D:Nat→Prop) (sd a lab bh bl idom:Nat→Nat):Prop where
 al:AL V num par (i - 1) sd a lab
 sda:∀v,V v→i≤num v→∃s,V s∧num s=sd v∧Anc par 1 s v∧s≠v
 sdu:∀v,V v→num v<i→sd v=num v
 clo:∀v w,V v→V w→i≤num w→w∈S v→(num v<num w→sd w≤num v)∧(num w<num v→∀u,Anc par 1 u v→num w<num u→sd w≤sd u)
 bkt:∀p,V p→∃L,Chn bl (bh p) L∧∀v,v∈L↔(V v∧i≤num v∧sd v=num p)
 idm:∀v,V v→i≤num v→((i<num v∧∀u,Anc par 1 u v→sd v<num u→i<num u)∨D v)→V (idom v)∧Ok3 1 num par sd v (idom v)
theorem LW.link {i w s:Nat} {D D':Nat→Prop} {sd a lab bh bl idom:Nat→Nat} (hd:Dfs V S 1 num par) (h0:¬ V 0) (hw:V w) (hwi:num w=i) (hi:2≤i) (h:LW V S num par i w D sd a lab bh bl idom) (hall:∀v,V v→w∈S v→D v)
 (hp:w∈S (par w)) (hsV:V s) (hs:num s=sd w) (hD':∀v,¬ D' v):
 LB V S num par i w D' sd (upd a w (par w)) lab (upd bh s w) (upd bl w (bh s)) idom:=by
 have hw1:w≠1:=fun e=>by subst e;rw[hd.one] at hwi;omega
 have hpV:=hd.parV w hw hw1
 have hpl:=hd.parLt w hw hw1
 have hsp:sd w≤num (par w):=(h.don _ (hall _ hpV hp)).1 hpl
 have hww:∀u,Anc par 1 u w→num (par w)<num u→u=w:=fun u hu hlt=>by
  rcases hu.up with e|⟨_,k⟩
  ·exact e
  have:=(hd.le hpV k).2.1;omega
 have hnum:∀v,V v→i≤num v→v=w∨i<num v:=fun v hv hi=>by
  by_cases e:num v=i
  ·exact .inl (hd.inj v w hv hw (by omega))
  exact .inr (by omega)
 refine ⟨⟨fun v hv hl=>?_,fun v hv hl=>?_,fun v hv hl=>h.al.self v hv (by omega)⟩,fun v hv hl=>?_,fun v hv hl=>h.sdu v hv (by omega) fun e=>by subst e;omega,fun v x hv hx hl hsx=>?_,fun p hpp=>?_,fun v hv hl hc=>?_⟩
 ·rw[upd_ne _ _ fun e=>by subst e;omega];exact h.al.unl v hv (by omega)
 ·rcases hnum v hv (by omega) with rfl|k
  ·have hls:=h.al.self v hv (by omega)
   rw[upd_same,hls]
   exact ⟨hpV,.one hw1,hpl,.refl _,hpl,fun u hu hlt=>by rw[hww u hu hlt];exact ⟨by omega,Nat.le_refl _⟩⟩
  rw[upd_ne _ _ fun e=>by subst e;omega]
  obtain ⟨h1,h2,h3,h4,h5,h6⟩:=h.al.lnk v hv k
  exact ⟨h1,h2,h3,h4,h5,fun u hu hlt=>⟨by have:=(h6 u hu hlt).1;omega,(h6 u hu hlt).2⟩⟩
 ·rcases hnum v hv hl with rfl|k
  ·obtain ⟨s,h1,h2,h3⟩:=h.sdw
   exact ⟨s,h1,h2,h3,fun e=>by subst e;omega⟩
  exact h.sda v hv k
 ·rcases hnum x hx hl with rfl|k
  ·exact h.don v (hall v hv hsx)
  exact h.clo v x hv hx k hsx
 ·obtain ⟨L,h1,h2⟩:=h.bkt p hpp
  have hwL:w∉L:=fun k=>by have:=((h2 w).1 k).2.1;omega
  have h1':Chn (upd bl w (bh s)) (bh p) L:=h1.congr fun v hv=>upd_ne _ _ fun e=>hwL (e ▸ hv)
  by_cases e:p=s
  ·subst e
   refine ⟨w :: L,⟨upd_same ..,?_,by rw[upd_same];exact h1'⟩,fun v=>?_⟩
   ·rw[upd_same];exact fun e=>h0 (e ▸ hw)
   rw[List.mem_cons,h2]
   constructor
   ·rintro (rfl|⟨k1,k2,k3⟩)
    ·exact ⟨hw,by omega,hs.symm⟩
    exact ⟨k1,by omega,k3⟩
   rintro ⟨k1,k2,k3⟩
   rcases hnum v k1 k2 with k|k
   ·exact .inl k
   exact .inr ⟨k1,k,k3⟩
  refine ⟨L,by rw[upd_ne _ _ e];exact h1',fun v=>?_⟩
  rw[h2]
  constructor
  ·rintro ⟨k1,k2,k3⟩
   exact ⟨k1,by omega,k3⟩
  rintro ⟨k1,k2,k3⟩
  rcases hnum v k1 k2 with rfl|k
  ·exact absurd (hd.inj p s hpp hsV (by omega)) e
  exact ⟨k1,k,k3⟩
 rcases hc with ⟨h1,h2⟩|k
 ·exact h.idm v hv h1 h2
 exact absurd k (hD' v)
theorem LB.forest {i w:Nat} {D:Nat→Prop} {sd a a' lab lab' bh bl idom:Nat→Nat} (h:LB V S num par i w D sd a lab bh bl idom) (hl:AL V num par (i - 1) sd a' lab'):LB V S num par i w D sd a' lab' bh bl idom:=⟨hl,h.sda,h.sdu,h.clo,h.bkt,h.idm⟩
theorem LB.sdle {i w:Nat} {D:Nat→Prop} {sd a lab bh bl idom:Nat→Nat} (hd:Dfs V S 1 num par) (h:LB V S num par i w D sd a lab bh bl idom) {v:Nat} (hv:V v):1≤sd v∧sd v≤num v:=by
 rcases Nat.lt_or_ge (num v) i with k|k
 ·have:=h.sdu v hv k
  have:=hd.pos v hv
  omega
 obtain ⟨s,h1,h2,h3,_⟩:=h.sda v hv k
 have:=(hd.le hv h3).2.1
 have:=hd.pos s h1
 omega
theorem LB.item {i w:Nat} {D D':Nat→Prop} {sd a lab bh bl idom:Nat→Nat} (hd:Dfs V S 1 num par) (hw:V w) (hwi:num w=i) (hi:2≤i) (h:LB V S num par i w D sd a lab bh bl idom) {v u d:Nat} (hv:V v) (hvi:i≤num v) (hvp:sd v=num (par w))
 (hu:Anc par 1 u v∧i - 1<num u∧∀z,Anc par 1 z v→i - 1<num z→sd u≤sd z) (hd':d=if sd u<sd v then u else par w) (hD:∀z,D' z→D z∨z=v):
 LB V S num par i w D' sd a lab bh bl (upd idom v d)∧V u:=by
 have hw1:w≠1:=fun e=>by subst e;rw[hd.one] at hwi;omega
 have hpV:=hd.parV w hw hw1
 have hpl:=hd.parLt w hw hw1
 obtain ⟨u1,u2,u3⟩:=hu
 have huV:=(hd.le hv u1).1
 have hlow:∀z,Anc par 1 z v→sd v<num z→i - 1<num z:=fun z hz hlt=>by
  rcases Nat.lt_or_ge (num z) i with k|k
  ·have h1:=hd.mid' hv hz hw (by omega) (by omega)
   rcases h1.up with e|⟨_,k2⟩
   ·subst e;omega
   have:=(hd.le hpV k2).2.1;omega
  omega
 have hok:V d∧Ok3 1 num par sd v d:=by
  subst hd'
  split
  ·rename_i hlt
   exact ⟨huV,.inr ⟨u1,by omega,hlt,fun z hz hl=>u3 z hz (hlow z hz hl)⟩⟩
  rename_i hlt
  exact ⟨hpV,.inl ⟨hvp.symm,fun z hz hl=>by have:=u3 z hz (hlow z hz hl);omega⟩⟩
 refine ⟨⟨h.al,h.sda,h.sdu,h.clo,h.bkt,fun z hz hl hc=>?_⟩,huV⟩
 by_cases e:z=v
 ·subst e;rw[upd_same];exact hok
 rw[upd_ne _ _ e]
 refine h.idm z hz hl ?_
 rcases hc with k|k
 ·exact .inl k
 rcases hD z k with k|k
 ·exact .inr k
 exact absurd k e
theorem LB.done {i w:Nat} {D:Nat→Prop} {sd a lab bh bl idom:Nat→Nat} (hd:Dfs V S 1 num par) (hw:V w) (hwi:num w=i) (hi:2≤i) (h:LB V S num par i w D sd a lab bh bl idom) (hall:∀v,V v→i≤num v→sd v=num (par w)→D v):
 LI V S num par (i - 1) sd a lab bh bl idom:=by
 have hw1:w≠1:=fun e=>by subst e;rw[hd.one] at hwi;omega
 have hpV:=hd.parV w hw hw1
 have hpl:=hd.parLt w hw hw1
 refine ⟨h.al,fun v hv hl=>h.sda v hv (by omega),fun v x hv hx hl=>h.clo v x hv hx (by omega),fun p hp=>?_,fun v hv hl hc=>h.idm v hv (by omega) ?_⟩
 ·obtain ⟨L,h1,h2⟩:=h.bkt p hp
  refine ⟨L,h1,fun v=>?_⟩
  rw[h2]
  constructor <;> (rintro ⟨k1,k2,k3⟩;exact ⟨k1,by omega,k3⟩)
 by_cases e:Anc par 1 w v∧sd v<num w
 ·right
  obtain ⟨e1,e2⟩:=e
  refine hall v hv (by omega) ?_
  obtain ⟨s,k1,k2,k3,k4⟩:=h.sda v hv (by omega)
  have hpv:Anc par 1 (par w) v:=Anc.trans (.one hw1) e1
  rcases Nat.lt_or_ge (sd v) (num (par w)) with k|k
  ·have:=hc _ hpv k;omega
  have h1:=hd.anc_of_le hv k3 e1 (by omega)
  rcases h1.up with e|⟨_,k5⟩
  ·subst e;omega
  have:=(hd.le hpV k5).2.1;omega
 left
 have hsv:=(h.sdle hd hv).2
 have hne:v≠w:=fun e2=>e ⟨by rw[e2];exact .refl _,by
  obtain ⟨s,k1,k2,k3,k4⟩:=h.sda v hv (by omega)
  have:=(hd.le hv k3).2.2 k4
  rw[e2] at this k2 ⊢
  omega⟩
 refine ⟨?_,fun u hu hlt=>?_⟩
 ·rcases Nat.lt_or_ge i (num v) with k|k
  ·exact k
  exact absurd (hd.inj v w hv hw (by omega)) hne
 have h1:=hc u hu hlt
 rcases Nat.lt_or_ge i (num u) with k|k
 ·exact k
 have:u=w:=hd.inj u w (hd.le hv hu).1 hw (by omega)
 subst this
 exact absurd ⟨hu,hlt⟩ e
theorem LI.start {n:Nat} {sd a lab bh bl idom:Nat→Nat} (hn:∀v,V v→num v≤n) (h1:∀v,V v→a v=0) (h2:∀v,V v→lab v=v) (h3:∀v,V v→bh v=0):LI V S num par n sd a lab bh bl idom:=by
 refine ⟨⟨fun v hv _=>h1 v hv,fun v hv hl=>?_,fun v hv _=>h2 v hv⟩,fun v hv hl=>?_,fun v w _ hw hl=>?_,fun p hp=>⟨[],h3 p hp,fun v=>⟨fun h=>(by cases h),fun h=>?_⟩⟩,fun v hv hl=>?_⟩
 ·have:=hn v hv;omega
 ·have:=hn v hv;omega
 ·have:=hn w hw;omega
 ·have:=hn v h.1;omega
 have:=hn v hv;omega
theorem LI.semi {sd a lab bh bl idom:Nat→Nat} (hd:Dfs V S 1 num par) (h:LI V S num par 1 sd a lab bh bl idom):
 Semi V S 1 num par sd∧∀v,V v→v≠1→V (idom v)∧Ok3 1 num par sd v (idom v)∧∃s,V s∧num s=sd v∧Anc par 1 s v∧s≠v:=by
 refine ⟨⟨fun v w hv hw hne hs hlt=>(h.clo v w hv hw (hd.gt1 hw hne) hs).1 hlt,fun v w u hv hw hne hs hlt hu hl=>(h.clo v w hv hw (hd.gt1 hw hne) hs).2 hlt u hu hl⟩,fun v hv hne=>?_⟩
 have h1:=hd.gt1 hv hne
 obtain ⟨s,k1,k2,k3,k4⟩:=h.sda v hv h1
 obtain ⟨h2,h3⟩:=h.idm v hv h1 fun u _ hlt=>by have:=hd.pos s k1;omega
 exact ⟨h2,h3,s,k1,k2,k3,k4⟩
structure L4 (V:Nat→Prop) (num par sd:Nat→Nat) (i:Nat) (idom:Nat→Nat):Prop where
 done:∀v,V v→v≠1→num v<i→V (idom v)∧Dm V 1 num par sd (idom v) v
 left:∀v,V v→v≠1→i≤num v→V (idom v)∧Ok3 1 num par sd v (idom v)
theorem L4.next {sd idom:Nat→Nat} (hd:Dfs V S 1 num par) {i w s d:Nat} (hw:V w) (hw1:w≠1) (hwi:num w=i) (h:L4 V num par sd i idom) (hs:V s∧num s=sd w∧Anc par 1 s w∧s≠w)
 (he:d=if idom w=s then idom w else idom (idom w)):L4 V num par sd (i+1) (upd idom w d):=by
 obtain ⟨hi1,hi2⟩:=h.left w hw hw1 (by omega)
 have hk:V d∧Dm V 1 num par sd d w:=by
  subst he
  split
  ·rename_i e
   exact ⟨hi1,hi2.near hs.2.2.1 hs.2.1 hs.2.2.2 e⟩
  rename_i e
  have hlt:sd w<num (idom w)∧Anc par 1 (idom w) w∧idom w≠w:=by
   rcases hi2 with ⟨h3,_⟩|⟨h3,h4,h5,_⟩
   ·exact absurd (hd.inj _ s hi1 hs.1 (by omega)) e
   exact ⟨h4,h3,fun e=>by rw[e] at h5;omega⟩
  have hne:idom w≠1:=fun e=>by
   have:=hd.one
   have:=hd.pos s hs.1
   rw[e] at hlt
   omega
  obtain ⟨h6,h7⟩:=h.done _ hi1 hne (by have:=(hd.le hw hlt.2.1).2.2 hlt.2.2;omega)
  exact ⟨h6,(hi2.far hd hw hs.2.2.1 hs.2.1 e hi1 h7).2⟩
 refine ⟨fun v hv hne hl=>?_,fun v hv hne hl=>?_⟩
 ·by_cases e:v=w
  ·subst e;rw[upd_same];exact hk
  rw[upd_ne _ _ e]
  refine h.done v hv hne ?_
  rcases Nat.lt_or_ge (num v) i with k|k
  ·exact k
  exact absurd (hd.inj v w hv hw (by omega)) e
 rw[upd_ne _ _ fun e=>by subst e;omega]
 exact h.left v hv hne (by omega)
end
end Go.Proofs.YteepnepebilckaaGreatDoor.LT
