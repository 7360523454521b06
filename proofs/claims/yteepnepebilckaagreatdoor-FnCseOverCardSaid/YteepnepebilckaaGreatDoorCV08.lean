/- The law FnCseOver returns true for every input in which the opcode table reads as laid, and its argument reads as it did, the table being tied to the text of the program. -/
import Derived.Test.YteepnepebilckaaGreatDoorCV07
namespace Go.Eng
open Go Go.RowKit
def AtD (e:Env) (ds:List Deferred) (l:List (Nat×Value)):Prop:=∃t,e=Env.sets ⟨t,ds⟩ l
theorem AT {e:Env} {ds:List Deferred} {l:List (Nat×Value)} (hd:e.d=ds) (h:Holds e l):AtD e ds l:=by
 refine ⟨e.t,?_⟩
 have:(⟨e.t,ds⟩:Env)=e:=by cases e;simp_all
 rw[this,sets_self h]
section
variable {P : Program} {w : World}
theorem callsD_of_EC {u:FrameMode} {f:FuncId} {fn:Func} {c:Code} {l:List Value} {S:Value→World→Prop} (hf:P.funcs[f]? =some fn) (hb:fn.body=some c) (hl:Nat.ble l.length fn.ntmps=true)
 (h:EC P fn.ntmps c (bodyQ P fn S) ⟨env0 l 0,[]⟩ w):CallsD P f l.toArray u w fun e u' w'=>u'=u∧∃v,e= .returned v∧S v w':=by
 have hl':l.length≤fn.ntmps:=Nat.le_of_ble_eq_true hl
 refine callsD_of_wp (R:=fun e w'=>∃v,e= .returned v∧S v w') hf hb (h _ _ ⟨?_,rfl,fun k hk=>?_⟩ ?_)
 ·simp;omega
 ·show _=env0 l 0 k
  rw[env0_spec l 0 k (Nat.zero_le _),Array.getD_eq_getD_getElem?,Array.getElem?_append]
  by_cases hkl:k<l.length
  ·simp [hkl]
  rw[if_neg (by simpa using hkl)]
  simp only [List.size_toArray,Nat.sub_zero]
  rw[List.getElem?_eq_none (by omega)]
  simp [show k - l.length<fn.ntmps - l.length by omega]
 intro x e' a' w' hr' hx
 cases x with
 |normal=>obtain ⟨hd,v,hv,hS⟩:=hx;exact ⟨by rw[hr'.d,hd],v,hv a' hr',v,rfl,hS⟩
 |ret=>obtain ⟨hd,v,hv,hS⟩:=hx;exact ⟨by rw[hr'.d,hd],v,hv a' hr',v,rfl,hS⟩
 |exit i=>exact hx.elim
 |goto l=>exact hx.elim
 |panic ch=>exact hx.elim
 |outgrown=>exact hx.elim
def Idle (P:Program) (D:Deferred):Prop:=∃fv cap f args,D.target= .fn fv cap∧(∀w,(invoke D.target D.args).run P w= .ok (.enter f args) w)∧
 ∀u w,CallsD P f args u w fun e u' w'=>u'=u∧∃v,e= .returned v∧Below w.heap.size w w'
theorem leaves_idle {fn:Func} {tmps:Array Value} {R:Ending→World→Prop}:∀(ds:List Deferred),(∀D∈ds,Idle P D)→∀w,(∀w',Below w.heap.size w w'→∃v,(results fn tmps).run P w'= .ok v w'∧R (.returned v) w')→Leaves P fn tmps R ds .returning w
 | [],_,w,h=>h w (Below.refl _ _)
 |D :: ds,hd,w,h=>by
  obtain ⟨fv,cap,f,args,h1,h2,h3⟩:=hd D (.head _)
  refine ⟨by simp,fv,cap,f,args,h1,h2 w,(h3 .returning w).mono ?_⟩
  rintro e u' w' ⟨rfl,v,rfl,hb⟩
  exact leaves_idle ds (fun D hD=>hd D (.tail _ hD)) w' fun w'' hb'=>h w'' (hb.trans (hb'.mono hb.size))
def bodyQD (P:Program) (fn:Func) (S:Value→World→Prop):Exit→Env→World→Prop
 |.normal,e,w|.ret,e,w=>(∀D∈e.d,Idle P D)∧∃v,∀w',Below w.heap.size w w'→(∀a,Rep fn.ntmps e a→(results fn a.tmps).run P w'= .ok v w')∧S v w'
 |_,_,_=>False
theorem D4 {f:FuncId} {fn:Func} {c:Code} {l:List Value} {S:Value→World→Prop} (hf:P.funcs[f]? =some fn) (hb:fn.body=some c) (hl:Nat.ble l.length fn.ntmps=true)
 (h:EC P fn.ntmps c (bodyQD P fn S) ⟨env0 l 0,[]⟩ w):Ret P f l.toArray w S:=by
 have hl':l.length≤fn.ntmps:=Nat.le_of_ble_eq_true hl
 refine calls_of_wp_defers hf hb (h _ _ ⟨?_,rfl,fun k hk=>?_⟩ ?_)
 ·simp;omega
 ·show _=env0 l 0 k
  rw[env0_spec l 0 k (Nat.zero_le _),Array.getD_eq_getD_getElem?,Array.getElem?_append]
  by_cases hkl:k<l.length
  ·simp [hkl]
  rw[if_neg (by simpa using hkl)]
  simp only [List.size_toArray,Nat.sub_zero]
  rw[List.getElem?_eq_none (by omega)]
  simp [show k - l.length<fn.ntmps - l.length by omega]
 intro x e' a' w' hr' hx
 cases x with
 |normal=>
  obtain ⟨hd,v,hv⟩:=hx
  show Leaves P fn a'.tmps _ a'.defers .returning w'
  rw[hr'.d]
  exact leaves_idle _ hd w' fun w'' hb'=>⟨v,(hv w'' hb').1 a' hr',v,rfl,(hv w'' hb').2⟩
 |ret=>
  obtain ⟨hd,v,hv⟩:=hx
  show Leaves P fn a'.tmps _ a'.defers .returning w'
  rw[hr'.d]
  exact leaves_idle _ hd w' fun w'' hb'=>⟨v,(hv w'' hb').1 a' hr',v,rfl,(hv w'' hb').2⟩
 |exit i=>exact hx.elim
 |goto l=>exact hx.elim
 |panic ch=>exact hx.elim
 |outgrown=>exact hx.elim
theorem Ei {fn:Func} {e:Env} {S:Value→World→Prop} {t:Tmp} (hres:fn.results=#[.tmp t]) (hlt:Nat.blt t fn.ntmps=true) (hd:∀D∈e.d,Idle P D) (h:∀w',Below w.heap.size w w'→S (e.t t) w'):bodyQD P fn S .ret e w:=
 ⟨hd,_,fun w' hb=>⟨fun a hr=>by rw[results_tmp hres,hr.t t (Cf hlt)],h w' hb⟩⟩
end
end Go.Eng
namespace Go.Proofs.YteepnepebilckaaGreatDoor
open Go Go.Eng Go.RowKit
section
variable {P : Program} {N : Nat} {c : Code} {Q : Exit → Env → World → Prop} {e : Env} {w : World}
theorem BV (l:List (Nat×Value)) (hd:e.d=[]) (h:Eng.Holds e l) (k:∀t,EC P N c Q (Env.sets ⟨t,[]⟩ l) w):EC P N c Q e w:=by
 obtain ⟨t,rfl⟩:=Ar hd h
 exact k t
theorem Bj (ds:List Deferred) (l:List (Nat×Value)) (hd:e.d=ds) (h:Eng.Holds e l) (k:∀t,EC P N c Q (Env.sets ⟨t,ds⟩ l) w):EC P N c Q e w:=by
 obtain ⟨t,rfl⟩:=AT hd h
 exact k t
end
section
variable {w w' : World} {base n : Nat} {el : Nat → TypeId} {R : Nat → Value} {xs : Nat → List Value}
theorem row_form {el:TypeId} {v:Value} {xs:List Value} (h:w.ownsRow base el 1 v xs.length xs) {k:Nat} (hk:k<xs.length):
 ∃g cap,v= .slice (some ⟨g,0,none⟩) xs.length cap∧base≤g∧g<w.heap.size∧xs.length≤cap∧w.cell? ⟨g,0+k,none⟩=some xs[k]:=by
 rcases h.2 with ⟨rfl,h0⟩|⟨g,cap,cur,rfl,hb,hg,h1,h2,h3,h4⟩
 ·omega
 refine ⟨g,cap,rfl,hb,(Array.getElem?_eq_some_iff.1 hg).1,h1,?_⟩
 rw[cell_of_row w g _ cur el (0,0) hg]
 have h5:(cur.toList.take (xs.length * 1))[k]? =some xs[k]:=by rw[h4];simp [hk]
 rw[List.getElem?_take] at h5
 split at h5
 ·rw[Array.getElem?_toList] at h5
  rw[Nat.zero_add];exact h5
 cases h5
theorem row_pop {el:TypeId} {g cap:Nat} {ys:List Value} {u:Value} (h:w.ownsRow base el 1 (.slice (some ⟨g,0,none⟩) (ys ++ [u]).length cap) (ys ++ [u]).length (ys ++ [u])):
 w.ownsRow base el 1 (.slice (some ⟨g,0,none⟩) ys.length cap) ys.length ys:=by
 rcases h.2 with ⟨h0,_⟩|⟨g',cap',cur,e,hb,hg,h1,h2,h3,h4⟩
 ·cases h0
 injection e with e1 e2 e3
 injection e1 with e1
 injection e1 with e1 _ _
 subst e1
 subst e3
 rw[List.length_append] at h1 h4
 refine ⟨by simp,.inr ⟨g,cap,cur,rfl,hb,hg,by have: [u].length=1:=rfl;omega,h2,h3,?_⟩⟩
 have h5:cur.toList.take (ys.length * 1)=(cur.toList.take ((ys.length+ [u].length) * 1)).take ys.length:=by
  rw[List.take_take]
  congr 1
  have: [u].length=1:=rfl
  omega
 rw[h5,h4,List.take_left]
theorem Fk {el:TypeId} {g cap:Nat} {xs:List Value} (h:w.ownsRow base el 1 (.slice (some ⟨g,0,none⟩) xs.length cap) xs.length xs) {k:Nat} (_hk:k<xs.length) (u:Value):
 (w.setCell ⟨g,0+k,none⟩ u).ownsRow base el 1 (.slice (some ⟨g,0,none⟩) xs.length cap) (xs.set k u).length (xs.set k u):=by
 rcases h.2 with ⟨h0,_⟩|⟨g',cap',cur,e,hb,hg,h1,h2,h3,h4⟩
 ·cases h0
 injection e with e1 e2 e3
 injection e1 with e1
 injection e1 with e1 _ _
 subst e1
 subst e3
 have hs:=AC (o:=0+k) (u:=u) hg
 refine ⟨by simp,.inr ⟨g,cap,cur.setIfInBounds (0+k) u,by rw[List.length_set],hb,hs,by rw[List.length_set];exact h1,h2,by simpa using h3,?_⟩⟩
 rw[List.length_set,Nat.zero_add,Array.toList_setIfInBounds,List.take_set,h4]
end
structure Only (A:Nat→Prop) (w w':World):Prop where
 os:w'.os=w.os
 tape:w'.tape=w.tape
 output:w'.output=w.output
 size:w.heap.size≤w'.heap.size
 block:∀j,j<w.heap.size→¬ A j→w'.heap[j]? =w.heap[j]?
theorem Only.of_below {A:Nat→Prop} {w w':World} (h:Below w.heap.size w w'):Only A w w':=⟨h.os,h.tape,h.output,h.size,fun j hj _=>h.block j hj⟩
theorem Only.trans {A:Nat→Prop} {a b c:World} (h:Only A a b) (k:Only A b c):Only A a c:=
 ⟨k.os.trans h.os,k.tape.trans h.tape,k.output.trans h.output,Nat.le_trans h.size k.size,fun j hj hA=>(k.block j (Nat.lt_of_lt_of_le hj h.size) hA).trans (h.block j hj hA)⟩
theorem Only.set {A:Nat→Prop} {a b:World} (h:Only A a b) {s o:Nat} (u:Value) (hs:A s):Only A a (b.setCell ⟨s,o,none⟩ u):=by
 have h1:Below 0 b (b.setCell ⟨s,o,none⟩ u):=(Below.refl 0 b).setCell (Nat.zero_le _) u
 refine h.trans ⟨h1.os,h1.tape,h1.output,h1.size,fun j _ hA=>Below.heap_setCell _ _ _ _ (fun e=>hA (e ▸ hs))⟩
theorem Only.mono {A A':Nat→Prop} {a b:World} (h:Only A a b) (hA:∀j,A j→A' j):Only A' a b:=
 ⟨h.os,h.tape,h.output,h.size,fun j hj hn=>h.block j hj fun e=>hn (hA j e)⟩
theorem Only.below {A:Nat→Prop} {E:Nat} {a b:World} (h:Only A a b) (hE:E≤a.heap.size) (hA:∀j,A j→E≤j):Below E a b:=
 ⟨h.os,h.tape,h.output,h.size,fun j hj=>h.block j (by omega) fun k=>by have:=hA j k;omega⟩
theorem Only.refl (A:Nat→Prop) (a:World):Only A a a:=⟨rfl,rfl,rfl,Nat.le_refl _,fun _ _ _=>rfl⟩
theorem Only.drew {A:Nat→Prop} {a b:World} (h:Only A a b):Only A a b.drew:=⟨h.os,h.tape,h.output,h.size,h.block⟩
theorem Only.bel {A:Nat→Prop} {B:Nat} {a b c:World} (h:Only A a b) (hB:a.heap.size≤B) (k:Below B b c):Only A a c:=
 ⟨k.os.trans h.os,k.tape.trans h.tape,k.output.trans h.output,Nat.le_trans h.size k.size,fun j hj hA=>(k.block j (by omega)).trans (h.block j hj hA)⟩
theorem Only.grow {A:Nat→Prop} {a b c:World} {row:Option Nat} (h:Only A a b) (k:b.grownBy c row) (hr:∀j,row=some j→a.heap.size≤j):Only A a c:=
 ⟨k.os.trans h.os,k.tape.trans h.tape,k.output.trans h.output,Nat.le_trans h.size k.size,fun j hj hA=>(k.block j (by have:=h.size;omega) (fun e=>by have:=hr j e.symm;omega)).trans (h.block j hj hA)⟩
theorem BA {R R':Nat→Value} {n:Nat} (h:∀i,i<n→R i=R' i):cellsOf R n=cellsOf R' n:=by
 unfold cellsOf
 congr 1
 exact List.map_congr_left fun i hi=>h i (List.mem_range.1 hi)
theorem GRep.on {w w':World} {B:Nat} {L:Lay} {g:Gph} (h:GRep w B L g) (hb:Below w.heap.size w w'):GRep w' B L g:=h.keep fun k hk=>hb.block k hk
theorem i86:((Tryz.prog.info? 77).map (·.size))=some 0:=by kernel_rfl
theorem c90:Tryz.prog.cellsOf 82=6:=by kernel_rfl
theorem b900:byteOfCell Tryz.prog Tryz.prog.depth 82 0=some 0:=by kernel_rfl
theorem b902:byteOfCell Tryz.prog Tryz.prog.depth 82 2=some 32:=by kernel_rfl
theorem El {w:World} {b o n:Nat} {cs:Array Value} (hb:w.heap[b]? =some (.cells cs 82 (0,0))) (ho:o<6) (hn:byteOfCell Tryz.prog Tryz.prog.depth 82 o=some n):
 (byteOf ⟨b,o,none⟩).run Tryz.prog w= .ok n w:=by
 have hsh:w.shape? b=some (82,cs.size):=by simp [World.shape?,hb]
 have ho2:o % 6=o:=Nat.mod_eq_of_lt ho
 have ho3:o / 6=0:=Nat.div_eq_of_lt ho
 simp [byteOf,program,Sem.run_bind,noView,viewAt,shape,Sem.run,hsh,c90,ho2,ho3,hn]
section
variable {w : World} {ρ : Operand → Value} {d : Option Tmp} {ty : TypeId} {pos : String} {af : Array Edge} {g : Option (Nat × Bool)} {x : Operand}
theorem B3 {b:Nat} {cs:Array Value} (hx:ρ x= .pointer (some ⟨b,0,none⟩)) (hb:w.heap[b]? =some (.cells cs 82 (0,0))):
 (execOp ρ ⟨d,.fieldAddr 82 x 2,ty,pos,af,g⟩).run Tryz.prog w= .ok (.value (.pointer (some ⟨b,2,none⟩))) w:=by
 obtain ⟨i,hi,hz⟩:=Option.map_eq_some_iff.1 i86
 have h0:=El (o:=0) hb (by decide) b900
 have h2:=El (o:=2) hb (by decide) b902
 have hp:(partAt ⟨b,0,none⟩ 2 32).run Tryz.prog w= .ok ⟨b,2,none⟩ w:=by
  unfold partAt
  simp [Sem.run_bind,h0,h2]
 simp [execOp,hx,Instr.fieldAt,run_underlying Tryz.underlying82,Instr.sureAddr,fieldPlace,Go.sizeOf,typeInfo,hi,hz,hp]
theorem B4 {a:Addr} (hx:ρ x= .pointer (some a)):(execOp ρ ⟨d,.load 77 x,ty,pos,af,g⟩).run Tryz.prog w= .ok (.value (.agg #[])) w:=by
 have key:(Instr.loadAt 77 (.pointer (some a))).run Tryz.prog w= .ok (.agg #[]) w:=by kernel_rfl
 simp [execOp,hx,key]
theorem Dj {P:Program} {f:FuncId} {xs:Array Operand} {ts:Array TypeId} {l:List Value} (hρ:ρ (.func f)= .func (.func f) #[] #[]) (ha:xs.toList.map ρ=l):
 (execOp ρ ⟨none,.defer { callee:=.value (.func f),args:=xs,argTypes:=ts },ty,pos,af,g⟩).run P w= .ok (.defer ⟨.fn (.func f) #[],l.toArray⟩) w:=by
 subst ha
 simp [execOp,resolve,Deferred.ofValue,hρ]
 cases xs
 simp
theorem x_make0 {P:Program} {t el:TypeId} {y z0:Operand} {z:Value} {bytes n:Nat} (ht:P.underlying t=some (.slice el)) (hi:(P.info? el).map (fun i=>(i.zero,i.size,i.bytes))=some (some z,1,bytes)) 
 (hx:ρ z0= .int .i64 0) (hy:ρ y= .int .i64 (n:Int)) (hb:bytes * n≤281474976710656) (h63:n≤9223372036854775807):
 (execOp ρ ⟨d,.makeSlice t z0 y,ty,pos,af,g⟩).run P w= .ok (.value (.slice (some ⟨w.heap.size,0,none⟩) 0 n)) (w.alloc (.cells (madeCells z.cells n) el)):=by
 obtain ⟨i,hi1,hi2,hi3,hi4⟩:=info_parts hi
 have:=run_make w t el i z ht hi1 hi2 .i64 .i64 0 (n:Int) (by omega) (by omega) (by rw[hi4];omega) (by omega)
 simp only [Int.toNat_natCast,hi3,Nat.mul_one,Int.toNat_zero] at this
 simp [execOp,hx,hy,this]
end
section
variable {P : Program} {w : World} {ρ : Operand → Value} {d : Option Tmp} {ty : TypeId} {pos : String} {af : Array Edge} {g : Option (Nat × Bool)}
theorem x_sliceK {t el:TypeId} {x:Operand} {b o n cap k:Nat} {z:Value} {bytes:Nat} (ht:P.underlying t=some (.slice el)) (hi:(P.info? el).map (fun i=>(i.zero,i.size,i.bytes))=some (some z,1,bytes))
 (hx:ρ x= .slice (some ⟨b,o,none⟩) n cap) {c:Operand} (hc:ρ c= .int .i64 (k:Int)) (hk:k≤cap):
 (execOp ρ ⟨d,.slice t x none (some c) none,ty,pos,af,g⟩).run P w= .ok (.value (.slice (some ⟨b,o,none⟩) k cap)) w:=by
 obtain ⟨i,hi1,_,hi3,_⟩:=info_parts hi
 have:(Instr.slice t (.slice (some ⟨b,o,none⟩) n cap) none (some (.int .i64 (k:Int))) none).run P w= .ok (.slice (some ⟨b,o,none⟩) k cap) w:=by
  unfold Instr.slice Instr.sliceBounds Instr.sliceBound
  simp only [Sem.run_bind,run_underlying ht,Result.andThen_ok,Sem.run_pure,asIntOf]
  have h1:(0:Int)≤(k:Int)∧(k:Int)≤(cap:Int):=by omega
  simp only [if_pos h1,Sem.run_pure,Result.andThen_ok,sizeOf,typeInfo,Sem.run_bind]
  simp [hi1,hi3,Addr.add]
 simp [execOp,hx,hc,Instr.sliceAt,run_underlying ht,this]
theorem x_sliceLH {t el:TypeId} {x:Operand} {b o n cap l k:Nat} {z:Value} {bytes:Nat} (ht:P.underlying t=some (.slice el)) (hi:(P.info? el).map (fun i=>(i.zero,i.size,i.bytes))=some (some z,1,bytes))
 (hx:ρ x= .slice (some ⟨b,o,none⟩) n cap) {c c2:Operand} (hc:ρ c= .int .i64 (l:Int)) (hc2:ρ c2= .int .i64 (k:Int)) (hl:l≤k) (hk:k≤cap) (hlc:l<cap):
 (execOp ρ ⟨d,.slice t x (some c) (some c2) none,ty,pos,af,g⟩).run P w= .ok (.value (.slice (some ⟨b,o+l,none⟩) (k - l) (cap - l))) w:=by
 obtain ⟨i,hi1,_,hi3,_⟩:=info_parts hi
 have:(Instr.slice t (.slice (some ⟨b,o,none⟩) n cap) (some (.int .i64 (l:Int))) (some (.int .i64 (k:Int))) none).run P w= .ok (.slice (some ⟨b,o+l,none⟩) (k - l) (cap - l)) w:=by
  unfold Instr.slice Instr.sliceBounds Instr.sliceBound
  simp only [Sem.run_bind,run_underlying ht,Result.andThen_ok,Sem.run_pure,asIntOf]
  have h1:(0:Int)≤(k:Int)∧(k:Int)≤(cap:Int):=by omega
  simp only [if_pos h1,Sem.run_pure,Result.andThen_ok,sizeOf,typeInfo,Sem.run_bind]
  simp [hi1,hi3,Addr.add,show ¬ cap=l by omega,hl]
 simp [execOp,hx,hc,hc2,Instr.sliceAt,run_underlying ht,this]
end
theorem D1 {P:Program} {f:FuncId} {fn:Func} {c:Code} {l:List Value} (hf:P.funcs[f]? =some fn) (hb:fn.body=some c) (hn:(fn.name == "runtime.NumGoroutine")=false) (hl:Nat.ble l.length fn.ntmps=true)
 (h:∀w,EC P fn.ntmps c (bodyQ P fn fun _ w'=>Below w.heap.size w w') ⟨env0 l 0,[]⟩ w):Idle P ⟨.fn (.func f) #[],l.toArray⟩:=by
 refine ⟨.func f,#[],f,l.toArray,rfl,fun w=>?_,fun u w=>callsD_of_EC hf hb hl (h w)⟩
 have hn':¬ fn.name= "runtime.NumGoroutine" :=by simpa using hn
 have hb':¬ fn.body=none:=by rw[hb];simp
 simp [invoke,callFunc,hf,hb',hn']
set_option maxHeartbeats 4000000
attribute [local irreducible] EC EL DL Ret thenQ blockQ Bi bodyQ onlyN execOp Sem.run World.cell? World.frozen? World.setCell World.alloc
theorem FE (v:Value):Idle Tryz.prog ⟨.fn (.func 138) #[],#[.agg #[],v]⟩:=by
 refine D1 (l:=[.agg #[],v]) Tryz.func138 rfl rfl rfl fun w=>(Ac (Ab (Bv (v:=.agg #[]) rfl) rfl (Af ?_)))
 exact BF rfl rfl ((Below.refl _ w).alloc (Nat.le_refl _) _)
theorem GV (v:Value):Idle Tryz.prog ⟨.fn (.func 125) #[],#[.agg #[],v]⟩:=by
 refine D1 (l:=[.agg #[],v]) Tryz.func125 rfl rfl rfl fun w=>(Ac (Ab (Bv (v:=.agg #[]) rfl) rfl (Af ?_)))
 exact BF rfl rfl ((Below.refl _ w).alloc (Nat.le_refl _) _)
theorem Fr (v:Value):Idle Tryz.prog ⟨.fn (.func 53) #[],#[.agg #[],v]⟩:=by
 refine D1 (l:=[.agg #[],v]) Tryz.func53 rfl rfl rfl fun w=>(Ac (Ab (Bv (v:=.agg #[]) rfl) rfl (Af ?_)))
 exact BF rfl rfl ((Below.refl _ w).alloc (Nat.le_refl _) _)
theorem GF (v:Value):Idle Tryz.prog ⟨.fn (.func 49) #[],#[.agg #[],v]⟩:=by
 refine D1 (l:=[.agg #[],v]) Tryz.func49 rfl rfl rfl fun w=>(Ac (Ab (Bv (v:=.agg #[]) rfl) rfl (Af ?_)))
 exact BF rfl rfl ((Below.refl _ w).alloc (Nat.le_refl _) _)
theorem NumBlocks_ret {w:World} {B:Nat} {L:Lay} {g:Gph} (h:GRep w B L g) (hn:g.nb≤9):Ret Tryz.prog 105 #[L.fp] w fun v w'=>v= .int .i64 ((g.nb+1:Nat):Int)∧w'=w:=by
 refine ret_of_EC Tryz.func105 rfl rfl ?_
 obtain ⟨a2,cap2,ha2⟩:=h.fblocksV
 have h1:w.cell? ⟨L.fb,0+1,none⟩=some (L.sl .fblocks):=Am (h.comp .fn) rfl
 rw[ha2] at h1
 refine Ae (Ac (Ab Ah rfl (Af (Aa (Ae (Ac (Ab Ad rfl (Ab (Au rfl) rfl (Ab (Al rfl (Ak rfl)) rfl (Ab (Ai rfl (Ag rfl) ‹_›) rfl ?_))))))))))
 refine Ab (AN rfl (An rfl)) rfl (Ab (x_inc rfl rfl (by omega)) rfl (Ab Ah rfl (Af (Aa (AE ?_)))))
 exact Az rfl rfl rfl ⟨rfl,rfl⟩
theorem allocBool_ret {w:World} {n:Nat} (hn:n≤64):Ret Tryz.prog 137 #[.agg #[],.int .i64 (n:Int)] w fun v w'=>∃G,v= .slice (some ⟨G,0,none⟩) n n∧w.heap.size≤G∧w'.heap[G]? =some (.cells (bools (fun _=>false) n) 4 (0,0))∧Below w.heap.size w w':=by
 refine ret_of_EC Tryz.func137 rfl rfl ?_
 obtain ⟨B,hBd⟩:∃B,B=w.heap.size:=⟨_,rfl⟩
 refine Ae (Ac (Ab (Bv (v:=.agg #[]) rfl) rfl (el_new (.cells #[] 77) B (by omega) fun wa hN1 hO1 hZ1 hB1 hK1=>(Ab Ah rfl (Af (Aa (Ae (Ac (Ab Ad rfl (Ab (C2 Tryz.underlying49 info4 rfl rfl rfl (by omega) (by omega)) rfl ?_))))))))))
 rw[Eg]
 have hBle:B≤wa.heap.size:=by omega
 refine el_new (.cells (bools (fun _=>false) n) 4) B (by omega) fun wb hN2 hO2 hZ2 hB2 hK2=>(Ab Ah rfl (Af (Aa (AE ?_))))
 exact Az rfl rfl rfl ⟨wa.heap.size,rfl,by omega,hN2,by rw[← hBd];exact hB1.trans hB2⟩
theorem allocID_ret {w:World} {n:Nat} (hn:n≤128):Ret Tryz.prog 52 #[.agg #[],.int .i64 (n:Int)] w fun v w'=>∃G,v= .slice (some ⟨G,0,none⟩) n n∧w.heap.size≤G∧w'.heap[G]? =some (.cells (cellsOf (fun _=>.int .i32 0) n) 88 (0,0))∧Below w.heap.size w w':=by
 refine ret_of_EC Tryz.func52 rfl rfl ?_
 obtain ⟨B,hBd⟩:∃B,B=w.heap.size:=⟨_,rfl⟩
 refine Ae (Ac (Ab (Bv (v:=.agg #[]) rfl) rfl (el_new (.cells #[] 77) B (by omega) fun wa hN1 hO1 hZ1 hB1 hK1=>(Ab Ah rfl (Af (Aa (Ae (Ac (Ab Ad rfl (Ab (C2 Tryz.underlying110 Gh rfl rfl rfl (by omega) (by omega)) rfl ?_))))))))))
 rw[Dk]
 have hBle:B≤wa.heap.size:=by omega
 refine el_new (.cells (cellsOf (fun _=>.int .i32 0) n) 88) B (by omega) fun wb hN2 hO2 hZ2 hB2 hK2=>(Ab Ah rfl (Af (Aa (AE ?_))))
 exact Az rfl rfl rfl ⟨wa.heap.size,rfl,by omega,hN2,by rw[← hBd];exact hB1.trans hB2⟩
theorem allocBlock_ret {w:World} {n:Nat} (hn:n≤128):Ret Tryz.prog 124 #[.agg #[],.int .i64 (n:Int)] w fun v w'=>∃G,v= .slice (some ⟨G,0,none⟩) n n∧w.heap.size≤G∧w'.heap[G]? =some (.cells (cellsOf (fun _=>.pointer none) n) 74 (0,0))∧Below w.heap.size w w':=by
 refine ret_of_EC Tryz.func124 rfl rfl ?_
 obtain ⟨B,hBd⟩:∃B,B=w.heap.size:=⟨_,rfl⟩
 refine Ae (Ac (Ab (Bv (v:=.agg #[]) rfl) rfl (el_new (.cells #[] 77) B (by omega) fun wa hN1 hO1 hZ1 hB1 hK1=>(Ab Ah rfl (Af (Aa (Ae (Ac (Ab Ad rfl (Ab (C2 Tryz.underlying75 CF rfl rfl rfl (by omega) (by omega)) rfl ?_))))))))))
 rw[Dk]
 have hBle:B≤wa.heap.size:=by omega
 refine el_new (.cells (cellsOf (fun _=>.pointer none) n) 74) B (by omega) fun wb hN2 hO2 hZ2 hB2 hK2=>(Ab Ah rfl (Af (Aa (AE ?_))))
 exact Az rfl rfl rfl ⟨wa.heap.size,rfl,by omega,hN2,by rw[← hBd];exact hB1.trans hB2⟩
theorem CE {w:World} {n:Nat} (hn:n≤128):Ret Tryz.prog 46 #[.agg #[],.int .i64 (n:Int)] w fun v w'=>∃G,v= .slice (some ⟨G,0,none⟩) n n∧w.heap.size≤G∧w'.heap[G]? =some (.cells (cellsOf (fun _=>.pointer none) n) 97 (0,0))∧Below w.heap.size w w':=by
 refine ret_of_EC Tryz.func46 rfl rfl ?_
 obtain ⟨B,hBd⟩:∃B,B=w.heap.size:=⟨_,rfl⟩
 refine Ae (Ac (Ab (Bv (v:=.agg #[]) rfl) rfl (el_new (.cells #[] 77) B (by omega) fun wa hN1 hO1 hZ1 hB1 hK1=>(Ab Ah rfl (Af (Aa (Ae (Ac (Ab Ad rfl (Ab (C2 Tryz.underlying78 CH rfl rfl rfl (by omega) (by omega)) rfl ?_))))))))))
 rw[Dk]
 have hBle:B≤wa.heap.size:=by omega
 refine el_new (.cells (cellsOf (fun _=>.pointer none) n) 97) B (by omega) fun wb hN2 hO2 hZ2 hB2 hK2=>(Ab Ah rfl (Af (Aa (AE ?_))))
 exact Az rfl rfl rfl ⟨wa.heap.size,rfl,by omega,hN2,by rw[← hBd];exact hB1.trans hB2⟩
end Go.Proofs.YteepnepebilckaaGreatDoor
namespace Go.Proofs.YteepnepebilckaaGreatDoor.LT
inductive Anc (par:Nat→Nat) (rt:Nat):Nat→Nat→Prop where
 |refl (a:Nat):Anc par rt a a
 |step {a b:Nat}:b≠rt→Anc par rt a (par b)→Anc par rt a b
section
variable {par par' : Nat → Nat} {rt : Nat}
theorem Anc.trans {a b c:Nat} (h:Anc par rt a b) (k:Anc par rt b c):Anc par rt a c:=by
 induction k with
 |refl=>exact h
 |step h1 _ ih=>exact .step h1 ih
theorem Anc.one {b:Nat} (h:b≠rt):Anc par rt (par b) b:=.step h (.refl _)
theorem Anc.up {a b:Nat} (h:Anc par rt a b):a=b∨(b≠rt∧Anc par rt a (par b)):=by
 cases h with
 |refl=>exact .inl rfl
 |step h1 h2=>exact .inr ⟨h1,h2⟩
theorem Anc.cmp {a b c:Nat} (h:Anc par rt a c) (k:Anc par rt b c):Anc par rt a b∨Anc par rt b a:=by
 induction h with
 |refl=>exact .inr k
 |step h1 h2 ih=>
  rcases k.up with e|⟨_,k2⟩
  ·subst e;exact .inl (.step h1 h2)
  exact ih k2
theorem Anc.congr {V:Nat→Prop} (hc:∀v,V v→v≠rt→V (par v)) (he:∀v,V v→par' v=par v) {a b:Nat} (h:Anc par rt a b) (hb:V b):Anc par' rt a b:=by
 induction h with
 |refl=>exact .refl _
 |step h1 _ ih=>exact .step h1 (by rw[he _ hb];exact ih (hc _ hb h1))
end
structure Dfs (V:Nat→Prop) (S:Nat→List Nat) (rt:Nat) (num par:Nat→Nat):Prop where
 rtV:V rt
 pos:∀v,V v→1≤num v
 one:num rt=1
 inj:∀v u,V v→V u→num v=num u→v=u
 parV:∀v,V v→v≠rt→V (par v)
 parLt:∀v,V v→v≠rt→num (par v)<num v
 next:∀v u,V v→V u→v≠rt→num v=num u+1→Anc par rt (par v) u
 all:∀v,V v→1<num v→∃u,V u∧num v=num u+1
 edge:∀v w,V v→V w→w∈S v→num v<num w→Anc par rt v w
section
variable {V : Nat → Prop} {S : Nat → List Nat} {rt : Nat} {num par : Nat → Nat}
theorem Dfs.le (h:Dfs V S rt num par) {a b:Nat} (hb:V b) (k:Anc par rt a b):V a∧num a≤num b∧(a≠b→num a<num b):=by
 induction k with
 |refl=>exact ⟨hb,Nat.le_refl _,fun e=>absurd rfl e⟩
 |step h1 _ ih=>
  obtain ⟨i1,i2,_⟩:=ih (h.parV _ hb h1)
  have:=h.parLt _ hb h1
  exact ⟨i1,by omega,fun _=>by omega⟩
theorem Dfs.gt1 (h:Dfs V S rt num par) {v:Nat} (hv:V v) (hne:v≠rt):1<num v:=by
 have h1:=h.pos v hv
 have h2:=h.inj v rt hv h.rtV
 rw[h.one] at h2
 rcases Nat.lt_or_ge 1 (num v) with h3|h3
 ·exact h3
 exact absurd (h2 (by omega)) hne
theorem Dfs.mid (h:Dfs V S rt num par) {c:Nat}:∀n v,num v=n→V v→Anc par rt c v→∀u,V u→num c≤num u→num u≤num v→Anc par rt c u:=by
 intro n
 induction n using Nat.strongRecOn with
 |ind n ih=>
  intro v hn hv hc u hu h1 h2
  by_cases e:num u=num v
  ·rw[h.inj u v hu hv e];exact hc
  rcases hc.up with e2|⟨hne,hc2⟩
  ·subst e2;omega
  obtain ⟨x,hx,hxn⟩:=h.all v hv (h.gt1 hv hne)
  have h3:=h.next v x hv hx hne hxn
  exact ih (num x) (by omega) x rfl hx (hc2.trans h3) u hu h1 (by omega)
theorem Dfs.mid' (h:Dfs V S rt num par) {c v u:Nat} (hv:V v) (hc:Anc par rt c v) (hu:V u) (h1:num c≤num u) (h2:num u≤num v):Anc par rt c u:=h.mid _ v rfl hv hc u hu h1 h2
theorem Dfs.anc_of_le (h:Dfs V S rt num par) {a b c:Nat} (hc:V c) (h1:Anc par rt a c) (h2:Anc par rt b c) (hle:num a≤num b):Anc par rt a b:=by
 rcases h1.cmp h2 with k|k
 ·exact k
 have hb:=(h.le hc h2).1
 have ha:=(h.le hc h1).1
 have:=(h.le ha k).2.1
 rw[h.inj a b ha hb (by omega)];exact .refl _
structure Semi (V:Nat→Prop) (S:Nat→List Nat) (rt:Nat) (num par sd:Nat→Nat):Prop where
 low:∀v w,V v→V w→w≠rt→w∈S v→num v<num w→sd w≤num v
 high:∀v w u,V v→V w→w≠rt→w∈S v→num w<num v→Anc par rt u v→num w<num u→sd w≤sd u
inductive Gt (S:Nat→List Nat) (num:Nat→Nat) (m x:Nat):Nat→Prop where
 |base {y:Nat}:y∈S x→m<num y→Gt S num m x y
 |step {y z:Nat}:Gt S num m x y→z∈S y→m<num z→Gt S num m x z
theorem Gt.anc {sd:Nat→Nat} (h:Dfs V S rt num par) (hs:Semi V S rt num par sd) (hV:∀v,V v→∀w∈S v,V w) {m x y:Nat} (hx:V x) (hxm:num x≤m) (hg:Gt S num m x y):
 V y∧∃u,Anc par rt u y∧m<num u∧sd u≤num x:=by
 have hm:=h.pos x hx
 have hrt:∀z,m<num z→z≠rt:=fun z hz e=>by subst e;rw[h.one] at hz;omega
 induction hg with
 | @base y h1 h2=>exact ⟨hV x hx _ h1,y,.refl _,h2,hs.low x y hx (hV x hx _ h1) (hrt y h2) h1 (by omega)⟩
 | @step y z h0 h1 h2 ih=>
   obtain ⟨hy,u,hu1,hu2,hu3⟩:=ih
   have hz:=hV y hy _ h1
   refine ⟨hz,?_⟩
   rcases Nat.lt_or_ge (num y) (num z) with hlt|hge
   ·exact ⟨u,hu1.trans (h.edge y z hy hz h1 hlt),hu2,hu3⟩
   rcases Nat.lt_or_ge (num z) (num u) with h3|h3
   ·have huy:=(h.le hy hu1).2.1
    exact ⟨z,.refl _,h2,Nat.le_trans (hs.high y z u hy hz (hrt z h2) h1 (by omega) hu1 h3) hu3⟩
   exact ⟨u,h.mid' hy hu1 hz h3 hge,hu2,hu3⟩
structure Dm (V:Nat→Prop) (rt:Nat) (num par sd:Nat→Nat) (z w:Nat):Prop where
 anc:Anc par rt z w
 ne:z≠w
 all:∀u,Anc par rt u w→num z<num u→num z≤sd u
inductive Rh (S:Nat→List Nat) (rt z:Nat):Nat→Prop where
 |entry:z≠rt→Rh S rt z rt
 |step {b s:Nat}:Rh S rt z b→s∈S b→s≠z→Rh S rt z s
theorem Dm.dom {sd:Nat→Nat} (h:Dfs V S rt num par) (hs:Semi V S rt num par sd) (hV:∀v,V v→∀w∈S v,V w) {z w:Nat} (hw:V w) (hd:Dm V rt num par sd z w):¬ Rh S rt z w:=by
 intro hr
 have hz:=(h.le hw hd.anc).1
 have key:∀y,Rh S rt z y→V y∧(num y<num z∨∃x,V x∧num x<num z∧Gt S num (num z) x y):=by
  intro y hy
  induction hy with
  |entry hne=> 
   refine ⟨h.rtV,.inl ?_⟩
   rw[h.one];exact h.gt1 hz hne
  | @step b s _ h2 h3 ih=>
    obtain ⟨hb,ih⟩:=ih
    have hsV:=hV b hb s h2
    refine ⟨hsV,?_⟩
    rcases Nat.lt_trichotomy (num s) (num z) with k|k|k
    ·exact .inl k
    ·exact absurd (h.inj s z hsV hz k) h3
    rcases ih with i1|⟨x,hx,i1,i2⟩
    ·exact .inr ⟨b,hb,i1,.base h2 k⟩
    exact .inr ⟨x,hx,i1,.step i2 h2 k⟩
 have hlt:=(h.le hw hd.anc).2.2 hd.ne
 rcases (key w hr).2 with k|⟨x,hx,k1,k2⟩
 ·omega
 obtain ⟨_,u,u1,u2,u3⟩:=k2.anc h hs hV hx (by omega)
 have:=hd.all u u1 u2
 omega
def Ok3 (rt:Nat) (num par sd:Nat→Nat) (v d:Nat):Prop:=
 (num d=sd v∧∀u,Anc par rt u v→sd v<num u→sd v≤sd u)∨
 (Anc par rt d v∧sd v<num d∧sd d<sd v∧∀u,Anc par rt u v→sd v<num u→sd d≤sd u)
theorem Ok3.near {sd:Nat→Nat} {v d s:Nat} (h1:Anc par rt s v) (h2:num s=sd v) (hne:s≠v) (hds:d=s) (ho:Ok3 rt num par sd v d):Dm V rt num par sd d v:=by
 subst hds
 rcases ho with ⟨_,h4⟩|⟨_,h4,_⟩
 ·exact ⟨h1,hne,fun u hu hlt=>by rw[h2] at hlt ⊢;exact h4 u hu hlt⟩
 omega
theorem Ok3.far {sd:Nat→Nat} (h:Dfs V S rt num par) {v d s z:Nat} (hv:V v) (h1:Anc par rt s v) (h2:num s=sd v) (hds:d≠s) (hd:V d) (ho:Ok3 rt num par sd v d) (hz:Dm V rt num par sd z d):
 Anc par rt d v∧Dm V rt num par sd z v:=by
 have hsV:=(h.le hv h1).1
 rcases ho with ⟨h3,_⟩|⟨h3,h4,h5,h6⟩
 ·exact absurd (h.inj d s hd hsV (by omega)) hds
 refine ⟨h3,hz.anc.trans h3,?_,fun u hu hlt=>?_⟩
 ·intro e
  subst e
  have k1:=(h.le hd hz.anc).2.2 hz.ne
  have k2:=(h.le hv h3).2.1
  omega
 have hzd:=hz.all d (.refl _) ((h.le hd hz.anc).2.2 hz.ne)
 rcases Nat.lt_or_ge (sd v) (num u) with k|k
 ·have:=h6 u hu k;omega
 exact hz.all u (h.anc_of_le hv hu h3 (by omega)) hlt
end
end Go.Proofs.YteepnepebilckaaGreatDoor.LT
namespace Go.Proofs.YteepnepebilckaaGreatDoor.LT
def upd (f:Nat→Nat) (i v:Nat):Nat→Nat:=fun j=>if j=i then v else f j
theorem upd_same (f:Nat→Nat) (i v:Nat):upd f i v i=v:=if_pos rfl
theorem upd_ne (f:Nat→Nat) {i j:Nat} (v:Nat) (h:j≠i):upd f i v j=f j:=if_neg h
structure DI (V:Nat→Prop) (S:Nat→List Nat) (R:Nat→Nat→Prop) (cnt:Nat) (num vert par:Nat→Nat) (stk:List (Nat×Nat)):Prop where
 le:∀v,num v≤cnt
 vis:∀k,1≤k→k≤cnt→V (vert k)∧num (vert k)=k
 inv:∀v,1≤num v→vert (num v)=v
 rt:num 1=1
 parV:∀v,1≤num v→v≠1→1≤num (par v)∧num (par v)<num v
 next:∀v u,1≤num v→1≤num u→v≠1→num v=num u+1→Anc par 1 (par v) u
 edge:∀v w,1≤num v→1≤num w→w∈S v→num v<num w→Anc par 1 v w
 pend:∀v w,1≤num v→num w=0→R v w→(w,v)∈stk
 top:∀w q A B,stk=A ++ (w,q) :: B→num w=0→(∀x∈B,x.1≠w)→par w=q
 chain:stk.Pairwise fun x y=>Anc par 1 x.2 y.2
 push:∀x∈stk,V x.1∧1≤num x.2∧Anc par 1 x.2 (vert cnt)
 way:∀x∈stk,x.1∈S x.2
 parE:∀v,1≤num v→v≠1→v∈S (par v)
section
variable {V : Nat → Prop} {S : Nat → List Nat} {R R' : Nat → Nat → Prop} {cnt : Nat} {num vert par : Nat → Nat} {stk : List (Nat × Nat)}
theorem DI.start {nb:Nat} (hV:V 1) (_hn:1≤nb) (h0:∀v,num v=0) (hR:∀w,¬ R 1 w):DI V S R 1 (upd num 1 1) (upd vert 1 1) par []:=by
 have hv:∀v,1≤upd num 1 1 v→v=1:=fun v h=>by
  refine Classical.byContradiction fun e=>?_
  rw[upd_ne _ _ e,h0] at h;omega
 refine ⟨fun v=>?_,fun k h1 h2=>?_,fun v h=>?_,upd_same ..,fun v h hne=>absurd (hv v h) hne,fun v _ h _ hne=>absurd (hv v h) hne,fun v w h1 h2 _ h3=>?_,fun v w h1 _ h3=>?_,fun w q A B h=>?_,.nil,fun x hx=>(by cases hx),fun x hx=>(by cases hx),fun v h hne=>absurd (hv v h) hne⟩
 ·by_cases e:v=1
  ·subst e;rw[upd_same];exact Nat.le_refl _
  rw[upd_ne _ _ e,h0];omega
 ·have:k=1:=by omega
  subst this
  rw[upd_same,upd_same];exact ⟨hV,rfl⟩
 ·have:=hv v h;subst this;rw[upd_same,upd_same]
 ·have:=hv v h1;have:=hv w h2;subst_vars;omega
 ·have:=hv v h1;subst this;exact absurd h3 (hR w)
 cases A <;> simp at h
theorem DI.mono (h:DI V S R cnt num vert par stk) (hR:∀v w,1≤num v→num w=0→R' v w→R v w):DI V S R' cnt num vert par stk:=
 ⟨h.le,h.vis,h.inv,h.rt,h.parV,h.next,h.edge,fun v w h1 h2 h3=>h.pend v w h1 h2 (hR v w h1 h2 h3),h.top,h.chain,h.push,h.way,h.parE⟩
theorem DI.pop {w q:Nat} {A:List (Nat×Nat)} (h:DI V S R cnt num vert par (A ++ [(w,q)])) (hw:1≤num w):DI V S R cnt num vert par A:=by
 refine ⟨h.le,h.vis,h.inv,h.rt,h.parV,h.next,h.edge,fun v u h1 h2 h3=>?_,fun u p A' B' e h1 h2=>?_,(List.pairwise_append.1 h.chain).1,fun x hx=>h.push x (List.mem_append.2 (.inl hx)),fun x hx=>h.way x (List.mem_append.2 (.inl hx)),h.parE⟩
 ·rcases List.mem_append.1 (h.pend v u h1 h2 h3) with k|k
  ·exact k
  have:(u,v)=(w,q):=by simpa using k
  injection this with e1 e2
  subst e1;omega
 refine h.top u p A' (B' ++ [(w,q)]) (by rw[e];simp) h1 fun x hx=>?_
 rcases List.mem_append.1 hx with k|k
 ·exact h2 x k
 have:x=(w,q):=by simpa using k
 subst this
 intro e;have e:w=u:=e;subst e;omega
theorem DI.visit {w q:Nat} {A:List (Nat×Nat)} (h:DI V S (fun v u=>u∈S v) cnt num vert par (A ++ [(w,q)])) (hw:num w=0) (hc:1≤cnt):
 DI V S (fun v u=>v≠w∧u∈S v) (cnt+1) (upd num w (cnt+1)) (upd vert (cnt+1) w) par A∧par w=q∧V w:=by
 have hq:par w=q:=h.top w q A [] rfl hw fun x hx=>by cases hx
 obtain ⟨hVw,hq1,hq2⟩:=h.push (w,q) (List.mem_append.2 (.inr (.head _)))
 have hw1:w≠1:=fun e=>by subst e;rw[h.rt] at hw;omega
 have hn:∀v,v≠w→upd num w (cnt+1) v=num v:=fun v e=>upd_ne _ _ e
 have hnw:upd num w (cnt+1) w=cnt+1:=upd_same ..
 have hvt:∀k,k≤cnt→upd vert (cnt+1) w k=vert k:=fun k hk=>upd_ne _ _ (by omega)
 have hpr:∀x∈A,Anc par 1 x.2 w:=fun x hx=>.step hw1 (by rw[hq];exact (List.pairwise_append.1 h.chain).2.2 x hx (w,q) (.head _))
 have hpos:∀v,1≤num v→v≠w:=fun v hv e=>by subst e;omega
 refine ⟨⟨fun v=>?_,fun k h1 h2=>?_,fun v hv=>?_,?_,fun v hv hne=>?_,fun v u hv hu hne he=>?_,fun v u hv hu hs hlt=>?_,fun v u hv hu hR=>?_,fun u p A' B' e h1 h2=>?_,(List.pairwise_append.1 h.chain).1,fun x hx=>?_,fun x hx=>h.way x (List.mem_append.2 (.inl hx)),fun v hv hne=>?_⟩,hq,hVw⟩
 ·by_cases e:v=w
  ·subst e;rw[hnw];exact Nat.le_refl _
  rw[hn v e];have:=h.le v;omega
 ·by_cases e:k=cnt+1
  ·subst e;rw[upd_same,hnw];exact ⟨hVw,rfl⟩
  rw[hvt k (by omega)]
  obtain ⟨h3,h4⟩:=h.vis k h1 (by omega)
  refine ⟨h3,?_⟩
  rw[hn _ (hpos _ (by omega))];exact h4
 ·by_cases e:v=w
  ·subst e;rw[hnw,upd_same]
  rw[hn v e] at hv ⊢
  rw[hvt _ (h.le v)];exact h.inv v hv
 ·rw[hn 1 fun e=>hw1 e.symm];exact h.rt
 ·by_cases e:v=w
  ·subst e
   rw[hnw,hq,hn q (hpos q hq1)]
   have:=h.le q
   exact ⟨hq1,by omega⟩
  rw[hn v e] at hv ⊢
  obtain ⟨h1,h2⟩:=h.parV v hv hne
  rw[hn _ (hpos _ h1)];exact ⟨h1,h2⟩
 ·by_cases e:v=w
  ·subst e
   rw[hnw] at he
   have hu2:u≠v:=fun e=>by subst e;rw[hnw] at he;omega
   rw[hn u hu2] at he hu
   have:vert cnt=u:=by
    have:=h.inv u hu
    rw[← this];congr 1;omega
   rw[hq,← this];exact hq2
  rw[hn v e] at hv he
  by_cases e2:u=w
  ·subst e2
   rw[hnw] at he
   have:=h.le v;omega
  rw[hn u e2] at hu he
  exact h.next v u hv hu hne he
 ·by_cases e:v=w
  ·subst e
   rw[hnw] at hlt
   by_cases e2:u=v
   ·subst e2;rw[hnw] at hlt;omega
   rw[hn u e2] at hlt;have:=h.le u;omega
  rw[hn v e] at hv hlt
  by_cases e2:u=w
  ·subst e2
   have h1:=h.pend v u hv hw hs
   rcases List.mem_append.1 h1 with k|k
   ·exact hpr _ k
   have:(u,v)=(u,q):=by simpa using k
   injection this with _ e3
   rw[e3,← hq];exact .one hw1
  rw[hn u e2] at hu hlt
  exact h.edge v u hv hu hs hlt
 ·obtain ⟨h1,h2⟩:=hR
  rw[hn v h1] at hv
  have e2:u≠w:=fun e=>by subst e;rw[hnw] at hu;omega
  rw[hn u e2] at hu
  rcases List.mem_append.1 (h.pend v u hv hu h2) with k|k
  ·exact k
  have:(u,v)=(w,q):=by simpa using k
  injection this with e3 _
  exact absurd e3 e2
 ·have e2:u≠w:=fun e=>by subst e;rw[hnw] at h1;omega
  rw[hn u e2] at h1
  refine h.top u p A' (B' ++ [(w,q)]) (by rw[e];simp) h1 fun x hx=>?_
  rcases List.mem_append.1 hx with k|k
  ·exact h2 x k
  have:x=(w,q):=by simpa using k
  subst this
  exact fun e=>e2 e.symm
 ·obtain ⟨h1,h2,_⟩:=h.push x (List.mem_append.2 (.inl hx))
  refine ⟨h1,?_,?_⟩
  ·rw[hn _ (hpos _ h2)];exact h2
  rw[upd_same];exact hpr x hx
 by_cases e:v=w
 ·subst e;rw[hq];exact h.way (v,q) (List.mem_append.2 (.inr (.head _)))
 rw[hn v e] at hv;exact h.parE v hv hne
theorem DI.pushed {x w:Nat} (h:DI V S R cnt num vert par stk) (hx:vert cnt=x) (hc:1≤cnt) (hw:num w=0) (hVw:V w) (hSw:w∈S x) (hR:∀v u,1≤num v→num u=0→R' v u→R v u∨(v=x∧u=w)):
 DI V S R' cnt num vert (upd par w x) (stk ++ [(w,x)]):=by
 have hnx:1≤num x:=by rw[← hx,(h.vis cnt hc (Nat.le_refl _)).2];exact hc
 have hcl:∀v,1≤num v→v≠1→1≤num (par v):=fun v h1 h2=>(h.parV v h1 h2).1
 have he:∀v,1≤num v→upd par w x v=par v:=fun v hv=>upd_ne _ _ fun e=>by subst e;omega
 have hA:∀{a b:Nat},1≤num b→Anc par 1 a b→Anc (upd par w x) 1 a b:=fun hb k=>k.congr (V:=fun v=>1≤num v) hcl he hb
 refine ⟨h.le,h.vis,h.inv,h.rt,fun v hv hne=>by rw[he v hv];exact h.parV v hv hne,fun v u hv hu hne e=>by rw[he v hv];exact hA hu (h.next v u hv hu hne e),fun v u hv hu hs hlt=>hA hu (h.edge v u hv hu hs hlt),fun v u h1 h2 h3=>?_,fun u q A B e h1 h2=>?_,?_,fun y hy=>?_,fun y hy=>?_,fun v hv hne=>by rw[he v hv];exact h.parE v hv hne⟩
 ·rcases hR v u h1 h2 h3 with k|⟨rfl,rfl⟩
  ·exact List.mem_append.2 (.inl (h.pend v u h1 h2 k))
  exact List.mem_append.2 (.inr (.head _))
 ·rcases List.eq_nil_or_concat B with rfl|⟨B',y,rfl⟩
  ·have e':=List.append_inj_right' e rfl
   have:(w,x)=(u,q):=by simpa using e'
   injection this with e1 e2
   subst e1;subst e2
   exact upd_same ..
  have e3:stk ++ [(w,x)]=(A ++ (u,q) :: B') ++ [y]:=by rw[e];simp
  have e4:=List.append_inj_left' e3 rfl
  have e5:(w,x)=y:=by simpa using List.append_inj_right' e3 rfl
  have hne:w≠u:=fun e=>h2 y (by simp) (by rw[← e5];exact e)
  rw[upd_ne _ _ fun e=>hne e.symm]
  exact h.top u q A B' e4 h1 fun z hz=>h2 z (by simp [hz])
 ·refine List.pairwise_append.2 ⟨?_,List.pairwise_singleton _ _,fun y hy z hz=>?_⟩
  ·refine h.chain.imp_of_mem fun hy hz hyz=>?_
   exact hA (h.push _ hz).2.1 hyz
  have:z=(w,x):=by simpa using hz
  subst this
  have k:=hA (by rw[hx];exact hnx) (h.push y hy).2.2
  rw[hx] at k
  exact k
 ·rcases List.mem_append.1 hy with k|k
  ·obtain ⟨h1,h2,h3⟩:=h.push y k
   exact ⟨h1,h2,hA (by rw[hx];exact hnx) h3⟩
  have:y=(w,x):=by simpa using k
  subst this
  exact ⟨hVw,hnx,by rw[hx];exact .refl _⟩
 rcases List.mem_append.1 hy with k|k
 ·exact h.way y k
 have:y=(w,x):=by simpa using k
 subst this;exact hSw
theorem DI.dfs (h:DI V S (fun v u=>u∈S v) cnt num vert par []) (hV:V 1) (hr:∀P:Nat→Prop,P 1→(∀v,P v→V v→∀w∈S v,P w)→∀v,V v→P v):
 Dfs V S 1 num par∧∀v,V v→1≤num v:=by
 have hall:∀v,V v→1≤num v:=by
  refine hr (fun v=>1≤num v) (by rw[h.rt];exact Nat.le_refl _) fun v h1 h2 w hw=>?_
  refine Classical.byContradiction fun e=>?_
  have:=h.pend v w h1 (by omega) hw
  cases this
 have hVn:∀v,1≤num v→V v:=fun v hv=>by rw[← h.inv v hv];exact (h.vis _ hv (h.le v)).1
 refine ⟨⟨hV,hall,h.rt,fun v u hv hu e=>?_,fun v hv hne=>hVn _ (h.parV v (hall v hv) hne).1,fun v hv hne=>(h.parV v (hall v hv) hne).2,fun v u hv hu=>h.next v u (hall v hv) (hall u hu),fun v hv hlt=>?_,fun v w hv hw=>h.edge v w (hall v hv) (hall w hw)⟩,hall⟩
 ·rw[← h.inv v (hall v hv),← h.inv u (hall u hu),e]
 obtain ⟨h1,h2⟩:=h.vis (num v - 1) (by omega) (by have:=h.le v;omega)
 exact ⟨_,h1,by omega⟩
end
end Go.Proofs.YteepnepebilckaaGreatDoor.LT
