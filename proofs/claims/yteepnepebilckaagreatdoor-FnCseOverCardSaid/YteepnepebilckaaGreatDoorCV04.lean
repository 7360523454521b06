/- The law FnCseOver returns true for every input in which the opcode table reads as laid, and its argument reads as it did, the table being tied to the text of the program. -/
import Derived.Test.YteepnepebilckaaGreatDoorCV03
namespace Go.Eng
open Go Go.RowKit
def Env.sets (e:Env):List (Nat×Value)→Env
 | []=>e
 |x :: r=>(e.sets r).set x.1 x.2
def Holds (e:Env):List (Nat×Value)→Prop
 | []=>True
 |x :: r=>e.t x.1=x.2∧Holds e r
theorem Env.ext' {e e':Env} (h:∀k,e.t k=e'.t k) (hd:e.d=e'.d):e=e':=by
 cases e;cases e'
 have:_=_:=funext h
 simp_all
theorem GX {e:Env} {k:Nat} {v:Value} (h:e.t k=v):e.set k v=e:=by
 refine Env.ext' (fun j=>?_) rfl
 show (bif Nat.beq j k then v else e.t j)=e.t j
 cases hb:Nat.beq j k with
 |true=>rw[Eng.beq_true hb,h];rfl
 |false=>rfl
theorem sets_self {e:Env}:∀{l:List (Nat×Value)},Holds e l→e.sets l=e
 | [],_=>rfl
 |x :: r,h=>by
  show (e.sets r).set x.1 x.2=e
  rw[sets_self h.2,GX h.1]
def At (e:Env) (l:List (Nat×Value)):Prop:=∃t,e=Env.sets ⟨t,[]⟩ l
theorem Ar {e:Env} {l:List (Nat×Value)} (hd:e.d=[]) (h:Holds e l):At e l:=by
 refine ⟨e.t,?_⟩
 have:(⟨e.t,[]⟩:Env)=e:=by cases e;simp_all
 rw[this,sets_self h]
theorem BC (w:World) (o:Obj):(w.alloc o).heap.size=w.heap.size+1:=Array.size_push _
theorem EV (w:World) (z cs:Array Value) (T:TypeId):(w.alloc (.cells z T)).setRow w.heap.size cs=w.alloc (.cells cs T):=by
 have hh:((w.alloc (.cells z T)).setRow w.heap.size cs).heap=(w.alloc (.cells cs T)).heap:=by
  apply Array.ext_getElem?
  intro i
  by_cases e:i=w.heap.size
  ·subst e
   rw[setRow_heap _ _ z cs T (0,0) (heap_alloc_new w _),heap_alloc_new]
  rw[setRow_other _ _ _ _ e]
  simp only [World.alloc,Array.getElem?_push,e,if_false]
 unfold World.setRow World.alloc at *
 simp only at hh ⊢
 rw[hh]
theorem Bb {P:Program} {w0:World} {ρ:Operand→Value} {d:Option Tmp} {ty:TypeId} {pos:String} {af:Array Edge} {g:Option (Nat×Bool)} {t T:TypeId} {x y:Operand} {z cs:Array Value}
 (hx:ρ x= .pointer (some ⟨w0.heap.size,0,none⟩)) (hy:ρ y= .agg cs) (ht:CW P t cs.size=true) (hz:z.size=cs.size) (h1:cs.toList.all (·.oneCell')=true):
 (execOp ρ ⟨d,.store t x y,ty,pos,af,g⟩).run P (w0.alloc (.cells z T))= .ok .skip (w0.alloc (.cells cs T)):=by
 rw[Cy hx hy (heap_alloc_new w0 _) ht hz h1,EV]
theorem BD {P:Program} {ops:Array Oper} {N:Nat} {Q:Env→World→Prop} {e:Env} {w:World} {rest:List Oper} {d:Nat} {s x:Operand} {t el:TypeId} {ty:TypeId} {pos:String} {af:Array Edge} {z:Value} {bytes base:Nat}
 {v:Value} {n:Nat} {xs:List Value} {b:Nat} {u:Value}
 (hown:w.ownsRow base el 1 v n xs) (hu:w.cell? ⟨b,0,none⟩=some u) (h1:u.oneCell'=true) (hbytes:(n+1) * bytes≤140737488355328) (hb0:0<bytes) (hbase:base≤w.heap.size)
 (ht:P.underlying t=some (.slice el)) (hi:(P.info? el).map (fun i=>(i.zero,i.size,i.bytes))=some (some z,1,bytes)) (hzs:z.cells.size=1)
 (hs:e.ev s=v) (hx:e.ev x= .slice (some ⟨b,0,none⟩) 1 1)
 (hk:okO N ⟨some d,.call { callee:=.builtin .append,args:=#[s,x],argTypes:=#[t,t] },ty,pos,af,none⟩=true)
 (h:∀v' w',w'.ownsRow base el 1 v' (n+1) (xs ++ [u])→w.grownBy w' v.ownBlock→(v'.ownBlock=v.ownBlock∨v'.ownBlock=some w.heap.size)→EL P ops N Q rest (e.set d v') w'):
 EL P ops N Q (⟨some d,.call { callee:=.builtin .append,args:=#[s,x],argTypes:=#[t,t] },ty,pos,af,none⟩ :: rest) e w:=by
 obtain ⟨v',w',hr,h2,h3,h4⟩:=x_append1 (d:=some d) (ty:=ty) (pos:=pos) (af:=af) (g:=none) ht hi hzs hs hown hx hu h1 hbytes hb0 hbase
 exact Ab hr hk (h v' w' h2 h3 h4)
theorem Cd {P:Program} {l:List Oper} {S:World→Prop} {Q:Env→World→Prop} {r:List (Nat×Bool)} {e:Env} {w:World} {i d:Nat} {s x:Operand} {t el:TypeId} {ty:TypeId} {pos:String} {af:Array Edge} {z:Value} {bytes base:Nat}
 {v:Value} {n:Nat} {xs:List Value} {b:Nat} {u:Value}
 (hown:w.ownsRow base el 1 v n xs) (hu:w.cell? ⟨b,0,none⟩=some u) (h1:u.oneCell'=true) (hbytes:(n+1) * bytes≤140737488355328) (hb0:0<bytes) (hbase:base≤w.heap.size)
 (ho:nthO l i=⟨some d,.call { callee:=.builtin .append,args:=#[s,x],argTypes:=#[t,t] },ty,pos,af,none⟩)
 (ht:P.underlying t=some (.slice el)) (hi:(P.info? el).map (fun i=>(i.zero,i.size,i.bytes))=some (some z,1,bytes)) (hzs:z.cells.size=1)
 (hs:e.ev s=v) (hx:e.ev x= .slice (some ⟨b,0,none⟩) 1 1)
 (h:∀v' w',w'.ownsRow base el 1 v' (n+1) (xs ++ [u])→w.grownBy w' v.ownBlock→(v'.ownBlock=v.ownBlock∨v'.ownBlock=some w.heap.size)→(r=[]∨S w')∧DL P l S Q r (e.set d v') w'):
 DL P l S Q ((i,true) :: r) e w:=by
 obtain ⟨v',w',hr,h2,h3,h4⟩:=x_append1 (d:=some d) (ty:=ty) (pos:=pos) (af:=af) (g:=none) ht hi hzs hs hown hx hu h1 hbytes hb0 hbase
 obtain ⟨h5,h6⟩:=h v' w' h2 h3 h4
 exact BK ho hr h5 h6
theorem Cz {P:Program} {ops:Array Oper} {N:Nat} {Q:Env→World→Prop} {e:Env} {w:World} {rest:List Oper} {d:Nat} {s x:Operand} {t el:TypeId} {ty:TypeId} {pos:String} {af:Array Edge} {z:Value} {size bytes base:Nat}
 {v:Value} {n:Nat} {xs:List Value} {ad:Addr} {m c:Nat} {news:List Value}
 (hown:w.ownsRow base el size v n xs) (hnews:∀j u,news[j]? =some u→w.cell? (ad.add j)=some u) (h1:∀u∈news,u.oneCell'=true) (hl:news.length=m * size) (hbytes:(n+m) * bytes≤140737488355328) (hb0:0<bytes) (hbase:base≤w.heap.size)
 (ht:P.underlying t=some (.slice el)) (hi:(P.info? el).map (fun i=>(i.zero,i.size,i.bytes))=some (some z,size,bytes)) (hzs:z.cells.size=size) (hsz:0<size)
 (hs:e.ev s=v) (hx:e.ev x= .slice (some ad) m c)
 (hk:okO N ⟨some d,.call { callee:=.builtin .append,args:=#[s,x],argTypes:=#[t,t] },ty,pos,af,none⟩=true)
 (h:∀v' w',w'.ownsRow base el size v' (n+m) (xs ++ news)→w.grownBy w' v.ownBlock→(v'.ownBlock=v.ownBlock∨v'.ownBlock=some w.heap.size)→EL P ops N Q rest (e.set d v') w'):
 EL P ops N Q (⟨some d,.call { callee:=.builtin .append,args:=#[s,x],argTypes:=#[t,t] },ty,pos,af,none⟩ :: rest) e w:=by
 obtain ⟨v',w',hr,h2,h3,_,h4⟩:=x_append (d:=some d) (ty:=ty) (pos:=pos) (af:=af) (g:=none) ht hi hzs hsz hs hown hx hl hnews h1 hbytes hb0 hbase
 exact Ab hr hk (h v' w' h2 h3 h4)
theorem CV {P:Program} {l:List Oper} {S:World→Prop} {Q:Env→World→Prop} {r:List (Nat×Bool)} {e:Env} {w:World} {i d:Nat} {s x:Operand} {t el:TypeId} {ty:TypeId} {pos:String} {af:Array Edge} {z:Value} {size bytes base:Nat}
 {v:Value} {n:Nat} {xs:List Value} {ad:Addr} {m c:Nat} {news:List Value}
 (hown:w.ownsRow base el size v n xs) (hnews:∀j u,news[j]? =some u→w.cell? (ad.add j)=some u) (h1:∀u∈news,u.oneCell'=true) (hl:news.length=m * size) (hbytes:(n+m) * bytes≤140737488355328) (hb0:0<bytes) (hbase:base≤w.heap.size)
 (ho:nthO l i=⟨some d,.call { callee:=.builtin .append,args:=#[s,x],argTypes:=#[t,t] },ty,pos,af,none⟩)
 (ht:P.underlying t=some (.slice el)) (hi:(P.info? el).map (fun i=>(i.zero,i.size,i.bytes))=some (some z,size,bytes)) (hzs:z.cells.size=size) (hsz:0<size)
 (hs:e.ev s=v) (hx:e.ev x= .slice (some ad) m c)
 (h:∀v' w',w'.ownsRow base el size v' (n+m) (xs ++ news)→w.grownBy w' v.ownBlock→(v'.ownBlock=v.ownBlock∨v'.ownBlock=some w.heap.size)→(r=[]∨S w')∧DL P l S Q r (e.set d v') w'):
 DL P l S Q ((i,true) :: r) e w:=by
 obtain ⟨v',w',hr,h2,h3,_,h4⟩:=x_append (d:=some d) (ty:=ty) (pos:=pos) (af:=af) (g:=none) ht hi hzs hsz hs hown hx hl hnews h1 hbytes hb0 hbase
 obtain ⟨h5,h6⟩:=h v' w' h2 h3 h4
 exact BK ho hr h5 h6
section
variable {P : Program} {N : Nat} {c : Code} {Q : Exit → Env → World → Prop} {e : Env} {w : World} {I : Nat → Env → World → Prop} {n i j : Nat}
def onlyN (Φ:Env→World→Prop):Exit→Env→World→Prop
 |.normal,e,w=>Φ e w
 |_,_,_=>False
theorem AR {Φ:Env→World→Prop} (h:Φ e w):onlyN Φ .normal e w:=h
theorem AW {c':Code} (Φ:Env→World→Prop) (h1:EC P N c (onlyN Φ) e w) (h2:∀e w,Φ e w→EC P N c' Q e w):EC P N (.seq c c') Q e w:=by
 refine Ae (EC.mono h1 fun x e w hx=>?_)
 cases x <;> first|exact h2 e w hx|exact hx.elim
theorem Bd {w:World} {base:Nat} {el:TypeId} {size:Nat} {v:Value} {n:Nat} {xs:List Value} (h:w.ownsRow base el size v n xs):v.oneCell'=true:=by
 rcases h.2 with ⟨rfl,_⟩|⟨g,cap,cur,rfl,_⟩ <;> rfl
theorem Aa (h:EC P N c Q e w):thenQ P N c Q .normal e w:=h
theorem AB (h:Q (.exit i) e w):thenQ P N c Q (.exit i) e w:=h
theorem AO (h:Q .ret e w):thenQ P N c Q .ret e w:=h
theorem Aw (m:Nat) (hm:m<n) (h:I m e w):Bi I n Q .normal e w:=⟨m,hm,h⟩
theorem AD (h:Q (.exit i) e w):Bi I n Q (.exit i) e w:=h
theorem Bt (h:Q .ret e w):Bi I n Q .ret e w:=h
theorem AA (h:Q .normal e w):blockQ i Q (.exit i) e w:=by
 show (bif Nat.beq i i then Q .normal e w else _)
 rw[Nat.beq_refl];exact h
theorem CP (hb:Nat.beq j i=false) (h:Q (.exit j) e w):blockQ i Q (.exit j) e w:=by
 show (bif Nat.beq j i then Q .normal e w else _)
 rw[hb];exact h
theorem Ap (h:Q .normal e w):blockQ i Q .normal e w:=h
theorem AS (h:Q .ret e w):blockQ i Q .ret e w:=h
end
end Go.Eng
namespace Go.Eng
open Go Go.RowKit
section
variable {P : Program} {w : World} (o : Obj)
theorem el_new {ops:Array Oper} {N:Nat} {Q:Env→World→Prop} {l:List Oper} {e:Env} (B:Nat) (hB:B≤w.heap.size) (h:∀W,W.heap[w.heap.size]? =some o→(∀zz,zz<w.heap.size→W.heap[zz]? =w.heap[zz]?)→W.heap.size=w.heap.size+1→Below B w W→Keep w W→EL P ops N Q l e W):EL P ops N Q l e (w.alloc o):=h _ (heap_alloc_new w o) (fun _ hi=>Below.heap_alloc _ _ _ hi) (BC w o) ((Below.refl B w).alloc hB o) (Keep.alloc w o)
theorem ec_new {N:Nat} {Q:Exit→Env→World→Prop} {c:Code} {e:Env} (B:Nat) (hB:B≤w.heap.size) (h:∀W,W.heap[w.heap.size]? =some o→(∀zz,zz<w.heap.size→W.heap[zz]? =w.heap[zz]?)→W.heap.size=w.heap.size+1→Below B w W→Keep w W→EC P N c Q e W):EC P N c Q e (w.alloc o):=h _ (heap_alloc_new w o) (fun _ hi=>Below.heap_alloc _ _ _ hi) (BC w o) ((Below.refl B w).alloc hB o) (Keep.alloc w o)
theorem dl_new {l:List Oper} {S:World→Prop} {Q:Env→World→Prop} {r:List (Nat×Bool)} {e:Env} (B:Nat) (hB:B≤w.heap.size) (h:∀W,W.heap[w.heap.size]? =some o→(∀zz,zz<w.heap.size→W.heap[zz]? =w.heap[zz]?)→W.heap.size=w.heap.size+1→Below B w W→Keep w W→DL P l S Q r e W):DL P l S Q r e (w.alloc o):=h _ (heap_alloc_new w o) (fun _ hi=>Below.heap_alloc _ _ _ hi) (BC w o) ((Below.refl B w).alloc hB o) (Keep.alloc w o)
theorem el_new0 {ops:Array Oper} {N:Nat} {Q:Env→World→Prop} {l:List Oper} {e:Env} (h:∀W,W.heap[w.heap.size]? =some o→(∀zz,zz<w.heap.size→W.heap[zz]? =w.heap[zz]?)→W.heap.size=w.heap.size+1→Below w.heap.size w W→Keep w W→EL P ops N Q l e W):EL P ops N Q l e (w.alloc o):=el_new o _ (Nat.le_refl _) h
theorem ec_new0 {N:Nat} {Q:Exit→Env→World→Prop} {c:Code} {e:Env} (h:∀W,W.heap[w.heap.size]? =some o→(∀zz,zz<w.heap.size→W.heap[zz]? =w.heap[zz]?)→W.heap.size=w.heap.size+1→Below w.heap.size w W→Keep w W→EC P N c Q e W):EC P N c Q e (w.alloc o):=ec_new o _ (Nat.le_refl _) h
theorem dl_new0 {l:List Oper} {S:World→Prop} {Q:Env→World→Prop} {r:List (Nat×Bool)} {e:Env} (h:∀W,W.heap[w.heap.size]? =some o→(∀zz,zz<w.heap.size→W.heap[zz]? =w.heap[zz]?)→W.heap.size=w.heap.size+1→Below w.heap.size w W→Keep w W→DL P l S Q r e W):DL P l S Q r e (w.alloc o):=dl_new o _ (Nat.le_refl _) h
end
end Go.Eng
namespace Go.Proofs.YteepnepebilckaaGreatDoor
open Go Go.Eng Go.RowKit
section
variable {w : World} {ρ : Operand → Value} {d : Option Tmp} {ty : TypeId} {pos : String} {af : Array Edge} {g : Option (Nat × Bool)}
theorem mixed:Tryz.prog.follows .mixedOrders=true:=by kernel_rfl
theorem FK {x0 x1 x2 x7:Operand} {a b c:Int} {p:Option Addr} (h0:ρ x0= .int .i32 a) (h1:ρ x1= .int .i64 b) (h2:ρ x2= .int .i8 c) (h7:ρ x7= .pointer p):
 (execOp ρ ⟨d,.build 94 #[(0,x0),(1,x1),(2,x2),(7,x7)],ty,pos,af,g⟩).run Tryz.prog w= .ok (.value (.agg #[.int .i32 a,.int .i64 b,.int .i8 c,nilS,nilS,nilS,nilS,.pointer p])) w:=by
 have key:(Instr.build 94 #[(0,Value.int .i32 a),(1,Value.int .i64 b),(2,Value.int .i8 c),(7,Value.pointer p)]).run Tryz.prog w= .ok (.agg #[.int .i32 a,.int .i64 b,.int .i8 c,nilS,nilS,nilS,nilS,.pointer p]) w:=by kernel_rfl
 simp [execOp,h0,h1,h2,h7,key]
theorem FG {x0 x1 x2 x3 x6:Operand} {a b c e:Int} {p:Option Addr} (h0:ρ x0= .int .i32 a) (h1:ρ x1= .int .i64 b) (h2:ρ x2= .int .i64 c) (h3:ρ x3= .int .i64 e) (h6:ρ x6= .pointer p):
 (execOp ρ ⟨d,.build 101 #[(0,x0),(1,x1),(2,x2),(3,x3),(6,x6)],ty,pos,af,g⟩).run Tryz.prog w= .ok (.value (.agg #[.int .i32 a,.int .i64 b,.int .i64 c,.int .i64 e,.pointer none,nilS,.pointer p])) w:=by
 have key:(Instr.build 101 #[(0,Value.int .i32 a),(1,Value.int .i64 b),(2,Value.int .i64 c),(3,Value.int .i64 e),(6,Value.pointer p)]).run Tryz.prog w= .ok (.agg #[.int .i32 a,.int .i64 b,.int .i64 c,.int .i64 e,.pointer none,nilS,.pointer p]) w:=by kernel_rfl
 simp [execOp,h0,h1,h2,h3,h6,key]
theorem Fd {x0:Operand} {p:Option Addr} (h0:ρ x0= .pointer p):
 (execOp ρ ⟨d,.build 103 #[(0,x0)],ty,pos,af,g⟩).run Tryz.prog w= .ok (.value (.agg #[.pointer p])) w:=by
 have key:(Instr.build 103 #[(0,Value.pointer p)]).run Tryz.prog w= .ok (.agg #[.pointer p]) w:=by kernel_rfl
 simp [execOp,h0,key]
theorem E1 {x0:Operand} {p:Option Addr} (h0:ρ x0= .agg #[.pointer p]):
 (execOp ρ ⟨d,.buildSlice 92 1 #[(0,x0)],ty,pos,af,g⟩).run Tryz.prog w= .ok (.value (.slice (some ⟨w.heap.size,0,none⟩) 1 1)) (w.alloc (.cells #[.pointer p] 103)):=by
 have key:(Instr.buildSlice 92 1 #[(0,Value.agg #[.pointer p])]).run Tryz.prog w= .ok (.slice (some ⟨w.heap.size,0,none⟩) 1 1) (w.alloc (.cells #[.pointer p] 103)):=by kernel_rfl
 simp [execOp,h0,key]
theorem C6:(execOp ρ ⟨d,.buildSlice 35 0 #[],ty,pos,af,g⟩).run Tryz.prog w= .ok (.value (.slice (some ⟨w.heap.size,0,none⟩) 0 0)) (w.alloc (.cells #[] 3)):=by
 have key:(Instr.buildSlice 35 0 #[]).run Tryz.prog w= .ok (.slice (some ⟨w.heap.size,0,none⟩) 0 0) (w.alloc (.cells #[] 3)):=by kernel_rfl
 simp [execOp,key]
theorem bld_sv {x0 x1 x2 x3:Operand} {a b c:Int} {p:Option Addr} {n m:Nat} (h0:ρ x0= .int .i64 a) (h1:ρ x1= .int .i64 b) (h2:ρ x2= .slice p n m) (h3:ρ x3= .int .i64 c):
 (execOp ρ ⟨d,.build 39 #[(0,x0),(1,x1),(2,x2),(3,x3)],ty,pos,af,g⟩).run Tryz.prog w= .ok (.value (.agg #[.int .i64 a,.int .i64 b,.slice p n m,.int .i64 c])) w:=by
 have key:(Instr.build 39 #[(0,Value.int .i64 a),(1,Value.int .i64 b),(2,Value.slice p n m),(3,Value.int .i64 c)]).run Tryz.prog w= .ok (.agg #[.int .i64 a,.int .i64 b,.slice p n m,.int .i64 c]) w:=by kernel_rfl
 simp [execOp,h0,h1,h2,h3,key]
theorem bsl_sv {x0:Operand} {a b c:Int} {p:Option Addr} {n m:Nat} (h0:ρ x0= .agg #[.int .i64 a,.int .i64 b,.slice p n m,.int .i64 c]):
 (execOp ρ ⟨d,.buildSlice 27 1 #[(0,x0)],ty,pos,af,g⟩).run Tryz.prog w= .ok (.value (.slice (some ⟨w.heap.size,0,none⟩) 1 1)) (w.alloc (.cells #[.int .i64 a,.int .i64 b,.slice p n m,.int .i64 c] 39)):=by
 have key:(Instr.buildSlice 27 1 #[(0,Value.agg #[.int .i64 a,.int .i64 b,.slice p n m,.int .i64 c])]).run Tryz.prog w= .ok (.slice (some ⟨w.heap.size,0,none⟩) 1 1) (w.alloc (.cells #[.int .i64 a,.int .i64 b,.slice p n m,.int .i64 c] 39)):=by kernel_rfl
 simp [execOp,h0,key]
theorem DZ:Bu Tryz.prog 39 #[.int .i64 0,.int .i64 0,nilS,.int .i64 0]:=by unfold Bu;kernel_rfl
theorem bld_sb {x0 x1 x2 x3:Operand} {a b c:Int} {p:Option Addr} {n m:Nat} (h0:ρ x0= .int .i64 a) (h1:ρ x1= .int .i64 b) (h2:ρ x2= .slice p n m) (h3:ρ x3= .int .i64 c):
 (execOp ρ ⟨d,.build 54 #[(0,x0),(1,x1),(2,x2),(3,x3)],ty,pos,af,g⟩).run Tryz.prog w= .ok (.value (.agg #[.int .i64 a,.int .i64 b,.slice p n m,.int .i64 c])) w:=by
 have key:(Instr.build 54 #[(0,Value.int .i64 a),(1,Value.int .i64 b),(2,Value.slice p n m),(3,Value.int .i64 c)]).run Tryz.prog w= .ok (.agg #[.int .i64 a,.int .i64 b,.slice p n m,.int .i64 c]) w:=by kernel_rfl
 simp [execOp,h0,h1,h2,h3,key]
theorem bsl_sb {x0:Operand} {a b c:Int} {p:Option Addr} {n m:Nat} (h0:ρ x0= .agg #[.int .i64 a,.int .i64 b,.slice p n m,.int .i64 c]):
 (execOp ρ ⟨d,.buildSlice 28 1 #[(0,x0)],ty,pos,af,g⟩).run Tryz.prog w= .ok (.value (.slice (some ⟨w.heap.size,0,none⟩) 1 1)) (w.alloc (.cells #[.int .i64 a,.int .i64 b,.slice p n m,.int .i64 c] 54)):=by
 have key:(Instr.buildSlice 28 1 #[(0,Value.agg #[.int .i64 a,.int .i64 b,.slice p n m,.int .i64 c])]).run Tryz.prog w= .ok (.slice (some ⟨w.heap.size,0,none⟩) 1 1) (w.alloc (.cells #[.int .i64 a,.int .i64 b,.slice p n m,.int .i64 c] 54)):=by kernel_rfl
 simp [execOp,h0,key]
theorem Ew:Bu Tryz.prog 54 #[.int .i64 0,.int .i64 0,nilS,.int .i64 0]:=by unfold Bu;kernel_rfl
theorem bld_iv {x0 x1 x2 x3:Operand} {a b c:Int} {p:Option Addr} {n m:Nat} (h0:ρ x0= .int .i64 a) (h1:ρ x1= .int .i64 b) (h2:ρ x2= .slice p n m) (h3:ρ x3= .int .i64 c):
 (execOp ρ ⟨d,.build 48 #[(0,x0),(1,x1),(2,x2),(3,x3)],ty,pos,af,g⟩).run Tryz.prog w= .ok (.value (.agg #[.int .i64 a,.int .i64 b,.slice p n m,.int .i64 c])) w:=by
 have key:(Instr.build 48 #[(0,Value.int .i64 a),(1,Value.int .i64 b),(2,Value.slice p n m),(3,Value.int .i64 c)]).run Tryz.prog w= .ok (.agg #[.int .i64 a,.int .i64 b,.slice p n m,.int .i64 c]) w:=by kernel_rfl
 simp [execOp,h0,h1,h2,h3,key]
theorem bsl_iv {x0:Operand} {a b c:Int} {p:Option Addr} {n m:Nat} (h0:ρ x0= .agg #[.int .i64 a,.int .i64 b,.slice p n m,.int .i64 c]):
 (execOp ρ ⟨d,.buildSlice 22 1 #[(0,x0)],ty,pos,af,g⟩).run Tryz.prog w= .ok (.value (.slice (some ⟨w.heap.size,0,none⟩) 1 1)) (w.alloc (.cells #[.int .i64 a,.int .i64 b,.slice p n m,.int .i64 c] 48)):=by
 have key:(Instr.buildSlice 22 1 #[(0,Value.agg #[.int .i64 a,.int .i64 b,.slice p n m,.int .i64 c])]).run Tryz.prog w= .ok (.slice (some ⟨w.heap.size,0,none⟩) 1 1) (w.alloc (.cells #[.int .i64 a,.int .i64 b,.slice p n m,.int .i64 c] 48)):=by kernel_rfl
 simp [execOp,h0,key]
theorem DV:Bu Tryz.prog 48 #[.int .i64 0,.int .i64 0,nilS,.int .i64 0]:=by unfold Bu;kernel_rfl
theorem bld_ib {x0 x1 x2 x3:Operand} {a b c:Int} {p:Option Addr} {n m:Nat} (h0:ρ x0= .int .i64 a) (h1:ρ x1= .int .i64 b) (h2:ρ x2= .slice p n m) (h3:ρ x3= .int .i64 c):
 (execOp ρ ⟨d,.build 53 #[(0,x0),(1,x1),(2,x2),(3,x3)],ty,pos,af,g⟩).run Tryz.prog w= .ok (.value (.agg #[.int .i64 a,.int .i64 b,.slice p n m,.int .i64 c])) w:=by
 have key:(Instr.build 53 #[(0,Value.int .i64 a),(1,Value.int .i64 b),(2,Value.slice p n m),(3,Value.int .i64 c)]).run Tryz.prog w= .ok (.agg #[.int .i64 a,.int .i64 b,.slice p n m,.int .i64 c]) w:=by kernel_rfl
 simp [execOp,h0,h1,h2,h3,key]
theorem bsl_ib {x0:Operand} {a b c:Int} {p:Option Addr} {n m:Nat} (h0:ρ x0= .agg #[.int .i64 a,.int .i64 b,.slice p n m,.int .i64 c]):
 (execOp ρ ⟨d,.buildSlice 23 1 #[(0,x0)],ty,pos,af,g⟩).run Tryz.prog w= .ok (.value (.slice (some ⟨w.heap.size,0,none⟩) 1 1)) (w.alloc (.cells #[.int .i64 a,.int .i64 b,.slice p n m,.int .i64 c] 53)):=by
 have key:(Instr.buildSlice 23 1 #[(0,Value.agg #[.int .i64 a,.int .i64 b,.slice p n m,.int .i64 c])]).run Tryz.prog w= .ok (.slice (some ⟨w.heap.size,0,none⟩) 1 1) (w.alloc (.cells #[.int .i64 a,.int .i64 b,.slice p n m,.int .i64 c] 53)):=by kernel_rfl
 simp [execOp,h0,key]
theorem Ep:Bu Tryz.prog 53 #[.int .i64 0,.int .i64 0,nilS,.int .i64 0]:=by unfold Bu;kernel_rfl
theorem bld_av {x0 x1 x2 x3:Operand} {a b c:Int} {p:Option Addr} {n m:Nat} (h0:ρ x0= .int .i64 a) (h1:ρ x1= .int .i64 b) (h2:ρ x2= .slice p n m) (h3:ρ x3= .int .i64 c):
 (execOp ρ ⟨d,.build 83 #[(0,x0),(1,x1),(2,x2),(3,x3)],ty,pos,af,g⟩).run Tryz.prog w= .ok (.value (.agg #[.int .i64 a,.int .i64 b,.slice p n m,.int .i64 c])) w:=by
 have key:(Instr.build 83 #[(0,Value.int .i64 a),(1,Value.int .i64 b),(2,Value.slice p n m),(3,Value.int .i64 c)]).run Tryz.prog w= .ok (.agg #[.int .i64 a,.int .i64 b,.slice p n m,.int .i64 c]) w:=by kernel_rfl
 simp [execOp,h0,h1,h2,h3,key]
theorem Gb {x0:Operand} {a b c:Int} {p:Option Addr} {n m:Nat} (h0:ρ x0= .agg #[.int .i64 a,.int .i64 b,.slice p n m,.int .i64 c]):
 (execOp ρ ⟨d,.buildSlice 59 1 #[(0,x0)],ty,pos,af,g⟩).run Tryz.prog w= .ok (.value (.slice (some ⟨w.heap.size,0,none⟩) 1 1)) (w.alloc (.cells #[.int .i64 a,.int .i64 b,.slice p n m,.int .i64 c] 83)):=by
 have key:(Instr.buildSlice 59 1 #[(0,Value.agg #[.int .i64 a,.int .i64 b,.slice p n m,.int .i64 c])]).run Tryz.prog w= .ok (.slice (some ⟨w.heap.size,0,none⟩) 1 1) (w.alloc (.cells #[.int .i64 a,.int .i64 b,.slice p n m,.int .i64 c] 83)):=by kernel_rfl
 simp [execOp,h0,key]
theorem D0:Bu Tryz.prog 83 #[.int .i64 0,.int .i64 0,nilS,.int .i64 0]:=by unfold Bu;kernel_rfl
theorem bld_ab {x0 x1 x2 x3:Operand} {a b c:Int} {p:Option Addr} {n m:Nat} (h0:ρ x0= .int .i64 a) (h1:ρ x1= .int .i64 b) (h2:ρ x2= .slice p n m) (h3:ρ x3= .int .i64 c):
 (execOp ρ ⟨d,.build 84 #[(0,x0),(1,x1),(2,x2),(3,x3)],ty,pos,af,g⟩).run Tryz.prog w= .ok (.value (.agg #[.int .i64 a,.int .i64 b,.slice p n m,.int .i64 c])) w:=by
 have key:(Instr.build 84 #[(0,Value.int .i64 a),(1,Value.int .i64 b),(2,Value.slice p n m),(3,Value.int .i64 c)]).run Tryz.prog w= .ok (.agg #[.int .i64 a,.int .i64 b,.slice p n m,.int .i64 c]) w:=by kernel_rfl
 simp [execOp,h0,h1,h2,h3,key]
theorem FN {x0:Operand} {a b c:Int} {p:Option Addr} {n m:Nat} (h0:ρ x0= .agg #[.int .i64 a,.int .i64 b,.slice p n m,.int .i64 c]):
 (execOp ρ ⟨d,.buildSlice 60 1 #[(0,x0)],ty,pos,af,g⟩).run Tryz.prog w= .ok (.value (.slice (some ⟨w.heap.size,0,none⟩) 1 1)) (w.alloc (.cells #[.int .i64 a,.int .i64 b,.slice p n m,.int .i64 c] 84)):=by
 have key:(Instr.buildSlice 60 1 #[(0,Value.agg #[.int .i64 a,.int .i64 b,.slice p n m,.int .i64 c])]).run Tryz.prog w= .ok (.slice (some ⟨w.heap.size,0,none⟩) 1 1) (w.alloc (.cells #[.int .i64 a,.int .i64 b,.slice p n m,.int .i64 c] 84)):=by kernel_rfl
 simp [execOp,h0,key]
theorem DP:Bu Tryz.prog 84 #[.int .i64 0,.int .i64 0,nilS,.int .i64 0]:=by unfold Bu;kernel_rfl
theorem Gw:(execOp ρ ⟨d,.build 30 #[],ty,pos,af,g⟩).run Tryz.prog w= .ok (.value (.agg #[nilS,nilS])) w:=by
 have key:(Instr.build 30 #[]).run Tryz.prog w= .ok (.agg #[nilS,nilS]) w:=by kernel_rfl
 simp [execOp,key]
theorem DC:Bu Tryz.prog 30 #[nilS,nilS]:=by unfold Bu;kernel_rfl
theorem GQ:(execOp ρ ⟨d,.build 25 #[],ty,pos,af,g⟩).run Tryz.prog w= .ok (.value (.agg #[nilS,nilS])) w:=by
 have key:(Instr.build 25 #[]).run Tryz.prog w= .ok (.agg #[nilS,nilS]) w:=by kernel_rfl
 simp [execOp,key]
theorem C9:Bu Tryz.prog 25 #[nilS,nilS]:=by unfold Bu;kernel_rfl
theorem GW:(execOp ρ ⟨d,.build 62 #[],ty,pos,af,g⟩).run Tryz.prog w= .ok (.value (.agg #[nilS,nilS])) w:=by
 have key:(Instr.build 62 #[]).run Tryz.prog w= .ok (.agg #[nilS,nilS]) w:=by kernel_rfl
 simp [execOp,key]
theorem CS:Bu Tryz.prog 62 #[nilS,nilS]:=by unfold Bu;kernel_rfl
theorem G0 {x0 x1 x3:Operand} {a b c:Int} (h0:ρ x0= .int .i64 a) (h1:ρ x1= .int .i64 b) (h3:ρ x3= .int .i64 c):
 (execOp ρ ⟨d,.build 83 #[(0,x0),(1,x1),(3,x3)],ty,pos,af,g⟩).run Tryz.prog w= .ok (.value (.agg #[.int .i64 a,.int .i64 b,nilS,.int .i64 c])) w:=by
 have key:(Instr.build 83 #[(0,Value.int .i64 a),(1,Value.int .i64 b),(3,Value.int .i64 c)]).run Tryz.prog w= .ok (.agg #[.int .i64 a,.int .i64 b,nilS,.int .i64 c]) w:=by kernel_rfl
 simp [execOp,h0,h1,h3,key]
theorem G5 {x0 x1 x3:Operand} {a b c:Int} (h0:ρ x0= .int .i64 a) (h1:ρ x1= .int .i64 b) (h3:ρ x3= .int .i64 c):
 (execOp ρ ⟨d,.build 84 #[(0,x0),(1,x1),(3,x3)],ty,pos,af,g⟩).run Tryz.prog w= .ok (.value (.agg #[.int .i64 a,.int .i64 b,nilS,.int .i64 c])) w:=by
 have key:(Instr.build 84 #[(0,Value.int .i64 a),(1,Value.int .i64 b),(3,Value.int .i64 c)]).run Tryz.prog w= .ok (.agg #[.int .i64 a,.int .i64 b,nilS,.int .i64 c]) w:=by kernel_rfl
 simp [execOp,h0,h1,h3,key]
theorem FV:Bu Tryz.prog 82 #[.pointer none,nilS,nilS,.map none,.bool false,nilS]:=by unfold Bu;kernel_rfl
theorem Dz:Bu Tryz.prog 103 #[.pointer none]:=by unfold Bu;kernel_rfl
end
end Go.Proofs.YteepnepebilckaaGreatDoor
namespace Go.Eng
open Go Go.RowKit
section
variable {P : Program} {w : World} {ρ : Operand → Value} {d : Option Tmp} {ty : TypeId} {pos : String} {af : Array Edge} {g : Option (Nat × Bool)}
theorem C2 {t el:TypeId} {x y:Operand} {z:Value} {bytes n:Nat} (ht:P.underlying t=some (.slice el)) (hi:(P.info? el).map (fun i=>(i.zero,i.size,i.bytes))=some (some z,1,bytes)) (hz:z.cells=#[z])
 (hx:ρ x= .int .i64 (n:Int)) (hy:ρ y= .int .i64 (n:Int)) (hb:bytes * n≤281474976710656) (h63:n≤9223372036854775807):
 (execOp ρ ⟨d,.makeSlice t x y,ty,pos,af,g⟩).run P w= .ok (.value (.slice (some ⟨w.heap.size,0,none⟩) n n)) (w.alloc (.cells (madeCells #[z] n) el)):=by
 have:=run_make_row' (P:=P) t el z bytes ht hi hz .i64 .i64 n hb h63 w
 simp [execOp,hx,hy,this]
theorem x_slice1 {t el:TypeId} {x:Operand} {b o n cap:Nat} {z:Value} {bytes:Nat} (ht:P.underlying t=some (.slice el)) (hi:(P.info? el).map (fun i=>(i.zero,i.size,i.bytes))=some (some z,1,bytes))
 (hx:ρ x= .slice (some ⟨b,o,none⟩) (n+1) cap) {c:Operand} (hc:ρ c= .int .i64 1):
 (execOp ρ ⟨d,.slice t x (some c) none none,ty,pos,af,g⟩).run P w= .ok (.value (.slice (some ⟨b,if cap=1 then o else o+1,none⟩) n (cap - 1))) w:=by
 obtain ⟨i,hi1,_,hi3,_⟩:=info_parts hi
 have:(Instr.slice t (.slice (some ⟨b,o,none⟩) (n+1) cap) (some (.int .i64 1)) none none).run P w= .ok (.slice (some ⟨b,if cap=1 then o else o+1,none⟩) n (cap - 1)) w:=by
  unfold Instr.slice Instr.sliceBounds Instr.sliceBound
  simp only [Sem.run_bind,run_underlying ht,Result.andThen_ok,Sem.run_pure,asIntOf]
  have h1:(0:Int)≤1∧(1:Int)≤((n+1:Nat):Int):=by omega
  simp only [if_pos h1,Sem.run_pure,Result.andThen_ok,sizeOf,typeInfo,Sem.run_bind]
  by_cases h:cap=1
  ·simp [h,hi1,hi3]
  simp [h,hi1,hi3,Addr.add]
 simp [execOp,hx,hc,Instr.sliceAt,run_underlying ht,this]
def Qu (w:World) (base:Nat) (el:TypeId) (v:Value) (xs:List Value):Prop:=
 ∃g off cap cur,v= .slice (some ⟨g,off,none⟩) xs.length cap∧base≤g∧w.heap[g]? =some (.cells cur el (0,0))∧off+cap≤cur.size∧xs.length≤cap∧cap≤maxLen∧∀k u,xs[k]? =some u→cur[off+k]? =some u
theorem Qu.lt {base:Nat} {el:TypeId} {v:Value} {xs:List Value} (h:Qu w base el v xs):∀k,v.ownBlock=some k→base≤k∧k<w.heap.size:=by
 intro k hk
 obtain ⟨g,off,cap,cur,rfl,hb,hg,_⟩:=h
 have hk:g=k:=Option.some.inj hk
 subst hk
 exact ⟨hb,(Array.getElem?_eq_some_iff.1 hg).1⟩
theorem Qu.congr {w':World} {base:Nat} {el:TypeId} {v:Value} {xs:List Value} (h:Qu w base el v xs) (hk:∀k,v.ownBlock=some k→w'.heap[k]? =w.heap[k]?):Qu w' base el v xs:=by
 obtain ⟨g,off,cap,cur,rfl,hb,hg,r⟩:=h
 exact ⟨g,off,cap,cur,rfl,hb,(hk g rfl).trans hg,r⟩
theorem Qu.head {base:Nat} {el:TypeId} {v x:Value} {xs:List Value} (h:Qu w base el v (x :: xs)):∃g off cap,v= .slice (some ⟨g,off,none⟩) (xs.length+1) cap∧w.cell? ⟨g,off+0,none⟩=some x∧
 Qu w base el (.slice (some ⟨g,if cap=1 then off else off+1,none⟩) xs.length (cap - 1)) xs:=by
 obtain ⟨g,off,cap,cur,rfl,hb,hg,hs,hl,hm,hc⟩:=h
 refine ⟨g,off,cap,rfl,?_,g,_,cap - 1,cur,rfl,hb,hg,?_,?_,?_,fun k u hk=>?_⟩
 ·rw[cell_of_row w g _ cur el (0,0) hg];exact hc 0 x rfl
 ·have:xs.length+1≤cap:=hl
  split <;> omega
 ·have:xs.length+1≤cap:=hl
  omega
 ·omega
 have h1:xs.length+1≤cap:=hl
 have h2:=(List.getElem?_eq_some_iff.1 hk).1
 rw[if_neg (by omega)]
 have:=hc (k+1) u (by simpa using hk)
 rw[show off+1+k=off+(k+1) by omega];exact this
theorem x_appendQ {t el:TypeId} {s x:Operand} {z:Value} {bytes base:Nat}
 (ht:P.underlying t=some (.slice el)) (hi:(P.info? el).map (fun i=>(i.zero,i.size,i.bytes))=some (some z,1,bytes)) (hzs:z.cells.size=1)
 {v:Value} {xs:List Value} (hs:ρ s=v) (hown:Qu w base el v xs)
 {b:Nat} {u:Value} (hx:ρ x= .slice (some ⟨b,0,none⟩) 1 1) (hu:w.cell? ⟨b,0,none⟩=some u) (h1:u.oneCell'=true)
 (hbytes:(xs.length+1) * bytes≤140737488355328) (hb0:0<bytes) (hbase:base≤w.heap.size):
 ∃v' w',(execOp ρ ⟨d,.call { callee:=.builtin .append,args:=#[s,x],argTypes:=#[t,t] },ty,pos,af,g⟩).run P w= .ok (.value v') w'∧
  Qu w' base el v' (xs ++ [u])∧w.grownBy w' v.ownBlock∧(v'.ownBlock=v.ownBlock∨v'.ownBlock=some w.heap.size):=by
 obtain ⟨i,hi1,hi2,hi3,hi4⟩:=info_parts hi
 have h63:xs.length+1≤maxLen:=by
  have:xs.length+1≤(xs.length+1) * bytes:=Nat.le_mul_of_pos_right _ hb0
  simp only [maxLen];omega
 have hnews:∀j y,[u][j]? =some y→w.cell? ((⟨b,0,none⟩:Addr).add j)=some y:=fun j y hj=>by
  cases j with
  |zero=>simp at hj;subst hj;simpa [Addr.add] using hu
  |succ j=>simp at hj
 have h1':∀y∈ [u],y.oneCell'=true:=fun y hy=>by simp at hy;subst hy;exact h1
 obtain ⟨gg,off,cap,cur,rfl,hb,hg,hsz,hl,hm,hc⟩:=hown
 by_cases hr:xs.length+1≤cap
 ·have hlt:off+xs.length<cur.size:=by omega
  have hr2:=run_append_room_cells (P:=P) w t ty el i ht hi1 gg off xs.length cap ⟨b,0,none⟩ 1 1 [u] (by rw[hi3];rfl) hnews h1' hr
   (fun j hj=>by
     have:j=0:=by simpa using hj
     subst this
     rw[hi3,cell_of_row w gg _ cur el (0,0) hg,Nat.mul_one,Nat.add_zero,Array.getElem?_eq_getElem hlt];rfl)
   (fun j hj=>frozen_of_row w gg _ cur el hg)
  refine ⟨.slice (some ⟨gg,off,none⟩) (xs.length+1) cap,w.setCells gg (off+xs.length * i.size) [u],by unfold execOp;simp only [resolve,invoke,builtin,Sem.run_bind,Sem.run_pure,Result.andThen_ok,List.map_toArray,List.map_cons,List.map_nil,hs,hx,hr2],?_,?_,.inl rfl⟩
  ·rw[hi3,Nat.mul_one]
   refine ⟨gg,off,cap,cur.setIfInBounds (off+xs.length) u,by simp,hb,?_,by simpa using hsz,by simpa using hr,hm,fun k y hk=>?_⟩
   ·show (w.setCell ⟨gg,off+xs.length,none⟩ u).heap[gg]? =_
    unfold World.setCell
    simp only [Array.getElem?_modify,if_true]
    rw[hg]
    rfl
   rw[Array.getElem?_setIfInBounds]
   by_cases e:k<xs.length
   ·rw[List.getElem?_append_left e] at hk
    rw[if_neg (by omega)]
    exact hc k y hk
   have hk1:=(List.getElem?_eq_some_iff.1 hk).1
   have:k=xs.length:=by simp at hk1;omega
   subst this
   rw[List.getElem?_append_right (Nat.le_refl _)] at hk
   simp at hk
   subst hk
   rw[if_pos rfl,if_pos hlt]
  refine ⟨rfl,rfl,rfl,?_,fun k hk hne=>?_⟩
  ·show w.heap.size≤(w.setCell _ u).heap.size
   simp [World.setCell]
  exact Below.heap_setCell _ _ _ _ (fun e=>hne (by rw[e];rfl))
 obtain ⟨v',w',hr2,h2,h3⟩:=run_append_arg_grows (P:=P) w t ty el i z 1 bytes ht hi1 hi2 hi3 hi4 hzs (by omega) ⟨gg,off,none⟩ xs.length cap xs (by simp) (fun j y hj=>by
  rw[Addr.add_lit,cell_of_row w gg _ cur el (0,0) hg];exact hc j y hj) ⟨b,0,none⟩ 1 1 [u] rfl hnews (by omega) h63 hbytes
 refine ⟨v',w',by unfold execOp;simp only [resolve,invoke,builtin,Sem.run_bind,Sem.run_pure,Result.andThen_ok,List.map_toArray,List.map_cons,List.map_nil,hs,hx,hr2],?_,⟨h3.os,h3.tape,h3.output,h3.size,fun k hk _=>h3.block k hk (by simp)⟩,?_⟩
 ·rcases h2.2 with ⟨_,h0⟩|⟨g',cap',cur',rfl,hb',hg',hn',hm',hs',ht'⟩
  ·omega
  refine ⟨g',0,cap',cur',by simp,by omega,hg',by omega,by simpa using hn',hm',fun k y hk=>?_⟩
  rw[← ht',List.getElem?_take] at hk
  split at hk
  ·rw[Array.getElem?_toList] at hk
   rw[Nat.zero_add];exact hk
  cases hk
 rcases h2.2 with ⟨_,h0⟩|⟨g',cap',cur',rfl,hb',hg',_⟩
 ·omega
 right
 have hr3:=run_append_grow (P:=P) w t ty el i z ht hi1 hi2 ⟨gg,off,none⟩ xs.length cap xs (by rw[hi3];simp) (fun j y hj=>by
  rw[Addr.add_lit,cell_of_row w gg _ cur el (0,0) hg];exact hc j y hj) ⟨b,0,none⟩ 1 1 [u] (by rw[hi3];rfl) hnews (by omega) (by simp only [maxLen] at h63;omega) (growslice_fits (by omega) (by rw[hi4];exact hbytes))
 rw[hr3] at hr2
 injection hr2 with h4 h5
 rw[← h4];rfl
end
theorem FA {P:Program} {ops:Array Oper} {N:Nat} {Q:Env→World→Prop} {e:Env} {w:World} {rest:List Oper} {d:Nat} {s x:Operand} {t el:TypeId} {ty:TypeId} {pos:String} {af:Array Edge} {z:Value} {bytes base:Nat}
 {v:Value} {xs:List Value} {b:Nat} {u:Value}
 (hown:Qu w base el v xs) (hu:w.cell? ⟨b,0,none⟩=some u) (h1:u.oneCell'=true) (hbytes:(xs.length+1) * bytes≤140737488355328) (hb0:0<bytes) (hbase:base≤w.heap.size)
 (ht:P.underlying t=some (.slice el)) (hi:(P.info? el).map (fun i=>(i.zero,i.size,i.bytes))=some (some z,1,bytes)) (hzs:z.cells.size=1)
 (hs:e.ev s=v) (hx:e.ev x= .slice (some ⟨b,0,none⟩) 1 1)
 (hk:okO N ⟨some d,.call { callee:=.builtin .append,args:=#[s,x],argTypes:=#[t,t] },ty,pos,af,none⟩=true)
 (h:∀v' w',Qu w' base el v' (xs ++ [u])→w.grownBy w' v.ownBlock→(v'.ownBlock=v.ownBlock∨v'.ownBlock=some w.heap.size)→EL P ops N Q rest (e.set d v') w'):
 EL P ops N Q (⟨some d,.call { callee:=.builtin .append,args:=#[s,x],argTypes:=#[t,t] },ty,pos,af,none⟩ :: rest) e w:=by
 obtain ⟨v',w',hr,h2,h3,h4⟩:=x_appendQ (d:=some d) (ty:=ty) (pos:=pos) (af:=af) (g:=none) ht hi hzs hs hown hx hu h1 hbytes hb0 hbase
 exact Ab hr hk (h v' w' h2 h3 h4)
end Go.Eng
namespace Go.Eng
open Go Go.RowKit
def Qf (Ψ:Act→World→Prop):Exit→Act→World→Prop
 |.normal,a,w=>Ψ a w
 |_,_,_=>False
theorem not_letsOut {Ψ:Act→World→Prop}:¬ LetsOut (Qf Ψ):=fun ⟨_,_,h⟩=>h
theorem wp_cut {P:Program} {o:Oper} {a:Act} {w:World} {K K':Act→World→Prop} {Ψ:Act→World→Prop} {Q:Exit→Act→World→Prop} (h:∀a w,K a w→K' a w)
 (hh:o.wp P a w K (Qf Ψ)):o.wp P a w K' Q:=by
 unfold Oper.wp at *
 generalize (execOp a.eval o).run P w=r at *
 cases r with
 |ok n w'=>
  cases n <;> simp only [Oper.upon] at hh ⊢ <;>
   first
    |exact h _ _ hh
    |exact Calls.mono hh (fun e w'' he=>by cases e <;> first|exact h _ _ he|exact he.elim|exact absurd he not_letsOut)
    |exact Rows.mono hh (fun _ _ he=>h _ _ he)
 |halt x w'=>cases x <;> simp only [Oper.upon] at hh ⊢ <;> first|exact hh|exact hh.elim
theorem wpList_cut {P:Program} {ops:Array Oper} {Q:Exit→Act→World→Prop} {l2:List Oper}:∀{l1:List Oper} {a:Act} {w:World},wpList P ops (Qf (wpList P ops Q l2)) l1 a w→wpList P ops Q (l1 ++ l2) a w
 | [],_,_,h=>h
 |o :: l1,a,w,h=>by
  show wpList P ops Q (o :: (l1 ++ l2)) a w
  unfold wpList at h ⊢
  split
  ·rename_i hw
   rw[if_pos hw] at h
   rcases h with h|⟨_,h⟩
   ·exact .inl (wp_cut (fun _ _ h=>wpList_cut h) h)
   exact absurd h not_letsOut
  rename_i hw
  rw[if_neg hw] at h
  exact wpList_cut h
theorem Cm {P:Program} {ops:Array Oper} {N:Nat} {Q:Env→World→Prop} {l:List Oper} {e:Env} {w:World} (n:Nat) (Φ:Env→World→Prop)
 (h1:EL P ops N Φ (l.take n) e w) (h2:∀e w,Φ e w→EL P ops N Q (l.drop n) e w):EL P ops N Q l e w:=by
 intro Qx a hr hq
 rw[← List.take_append_drop n l]
 exact wpList_cut (h1 _ a hr fun e' a' w' hr' hΦ=>h2 e' w' hΦ Qx a' hr' hq)
theorem DL_cut {P:Program} {l:List Oper} {S:World→Prop} {Q:Env→World→Prop}:∀{r:List (Nat×Bool)} {e:Env} {w:World} (n:Nat) (Φ:Env→World→Prop),
 (r.take n).all (fun x=> !x.2)=true→DL P l S Φ (r.take n) e w→(∀e w,Φ e w→DL P l S Q (r.drop n) e w)→DL P l S Q r e w
 |r,_,_,0,_,_,h1,h2=>by simpa using h2 _ _ (by simpa [DL] using h1)
 | [],_,_,_+1,_,_,h1,h2=>h2 _ _ h1
 |(i,true) :: r,_,_,n+1,_,hb,_,_=>by simp at hb
 |(i,false) :: r,e,w,n+1,Φ,hb,h1,h2=>by
  obtain ⟨v,hv,h1⟩:=h1
  exact ⟨v,hv,DL_cut n Φ (by simpa using hb) h1 h2⟩
theorem Bz {P:Program} {ops:Array Oper} {N:Nat} {Q:Env→World→Prop} {e:Env} {w:World} {rest:List Oper} {d:Nat} {op:Op} {ty:TypeId} {pos:String} {af:Array Edge} {j:Nat} {b:Bool}
 (hg:gEv ops e j=none) (hk:okG N ops ⟨some d,op,ty,pos,af,some (j,b)⟩=true)
 (h:EL P ops N Q rest (e.set d undef) w):EL P ops N Q (⟨some d,op,ty,pos,af,some (j,b)⟩ :: rest) e w:=by
 intro Qx a hr hq
 have hw:Region.wanted ⟨some d,op,ty,pos,af,some (j,b)⟩ (yielded ops a.tmps)=false:=by
  rw[hr.wanted ops _ hk]
  simp [Region.wanted,hg]
 unfold wpList
 rw[hw]
 exact h Qx _ (hr.set d undef) hq
theorem A6 {P:Program} {l:List Oper} {S:World→Prop} {Q:Env→World→Prop} {r:List (Nat×Bool)} {e:Env} {w:World} {i d:Nat} {op:Op} {ty:TypeId} {pos:String} {af:Array Edge} {j:Nat} {b:Bool}
 (ho:nthO l i=⟨some d,op,ty,pos,af,some (j,b)⟩) (hg:gEv l.toArray e j=none)
 (h:DL P l S Q r (e.set d undef) w):DL P l S Q ((i,false) :: r) e w:=by
 have hw:Ci l e i=false:=by
  unfold Ci Region.wanted;rw[ho];dsimp only;rw[hg];rfl
 refine ⟨undef,fun w' _=>.inr ⟨hw,rfl⟩,?_⟩
 rw[ho];exact h
def orN (Φ:Env→World→Prop) (Q:Exit→Env→World→Prop):Exit→Env→World→Prop
 |.normal,e,w=>Φ e w
 |x,e,w=>Q x e w
theorem C5 {Φ:Env→World→Prop} {Q:Exit→Env→World→Prop} {e:Env} {w:World} (h:Φ e w):orN Φ Q .normal e w:=h
theorem Co {Φ:Env→World→Prop} {Q:Exit→Env→World→Prop} {e:Env} {w:World} (h:Q .ret e w):orN Φ Q .ret e w:=h
theorem Cg {P:Program} {N:Nat} {c c':Code} {Q:Exit→Env→World→Prop} {e:Env} {w:World} (Φ:Env→World→Prop) (h1:EC P N c (orN Φ Q) e w) (h2:∀e w,Φ e w→EC P N c' Q e w):EC P N (.seq c c') Q e w:=by
 refine Ae (EC.mono h1 fun x e w hx=>?_)
 cases x <;> first|exact h2 e w hx|exact hx
end Go.Eng
namespace Go.Proofs.YteepnepebilckaaGreatDoor
open Go Go.Eng Go.RowKit
structure Qd where
 x:Int
 y:Int
 l:List Int
 z:Int
instance:Inhabited Qd:=⟨⟨0,0,[],0⟩⟩
def q4 (q:Qd) (s:Value):List Value:=[.int .i64 q.x,.int .i64 q.y,s,.int .i64 q.z]
def qflat:List Qd→List Value→List Value
 |q :: l,s :: ss=>q4 q s ++ qflat l ss
 |_,_=>[]
theorem qflat_app:∀{l:List Qd} {ss:List Value} {q:Qd} {s:Value},ss.length=l.length→qflat (l ++ [q]) (ss ++ [s])=qflat l ss ++ q4 q s
 | [],[],q,s,_=>by simp [qflat]
 | [],_ :: _,_,_,h=>by simp at h
 |_ :: _,[],_,_,h=>by simp at h
 |a :: l,b :: ss,q,s,h=>by
  show q4 a b ++ qflat (l ++ [q]) (ss ++ [s])=(q4 a b ++ qflat l ss) ++ q4 q s
  rw[qflat_app (by simpa using h),List.append_assoc]
theorem qflat_get:∀{l:List Qd} {ss:List Value} {k j:Nat} {v:Value},ss.length=l.length→k<l.length→(q4 (l.getD k default) (ss.getD k nilS))[j]? =some v→(qflat l ss)[k * 4+j]? =some v
 | [],_,k,_,_,_,h,_=>by simp at h
 |_ :: _,[],_,_,_,h,_,_=>by simp at h
 |a :: l,b :: ss,0,j,v,hs,hk,hv=>by
  have hj:j<4:=by
   have:=(List.getElem?_eq_some_iff.1 hv).1
   simpa [q4] using this
  show (q4 a b ++ qflat l ss)[0 * 4+j]? =some v
  rw[List.getElem?_append_left (by simp [q4];omega)]
  simpa using hv
 |a :: l,b :: ss,k+1,j,v,hs,hk,hv=>by
  show (q4 a b ++ qflat l ss)[(k+1) * 4+j]? =some v
  rw[List.getElem?_append_right (by simp [q4];omega)]
  have:(k+1) * 4+j - (q4 a b).length=k * 4+j:=by simp [q4];omega
  rw[this]
  exact qflat_get (by simpa using hs) (by simpa using hk) (by simpa using hv)
def Loose (w:World) (lo X Y:Nat) (o:Option Nat) (s:Value) (l:List Int):Prop:=
 IntsV w s l∧(l=[]∨∀b,s.ownBlock=some b→b<w.heap.size∧lo≤b∧b≠X∧b≠Y∧o≠some b)
def QRow (w:World) (base:Nat) (el:TypeId) (lo X Y:Nat) (R:Value) (l:List Qd):Prop:=
 lo≤base∧R.ownBlock≠some X∧R.ownBlock≠some Y∧∃ss:List Value,ss.length=l.length∧w.ownsRow base el 4 R l.length (qflat l ss)∧∀k,k<l.length→Loose w lo X Y R.ownBlock (ss.getD k nilS) (l.getD k default).l
theorem QRow.nil (w:World) (base:Nat) (el:TypeId) (lo X Y:Nat) (h:lo≤base):QRow w base el lo X Y nilS []:=
 ⟨h,(by intro h;cases h),(by intro h;cases h),[],rfl,⟨rfl,.inl ⟨rfl,rfl⟩⟩,fun _ h=>absurd h (Nat.not_lt_zero _)⟩
theorem Loose.congr {w w':World} {lo X Y:Nat} {o o':Option Nat} {s:Value} {l:List Int} (h:Loose w lo X Y o s l)
 (hk:∀k,k<w.heap.size→lo≤k→k≠X→k≠Y→o≠some k→w'.heap[k]? =w.heap[k]?) (hs:w.heap.size≤w'.heap.size) (ho:∀k,k<w.heap.size→o≠some k→o'≠some k):Loose w' lo X Y o' s l:=by
 obtain ⟨⟨a,c,hv,hlc,hl⟩,h2⟩:=h
 rcases h2 with h2|h2
 ·exact ⟨⟨a,c,hv,hlc,.inl h2⟩,.inl h2⟩
 refine ⟨⟨a,c,hv,hlc,?_⟩,.inr fun b hb=>?_⟩
 ·rcases hl with hl|⟨b,off,ha,hc⟩
  ·exact .inl hl
  refine .inr ⟨b,off,ha,fun k hk'=>?_⟩
  have hb:=h2 b (by rw[hv,ha];rfl)
  rw[World.cell?_of_block (w:=w) (hk b hb.1 hb.2.1 hb.2.2.1 hb.2.2.2.1 hb.2.2.2.2)]
  exact hc k hk'
 have:=h2 b hb
 exact ⟨by omega,this.2.1,this.2.2.1,this.2.2.2.1,ho b this.1 this.2.2.2.2⟩
theorem As {w:World} {base:Nat} {el:TypeId} {size:Nat} {v:Value} {n:Nat} {xs:List Value} (h:w.ownsRow base el size v n xs):∀k,v.ownBlock=some k→base≤k∧k<w.heap.size:=by
 intro k hk
 rcases h.2 with ⟨rfl,_⟩|⟨g,cap,cur,rfl,hb,hg,_⟩
 ·simp [Value.ownBlock] at hk
 simp only [Value.ownBlock,Option.some.injEq] at hk
 subst hk
 exact ⟨hb,(Array.getElem?_eq_some_iff.1 hg).1⟩
theorem Ax {w w':World} {base:Nat} {el:TypeId} {size:Nat} {v:Value} {n:Nat} {xs:List Value} (h:w.ownsRow base el size v n xs) (hk:∀k,v.ownBlock=some k→w'.heap[k]? =w.heap[k]?):w'.ownsRow base el size v n xs:=by
 refine ⟨h.1,?_⟩
 rcases h.2 with h2|⟨g,cap,cur,rfl,hb,hg,hr⟩
 ·exact .inl h2
 exact .inr ⟨g,cap,cur,rfl,hb,(hk g rfl).trans hg,hr⟩
theorem QRow.stay {w w':World} {base:Nat} {el:TypeId} {lo X Y:Nat} {R:Value} {l:List Qd} (h:QRow w base el lo X Y R l)
 (hk:∀k,k<w.heap.size→lo≤k→k≠X→k≠Y→w'.heap[k]? =w.heap[k]?) (hs:w.heap.size≤w'.heap.size):QRow w' base el lo X Y R l:=by
 obtain ⟨hlo,hX,hY,ss,hl,hrow,hloose⟩:=h
 exact ⟨hlo,hX,hY,ss,hl,Ax hrow fun k e=>hk k (As hrow k e).2 (Nat.le_trans hlo (As hrow k e).1) (fun e2=>hX (e2 ▸ e)) (fun e2=>hY (e2 ▸ e)),fun k hk'=>(hloose k hk').congr (fun j h1 h2 h3 h4 _=>hk j h1 h2 h3 h4) hs (fun _ _ h=>h)⟩
theorem QRow.push {w w':World} {base:Nat} {el:TypeId} {lo X Y:Nat} {R R':Value} {l:List Qd} {ss:List Value} {q:Qd} {s:Value}
 (hlo:lo≤base) (hXR:R.ownBlock≠some X) (hYR:R.ownBlock≠some Y) (hl:ss.length=l.length) (hloose:∀k,k<l.length→Loose w lo X Y R.ownBlock (ss.getD k nilS) (l.getD k default).l)
 (hs:Loose w lo X Y R.ownBlock s q.l) (hrow:w'.ownsRow base el 4 R' (l.length+1) (qflat l ss ++ q4 q s))
 (hgr:w.grownBy w' R.ownBlock) (hR:R'.ownBlock=R.ownBlock∨R'.ownBlock=some w.heap.size) (hX:X<w.heap.size) (hY:Y<w.heap.size) (o:Nat):
 QRow (w'.setCell ⟨X,o,none⟩ R') base el lo X Y R' (l ++ [q]):=by
 have hRX:R'.ownBlock≠some X:=by
  rcases hR with e|e
  ·rw[e];exact hXR
  rw[e];intro e2;have:=Option.some.inj e2;omega
 have hRY:R'.ownBlock≠some Y:=by
  rcases hR with e|e
  ·rw[e];exact hYR
  rw[e];intro e2;have:=Option.some.inj e2;omega
 have hsz:w.heap.size≤w'.heap.size:=hgr.size
 have hk:∀k,k<w.heap.size→lo≤k→k≠X→k≠Y→R.ownBlock≠some k→(w'.setCell ⟨X,o,none⟩ R').heap[k]? =w.heap[k]? :=fun k h1 _ h2 _ h3=>by
  rw[Below.heap_setCell _ _ _ _ h2,hgr.block k h1 (fun e=>h3 e.symm)]
 have ho:∀k,k<w.heap.size→R.ownBlock≠some k→R'.ownBlock≠some k:=fun k h1 h2=>by
  rcases hR with e|e
  ·rw[e];exact h2
  rw[e];intro e2;have:=Option.some.inj e2;omega
 have hsz':w.heap.size≤(w'.setCell ⟨X,o,none⟩ R').heap.size:=by simpa [World.setCell] using hsz
 refine ⟨hlo,hRX,hRY,ss ++ [s],by simp [hl],?_,fun k hk'=>?_⟩
 ·rw[qflat_app hl]
  rw[List.length_append]
  exact Ax hrow fun k e=>Below.heap_setCell _ _ _ _ (fun e2=>hRX (by rw[e,e2]))
 by_cases hlt:k<l.length
 ·have h1:(ss ++ [s]).getD k nilS=ss.getD k nilS:=by rw[List.getD_eq_getElem?_getD,List.getElem?_append_left (by omega),← List.getD_eq_getElem?_getD]
  have h2:(l ++ [q]).getD k default=l.getD k default:=by rw[List.getD_eq_getElem?_getD,List.getElem?_append_left hlt,← List.getD_eq_getElem?_getD]
  rw[h1,h2]
  exact (hloose k hlt).congr hk hsz' ho
 have hke:k=l.length:=by simp at hk';omega
 subst hke
 have h1:(ss ++ [s]).getD l.length nilS=s:=by rw[List.getD_eq_getElem?_getD,List.getElem?_append_right (by omega),hl];simp
 have h2:(l ++ [q]).getD l.length default=q:=by rw[List.getD_eq_getElem?_getD,List.getElem?_append_right (by omega)];simp
 rw[h1,h2]
 exact hs.congr hk hsz' ho
theorem QRow.read {w:World} {base:Nat} {el:TypeId} {lo X Y:Nat} {R:Value} {l:List Qd} (h:QRow w base el lo X Y R l):
 ∃a c,R= .slice a l.length c∧(l=[]∨∃b o,a=some ⟨b,o,none⟩∧∀k,k<l.length→Quad w b (o+k * 4) (l.getD k default).x (l.getD k default).y (l.getD k default).l (l.getD k default).z):=by
 obtain ⟨hlo,hX,hY,ss,hl,hrow,hloose⟩:=h
 rcases hrow.2 with ⟨rfl,h0⟩|⟨g,cap,cur,rfl,hb,hg,h1,h2,h3,h4⟩
 ·refine ⟨none,0,by rw[h0],.inl (List.eq_nil_of_length_eq_zero h0)⟩
 refine ⟨some ⟨g,0,none⟩,cap,rfl,.inr ⟨g,0,rfl,fun k hk=>?_⟩⟩
 refine ⟨ss.getD k nilS,fun j v hv=>?_,(hloose k hk).1⟩
 have hj:j<4:=by simpa using (List.getElem?_eq_some_iff.1 hv).1
 have h5:=qflat_get (j:=j) (v:=v) hl hk hv
 rw[← h4,List.getElem?_take] at h5
 split at h5
 ·rw[cell_of_row w g _ cur el (0,0) hg]
  rw[Array.getElem?_toList] at h5
  rw[show 0+k * 4+j=k * 4+j by omega]
  exact h5
 cases h5
def Own (B:Nat) (w':World) (v:Value) (f:Fn):Prop:=∀w'':World,(∀k,B≤k→k<w'.heap.size→w''.heap[k]? =w'.heap[k]?)→w'.heap.size≤w''.heap.size→FnV w'' v f
theorem Own.at {B:Nat} {w':World} {v:Value} {f:Fn} (h:Own B w' v f):FnV w' v f:=h w' (fun _ _ _=>rfl) (Nat.le_refl _)
theorem below_setRow' {B g:Nat} {w0 w:World} (hb:Below B w0 w) (hBg:B≤g) (cs:Array Value):Below B w0 (w.setRow g cs):=
 hb.trans ⟨rfl,rfl,rfl,by simp [World.setRow],fun k hk=>setRow_other _ _ _ _ (by omega)⟩
theorem Cv {P:Program} {l:List Oper} {S:World→Prop} {Q:Env→World→Prop} {r:List (Nat×Bool)} {e:Env} {w:World} {i d:Nat} {s x:Operand} {t el:TypeId} {ty:TypeId} {pos:String} {af:Array Edge} {bytes base:Nat}
 {v:Value} {n:Nat} {xs:List Value} {sa:Option Addr} {sc:Nat} {ys:List Int}
 (hints0:IntsC w sa ys sc) (hown:w.ownsRow base el 1 v n xs) (hbytes:(n+ys.length) * bytes≤140737488355328) (hb0:0<bytes) (hbase:base≤w.heap.size)
 (ho:nthO l i=⟨some d,.call { callee:=.builtin .append,args:=#[s,x],argTypes:=#[t,t] },ty,pos,af,none⟩)
 (ht:P.underlying t=some (.slice el)) (hi:(P.info? el).map (fun i=>(i.zero,i.size,i.bytes))=some (some (.int .i64 0),1,bytes))
 (hs:e.ev s=v) (hx:e.ev x= .slice sa ys.length sc)
 (h:∀v' w',w'.ownsRow base el 1 v' (n+ys.length) (xs ++ ys.map (.int .i64))→w.grownBy w' v.ownBlock→(v'.ownBlock=v.ownBlock∨v'.ownBlock=some w.heap.size)→(r=[]∨S w')∧DL P l S Q r (e.set d v') w'):
 DL P l S Q ((i,true) :: r) e w:=by
 have hints:=hints0.2
 rcases sa with _|ad
 ·have hy:ys=[]:=by
   rcases hints with h|⟨b,o,h,_⟩
   ·exact h
   cases h
  subst hy
  obtain ⟨h1,h2⟩:=h v w (by simpa using hown) ⟨rfl,rfl,rfl,Nat.le_refl _,fun _ _ _=>rfl⟩ (.inl rfl)
  exact BK ho (ES ht hi hs hown hx) h1 h2
 refine CV (news:=ys.map (.int .i64)) (m:=ys.length) (c:=sc) (ad:=ad) hown ?_ ?_ (by simp) hbytes hb0 hbase ho ht hi rfl (by decide) hs hx h
 ·intro j u hj
  rcases hints with hy|⟨b,o,ha,hc⟩
  ·subst hy;simp at hj
  have ha:=Option.some.inj ha
  subst ha
  rw[List.getElem?_map] at hj
  cases hyj:ys[j]? with
  |none=>rw[hyj] at hj;cases hj
  |some y=>
   rw[hyj] at hj
   have hu:Value.int .i64 y=u:=Option.some.inj hj
   have hlt:=(List.getElem?_eq_some_iff.1 hyj).1
   rw[Addr.add_lit,← hu]
   have:=hc j hlt
   rw[List.getD_eq_getElem?_getD,hyj] at this
   exact this
 intro u hu
 obtain ⟨y,_,rfl⟩:=List.mem_map.1 hu
 rfl
theorem BY {w:World} {base:Nat} {el:TypeId} {v:Value} {l:List Int} (h:w.ownsRow base el 1 v l.length (l.map (.int .i64))):IntsV w v l:=by
 rcases h.2 with ⟨rfl,h0⟩|⟨g,cap,cur,rfl,hb,hg,h1,h2,h3,h4⟩
 ·exact ⟨none,0,by rw[h0],Nat.le_of_eq h0,.inl (List.eq_nil_of_length_eq_zero h0)⟩
 refine ⟨some ⟨g,0,none⟩,cap,rfl,h1,.inr ⟨g,0,rfl,fun k hk=>?_⟩⟩
 rw[cell_of_row w g _ cur el (0,0) hg]
 have h5:(l.map (Value.int .i64))[k]? =some (.int .i64 (l.getD k 0)):=by
  rw[List.getElem?_map,List.getElem?_eq_getElem hk,List.getD_eq_getElem?_getD,List.getElem?_eq_getElem hk];rfl
 rw[← h4,List.getElem?_take] at h5
 split at h5
 ·rw[Array.getElem?_toList] at h5
  rw[Nat.zero_add];exact h5
 cases h5
theorem Bx {w:World} {base:Nat} {el:TypeId} {size:Nat} {v:Value} {n:Nat} {xs:List Value} (h:w.ownsRow base el size v n xs):∃a c,v= .slice a n c:=by
 rcases h.2 with ⟨rfl,h0⟩|⟨g,cap,cur,rfl,_⟩
 ·exact ⟨none,0,by rw[h0]⟩
 exact ⟨_,_,rfl⟩
def vq (v:Vl):Qd:=⟨v.op,v.blk,v.args,v.aux⟩
def bq (b:Bk):Qd:=⟨b.kind,b.ctrl,b.succs,b.likely⟩
theorem QRow.vals {w:World} {base:Nat} {el:TypeId} {lo X Y:Nat} {R:Value} {l:List Vl} (h:QRow w base el lo X Y R (l.map vq)):ValsV w R l:=by
 obtain ⟨a,c,hR,h⟩:=h.read
 rw[List.length_map] at hR h
 refine ⟨a,c,hR,?_⟩
 rcases h with h|⟨b,o,ha,h⟩
 ·exact .inl (by simpa using h)
 refine .inr ⟨b,o,ha,fun k hk=>?_⟩
 have:=h k hk
 rw[List.getD_eq_getElem?_getD,List.getElem?_map,List.getElem?_eq_getElem hk] at this
 rw[List.getD_eq_getElem?_getD,List.getElem?_eq_getElem hk]
 exact this
theorem QRow.blks {w:World} {base:Nat} {el:TypeId} {lo X Y:Nat} {R:Value} {l:List Bk} (h:QRow w base el lo X Y R (l.map bq)):BlksV w R l:=by
 obtain ⟨a,c,hR,h⟩:=h.read
 rw[List.length_map] at hR h
 refine ⟨a,c,hR,?_⟩
 rcases h with h|⟨b,o,ha,h⟩
 ·exact .inl (by simpa using h)
 refine .inr ⟨b,o,ha,fun k hk=>?_⟩
 have:=h k hk
 rw[List.getD_eq_getElem?_getD,List.getElem?_map,List.getElem?_eq_getElem hk] at this
 rw[List.getD_eq_getElem?_getD,List.getElem?_eq_getElem hk]
 exact this
end Go.Proofs.YteepnepebilckaaGreatDoor
