/- The law FnCseOver returns true for every input in which the opcode table reads as laid, and its argument reads as it did, the table being tied to the text of the program. -/
import Derived.Test.YteepnepebilckaaGreatDoorProg
import Derived.WalkKit
import Derived.WalkSpells
import Derived.KernelRfl
import Derived.Deep.LoopGhost
import Derived.IntWalk
import Derived.Orders
import Derived.ArgAppend
import Derived.Deep.OwnRows
import Derived.Defers
import Derived.Shelf.SlSortCmp.Whole1
import Derived.Shelf.SortM.Plain
import Derived.Lib.SmallJoins
import Derived.ProofKit
import Derived.Carry
import Derived.LaidMore
import Derived.LaidLaws
import Derived.OpenShut
import Derived.OpenVars
import Derived.Stop.Joined
import Derived.SevenTiedAt
namespace Go.Eng
theorem mm0 {α:Type} {a  :α} {l:List α}:a∈a :: l:=.head _
theorem mm1 {α:Type} {a b0:α} {l:List α}:a∈b0 :: a :: l:=.tail _ (.head _)
theorem mm2 {α:Type} {a b0 b1:α} {l:List α}:a∈b0 :: b1 :: a :: l:=.tail _ (.tail _ (.head _))
theorem mm3 {α:Type} {a b0 b1 b2:α} {l:List α}:a∈b0 :: b1 :: b2 :: a :: l:=.tail _ (.tail _ (.tail _ (.head _)))
theorem mm4 {α:Type} {a b0 b1 b2 b3:α} {l:List α}:a∈b0 :: b1 :: b2 :: b3 :: a :: l:=.tail _ (.tail _ (.tail _ (.tail _ (.head _))))
theorem mm5 {α:Type} {a b0 b1 b2 b3 b4:α} {l:List α}:a∈b0 :: b1 :: b2 :: b3 :: b4 :: a :: l:=.tail _ (.tail _ (.tail _ (.tail _ (.tail _ (.head _)))))
theorem mm6 {α:Type} {a b0 b1 b2 b3 b4 b5:α} {l:List α}:a∈b0 :: b1 :: b2 :: b3 :: b4 :: b5 :: a :: l:=.tail _ (.tail _ (.tail _ (.tail _ (.tail _ (.tail _ (.head _))))))
theorem mm7 {α:Type} {a b0 b1 b2 b3 b4 b5 b6:α} {l:List α}:a∈b0 :: b1 :: b2 :: b3 :: b4 :: b5 :: b6 :: a :: l:=.tail _ (.tail _ (.tail _ (.tail _ (.tail _ (.tail _ (.tail _ (.head _)))))))
theorem mm8 {α:Type} {a b0 b1 b2 b3 b4 b5 b6 b7:α} {l:List α}:a∈b0 :: b1 :: b2 :: b3 :: b4 :: b5 :: b6 :: b7 :: a :: l:=.tail _ (.tail _ (.tail _ (.tail _ (.tail _ (.tail _ (.tail _ (.tail _ (.head _))))))))
theorem mm9 {α:Type} {a b0 b1 b2 b3 b4 b5 b6 b7 b8:α} {l:List α}:a∈b0 :: b1 :: b2 :: b3 :: b4 :: b5 :: b6 :: b7 :: b8 :: a :: l:=.tail _ (.tail _ (.tail _ (.tail _ (.tail _ (.tail _ (.tail _ (.tail _ (.tail _ (.head _)))))))))
end Go.Eng
namespace Go.Eng
open Go
theorem Cf {t N:Nat} (h:Nat.blt t N=true):t<N:=Nat.le_of_ble_eq_true h
structure Env where
 t:Nat→Value
 d:List Deferred
def Env.set (e:Env) (k:Nat) (v:Value):Env:=⟨fun j=>bif Nat.beq j k then v else e.t j,e.d⟩
def Env.put (e:Env) (k:Option Nat) (v:Value):Env:=match k with|some k=>e.set k v|none=>e
def Env.ev (e:Env):Operand→Value
 |.tmp t=>e.t t
 |.const v=>v
 |.global g=>.pointer (some ⟨g,0,none⟩)
 |.func f=>.func (.func f) #[] #[]
structure Rep (N:Nat) (e:Env) (a:Act):Prop where
 size:a.tmps.size=N
 d:a.defers=e.d
 t:∀k,k<N→a.tmps.getD k undef=e.t k
def okX (N:Nat):Operand→Bool
 |.tmp t=>Nat.blt t N
 |_=>true
def okO (N:Nat) (o:Oper):Bool:=o.op.operands.toList.all (okX N) && (match o.op with|.select .. =>false|_=>true)
theorem Rep.ev {N:Nat} {e:Env} {a:Act} (h:Rep N e a) {x:Operand} (hx:okX N x=true):a.eval x=e.ev x:=by
 cases x with
 |tmp t=>exact h.t t (Cf hx)
 |const v=>rfl
 |global g=>rfl
 |func f=>rfl
theorem Rep.set {N:Nat} {e:Env} {a:Act} (h:Rep N e a) (k:Nat) (v:Value):Rep N (e.set k v) (a.put (some k) v):=by
 refine ⟨by simp [Act.put,h.size],h.d,fun j hj=>?_⟩
 have:=h.t j hj
 simp only [Act.put,Env.set]
 rw[Array.getD_eq_getD_getElem?,Array.getElem?_setIfInBounds]
 by_cases e1:k=j
 ·subst e1
  simp [h.size,hj]
 have e2:Nat.beq j k=false:=by
  cases hb:Nat.beq j k with
  |false=>rfl
  |true=>exact absurd (Nat.eq_of_beq_eq_true hb).symm e1
 rw[if_neg e1,e2,← this,Array.getD_eq_getD_getElem?]
 rfl
theorem Rep.put {N:Nat} {e:Env} {a:Act} (h:Rep N e a) (k:Option Nat) (v:Value):Rep N (e.put k v) (a.put k v):=by
 cases k with
 |none=>exact h
 |some k=>exact h.set k v
theorem Rep.exec {N:Nat} {e:Env} {a:Act} (h:Rep N e a) {o:Oper} (ho:okO N o=true):execOp a.eval o=execOp e.ev o:=by
 simp only [okO,Bool.and_eq_true,List.all_eq_true] at ho
 refine execOp_congr o (fun cs b hs=>?_) (fun x hx=>h.ev (ho.1 x (by simpa using hx)))
 rw[hs] at ho
 simp at ho
def gEv (ops:Array Oper) (e:Env) (j:Nat):Option Bool:=
 match (ops[j]?).bind (·.dst) with
 |some t=>(match e.t t with|.bool b=>some b|_=>none)
 |none=>none
def okG (N:Nat) (ops:Array Oper) (o:Oper):Bool:=
 match o.guard with
 |none=>true
 |some (j,_)=>match (ops[j]?).bind (·.dst) with|some t=>Nat.blt t N|none=>true
theorem Rep.yields {N:Nat} {e:Env} {a:Act} (h:Rep N e a) (ops:Array Oper) (j:Nat) (hj:∀t,(ops[j]?).bind (·.dst)=some t→t<N):yielded ops a.tmps j=gEv ops e j:=by
 unfold yielded gEv
 cases ht:(ops[j]?).bind (·.dst) with
 |none=>rfl
 |some t=>
  have hlt:=hj t ht
  have hv:=h.t t hlt
  rw[Array.getD_eq_getD_getElem?] at hv
  have hin:t<a.tmps.size:=by rw[h.size];exact hlt
  simp only [Option.bind_some,Array.getElem?_eq_getElem hin,Option.getD_some] at hv ⊢
  rw[hv]
  cases e.t t <;> rfl
theorem Rep.wanted {N:Nat} {e:Env} {a:Act} (h:Rep N e a) (ops:Array Oper) (o:Oper) (hj:okG N ops o=true):Region.wanted o (yielded ops a.tmps)=Region.wanted o (gEv ops e):=by
 unfold Region.wanted
 unfold okG at hj
 cases hg:o.guard with
 |none=>rfl
 |some q=>
  obtain ⟨j,b⟩:=q
  rw[hg] at hj
  dsimp only at hj ⊢
  rw[h.yields ops j]
  intro t ht
  rw[ht] at hj
  exact Cf hj
def EL (P:Program) (ops:Array Oper) (N:Nat) (Q:Env→World→Prop) (l:List Oper) (e:Env) (w:World):Prop:=
 ∀(Qx:Exit→Act→World→Prop) (a:Act),Rep N e a→(∀e' a' w',Rep N e' a'→Q e' w'→Qx .normal a' w')→wpList P ops Qx l a w
section
variable {P : Program} {ops : Array Oper} {N : Nat} {Q : Env → World → Prop} {e : Env} {w : World} {rest : List Oper}
theorem Af (h:Q e w):EL P ops N Q [] e w:=fun _ a hr hq=>wpList_nil (hq e a w hr h)
theorem Ab {d:Nat} {op:Op} {ty:TypeId} {pos:String} {af:Array Edge} {v:Value} {w':World}
 (hx:(execOp e.ev ⟨some d,op,ty,pos,af,none⟩).run P w= .ok (.value v) w')
 (hk:okO N ⟨some d,op,ty,pos,af,none⟩=true)
 (h:EL P ops N Q rest (e.set d v) w'):EL P ops N Q (⟨some d,op,ty,pos,af,none⟩ :: rest) e w:=by
 intro Qx a hr hq
 refine wpList_plain rfl fun K hK=>?_
 unfold Oper.wp
 rw[hr.exec hk,hx]
 exact hK _ _ (h Qx _ (hr.set d v) hq)
theorem Bc {op:Op} {ty:TypeId} {pos:String} {af:Array Edge} {w':World}
 (hx:(execOp e.ev ⟨none,op,ty,pos,af,none⟩).run P w= .ok .skip w')
 (hk:okO N ⟨none,op,ty,pos,af,none⟩=true)
 (h:EL P ops N Q rest e w'):EL P ops N Q (⟨none,op,ty,pos,af,none⟩ :: rest) e w:=by
 intro Qx a hr hq
 refine wpList_plain rfl fun K hK=>?_
 unfold Oper.wp
 rw[hr.exec hk,hx]
 exact hK _ _ (h Qx _ hr hq)
def Ret (P:Program) (f:FuncId) (args:Array Value) (w:World) (S:Value→World→Prop):Prop:=
 Calls P f args w fun e w'=>∃v,e= .returned v∧S v w'
theorem DD {K:Act→World→Prop} {Qx:Exit→Act→World→Prop} {o:Oper} {a:Act} {f:FuncId} {args:Array Value} {S:Value→World→Prop} {w':World}
 (hx:(execOp a.eval o).run P w= .ok (.enter f args) w') (hc:Ret P f args w' S) (h:∀v w'',S v w''→K (a.put o.dst v) w''):o.wp P a w K Qx:=by
 unfold Oper.wp
 rw[hx]
 simp only [Oper.upon]
 refine Calls.mono hc fun e w'' ⟨v,he,hv⟩=>?_
 subst he
 exact h v w'' hv
theorem Be {d:Nat} {op:Op} {ty:TypeId} {pos:String} {af:Array Edge} {f:FuncId} {args:Array Value} {S:Value→World→Prop} {w':World}
 (hx:(execOp e.ev ⟨some d,op,ty,pos,af,none⟩).run P w= .ok (.enter f args) w')
 (hk:okO N ⟨some d,op,ty,pos,af,none⟩=true)
 (hc:Ret P f args w' S)
 (h:∀v w'',S v w''→EL P ops N Q rest (e.set d v) w''):EL P ops N Q (⟨some d,op,ty,pos,af,none⟩ :: rest) e w:=by
 intro Qx a hr hq
 refine wpList_plain rfl fun K hK=>(DD (by rw[hr.exec hk];exact hx) hc fun v w'' hv=>?_)
 exact hK _ _ (h v w'' hv Qx _ (hr.set d v) hq)
theorem AF {d:Nat} {op:Op} {ty:TypeId} {pos:String} {af:Array Edge} {j:Nat} {b:Bool}
 (hg:gEv ops e j=some (!b)) (hk:okG N ops ⟨some d,op,ty,pos,af,some (j,b)⟩=true)
 (h:EL P ops N Q rest (e.set d undef) w):EL P ops N Q (⟨some d,op,ty,pos,af,some (j,b)⟩ :: rest) e w:=by
 intro Qx a hr hq
 have hw:Region.wanted ⟨some d,op,ty,pos,af,some (j,b)⟩ (yielded ops a.tmps)=false:=by
  rw[hr.wanted ops _ hk]
  simp [Region.wanted,hg]
 unfold wpList
 rw[hw]
 exact h Qx _ (hr.set d undef) hq
theorem Av {d:Nat} {op:Op} {ty:TypeId} {pos:String} {af:Array Edge} {j:Nat} {b:Bool} {v:Value} {w':World}
 (hg:gEv ops e j=some b) (hk:okG N ops ⟨some d,op,ty,pos,af,some (j,b)⟩=true)
 (hx:(execOp e.ev ⟨some d,op,ty,pos,af,some (j,b)⟩).run P w= .ok (.value v) w')
 (hk2:okO N ⟨some d,op,ty,pos,af,some (j,b)⟩=true)
 (h:EL P ops N Q rest (e.set d v) w'):EL P ops N Q (⟨some d,op,ty,pos,af,some (j,b)⟩ :: rest) e w:=by
 intro Qx a hr hq
 have hw:Region.wanted ⟨some d,op,ty,pos,af,some (j,b)⟩ (yielded ops a.tmps)=true:=by
  rw[hr.wanted ops _ hk]
  simp [Region.wanted,hg]
 unfold wpList
 rw[hw]
 refine .inl ?_
 unfold Oper.wp
 rw[hr.exec hk2,hx]
 exact h Qx _ (hr.set d v) hq
theorem GG {d:Nat} {op:Op} {ty:TypeId} {pos:String} {af:Array Edge} {j:Nat} {b:Bool} {f:FuncId} {args:Array Value} {S:Value→World→Prop} {w':World}
 (hg:gEv ops e j=some b) (hk:okG N ops ⟨some d,op,ty,pos,af,some (j,b)⟩=true)
 (hx:(execOp e.ev ⟨some d,op,ty,pos,af,some (j,b)⟩).run P w= .ok (.enter f args) w')
 (hk2:okO N ⟨some d,op,ty,pos,af,some (j,b)⟩=true)
 (hc:Ret P f args w' S)
 (h:∀v w'',S v w''→EL P ops N Q rest (e.set d v) w''):EL P ops N Q (⟨some d,op,ty,pos,af,some (j,b)⟩ :: rest) e w:=by
 intro Qx a hr hq
 have hw:Region.wanted ⟨some d,op,ty,pos,af,some (j,b)⟩ (yielded ops a.tmps)=true:=by
  rw[hr.wanted ops _ hk]
  simp [Region.wanted,hg]
 unfold wpList
 rw[hw]
 refine .inl (DD (by rw[hr.exec hk2];exact hx) hc fun v w'' hv=>?_)
 exact h v w'' hv Qx _ (hr.set d v) hq
theorem EL_d {op:Op} {ty:TypeId} {pos:String} {af:Array Edge} {D:Deferred} {w':World}
 (hx:(execOp e.ev ⟨none,op,ty,pos,af,none⟩).run P w= .ok (.defer D) w')
 (hk:okO N ⟨none,op,ty,pos,af,none⟩=true)
 (h:EL P ops N Q rest ⟨e.t,D :: e.d⟩ w'):EL P ops N Q (⟨none,op,ty,pos,af,none⟩ :: rest) e w:=by
 intro Qx a hr hq
 refine wpList_plain rfl fun K hK=>?_
 unfold Oper.wp
 rw[hr.exec hk,hx]
 simp only [Oper.upon]
 exact hK _ _ (h Qx _ ⟨hr.size,by show D :: a.defers=D :: e.d;rw[hr.d],hr.t⟩ hq)
end
def EC (P:Program) (N:Nat) (c:Code) (Q:Exit→Env→World→Prop) (e:Env) (w:World):Prop:=
 ∀(Qx:Exit→Act→World→Prop) (a:Act),Rep N e a→(∀x e' a' w',Rep N e' a'→Q x e' w'→Qx x a' w')→c.wp P Qx a w
def thenQ (P:Program) (N:Nat) (c:Code) (Q:Exit→Env→World→Prop):Exit→Env→World→Prop
 |.normal,e,w=>EC P N c Q e w
 |x,e,w=>Q x e w
def blockQ (id:Nat) (Q:Exit→Env→World→Prop):Exit→Env→World→Prop
 |.exit i,e,w=>bif Nat.beq i id then Q .normal e w else Q (.exit i) e w
 |x,e,w=>Q x e w
def Bi (I:Nat→Env→World→Prop) (n:Nat) (Q:Exit→Env→World→Prop):Exit→Env→World→Prop
 |.normal,e,w=>∃m,m<n∧I m e w
 |x,e,w=>Q x e w
section
variable {P : Program} {N : Nat} {Q : Exit → Env → World → Prop} {e : Env} {w : World}
theorem EC.mono {c:Code} {Q':Exit→Env→World→Prop} (h:EC P N c Q e w) (hq:∀x e w,Q x e w→Q' x e w):EC P N c Q' e w:=
 fun Qx a hr hk=>h Qx a hr fun x e' a' w' hr' hx=>hk x e' a' w' hr' (hq x e' w' hx)
theorem Aq (h:Q .normal e w):EC P N .skip Q e w:=fun _ a hr hq=>wp_skip (hq _ e a w hr h)
theorem AE (h:Q .ret e w):EC P N .ret Q e w:=fun _ a hr hq=>wp_ret (hq _ e a w hr h)
theorem AK {i:Nat} (h:Q (.exit i) e w):EC P N (.exit i) Q e w:=fun _ a hr hq=>wp_exit (hq _ e a w hr h)
theorem Ae {c c':Code} (h:EC P N c (thenQ P N c' Q) e w):EC P N (.seq c c') Q e w:=by
 intro Qx a hr hq
 refine wp_seq (h _ a hr ?_)
 intro x e' a' w' hr' hx
 cases x with
 |normal=>exact hx Qx a' hr' hq
 |exit i=>exact hq _ _ _ _ hr' hx
 |goto l=>exact hq _ _ _ _ hr' hx
 |ret=>exact hq _ _ _ _ hr' hx
 |panic ch=>exact hq _ _ _ _ hr' hx
 |outgrown=>exact hq _ _ _ _ hr' hx
theorem Ac {id:Nat} {l:List Oper} (h:EL P l.toArray N (Q .normal) l e w):EC P N (.region id l.toArray false) Q e w:=
 fun Qx a hr hq=>wp_region_lit (h Qx a hr fun e' a' w' hr' hx=>hq _ e' a' w' hr' hx)
theorem Ao {id:Nat} {c:Code} (h:EC P N c (blockQ id Q) e w):EC P N (.block id c) Q e w:=by
 intro Qx a hr hq
 refine wp_block (h _ a hr ?_)
 intro x e' a' w' hr' hx
 cases x with
 |exit i=>
  simp only [blockQ] at hx
  simp only [Exit.inBlock]
  by_cases hi:i=id
  ·subst hi
   rw[Nat.beq_refl] at hx
   rw[if_pos rfl]
   exact hq _ _ _ _ hr' hx
  have hb:Nat.beq i id=false:=by
   cases hb:Nat.beq i id with
   |false=>rfl
   |true=>exact absurd (Nat.eq_of_beq_eq_true hb) hi
  rw[hb] at hx
  rw[if_neg hi]
  exact hq _ _ _ _ hr' hx
 |normal=>exact hq _ _ _ _ hr' hx
 |goto l=>exact hq _ _ _ _ hr' hx
 |ret=>exact hq _ _ _ _ hr' hx
 |panic ch=>exact hq _ _ _ _ hr' hx
 |outgrown=>exact hq _ _ _ _ hr' hx
theorem Et {c:Operand} {x y:Code} {b:Bool} (hc:e.ev c= .bool b) (hk:okX N c=true)
 (ht:b=true→EC P N x Q e w) (hf:b=false→EC P N y Q e w):EC P N (.cond c x y) Q e w:=by
 intro Qx a hr hq
 refine wp_cond (t:=b) (by rw[hr.ev hk,hc]) ?_
 cases b
 ·exact hf rfl Qx a hr hq
 exact ht rfl Qx a hr hq
theorem AI {c:Operand} {x y:Code} {p:Prop} [Decidable p] (hc:e.ev c= .bool (decide p)) (hk:okX N c=true)
 (ht:p→EC P N x Q e w) (hf:¬ p→EC P N y Q e w):EC P N (.cond c x y) Q e w:=
 Et hc hk (fun h=>ht (of_decide_eq_true h)) (fun h=>hf (of_decide_eq_false h))
theorem Bm {c:Operand} {x y:Code} (hc:e.ev c= .bool true) (hk:okX N c=true) (ht:EC P N x Q e w):EC P N (.cond c x y) Q e w:=
 Et hc hk (fun _=>ht) (fun h=>by cases h)
theorem Bh {c:Operand} {x y:Code} (hc:e.ev c= .bool false) (hk:okX N c=true) (hf:EC P N y Q e w):EC P N (.cond c x y) Q e w:=
 Et hc hk (fun h=>by cases h) (fun _=>hf)
theorem EC_loop {c:Code} (I:Nat→Env→World→Prop) (n:Nat) (h0:I n e w)
 (round:∀n e w,I n e w→EC P N c (Bi I n Q) e w):EC P N (.loop c) Q e w:=by
 intro Qx a hr hq
 refine wp_loop_ghost (fun n a w=>∃e,Rep N e a∧I n e w) n ⟨e,hr,h0⟩ ?_
 intro n a w ⟨e,hr,hI⟩
 refine round n e w hI _ a hr ?_
 intro x e' a' w' hr' hx
 cases x with
 |normal=>obtain ⟨m,hm,hI'⟩:=hx;exact ⟨m,hm,e',hr',hI'⟩
 |exit i=>exact hq _ _ _ _ hr' hx
 |goto l=>exact hq _ _ _ _ hr' hx
 |ret=>exact hq _ _ _ _ hr' hx
 |panic ch=>exact hq _ _ _ _ hr' hx
 |outgrown=>exact hq _ _ _ _ hr' hx
def env0:List Value→Nat→Nat→Value
 | [],_,_=>undef
 |v :: r,i,k=>bif Nat.beq k i then v else env0 r (i+1) k
theorem env0_spec (l:List Value) (i k:Nat) (h:i≤k):env0 l i k=(l[k - i]?).getD undef:=by
 induction l generalizing i with
 |nil=>simp [env0]
 |cons v r ih=>
  simp only [env0]
  by_cases e:k=i
  ·subst e;simp
  have hb:Nat.beq k i=false:=by
   cases hb:Nat.beq k i with
   |false=>rfl
   |true=>exact absurd (Nat.eq_of_beq_eq_true hb) e
  rw[hb,cond_false,ih (i+1) (by omega),show k - i=(k - (i+1))+1 by omega,List.getElem?_cons_succ]
def bodyQ (P:Program) (fn:Func) (S:Value→World→Prop):Exit→Env→World→Prop
 |.normal,e,w|.ret,e,w=>e.d=[]∧∃v,(∀a,Rep fn.ntmps e a→(results fn a.tmps).run P w= .ok v w)∧S v w
 |_,_,_=>False
theorem ret_of_EC {f:FuncId} {fn:Func} {c:Code} {l:List Value} {S:Value→World→Prop} (hf:P.funcs[f]? =some fn) (hb:fn.body=some c) (hl:Nat.ble l.length fn.ntmps=true)
 (h:EC P fn.ntmps c (bodyQ P fn S) ⟨env0 l 0,[]⟩ w):Ret P f l.toArray w S:=by
 have hl':l.length≤fn.ntmps:=Nat.le_of_ble_eq_true hl
 refine calls_of_wp hf hb (h _ _ ⟨?_,rfl,fun k hk=>?_⟩ ?_)
 ·simp;omega
 ·show _=env0 l 0 k
  rw[env0_spec l 0 k (Nat.zero_le _),Array.getD_eq_getD_getElem?,Array.getElem?_append]
  by_cases hkl:k<l.length
  ·simp [hkl]
  rw[if_neg (by simpa using hkl)]
  simp only [List.size_toArray,Nat.sub_zero]
  rw[List.getElem?_eq_none (by omega)]
  simp [show k - l.length<fn.ntmps - l.length by omega]
 intro x e' a' w' hr' hx
 cases x with
 |normal=>obtain ⟨hd,v,hv,hS⟩:=hx;exact ⟨by rw[hr'.d,hd],v,hv a' hr',v,rfl,hS⟩
 |ret=>obtain ⟨hd,v,hv,hS⟩:=hx;exact ⟨by rw[hr'.d,hd],v,hv a' hr',v,rfl,hS⟩
 |exit i=>exact hx.elim
 |goto l=>exact hx.elim
 |panic ch=>exact hx.elim
 |outgrown=>exact hx.elim
theorem BF {fn:Func} {S:Value→World→Prop} (hres:fn.results=#[]) (hd:e.d=[]) (h:S (.tuple #[]) w):bodyQ P fn S .normal e w:=
 ⟨hd,_,fun a _=>results_none hres a.tmps P w,h⟩
theorem ET {fn:Func} {S:Value→World→Prop} (hres:fn.results=#[]) (hd:e.d=[]) (h:S (.tuple #[]) w):bodyQ P fn S .ret e w:=
 ⟨hd,_,fun a _=>results_none hres a.tmps P w,h⟩
theorem Az {fn:Func} {S:Value→World→Prop} {t:Tmp} (hres:fn.results=#[.tmp t]) (hlt:Nat.blt t fn.ntmps=true) (hd:e.d=[]) (h:S (e.t t) w):bodyQ P fn S .ret e w:=
 ⟨hd,_,fun a hr=>by rw[results_tmp hres,hr.t t (Cf hlt)],h⟩
theorem F1 {fn:Func} {S:Value→World→Prop} {t u:Tmp} (hres:fn.results=#[.tmp t,.tmp u]) (hlt:Nat.blt t fn.ntmps=true) (hlu:Nat.blt u fn.ntmps=true) (hd:e.d=[]) (h:S (.tuple #[e.t t,e.t u]) w):bodyQ P fn S .ret e w:=
 ⟨hd,_,fun a hr=>by rw[results_tmp2 hres,hr.t t (Cf hlt),hr.t u (Cf hlu)],h⟩
theorem CD {fn:Func} {S:Value→World→Prop} {t:Tmp} {ty:TypeId} {p:Addr} {v:Value} (hres:fn.results=#[.cell t ty]) (hlt:Nat.blt t fn.ntmps=true) (hd:e.d=[]) (hp:e.t t= .pointer (some p))
 (hv:(loadVar ty p).run P w= .ok v w) (h:S v w):bodyQ P fn S .ret e w:=
 ⟨hd,v,fun a hr=>by
   have ht:=hr.t t (Cf hlt)
   rw[hp] at ht
   rw[Array.getD_eq_getD_getElem?] at ht
   simp only [results,hres]
   simp [asAddr,Sem.run_bind,Result.andThen]
   rw[ht]
   exact hv,h⟩
end
end Go.Eng
namespace Go.Eng
open Go Go.RowKit
def oneB (P:Program) (t:TypeId):Bool:=
 match P.underlying t with
 |some (.struct _)|some (.array _ _)|none=>false
 |_=>true
def aggB (P:Program) (t:TypeId) (n:Nat):Bool:=
 (match P.underlying t with
 |some (.struct _)|some (.array _ _)=>true
 |_=>false) && ((P.info? t).map (·.size) == some n)
def CW (P:Program) (t:TypeId) (n:Nat):Bool:=(P.info? t).map (·.size) == some n
def fldB (P:Program) (s:TypeId) (i off:Nat):Bool:=
 match P.underlying s with
 |some (.struct fs)=>match fs[i]? with
  |some f=>(f.offset == off) && (match P.info? f.type with|some x=>x.size != 0|none=>false)
  |none=>false
 |_=>false
def sliceB (P:Program) (t:TypeId) (n:Nat):Bool:=
 match P.underlying t with
 |some (.slice e)=>(P.info? e).map (·.size) == some n
 |_=>false
def ptrB (P:Program) (t:TypeId):Bool:=
 match P.underlying t with
 |some (.pointer e)=>(match P.info? e with|some i=>i.size != 0|none=>false)
 |_=>false
def intB (P:Program) (t:TypeId) (k:IntKind):Bool:=match P.underlying t with|some (.int k')=>k' == k|_=>false
class Tab (P:Program) where
 one:List Nat
 agg:List (Nat×Nat)
 fld:List (Nat×Nat×Nat)
 sl:List (Nat×Nat)
 ptr:List Nat
 ints:List (Nat×IntKind)
 hone:(one.all fun t=>oneB P t && CW P t 1)=true
 hagg:(agg.all fun x=>aggB P x.1 x.2 && CW P x.1 x.2)=true
 hfld:(fld.all fun x=>fldB P x.1 x.2.1 x.2.2)=true
 hsl:(sl.all fun x=>sliceB P x.1 x.2)=true
 hptr:(ptr.all fun t=>ptrB P t)=true
 hints:(ints.all fun x=>intB P x.1 x.2)=true
def has1:List Nat→Nat→Bool
 | [],_=>false
 |a :: r,t=>bif Nat.beq t a then true else has1 r t
def look2 {α:Type}:List (Nat×α)→Nat→Option α
 | [],_=>none
 |a :: r,t=>bif Nat.beq t a.1 then some a.2 else look2 r t
def look3:List (Nat×Nat×Nat)→Nat→Nat→Option Nat
 | [],_,_=>none
 |a :: r,t,i=>bif Nat.beq t a.1 then (bif Nat.beq i a.2.1 then some a.2.2 else look3 r t i) else look3 r t i
theorem beq_true {a b:Nat} (h:Nat.beq a b=true):a=b:=Nat.eq_of_beq_eq_true h
theorem Ec {l:List Nat} {t:Nat} (h:has1 l t=true):t∈l:=by
 induction l with
 |nil=>cases h
 |cons a r ih=>
  simp only [has1] at h
  cases hb:Nat.beq t a with
  |true=>rw[beq_true hb];simp
  |false=>rw[hb] at h;exact List.mem_cons_of_mem _ (ih h)
theorem Dc {α:Type} {l:List (Nat×α)} {t:Nat} {x:α} (h:look2 l t=some x):(t,x)∈l:=by
 induction l with
 |nil=>cases h
 |cons a r ih=>
  simp only [look2] at h
  cases hb:Nat.beq t a.1 with
  |true=>rw[hb] at h;have:=beq_true hb;cases h;subst this;simp
  |false=>rw[hb] at h;exact List.mem_cons_of_mem _ (ih h)
theorem FT {l:List (Nat×Nat×Nat)} {t i x:Nat} (h:look3 l t i=some x):(t,i,x)∈l:=by
 induction l with
 |nil=>cases h
 |cons a r ih=>
  obtain ⟨p,q,y⟩:=a
  simp only [look3] at h
  cases hb:Nat.beq t p with
  |true=>
   rw[hb] at h
   cases hb2:Nat.beq i q with
   |true=>rw[hb2] at h;have h1:=beq_true hb;have h2:=beq_true hb2;cases h;subst h1;subst h2;simp
   |false=>rw[hb2] at h;exact List.mem_cons_of_mem _ (ih h)
  |false=>rw[hb] at h;exact List.mem_cons_of_mem _ (ih h)
section
variable {P : Program} [T : Tab P] {t n i off : Nat}
theorem Ag (h:has1 T.one t=true):oneB P t=true:=by
 have:=List.all_eq_true.1 T.hone t (Ec h)
 simp at this;exact this.1
theorem AH (h:has1 T.one t=true):CW P t 1=true:=by
 have:=List.all_eq_true.1 T.hone t (Ec h)
 simp at this;exact this.2
theorem A0 (h:look2 T.agg t=some n):aggB P t n=true:=by
 have:=List.all_eq_true.1 T.hagg _ (Dc h)
 simp at this;exact this.1
theorem A7 (h:look2 T.agg t=some n):CW P t n=true:=by
 have:=List.all_eq_true.1 T.hagg _ (Dc h)
 simp at this;exact this.2
theorem Ak (h:look3 T.fld t i=some off):fldB P t i off=true:=List.all_eq_true.1 T.hfld _ (FT h)
theorem An (h:look2 T.sl t=some n):sliceB P t n=true:=List.all_eq_true.1 T.hsl _ (Dc h)
theorem BT (h:has1 T.ptr t=true):ptrB P t=true:=List.all_eq_true.1 T.hptr _ (Ec h)
theorem B2 {k:IntKind} (h:look2 T.ints t=some k):intB P t k=true:=List.all_eq_true.1 T.hints _ (Dc h)
end
section
variable {P : Program} {w : World} {ρ : Operand → Value} {d : Option Tmp} {ty : TypeId} {pos : String} {af : Array Edge} {g : Option (Nat × Bool)}
theorem Ad {x:Operand}:(execOp ρ ⟨d,.move x,ty,pos,af,g⟩).run P w= .ok (.value (ρ x)) w:=rfl
theorem Ah {x:Operand}:(execOp ρ ⟨d,.assign x,ty,pos,af,g⟩).run P w= .ok (.value (ρ x)) w:=rfl
theorem F4 {c x y:Operand} {b:Bool} (hc:ρ c= .bool b):(execOp ρ ⟨d,.pick c x y,ty,pos,af,g⟩).run P w= .ok (.value (bif b then ρ x else ρ y)) w:=by
 cases b <;> simp [execOp,hc,asBool]
theorem AV {c x y:Operand} (hc:ρ c= .bool true):(execOp ρ ⟨d,.pick c x y,ty,pos,af,g⟩).run P w= .ok (.value (ρ x)) w:=by
 rw[F4 hc];rfl
theorem AM {c x y:Operand} (hc:ρ c= .bool false):(execOp ρ ⟨d,.pick c x y,ty,pos,af,g⟩).run P w= .ok (.value (ρ y)) w:=by
 rw[F4 hc];rfl
theorem ER {t:TypeId} (h:oneB P t=true):(isAgg t).run P w= .ok false w:=by
 unfold oneB at h
 cases hu:P.underlying t with
 |none=>simp [hu] at h
 |some q=>
  unfold isAgg
  rw[Sem.run_bind,run_underlying hu w]
  rw[hu] at h
  cases q <;> simp_all
theorem Ai {t:TypeId} {x:Operand} {p:Addr} {v:Value} (hx:ρ x= .pointer (some p)) (ht:oneB P t=true) (hc:w.cell? p=some v):
 (execOp ρ ⟨d,.load t x,ty,pos,af,g⟩).run P w= .ok (.value v) w:=by
 simp [execOp,hx,Instr.loadAt,Instr.sureAddr,loadVar,ER ht,hc]
def CellsAt (w:World) (b o:Nat) (cs:List Value):Prop:=∀j v,cs[j]? =some v→w.cell? ⟨b,o+j,none⟩=some v
theorem BG {t:TypeId} {b o:Nat} {cs:List Value} (ht:aggB P t cs.length=true) (hc:CellsAt w b o cs):
 (loadVar t ⟨b,o,none⟩).run P w= .ok (.agg cs.toArray) w:=by
 have hl:(loadCells ⟨b,o,none⟩ cs.length).run P w= .ok cs.toArray w:=
  run_loadCells_list (P:=P) w ⟨b,o,none⟩ cs (fun j v hv=>by rw[Addr.add_lit];exact hc j v hv)
 unfold aggB at ht
 cases hu:P.underlying t with
 |none=>simp [hu] at ht
 |some q=>
  cases hq:P.info? t with
  |none=>simp [hq] at ht
  |some i=>
   have hagg:(isAgg t).run P w= .ok true w:=by
    unfold isAgg
    rw[Sem.run_bind,run_underlying hu w]
    rw[hu] at ht
    cases q <;> simp_all
   have hs:i.size=cs.length:=by
    rw[hq] at ht
    simp only [Bool.and_eq_true] at ht
    simpa using ht.2
   simp [loadVar,Sem.run_bind,hagg,sizeOf,typeInfo,hq,hs,hl]
theorem A4 {t:TypeId} {x:Operand} {b o:Nat} {cs:List Value} (hx:ρ x= .pointer (some ⟨b,o,none⟩)) (ht:aggB P t cs.length=true) (hc:CellsAt w b o cs):
 (execOp ρ ⟨d,.load t x,ty,pos,af,g⟩).run P w= .ok (.value (.agg cs.toArray)) w:=by
 simp [execOp,hx,Instr.loadAt,Instr.sureAddr,BG ht hc]
theorem A3 {b:Nat} {cs:List Value} {T:TypeId} {fr:Nat×Nat} (h:w.heap[b]? =some (.cells cs.toArray T fr)):CellsAt w b 0 cs:=by
 intro j v hv
 rw[cell_of_row w b (0+j) cs.toArray T fr h]
 simpa using hv
theorem AU {t:TypeId} {x y:Operand} {p:Addr} {v old:Value} (hx:ρ x= .pointer (some p)) (hy:ρ y=v) (h1:v.oneCell'=true) (ht:CW P t 1=true) (hc:w.cell? p=some old) (hf:w.frozen? p=false):
 (execOp ρ ⟨d,.store t x y,ty,pos,af,g⟩).run P w= .ok .skip (w.setCell p v):=by
 have hs:v.cells=#[v]:=by cases v <;> first|rfl|(simp [Value.oneCell'] at h1)
 unfold CW at ht
 cases hq:P.info? t with
 |none=>simp [hq] at ht
 |some i=>
  have hsz:i.size=1:=by rw[hq] at ht;simpa using ht
  obtain ⟨b,o,s⟩:=p
  simp [execOp,hx,hy,Instr.storeAt,Instr.sureAddr,storeVar,sizeOf,typeInfo,hq,hsz,hs,storeCells,Addr.add,run_store P w _ v .plain h1,hc,hf]
theorem Cy {t:TypeId} {x y:Operand} {b:Nat} {cs old:Array Value} {T:TypeId} (hx:ρ x= .pointer (some ⟨b,0,none⟩)) (hy:ρ y= .agg cs) (hg:w.heap[b]? =some (.cells old T (0,0)))
 (ht:CW P t cs.size=true) (ho:old.size=cs.size) (h1:cs.toList.all (·.oneCell')=true):
 (execOp ρ ⟨d,.store t x y,ty,pos,af,g⟩).run P w= .ok .skip (w.setRow b cs):=by
 rw[Array.all_toList] at h1
 have:=run_storeVar_row (P:=P) w b T t old cs hg (by unfold CW at ht;simpa using ht) ho h1
 simp [execOp,hx,hy,Instr.storeAt,Instr.sureAddr,this]
theorem Au {x:Operand} {p:Addr} (hx:ρ x= .pointer (some p)):(execOp ρ ⟨d,.nilCheck x,ty,pos,af,g⟩).run P w= .ok (.value (.pointer (some p))) w:=by
 simp [execOp,hx]
theorem Al {s:TypeId} {x:Operand} {i b o off:Nat} (hx:ρ x= .pointer (some ⟨b,o,none⟩)) (hf:fldB P s i off=true):
 (execOp ρ ⟨d,.fieldAddr s x i,ty,pos,af,g⟩).run P w= .ok (.value (.pointer (some ⟨b,o+off,none⟩))) w:=by
 unfold fldB at hf
 cases hu:P.underlying s with
 |none=>simp [hu] at hf
 |some q=>
  rw[hu] at hf
  cases q <;> simp at hf
  rename_i fs
  cases hi:fs[i]? with
  |none=>simp [hi] at hf
  |some f=>
   rw[hi] at hf
   cases hq:P.info? f.type with
   |none=>simp [hq] at hf
   |some z=>
    simp [hq] at hf
    obtain ⟨ho,hz⟩:=hf
    simp [execOp,hx,Instr.fieldAt,run_underlying hu,hi,Instr.sureAddr,fieldPlace,sizeOf,typeInfo,hq,hz,ho,Addr.add_lit]
theorem Ev {t:TypeId} {x y:Operand} {b o len cap n:Nat} {k:IntKind} {i:Int} (hx:ρ x= .slice (some ⟨b,o,none⟩) len cap) (hy:ρ y= .int k i) (ht:sliceB P t n=true) (h0:0≤i) (h1:i<(len:Int)):
 (execOp ρ ⟨d,.indexAddr t x y,ty,pos,af,g⟩).run P w= .ok (.value (.pointer (some ⟨b,o+i.toNat * n,none⟩))) w:=by
 unfold sliceB at ht
 cases hu:P.underlying t with
 |none=>simp [hu] at ht
 |some q=>
  rw[hu] at ht
  cases q <;> simp at ht
  rename_i el
  obtain ⟨z,hz,hzn⟩:=ht
  simp [execOp,hx,hy,Instr.indexAt,run_underlying hu,asIntOf,h0,h1,sizeOf,typeInfo,hz,hzn,Addr.add_lit]
theorem x_index1 {t:TypeId} {x y:Operand} {b o len cap i:Nat} {k:IntKind} (hx:ρ x= .slice (some ⟨b,o,none⟩) len cap) (hy:ρ y= .int k (i:Int)) (ht:sliceB P t 1=true) (h1:i<len):
 (execOp ρ ⟨d,.indexAddr t x y,ty,pos,af,g⟩).run P w= .ok (.value (.pointer (some ⟨b,o+i,none⟩))) w:=by
 have:=Ev (P:=P) (w:=w) (d:=d) (ty:=ty) (pos:=pos) (af:=af) (g:=g) hx hy ht (by omega) (by omega)
 simpa using this
theorem A5 {t:TypeId} {x y:Operand} {b o len cap i n:Nat} {k:IntKind} (hx:ρ x= .slice (some ⟨b,o,none⟩) len cap) (hy:ρ y= .int k (i:Int)) (ht:sliceB P t n=true) (h1:i<len):
 (execOp ρ ⟨d,.indexAddr t x y,ty,pos,af,g⟩).run P w= .ok (.value (.pointer (some ⟨b,o+i * n,none⟩))) w:=by
 have:=Ev (P:=P) (w:=w) (d:=d) (ty:=ty) (pos:=pos) (af:=af) (g:=g) hx hy ht (by omega) (by omega)
 simpa using this
theorem x_index0 {t:TypeId} {x y:Operand} {b o len cap n:Nat} {k:IntKind} (hx:ρ x= .slice (some ⟨b,o,none⟩) len cap) (hy:ρ y= .int k 0) (ht:sliceB P t n=true) (h1:0<len):
 (execOp ρ ⟨d,.indexAddr t x y,ty,pos,af,g⟩).run P w= .ok (.value (.pointer (some ⟨b,o+0,none⟩))) w:=by
 have:=Ev (P:=P) (w:=w) (d:=d) (ty:=ty) (pos:=pos) (af:=af) (g:=g) hx hy ht (by omega) (by omega)
 simpa using this
theorem EZ {t:TypeId} {x y:Operand} {b o len cap i n:Nat} {k:IntKind} {z:Int} (hx:ρ x= .slice (some ⟨b,o,none⟩) len cap) (hy:ρ y= .int k z) (hz:z=(i:Int)) (ht:sliceB P t n=true) (h1:i<len):
 (execOp ρ ⟨d,.indexAddr t x y,ty,pos,af,g⟩).run P w= .ok (.value (.pointer (some ⟨b,o+i * n,none⟩))) w:=by
 subst hz;exact A5 hx hy ht h1
theorem Ba {t:TypeId} {x y:Operand} {b o len cap i:Nat} {k:IntKind} {z:Int} (hx:ρ x= .slice (some ⟨b,o,none⟩) len cap) (hy:ρ y= .int k z) (hz:z=(i:Int)) (ht:sliceB P t 1=true) (h1:i<len):
 (execOp ρ ⟨d,.indexAddr t x y,ty,pos,af,g⟩).run P w= .ok (.value (.pointer (some ⟨b,o+i,none⟩))) w:=by
 subst hz;exact x_index1 hx hy ht h1
theorem AN {t:TypeId} {x:Operand} {a:Option Addr} {len cap n:Nat} (hx:ρ x= .slice a len cap) (ht:sliceB P t n=true):
 (execOp ρ ⟨d,.call { callee:=.builtin .len,args:=#[x],argTypes:=#[t] },ty,pos,af,g⟩).run P w= .ok (.value (.int .i64 (len:Int))) w:=by
 unfold sliceB at ht
 cases hu:P.underlying t with
 |none=>simp [hu] at ht
 |some q=>
  rw[hu] at ht
  cases q <;> simp at ht
  simp [execOp,resolve,hx,invoke,builtin,Builtin.len_,run_underlying hu,goInt]
theorem AX {t u:TypeId} {x y:Operand} {k:IntKind} {a b:Int} (hx:ρ x= .int k a) (hy:ρ y= .int k b):
 (execOp ρ ⟨d,.binOp .lss t x y u,ty,pos,af,g⟩).run P w= .ok (.value (.bool (decide (a<b)))) w:=by
 simp [execOp,hx,hy,eqGuard,binOp,Op.intCmp]
theorem C7 {t u:TypeId} {x y:Operand} {k:IntKind} {a b:Int} (hx:ρ x= .int k a) (hy:ρ y= .int k b):
 (execOp ρ ⟨d,.binOp .leq t x y u,ty,pos,af,g⟩).run P w= .ok (.value (.bool (decide (a≤b)))) w:=by
 simp [execOp,hx,hy,eqGuard,binOp,Op.intCmp]
theorem BE {t u:TypeId} {x y:Operand} {k:IntKind} {a b:Int} (hx:ρ x= .int k a) (hy:ρ y= .int k b):
 (execOp ρ ⟨d,.binOp .gtr t x y u,ty,pos,af,g⟩).run P w= .ok (.value (.bool (decide (b<a)))) w:=by
 simp [execOp,hx,hy,eqGuard,binOp,Op.intCmp]
theorem CJ {t u:TypeId} {x y:Operand} {k:IntKind} {a b:Int} (hx:ρ x= .int k a) (hy:ρ y= .int k b):
 (execOp ρ ⟨d,.binOp .geq t x y u,ty,pos,af,g⟩).run P w= .ok (.value (.bool (decide (b≤a)))) w:=by
 simp [execOp,hx,hy,eqGuard,binOp,Op.intCmp]
theorem Bn {t u:TypeId} {x y:Operand} {k:IntKind} {a b:Int} (hx:ρ x= .int k a) (hy:ρ y= .int k b):
 (execOp ρ ⟨d,.binOp .eql t x y u,ty,pos,af,g⟩).run P w= .ok (.value (.bool (decide (a=b)))) w:=by
 simp [execOp,hx,hy,eqGuard,binOp,Op.intCmp]
 exact Bool.eq_iff_iff.2 (by simp)
theorem Bw {t u:TypeId} {x y:Operand} {k:IntKind} {a b:Int} (hx:ρ x= .int k a) (hy:ρ y= .int k b):
 (execOp ρ ⟨d,.binOp .neq t x y u,ty,pos,af,g⟩).run P w= .ok (.value (.bool (decide (a≠b)))) w:=by
 simp [execOp,hx,hy,eqGuard,binOp,Op.intCmp]
 exact Bool.eq_iff_iff.2 (by simp)
theorem Cq {t u:TypeId} {x y:Operand} {k:IntKind} {a b c:Int} (hx:ρ x= .int k a) (hy:ρ y= .int k b) (hc:k.wrap (a+b)=c):
 (execOp ρ ⟨d,.binOp .add t x y u,ty,pos,af,g⟩).run P w= .ok (.value (.int k c)) w:=by
 subst hc
 simp [execOp,hx,hy,eqGuard,binOp,Op.intArith]
theorem CQ {t u:TypeId} {x y:Operand} {k:IntKind} {a b c:Int} (hx:ρ x= .int k a) (hy:ρ y= .int k b) (hc:k.wrap (a - b)=c):
 (execOp ρ ⟨d,.binOp .sub t x y u,ty,pos,af,g⟩).run P w= .ok (.value (.int k c)) w:=by
 subst hc
 simp [execOp,hx,hy,eqGuard,binOp,Op.intArith]
theorem Cc {t u:TypeId} {x y:Operand} {k:IntKind} {a b c:Int} (hx:ρ x= .int k a) (hy:ρ y= .int k b) (hc:k.wrap (a * b)=c):
 (execOp ρ ⟨d,.binOp .mul t x y u,ty,pos,af,g⟩).run P w= .ok (.value (.int k c)) w:=by
 subst hc
 simp [execOp,hx,hy,eqGuard,binOp,Op.intArith]
theorem x_inc {t u:TypeId} {x y:Operand} {i:Nat} (hx:ρ x= .int .i64 (i:Int)) (hy:ρ y= .int .i64 1) (hi:i<9223372036854775807):
 (execOp ρ ⟨d,.binOp .add t x y u,ty,pos,af,g⟩).run P w= .ok (.value (.int .i64 ((i+1:Nat):Int))) w:=
 Cq hx hy (by rw[IntWalk.i64_in _ (by omega)];omega)
theorem He {t u:TypeId} {x y:Operand} {a b:Int} (hx:ρ x= .int .i64 a) (hy:ρ y= .int .i64 b) (h: -9223372036854775808≤a+b∧a+b≤9223372036854775807):
 (execOp ρ ⟨d,.binOp .add t x y u,ty,pos,af,g⟩).run P w= .ok (.value (.int .i64 (a+b))) w:=
 Cq hx hy (IntWalk.i64_in _ h)
theorem Ch {t u:TypeId} {x y:Operand} {a b:Int} (hx:ρ x= .int .i64 a) (hy:ρ y= .int .i64 b) (h: -9223372036854775808≤a - b∧a - b≤9223372036854775807):
 (execOp ρ ⟨d,.binOp .sub t x y u,ty,pos,af,g⟩).run P w= .ok (.value (.int .i64 (a - b))) w:=
 CQ hx hy (IntWalk.i64_in _ h)
theorem BS {t:TypeId} {x:Operand} {b:Bool} (hx:ρ x= .bool b):(execOp ρ ⟨d,.unOp .not t x,ty,pos,af,g⟩).run P w= .ok (.value (.bool (!b))) w:=by
 simp [execOp,hx,Op.unary]
theorem x_neg {t:TypeId} {x:Operand} {k:IntKind} {a c:Int} (hx:ρ x= .int k a) (hc:k.wrap (0 - a)=c):(execOp ρ ⟨d,.unOp .neg t x,ty,pos,af,g⟩).run P w= .ok (.value (.int k c)) w:=by
 subst hc
 simp [execOp,hx,Op.unary,Op.intArith]
theorem Ce {s t:TypeId} {x:Operand} {k k':IntKind} {n m:Int} (hx:ρ x= .int k n) (hs:(P.underlying s).isSome=true) (ht:intB P t k'=true) (hm:k'.wrap n=m):
 (execOp ρ ⟨d,.convert s t x,ty,pos,af,g⟩).run P w= .ok (.value (.int k' m)) w:=by
 subst hm
 unfold intB at ht
 obtain ⟨q,hq⟩:=Option.isSome_iff_exists.mp hs
 cases hu:P.underlying t with
 |none=>simp [hu] at ht
 |some z=>
  rw[hu] at ht
  cases z <;> simp at ht
  rename_i k2
  subst ht
  simp [execOp,hx,convert,run_underlying hq,run_underlying hu,Conv.intToInt]
def C8 (w:World) (b:Nat):Prop:=∃cs T,w.heap[b]? =some (.cells cs T (0,0))∧cs.size≠0
theorem equal_ptr (n:Nat) (t:TypeId) (x y:Option Addr) {el:TypeId} (hu:P.underlying t=some (.pointer el)):(Op.equalIn (n+1) t (.pointer x) (.pointer y)).run P w=
 (match x,y with
 |none,b=>(pure b.isNone:Sem Bool)
 |some _,none=>pure false
 |some a,some b=>do
  if (← sizeOf el)≠0 then sameAddr a b
  else if a == b then pure true
  else pure ((← choose .zeroSizeEq)=1)).run P w:=by
 unfold Op.equalIn
 rw[Sem.run_bind,run_underlying hu,Result.andThen_ok]
 cases x <;> cases y <;> rfl
theorem Dx {t:TypeId} {a b:Addr} (ht:ptrB P t=true) (ha:C8 w a.block) (hb:C8 w b.block):
 (Op.equal t (.pointer (some a)) (.pointer (some b))).run P w= .ok (decide (a=b)) w:=by
 unfold ptrB at ht
 cases hu:P.underlying t with
 |none=>simp [hu] at ht
 |some q=>
  rw[hu] at ht
  cases q <;> simp at ht
  rename_i el
  cases hq:P.info? el with
  |none=>simp [hq] at ht
  |some z=>
   simp [hq] at ht
   obtain ⟨ca,Ta,hha,hsa⟩:=ha
   obtain ⟨cb,Tb,hhb,hsb⟩:=hb
   have hfa:∀o s,w.frozen? ⟨a.block,o,s⟩=false:=fun o s=>by simp [World.frozen?,hha]
   have hfb:∀o s,w.frozen? ⟨b.block,o,s⟩=false:=fun o s=>by simp [World.frozen?,hhb]
   have hfa':w.frozen? a=false:=hfa a.off a.spot
   have hfb':w.frozen? b=false:=hfb b.off b.spot
   have hsha:w.shape? a.block=some (Ta,ca.size):=by simp [World.shape?,hha]
   have hshb:w.shape? b.block=some (Tb,cb.size):=by simp [World.shape?,hhb]
   rw[show Op.equal t (.pointer (some a)) (.pointer (some b))=Op.equalIn (9999+1) t (.pointer (some a)) (.pointer (some b)) from rfl,equal_ptr 9999 t _ _ hu]
   simp [sizeOf,typeInfo,hq,ht,sameAddr]
   by_cases hbl:a.block=b.block
   ·simp [hbl]
    exact Bool.eq_iff_iff.2 (by simp)
   have hne:a≠b:=fun e=>hbl (by rw[e])
   simp [hbl,hne,frozen,shape,Sem.run,hfa',hfb',noView,viewAt,hsha,hshb,mayBeOne,stringish,hfa,hfb,hsb]
theorem x_eqlp {t u:TypeId} {x y:Operand} {a b:Addr} (hx:ρ x= .pointer (some a)) (hy:ρ y= .pointer (some b)) (ht:ptrB P t=true) (ha:C8 w a.block) (hb:C8 w b.block):
 (execOp ρ ⟨d,.binOp .eql t x y u,ty,pos,af,g⟩).run P w= .ok (.value (.bool (decide (a=b)))) w:=by
 simp [execOp,hx,hy,eqGuard,binOp,Dx ht ha hb]
theorem x_neqp {t u:TypeId} {x y:Operand} {a b:Addr} (hx:ρ x= .pointer (some a)) (hy:ρ y= .pointer (some b)) (ht:ptrB P t=true) (ha:C8 w a.block) (hb:C8 w b.block):
 (execOp ρ ⟨d,.binOp .neq t x y u,ty,pos,af,g⟩).run P w= .ok (.value (.bool (!decide (a=b)))) w:=by
 simp [execOp,hx,hy,eqGuard,binOp,Dx ht ha hb]
theorem DE {t:TypeId} {p:Option Addr} (ht:ptrB P t=true):(Op.equal t (.pointer p) (.pointer none)).run P w= .ok p.isNone w:=by
 unfold ptrB at ht
 cases hu:P.underlying t with
 |none=>simp [hu] at ht
 |some q=>
  rw[hu] at ht
  cases q <;> simp at ht
  rw[show Op.equal t (.pointer p) (.pointer none)=Op.equalIn (9999+1) t (.pointer p) (.pointer none) from rfl,equal_ptr 9999 t _ _ hu]
  cases p <;> rfl
theorem DQ {t u:TypeId} {x y:Operand} {p:Option Addr} (hx:ρ x= .pointer p) (hy:ρ y= .pointer none) (ht:ptrB P t=true):
 (execOp ρ ⟨d,.binOp .eql t x y u,ty,pos,af,g⟩).run P w= .ok (.value (.bool p.isNone)) w:=by
 simp [execOp,hx,hy,eqGuard,binOp,DE ht]
theorem CB {t u:TypeId} {x y:Operand} {p:Option Addr} (hx:ρ x= .pointer p) (hy:ρ y= .pointer none) (ht:ptrB P t=true):
 (execOp ρ ⟨d,.binOp .neq t x y u,ty,pos,af,g⟩).run P w= .ok (.value (.bool (!p.isNone))) w:=by
 simp [execOp,hx,hy,eqGuard,binOp,DE ht]
def Bu (P:Program) (t:TypeId) (z:Array Value):Prop:=(P.info? t).bind (·.zero.map (·.cells))=some z
theorem A9 {t:TypeId} {z:Array Value} (hz:Bu P t z):
 (execOp ρ ⟨d,.alloc t,ty,pos,af,g⟩).run P w= .ok (.value (.pointer (some ⟨w.heap.size,0,none⟩))) (w.alloc (.cells z t)):=by
 unfold Bu at hz
 cases hq:P.info? t with
 |none=>simp [hq] at hz
 |some i=>
  simp [hq] at hz
  obtain ⟨v,hv,rfl⟩:=hz
  simp [execOp,Instr.alloc,zeroValue,typeInfo,hq,hv,newVar,newRow,newObj,Sem.run]
theorem Bv {t:TypeId} {x:Operand} {v:Value} (hx:ρ x=v):
 (execOp ρ ⟨d,.box t x,ty,pos,af,g⟩).run P w= .ok (.value (.pointer (some ⟨w.heap.size,0,none⟩))) (w.alloc (.cells v.cells t)):=by
 subst hx
 simp [execOp,Instr.box,newVar,newRow,newObj,Sem.run]
theorem Bo {t el:TypeId} {x:Operand} {v z:Value} (hx:ρ x=v) (h1:v.oneCell'=true) (hu:P.underlying t=some (.slice el)) (hz:(P.info? el).map (fun i=>(i.zero,i.size))=some (some z,1)) (hz1:z.oneCell'=true):
 (execOp ρ ⟨d,.buildSlice t 1 #[(0,x)],ty,pos,af,g⟩).run P w= .ok (.value (.slice (some ⟨w.heap.size,0,none⟩) 1 1)) (w.alloc (.cells #[v] el)):=by
 have hs:v.cells=#[v]:=by cases v <;> first|rfl|(simp [Value.oneCell'] at h1)
 have hs2:z.cells=#[z]:=by cases z <;> first|rfl|(simp [Value.oneCell'] at hz1)
 cases hq:P.info? el with
 |none=>simp [hq] at hz
 |some i=>
  simp [hq] at hz
  obtain ⟨hz2,hz3⟩:=hz
  simp [execOp,Instr.buildSlice,hx,run_underlying hu,sizeOf,typeInfo,hq,hz2,hz3,zeroValue,hs,hs2,Instr.fill,newRow,newObj,Sem.run]
  congr 2
  apply Array.ext
  ·simp
  intro j h1 h2
  have hj:j=0:=by simp at h2;omega
  subst hj
  simp
theorem AG {f:FuncId} {xs:Array Operand} {ts:Array TypeId} {fn:Func} {l:List Value} (hf:P.funcs[f]? =some fn) (hb:fn.body.isNone=false) (hn:(fn.name == "runtime.NumGoroutine")=false)
 (hρ:ρ (.func f)= .func (.func f) #[] #[]) (ha:xs.toList.map ρ=l):
 (execOp ρ ⟨d,.call { callee:=.value (.func f),args:=xs,argTypes:=ts },ty,pos,af,g⟩).run P w= .ok (.enter f l.toArray) w:=by
 subst ha
 have hn':¬ fn.name= "runtime.NumGoroutine" :=by simpa using hn
 have hb':¬ fn.body=none:=by
  intro e;rw[e] at hb;cases hb
 simp [execOp,resolve,Deferred.ofValue,hρ,invoke,callFunc,hf,hb',hn']
 cases xs
 simp
end
end Go.Eng
