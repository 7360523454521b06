/- The law FnCseOver returns true for every input in which the opcode table reads as laid, and its argument reads as it did, the table being tied to the text of the program. -/
import Derived.Test.YteepnepebilckaaGreatDoorCV01
namespace Go.Eng
open Go
def nthO:List Oper→Nat→Oper
 | [],_=>default
 |o :: r,i=>match i with|0=>o|j+1=>nthO r j
theorem C3 {l:List Oper} {i:Nat} (h:i<l.length):l.toArray[i]? =some (nthO l i):=by
 induction l generalizing i with
 |nil=>simp at h
 |cons o r ih=>
  cases i with
  |zero=>simp [nthO]
  |succ j=>
   have:=ih (i:=j) (by simpa using h)
   simpa [nthO] using this
def Ci (l:List Oper) (e:Env) (i:Nat):Bool:=Region.wanted (nthO l i) (gEv l.toArray e)
def Cs (P:Program) (l:List Oper) (e:Env) (i:Nat) (w:World) (v:Value):Prop:=
 (Ci l e i=true∧(execOp e.ev (nthO l i)).run P w= .ok (.value v) w)∨(Ci l e i=false∧v=undef)
def Ca (P:Program) (l:List Oper) (e:Env) (i:Nat) (w:World) (K:Value→World→Prop):Prop:=
 (Ci l e i=false∧K undef w)∨(Ci l e i=true∧
   ((∃v w1,(execOp e.ev (nthO l i)).run P w= .ok (.value v) w1∧K v w1)∨
    (∃w1,(execOp e.ev (nthO l i)).run P w= .ok .skip w1∧K undef w1)∨
    (∃f args w1 S,(execOp e.ev (nthO l i)).run P w= .ok (.enter f args) w1∧Ret P f args w1 S∧∀v w2,S v w2→K v w2)))
def DL (P:Program) (l:List Oper) (S:World→Prop) (Q:Env→World→Prop):List (Nat×Bool)→Env→World→Prop
 | [],e,w=>Q e w
 |(i,false) :: r,e,w=>∃v,(∀w',S w'→Cs P l e i w' v)∧DL P l S Q r (e.put (nthO l i).dst v) w
 |(i,true) :: r,e,w=>Ca P l e i w fun v w1=>(r=[]∨S w1)∧DL P l S Q r (e.put (nthO l i).dst v) w1
def edges (o:Oper):List Nat:=(o.after.toList.filter fun e=>Region.binds .any e).map (·.on)
def FC (acc:List Nat) (o:Oper):Nat:=(edges o).foldl (fun s j=>s ||| 2 ^ j ||| acc.getD j 0) 0
def bits (l:List Oper):List Nat:=l.foldl (fun acc o=>acc ++ [FC acc o]) []
def looks (l:List Oper) (o:Oper):List Nat:=
 o.op.operands.toList.filterMap (fun|.tmp t=>some t|_=>none) ++
 (match o.guard with|some (g,_)=>((l.toArray[g]?).bind (·.dst)).toList|none=>[])
def names (l:List Oper) (o:Oper):List Nat:=o.dst.toList ++ looks l o
def idx (l:List Oper):List (Nat×Oper):=(List.range l.length).map fun i=>(i,nthO l i)
def cmpB (b:List Nat) (i j:Nat):Bool:=(b.getD j 0).testBit i || (b.getD i 0).testBit j
def E2 (l:List Oper) (b:List Nat):Bool:=
 (idx l).all fun x=>(names l x.2).all fun t=>(idx l).all fun y=>y.2.dst != some t || Nat.beq y.1 x.1 || cmpB b y.1 x.1
def chkTopo (l:List Oper):List Nat→List Nat→Bool
 |_,[]=>true
 |done,i :: r=>(edges (nthO l i)).all (fun j=>done.elem j) && chkTopo l (i :: done) r
def chkW (b:List Nat):List (Nat×Bool)→Bool
 | []=>true
 |(i,true) :: r=>r.all (fun x=>(b.getD x.1 0).testBit i) && chkW b r
 |(_,false) :: r=>chkW b r
def chkLast (b:List Nat) (π:List (Nat×Bool)):Bool:=
 match π.getLast? with
 |some (c,true)=>π.all fun x=>Nat.beq x.1 c || (b.getD c 0).testBit x.1
 |_=>true
def nodupB:List Nat→Bool
 | []=>true
 |a :: r=> !r.elem a && nodupB r
def chk (N:Nat) (l:List Oper) (π:List (Nat×Bool)):Bool:=
 (List.range l.length).all (fun i=>(π.map (·.1)).elem i) && nodupB (π.map (·.1)) && π.all (fun x=>Nat.blt x.1 l.length) && chkTopo l [] (π.map (·.1)) &&
 E2 l (bits l) && chkW (bits l) π && chkLast (bits l) π && l.all (fun o=>okO N o && okG N l.toArray o)
inductive Anc (l:List Oper):Nat→Nat→Prop where
 |one {i j:Nat}:i∈edges (nthO l j)→j<l.length→Anc l i j
 |more {i k j:Nat}:Anc l i k→k∈edges (nthO l j)→j<l.length→Anc l i j
theorem Fc (acc:List Nat) (js:List Nat) (s k:Nat) (h:(js.foldl (fun s j=>s ||| 2 ^ j ||| acc.getD j 0) s).testBit k=true):
 s.testBit k=true∨∃j∈js,k=j∨(acc.getD j 0).testBit k=true:=by
 induction js generalizing s with
 |nil=>exact .inl h
 |cons j r ih=>
  simp only [List.foldl_cons] at h
  rcases ih _ h with h1|⟨j',hj',h2⟩
  ·simp only [Nat.testBit_or,Bool.or_eq_true] at h1
   rcases h1 with (h1|h1)|h1
   ·exact .inl h1
   ·refine .inr ⟨j,by simp,.inl ?_⟩
    rw[Nat.testBit_two_pow] at h1
    exact (of_decide_eq_true h1).symm
   exact .inr ⟨j,by simp,.inr h1⟩
  exact .inr ⟨j',List.mem_cons_of_mem _ hj',h2⟩
theorem bits_spec_aux (l0 l:List Oper) (acc:List Nat) (n:Nat) (hlen:acc.length=n) (hl:∀i,i<l.length→nthO l0 (n+i)=nthO l i) (hn:n+l.length≤l0.length)
 (hacc:∀j k,j<n→(acc.getD j 0).testBit k=true→Anc l0 k j):
 ∀j k,((l.foldl (fun acc o=>acc ++ [FC acc o]) acc).getD j 0).testBit k=true→Anc l0 k j:=by
 induction l generalizing acc n with
 |nil=>
  intro j k h
  simp only [List.foldl_nil] at h
  by_cases hj:j<n
  ·exact hacc j k hj h
  rw[List.getD_eq_getElem?_getD,List.getElem?_eq_none (by omega)] at h
  simp at h
 |cons o r ih=>
  refine ih (acc ++ [FC acc o]) (n+1) (by simp [hlen]) (fun i hi=>?_) (by simp at hn;omega) ?_
  ·have:=hl (i+1) (by simpa using hi)
   rw[show n+1+i=n+(i+1) by omega,this]
   rfl
  intro j k hj h
  by_cases e:j<n
  ·rw[List.getD_eq_getElem?_getD,List.getElem?_append_left (by omega)] at h
   exact hacc j k e (by rw[List.getD_eq_getElem?_getD];exact h)
  obtain rfl:j=n:=by omega
  rw[List.getD_eq_getElem?_getD,List.getElem?_append_right (by omega)] at h
  simp only [hlen,Nat.sub_self,List.getElem?_cons_zero,Option.getD_some] at h
  have ho:nthO l0 j=o:=by simpa [nthO] using hl 0 (by simp)
  have hjl:j<l0.length:=by simp at hn;omega
  rcases Fc acc (edges o) 0 k h with h1|⟨m,hm,h2⟩
  ·simp at h1
  rw[← ho] at hm
  rcases h2 with rfl|h2
  ·exact .one hm hjl
  by_cases hmn:m<j
  ·exact .more (hacc m k hmn h2) hm hjl
  rw[List.getD_eq_getElem?_getD,List.getElem?_eq_none (by omega)] at h2
  simp at h2
theorem BQ (l:List Oper) (j k:Nat) (h:((bits l).getD j 0).testBit k=true):Anc l k j:=
 bits_spec_aux l l [] 0 rfl (fun i _=>by simp) (by simp) (fun j k hj=>absurd hj (Nat.not_lt_zero _)) j k h
def runE (l:List Oper) (e:Env) (p:List (Nat×Value)):Env:=p.foldl (fun e x=>e.put (nthO l x.1).dst x.2) e
theorem B7 (l:List Oper) (e:Env) (p q:List (Nat×Value)):runE l e (p ++ q)=runE l (runE l e p) q:=by simp [runE]
theorem put_d (e:Env) (k:Option Nat) (v:Value):(e.put k v).d=e.d:=by cases k <;> rfl
theorem runE_d (l:List Oper) (p:List (Nat×Value)):∀e,(runE l e p).d=e.d:=by
 induction p with
 |nil=>intro e;rfl
 |cons x r ih=>
  intro e
  show (runE l (e.put _ _) r).d=_
  rw[ih,put_d]
theorem put_same (e:Env) (t:Nat) (v:Value):(e.put (some t) v).t t=v:=by
 show (bif Nat.beq t t then v else _)=v
 rw[Nat.beq_refl];rfl
theorem ED (e:Env) (k:Option Nat) (v:Value) (t:Nat) (h:k≠some t):(e.put k v).t t=e.t t:=by
 cases k with
 |none=>rfl
 |some k=>
  show (bif Nat.beq t k then v else _)=_
  cases hb:Nat.beq t k with
  |true=>exact absurd (by rw[beq_true hb]) h
  |false=>rfl
theorem E4 (l:List Oper) (t:Nat) (p:List (Nat×Value)):∀e,(runE l e p).t t=(runE l e (p.filter fun x=>(nthO l x.1).dst == some t)).t t:=by
 have key:∀(p:List (Nat×Value)) (e e':Env),e.t t=e'.t t→(runE l e p).t t=(runE l e' (p.filter fun x=>(nthO l x.1).dst == some t)).t t:=by
  intro p
  induction p with
  |nil=>intro e e' h;exact h
  |cons x r ih=>
   intro e e' h
   by_cases hx:(nthO l x.1).dst=some t
   ·rw[List.filter_cons_of_pos (by simp [hx])]
    exact ih _ _ (by show (e.put (nthO l x.1).dst x.2).t t=(e'.put (nthO l x.1).dst x.2).t t;rw[hx,put_same,put_same])
   rw[List.filter_cons_of_neg (by simpa using hx)]
   exact ih _ _ (by show (e.put (nthO l x.1).dst x.2).t t=_;rw[ED _ _ _ _ hx,h])
 intro e
 exact key p e e rfl
theorem B8 (l:List Oper) (t:Nat) (p q:List (Nat×Value)) (e:Env)
 (h:(p.filter fun x=>(nthO l x.1).dst == some t)=(q.filter fun x=>(nthO l x.1).dst == some t)):(runE l e p).t t=(runE l e q).t t:=by
 rw[E4 l t p e,E4 l t q e,h]
section
variable {P : Program} {N : Nat} {l : List Oper} {π : List (Nat × Bool)}
structure Ok (N:Nat) (l:List Oper) (π:List (Nat×Bool)):Prop where
 full:∀i,i<l.length→i∈π.map (·.1)
 nodup:(π.map (·.1)).Nodup
 lt:∀x∈π,x.1<l.length
 topo:∀A i B,π.map (·.1)=A ++ i :: B→∀j,Anc l j i→j∈A
 names:∀i,i<l.length→∀t∈names l (nthO l i),∀j,j<l.length→(nthO l j).dst=some t→j≠i→Anc l j i∨Anc l i j
 wr:∀A c B,π=A ++ (c,true) :: B→∀x∈B,Anc l c x.1
 last:∀A c,π=A ++ [(c,true)]→∀x∈A,Anc l x.1 c
 ok:∀i,i<l.length→okO N (nthO l i)=true∧okG N l.toArray (nthO l i)=true
theorem Fg {l:List Nat} (h:nodupB l=true):l.Nodup:=by
 induction l with
 |nil=>simp
 |cons a r ih=>
  simp only [nodupB,Bool.and_eq_true,Bool.not_eq_true'] at h
  refine List.nodup_cons.2 ⟨?_,ih h.2⟩
  intro hm
  have:=h.1
  rw[List.elem_eq_contains,List.contains_eq_mem,decide_eq_false_iff_not] at this
  exact this hm
theorem chkTopo_spec (l:List Oper) (r:List Nat):∀done,chkTopo l done r=true→∀A i B,r=A ++ i :: B→∀j∈edges (nthO l i),j∈done∨j∈A:=by
 induction r with
 |nil=>intro done _ A i B h;simp at h
 |cons x r ih=>
  intro done h A i B hr j hj
  simp only [chkTopo,Bool.and_eq_true,List.all_eq_true] at h
  cases A with
  |nil=>
   simp at hr
   obtain ⟨rfl,rfl⟩:=hr
   left
   have:=h.1 j hj
   simpa using this
  |cons y A=>
   simp at hr
   obtain ⟨rfl,rfl⟩:=hr
   rcases ih _ h.2 A i B rfl j hj with h1|h1
   ·simp at h1
    rcases h1 with rfl|h1
    ·right;simp
    left;exact h1
   right;simp [h1]
theorem GD (l:List Oper) (r:List Nat) (ht:∀A i B,r=A ++ i :: B→∀j∈edges (nthO l i),j∈A):
 ∀j i,Anc l j i→∀A B,r=A ++ i :: B→j∈A:=by
 intro j i h
 induction h with
 |one h1 _=>intro A B hr;exact ht A _ B hr _ h1
 |more _ h2 _ ih=>
  intro A B hr
  have hk:=ht A _ B hr _ h2
  obtain ⟨A1,A2,rfl⟩:=List.append_of_mem hk
  have:=ih A1 (A2 ++ _ :: B) (by simpa using hr)
  simp [this]
theorem Gd (l:List Oper) (r:List (Nat×Bool)) (h:chkW (bits l) r=true):∀A c B,r=A ++ (c,true) :: B→∀x∈B,Anc l c x.1:=by
 induction r with
 |nil=>intro A c B h;simp at h
 |cons y r ih=>
  intro A c B hr x hx
  cases A with
  |nil=>
   simp at hr
   obtain ⟨rfl,rfl⟩:=hr
   simp only [chkW,Bool.and_eq_true,List.all_eq_true] at h
   exact BQ l _ _ (h.1 x hx)
  |cons z A=>
   simp at hr
   obtain ⟨rfl,rfl⟩:=hr
   obtain ⟨i,b⟩:=y
   cases b
   ·exact ih h A c B rfl x hx
   simp only [chkW,Bool.and_eq_true] at h
   exact ih h.2 A c B rfl x hx
theorem GI {l:List Oper} {i:Nat} (h:i<l.length):nthO l i∈l:=by
 induction l generalizing i with
 |nil=>simp at h
 |cons o r ih=>
  cases i with
  |zero=>simp [nthO]
  |succ j=>exact List.mem_cons_of_mem _ (ih (by simpa using h))
theorem ok_of_chk (h:chk N l π=true):Ok N l π:=by
 simp only [chk,Bool.and_eq_true] at h
 obtain ⟨⟨⟨⟨⟨⟨⟨h1,h2⟩,h3⟩,h4⟩,h5⟩,h6⟩,h7⟩,h8⟩:=h
 have hnd:=Fg h2
 refine ⟨fun i hi=>by simpa using List.all_eq_true.1 h1 i (List.mem_range.2 hi),hnd,?_,?_,?_,Gd l π h6,?_,?_⟩
 ·intro x hx
  exact Cf (List.all_eq_true.1 h3 x hx)
 ·intro A i B hr j hj
  refine GD l _ ?_ j i hj A B hr
  intro A i B hr j hj
  rcases chkTopo_spec l _ [] h4 A i B hr j hj with h|h
  ·simp at h
  exact h
 ·intro i hi t ht j hj hd hne
  unfold E2 at h5
  have h5a:=List.all_eq_true.1 h5 (i,nthO l i) (by simp only [idx,List.mem_map,List.mem_range];exact ⟨i,hi,rfl⟩)
  have h5b:=List.all_eq_true.1 h5a t ht
  have h5c:=List.all_eq_true.1 h5b (j,nthO l j) (by simp only [idx,List.mem_map,List.mem_range];exact ⟨j,hj,rfl⟩)
  simp only [hd,bne_self_eq_false,Bool.false_or,Bool.or_eq_true,cmpB] at h5c
  rcases h5c with h|h|h
  ·exact absurd (beq_true h) hne
  ·exact .inl (BQ l _ _ h)
  exact .inr (BQ l _ _ h)
 ·intro A c hπ x hx
  unfold chkLast at h7
  rw[hπ] at h7
  simp only [List.getLast?_append,List.getLast?_singleton,Option.some_or] at h7
  have:=List.all_eq_true.1 h7 x (by simp [hx])
  simp only [Bool.or_eq_true] at this
  rcases this with h|h
  ·exfalso
   have hxc:=beq_true h
   rw[hπ] at hnd
   simp only [List.map_append,List.map_cons,List.map_nil] at hnd
   have:=(List.nodup_append.1 hnd).2.2 x.1 (List.mem_map.2 ⟨x,hx,rfl⟩) c (by simp)
   exact this hxc
  exact BQ l _ _ h
 intro i hi
 have:=List.all_eq_true.1 h8 (nthO l i) (GI hi)
 simpa using this
def isL (listed:Array Bool) (i:Nat):Bool:=listed.getD i false
theorem DY {listed:Array Bool} {i j:Nat} (hi:i<listed.size):isL (listed.setIfInBounds i true) j=(Nat.beq j i || isL listed j):=by
 unfold isL
 rw[Array.getD_eq_getD_getElem?,Array.getD_eq_getD_getElem?,Array.getElem?_setIfInBounds]
 by_cases h:i=j
 ·subst h;simp [hi,Nat.beq_refl]
 have hb:Nat.beq j i=false:=by
  cases hb:Nat.beq j i with
  |true=>exact absurd (beq_true hb).symm h
  |false=>rfl
 rw[if_neg h,hb];simp
theorem mem_ready {listed:Array Bool} {i:Nat} (hs:listed.size=l.length):
 i∈Region.ready .any l.toArray listed↔i<l.length∧isL listed i=false∧∀j∈edges (nthO l i),isL listed j=true:=by
 unfold Region.ready
 simp only [List.mem_filter,List.mem_range,List.size_toArray]
 constructor
 ·rintro ⟨hi,h⟩
  rw[C3 hi] at h
  simp only [Option.map_some,Option.getD_some,Bool.and_eq_true,Bool.not_eq_true',Array.all_eq_true_iff_forall_mem] at h
  refine ⟨hi,?_,?_⟩
  ·have:=h.1
   rw[Array.getD_eq_getD_getElem?,Array.getElem?_eq_getElem (by omega)] at this
   unfold isL
   rw[Array.getD_eq_getD_getElem?,Array.getElem?_eq_getElem (by omega)]
   exact this
  intro j hj
  simp only [edges,List.mem_map,List.mem_filter] at hj
  obtain ⟨e,⟨he,hb⟩,rfl⟩:=hj
  have:=h.2 e (by simpa using he)
  rw[hb] at this
  simpa [isL] using this
 rintro ⟨hi,h1,h2⟩
 refine ⟨hi,?_⟩
 rw[C3 hi]
 simp only [Option.map_some,Option.getD_some,Bool.and_eq_true,Bool.not_eq_true',Array.all_eq_true_iff_forall_mem]
 constructor
 ·unfold isL at h1
  rw[Array.getD_eq_getD_getElem?,Array.getElem?_eq_getElem (by omega)] at h1 ⊢
  exact h1
 intro e he
 cases hb:Region.binds .any e with
 |false=>rfl
 |true=>
  simp only [Bool.not_true,Bool.false_or]
  exact h2 e.on (by simp only [edges,List.mem_map,List.mem_filter];exact ⟨e,⟨by simpa using he,hb⟩,rfl⟩)
structure St (P:Program) (N:Nat) (l:List Oper) (π:List (Nat×Bool)) (S:World→Prop) (Q:Env→World→Prop) (e0:Env)
 (p:List (Nat×Value)) (s:List (Nat×Bool)) (listed:Array Bool) (a:Act) (w:World):Prop where
 split:∃pb,π=pb ++ s∧pb.map (·.1)=p.map (·.1)∧∀x∈pb,x.2=true→isL listed x.1=true
 sub:∀i,isL listed i=true→i∈p.map (·.1)
 size:listed.size=l.length
 closed:∀i,isL listed i=true→∀j∈edges (nthO l i),isL listed j=true
 pend:∀p1 i v p2,p=p1 ++ (i,v) :: p2→isL listed i=false→∀w',S w'→Cs P l (runE l e0 p1) i w' v
 dl:DL P l S Q s (runE l e0 p) w
 hd:s=[]∨∃c r,s=(c,true) :: r
 sw:S w∨(s=[]∧∀x∈p,isL listed x.1=true)
 rep:Rep N (runE l e0 (p.filter fun x=>isL listed x.1)) a
theorem Ef {listed:Array Bool} (hc:∀i,isL listed i=true→∀j∈edges (nthO l i),isL listed j=true) {j i:Nat} (h:Anc l j i) (hi:isL listed i=true):isL listed j=true:=by
 induction h with
 |one h1 _=>exact hc _ hi _ h1
 |more _ h2 _ ih=>exact ih (hc _ hi _ h2)
theorem CC {listed:Array Bool} (hc:∀i,isL listed i=true→∀j∈edges (nthO l i),isL listed j=true) {j i:Nat} (h:Anc l j i) (hi:∀k∈edges (nthO l i),isL listed k=true):isL listed j=true:=by
 cases h with
 |one h1 _=>exact hi _ h1
 |more h1 h2 _=>exact Ef hc h1 (hi _ h2)
theorem execOp_same {o:Oper} {e e':Env} (hk:okO N o=true) (h:∀t∈looks l o,e.t t=e'.t t):execOp e.ev o=execOp e'.ev o:=by
 simp only [okO,Bool.and_eq_true] at hk
 refine execOp_congr o (fun cs b hs=>?_) (fun x hx=>?_)
 ·rw[hs] at hk;simp at hk
 cases x with
 |tmp t=>exact h t (by simp only [looks,List.mem_append,List.mem_filterMap];exact .inl ⟨.tmp t,by simpa using hx,rfl⟩)
 |const v=>rfl
 |global g=>rfl
 |func f=>rfl
theorem EN {i:Nat} {e e':Env} (h:∀t∈looks l (nthO l i),e.t t=e'.t t):Ci l e i=Ci l e' i:=by
 unfold Ci Region.wanted
 cases hg:(nthO l i).guard with
 |none=>rfl
 |some q=>
  obtain ⟨j,b⟩:=q
  dsimp only
  have:gEv l.toArray e j=gEv l.toArray e' j:=by
   unfold gEv
   cases hd:(l.toArray[j]?).bind (·.dst) with
   |none=>rfl
   |some t=>
    have:=h t (by unfold looks;rw[hg];dsimp only;rw[hd];simp)
    dsimp only
    rw[this]
  rw[this]
theorem DB {i:Nat} {e e':Env} {w:World} {v:Value} (hk:okO N (nthO l i)=true) (h:∀t∈looks l (nthO l i),e.t t=e'.t t) (hd:Cs P l e i w v):Cs P l e' i w v:=by
 unfold Cs at *
 rw[← EN h,← execOp_same hk h]
 exact hd
theorem EG {i:Nat} {e e':Env} {w:World} {K:Value→World→Prop} (hk:okO N (nthO l i)=true) (h:∀t∈looks l (nthO l i),e.t t=e'.t t) (hd:Ca P l e i w K):Ca P l e' i w K:=by
 unfold Ca at *
 rw[← EN h,← execOp_same hk h]
 exact hd
theorem Dy {i:Nat} {e:Env} {a:Act} {w:World} {v:Value} {K:Act→World→Prop} {Qx:Exit→Act→World→Prop} (hi:i<l.length) (hk:okO N (nthO l i)=true) (hg:okG N l.toArray (nthO l i)=true)
 (hr:Rep N e a) (hd:Cs P l e i w v) (h:K (a.put (nthO l i).dst v) w):wpOp P l.toArray Qx i K a w:=by
 unfold wpOp
 rw[C3 hi]
 dsimp only
 rw[hr.wanted l.toArray _ hg]
 unfold Cs Ci at hd
 rcases hd with ⟨h1,h2⟩|⟨h1,rfl⟩
 ·rw[h1,if_pos rfl]
  refine .inl ?_
  unfold Oper.wp
  rw[hr.exec hk,h2]
  exact h
 rw[h1]
 exact h
theorem EJ {i:Nat} {e:Env} {a:Act} {w:World} {K:Act→World→Prop} {Qx:Exit→Act→World→Prop} (hi:i<l.length) (hk:okO N (nthO l i)=true) (hg:okG N l.toArray (nthO l i)=true)
 (hr:Rep N e a) {KK:Value→World→Prop} (hd:Ca P l e i w KK) (h:∀v w1,KK v w1→K (a.put (nthO l i).dst v) w1):wpOp P l.toArray Qx i K a w:=by
 unfold wpOp
 rw[C3 hi]
 dsimp only
 rw[hr.wanted l.toArray _ hg]
 unfold Ca Ci at hd
 rcases hd with ⟨h1,h2⟩|⟨h1,h2⟩
 ·rw[h1]
  exact h _ _ h2
 rw[h1,if_pos rfl]
 refine .inl ?_
 rcases h2 with ⟨v,w1,hx,hK⟩|⟨w1,hx,hK⟩|⟨f,args,w1,S,hx,hc,hK⟩
 ·unfold Oper.wp
  rw[hr.exec hk,hx]
  exact h _ _ hK
 ·unfold Oper.wp
  rw[hr.exec hk,hx]
  exact h _ _ hK
 exact DD (by rw[hr.exec hk];exact hx) hc fun v w2 hv=>h _ _ (hK v w2 hv)
theorem peel {S:World→Prop} {Q:Env→World→Prop} {w:World} (r:List (Nat×Bool)):∀e,DL P l S Q r e w→
 ∃(q:List (Nat×Value)) (qb s:List (Nat×Bool)),r=qb ++ s∧qb.map (·.1)=q.map (·.1)∧(∀x∈qb,x.2=false)∧DL P l S Q s (runE l e q) w∧(s=[]∨∃c t,s=(c,true) :: t)∧
  ∀q1 i v q2,q=q1 ++ (i,v) :: q2→∀w',S w'→Cs P l (runE l e q1) i w' v:=by
 induction r with
 |nil=>intro e h;exact ⟨[],[],[],rfl,rfl,by simp,h,.inl rfl,by simp⟩
 |cons x r ih=>
  intro e h
  obtain ⟨i,b⟩:=x
  cases b with
  |true=>exact ⟨[],[],(i,true) :: r,rfl,rfl,by simp,h,.inr ⟨i,r,rfl⟩,by simp⟩
  |false=>
   obtain ⟨v,hv,hr⟩:=h
   obtain ⟨q,qb,s,h1,h2,h3,h4,h5,h6⟩:=ih _ hr
   refine ⟨(i,v) :: q,(i,false) :: qb,s,by rw[h1];rfl,by simp [h2],?_,h4,h5,?_⟩
   ·intro x hx
    rcases List.mem_cons.1 hx with rfl|hx
    ·rfl
    exact h3 x hx
   intro q1 i' v' q2 hq w' hw'
   cases q1 with
   |nil=>
    simp at hq
    obtain ⟨⟨rfl,rfl⟩,_⟩:=hq
    exact hv w' hw'
   |cons y q1=>
    simp at hq
    obtain ⟨rfl,hq⟩:=hq
    exact h6 q1 i' v' q2 hq w' hw'
theorem B5 {α:Type} {p:α→Bool} {q:List α} (h:∀x∈q,p x=false):q.filter p=[]:=by
 rw[List.filter_eq_nil_iff]
 intro x hx
 rw[h x hx];simp
theorem Dn {α:Type} {p:α→Bool} {q:List α} (h:∀x∈q,p x=true):q.filter p=q:=List.filter_eq_self.2 h
section main
variable {S : World → Prop} {Q : Env → World → Prop} {e0 : Env} {Qx : Exit → Act → World → Prop}
theorem CU (ok:Ok N l π) {p p1 p2:List (Nat×Value)} {s:List (Nat×Bool)} {listed:Array Bool} {i:Nat} (hp:p=p1 ++ p2) (hsplit:π.map (·.1)=p1.map (·.1) ++ i :: (p2.map (·.1)).drop 1 ++ s.map (·.1)∨(p2=[]∧∃r,π.map (·.1)=p1.map (·.1) ++ i :: r))
 (hp2:∀x∈p2,x.1=i∨x.1∈(p2.map (·.1)).drop 1)
 (hil:i<l.length) (hcl:∀i,isL listed i=true→∀j∈edges (nthO l i),isL listed j=true) (hi:isL listed i=false) (hr:∀j∈edges (nthO l i),isL listed j=true) (t:Nat) (ht:t∈names l (nthO l i)):
 (p.filter fun x=>isL listed x.1).filter (fun x=>(nthO l x.1).dst == some t)=p1.filter (fun x=>(nthO l x.1).dst == some t):=by
 obtain ⟨r,hπ⟩:∃r,π.map (·.1)=p1.map (·.1) ++ i :: r:=by
  rcases hsplit with h|⟨_,h⟩
  ·exact ⟨(p2.map (·.1)).drop 1 ++ s.map (·.1),by rw[h];simp⟩
  exact h
 have hnd:=ok.nodup
 rw[hπ] at hnd
 have hlt:∀j∈π.map (·.1),j<l.length:=by
  intro j hj
  obtain ⟨x,hx,rfl⟩:=List.mem_map.1 hj
  exact ok.lt x hx
 rw[List.filter_filter,hp,List.filter_append]
 have h1:p1.filter (fun x=>(nthO l x.1).dst == some t && isL listed x.1)=p1.filter (fun x=>(nthO l x.1).dst == some t):=by
  apply List.filter_congr
  intro x hx
  by_cases hd:(nthO l x.1).dst=some t
  ·have hx1:x.1∈p1.map (·.1):=List.mem_map.2 ⟨x,hx,rfl⟩
   have hne:x.1≠i:=fun e=>(List.nodup_append.1 hnd).2.2 x.1 hx1 i (by simp) e
   have hxl:x.1<l.length:=hlt x.1 (by rw[hπ];simp [hx1])
   have:isL listed x.1=true:=by
    rcases ok.names i hil t ht x.1 hxl hd hne with h|h
    ·exact CC hcl h hr
    -- i ahead of x: but x stands ahead of i
    exfalso
    obtain ⟨A,B,hAB⟩:=List.append_of_mem hx1
    have:=ok.topo A x.1 (B ++ i :: r) (by rw[hπ,hAB];simp) i h
    rw[hAB] at hnd
    have hnd2:=(List.nodup_append.1 hnd).2.2 i (by simp [this]) i (by simp)
    exact hnd2 rfl
   rw[this];simp
  simp [hd]
 have h2:p2.filter (fun x=>(nthO l x.1).dst == some t && isL listed x.1)=[]:=by
  apply B5
  intro x hx
  cases hL:isL listed x.1 with
  |false=>simp
  |true=>
   by_cases hd:(nthO l x.1).dst=some t
   ·exfalso
    have hne:x.1≠i:=fun e=>by rw[e,hi] at hL;cases hL
    have hxr:x.1∈(p2.map (·.1)).drop 1:=(hp2 x hx).resolve_left hne
    have hx2:x.1∈r:=by
     rcases hsplit with h|⟨h,_⟩
     ·rw[hπ] at h
      have:r=(p2.map (·.1)).drop 1 ++ s.map (·.1):=by
       have:=h
       simp only [List.append_assoc,List.cons_append] at this
       have:=List.append_cancel_left this
       simpa using this
      rw[this]
      exact List.mem_append_left _ hxr
     rw[h] at hx;simp at hx
    have hxl:x.1<l.length:=hlt x.1 (by rw[hπ];simp [hx2])
    rcases ok.names i hil t ht x.1 hxl hd hne with h|h
    ·have:=ok.topo (p1.map (·.1)) i r hπ x.1 h
     exact (List.nodup_append.1 hnd).2.2 x.1 this x.1 (by simp [hx2]) rfl
    have:=Ef hcl h hL
    rw[hi] at this;cases this
   simp [hd]
 rw[h1,h2,List.append_nil]
theorem Es {i:Nat} {v:Value} {p:List (Nat×Value)} {listed:Array Bool} {a:Act} (hi:isL listed i=false) (hil:i<listed.size)
 (hrep:Rep N (runE l e0 (p.filter fun x=>isL listed x.1)) a)
 (hv:∀p1 p2,p=p1 ++ (i,v) :: p2→∀t,(nthO l i).dst=some t→∀x∈p2,(nthO l x.1).dst=some t→isL listed x.1=false)
 (hmem:∃p1 p2,p=p1 ++ (i,v) :: p2∧i∉p1.map (·.1)∧i∉p2.map (·.1)):
 Rep N (runE l e0 (p.filter fun x=>isL (listed.setIfInBounds i true) x.1)) (a.put (nthO l i).dst v):=by
 obtain ⟨p1,p2,hp,hn1,hn2⟩:=hmem
 have hA:=hrep.put (nthO l i).dst v
 have hset:∀j,isL (listed.setIfInBounds i true) j=(Nat.beq j i || isL listed j):=fun j=>DY hil
 have hne:∀q:List (Nat×Value),i∉q.map (·.1)→(q.filter fun x=>isL (listed.setIfInBounds i true) x.1)=q.filter fun x=>isL listed x.1:=by
  intro q hq
  apply List.filter_congr
  intro x hx
  rw[hset]
  have:Nat.beq x.1 i=false:=by
   cases hb:Nat.beq x.1 i with
   |true=>exact absurd (List.mem_map.2 ⟨x,hx,beq_true hb⟩) hq
   |false=>rfl
  rw[this];rfl
 have hb:isL (listed.setIfInBounds i true) i=true:=by rw[hset,Nat.beq_refl];rfl
 have hf:(p.filter fun x=>isL (listed.setIfInBounds i true) x.1)=(p1.filter fun x=>isL listed x.1) ++ (i,v) :: (p2.filter fun x=>isL listed x.1):=by
  rw[hp,List.filter_append,List.filter_cons_of_pos (by simpa using hb),hne p1 hn1,hne p2 hn2]
 have hf0:(p.filter fun x=>isL listed x.1)=(p1.filter fun x=>isL listed x.1) ++ (p2.filter fun x=>isL listed x.1):=by
  rw[hp,List.filter_append,List.filter_cons_of_neg (by simpa using hi)]
 refine ⟨hA.size,by rw[hA.d,put_d,runE_d,runE_d],fun k hk=>?_⟩
 rw[hA.t k hk,hf,hf0]
 by_cases hd:(nthO l i).dst=some k
 ·rw[hd,put_same,B7]
  show v=(runE l (Env.put _ (nthO l i).dst v) _).t k
  have:(runE l ((runE l e0 (p1.filter fun x=>isL listed x.1)).put (nthO l i).dst v) (p2.filter fun x=>isL listed x.1)).t k=((runE l e0 (p1.filter fun x=>isL listed x.1)).put (nthO l i).dst v).t k:=by
   have hnone:((p2.filter fun x=>isL listed x.1).filter fun x=>(nthO l x.1).dst == some k)=[]:=by
    apply B5
    intro x hx
    have hx':=List.mem_filter.1 hx
    by_cases hdx:(nthO l x.1).dst=some k
    ·have:=hv p1 p2 hp k hd x hx'.1 hdx
     have h2:isL listed x.1=true:=hx'.2
     rw[this] at h2;cases h2
    simp [hdx]
   rw[E4,hnone]
   rfl
  rw[this,hd,put_same]
 rw[ED _ _ _ _ hd]
 apply B8
 rw[List.filter_append,List.filter_append,List.filter_cons_of_neg (by simpa using hd)]
def left (listed:Array Bool):Nat:=(listed.toList.filter (!·)).length
theorem Eq (L:List Bool):∀i,L[i]? =some false→((L.set i true).filter (!·)).length+1=(L.filter (!·)).length:=by
 induction L with
 |nil=>intro i h;simp at h
 |cons b r ih=>
  intro i h
  cases i with
  |zero=>simp at h;subst h;simp
  |succ j=>
   have:=ih j (by simpa using h)
   cases b <;> simp <;> omega
theorem D9 {listed:Array Bool} {i:Nat} (hi:i<listed.size) (h:isL listed i=false):left (listed.setIfInBounds i true)+1=left listed:=by
 unfold left
 rw[Array.toList_setIfInBounds]
 apply Eq
 unfold isL at h
 rw[Array.getD_eq_getD_getElem?,Array.getElem?_eq_getElem hi] at h
 rw[Array.getElem?_toList,Array.getElem?_eq_getElem hi]
 simpa using h
theorem CT {listed:Array Bool} (h:left listed=0) {i:Nat} (hi:i<listed.size):isL listed i=true:=by
 unfold left at h
 have:=List.eq_nil_of_length_eq_zero h
 rw[List.filter_eq_nil_iff] at this
 have h2:=this listed[i] (by simp)
 unfold isL
 rw[Array.getD_eq_getD_getElem?,Array.getElem?_eq_getElem hi]
 simpa using h2
theorem Ga (b:Nat→Bool) (L:List Nat) (h:∃i∈L,b i=false):∃A i B,L=A ++ i :: B∧b i=false∧∀j∈A,b j=true:=by
 induction L with
 |nil=>obtain ⟨i,hi,_⟩:=h;simp at hi
 |cons x r ih=>
  by_cases hx:b x=false
  ·exact ⟨[],x,r,rfl,hx,by simp⟩
  obtain ⟨i,hi,hb⟩:=h
  have hir:i∈r:=by
   rcases List.mem_cons.1 hi with rfl|h
   ·exact absurd hb hx
   exact h
  obtain ⟨A,i',B,h1,h2,h3⟩:=ih ⟨i,hir,hb⟩
  refine ⟨x :: A,i',B,by rw[h1];rfl,h2,?_⟩
  intro j hj
  rcases List.mem_cons.1 hj with rfl|hj
  ·cases hb:b j with
   |true=>rfl
   |false=>exact absurd hb hx
  exact h3 j hj
theorem St.end_ (ok:Ok N l π) {p:List (Nat×Value)} {s:List (Nat×Bool)} {listed:Array Bool} {a:Act} {w:World} (st:St P N l π S Q e0 p s listed a w) (hall:∀i∈π.map (·.1),isL listed i=true):
 s=[]∧∃e,Rep N e a∧Q e w:=by
 obtain ⟨pb,hπ,hpb,_⟩:=st.split
 have hs:s=[]:=by
  cases s with
  |nil=>rfl
  |cons x r=>
   exfalso
   have h1:=st.sub x.1 (hall x.1 (by rw[hπ];simp))
   have hnd:=ok.nodup
   rw[hπ,List.map_append,hpb] at hnd
   exact (List.nodup_append.1 hnd).2.2 x.1 h1 x.1 (by simp) rfl
 subst hs
 refine ⟨rfl,runE l e0 p,?_,st.dl⟩
 have:=st.rep
 rw[Dn] at this
 ·exact this
 intro x hx
 exact hall x.1 (by rw[hπ,List.append_nil,hpb];exact List.mem_map.2 ⟨x,hx,rfl⟩)
theorem St.stuck (ok:Ok N l π) {listed:Array Bool} (hsz:listed.size=l.length) (hr:Region.ready .any l.toArray listed=[]):∀i∈π.map (·.1),isL listed i=true:=by
 intro i hi
 cases hb:isL listed i with
 |true=>rfl
 |false=>
  exfalso
  obtain ⟨A,j,B,h1,h2,h3⟩:=Ga (isL listed) _ ⟨i,hi,hb⟩
  have hjl:j<l.length:=by
   have:j∈π.map (·.1):=by rw[h1];simp
   obtain ⟨x,hx,rfl⟩:=List.mem_map.1 this
   exact ok.lt x hx
  have:j∈Region.ready .any l.toArray listed:=(mem_ready hsz).2 ⟨hjl,h2,fun k hk=>h3 k (ok.topo A j B h1 k (.one hk hjl))⟩
  rw[hr] at this
  simp at this
theorem draw_main (ok:Ok N l π) (hQ:∀e a w,Rep N e a→Q e w→Qx .normal a w):∀(fuel:Nat) (p:List (Nat×Value)) (s:List (Nat×Bool)) (listed:Array Bool) (a:Act) (w:World),
 left listed≤fuel→St P N l π S Q e0 p s listed a w→wpAny P .any l.toArray Qx fuel listed a w:=by
 intro fuel
 induction fuel with
 |zero=>
  intro p s listed a w hf st
  have hall:∀i∈π.map (·.1),isL listed i=true:=by
   intro i hi
   obtain ⟨x,hx,rfl⟩:=List.mem_map.1 hi
   exact CT (by omega) (by rw[st.size];exact ok.lt x hx)
  refine ⟨?_,?_⟩
  ·cases hr:Region.ready .any l.toArray listed with
   |nil=>rfl
   |cons i r=>
    exfalso
    have hm:i∈Region.ready .any l.toArray listed:=by rw[hr];simp
    obtain ⟨hil,hl,_⟩:=(mem_ready st.size).1 hm
    have:=CT (i:=i) (show left listed=0 by omega) (by rw[st.size];exact hil)
    rw[this] at hl;cases hl
  obtain ⟨_,e,he,hq⟩:=st.end_ ok hall
  exact hQ e a w he hq
 |succ fuel ih=>
  intro p s listed a w hf st
  refine ⟨fun hr=>?_,fun i hi=>?_⟩
  ·obtain ⟨_,e,he,hq⟩:=st.end_ ok (St.stuck ok st.size hr)
   exact hQ e a w he hq
  obtain ⟨hil,hiL,hir⟩:=(mem_ready st.size).1 hi
  have hsz:i<listed.size:=by rw[st.size];exact hil
  have hleft:=D9 hsz hiL
  obtain ⟨okO',okG'⟩:=ok.ok i hil
  obtain ⟨pb,hπ,hpb,hwl⟩:=st.split
  have hπ1:π.map (·.1)=p.map (·.1) ++ s.map (·.1):=by rw[hπ,List.map_append,hpb]
  have hnd:=ok.nodup
  rw[hπ1] at hnd
  have hset:∀j,isL (listed.setIfInBounds i true) j=(Nat.beq j i || isL listed j):=fun j=>DY hsz
  have hclosed':∀k,isL (listed.setIfInBounds i true) k=true→∀j∈edges (nthO l k),isL (listed.setIfInBounds i true) j=true:=by
   intro k hk j hj
   rw[hset] at hk ⊢
   simp only [Bool.or_eq_true] at hk ⊢
   rcases hk with hk|hk
   ·right;rw[beq_true hk] at hj;exact hir j hj
   right;exact st.closed k hk j hj
  have hmono:∀k,isL listed k=true→isL (listed.setIfInBounds i true) k=true:=fun k hk=>by rw[hset,hk];simp
  have hiπ:i∈p.map (·.1) ++ s.map (·.1):=by
   rw[← hπ1]
   exact ok.full i hil
  rcases List.mem_append.1 hiπ with hip|his
  ·-- a reader that was put off
   obtain ⟨x,hx,hxi⟩:=List.mem_map.1 hip
   obtain ⟨p1,p2,hp⟩:=List.append_of_mem hx
   obtain ⟨i',v⟩:=x
   dsimp only at hxi
   subst hxi
   have hSw:S w:=by
    rcases st.sw with h|⟨_,h⟩
    ·exact h
    have:=h (i',v) hx
    rw[hiL] at this;cases this
   have hd:=st.pend p1 i' v p2 hp hiL w hSw
   have hn:i'∉p1.map (·.1)∧i'∉p2.map (·.1):=by
    have h1:=(List.nodup_append.1 hnd).1
    rw[hp,List.map_append,List.map_cons] at h1
    refine ⟨fun h=>(List.nodup_append.1 h1).2.2 i' h i' (by simp) rfl,?_⟩
    exact (List.nodup_cons.1 (List.nodup_append.1 h1).2.1).1
   have hlook:∀t∈names l (nthO l i'),(p.filter fun x=>isL listed x.1).filter (fun x=>(nthO l x.1).dst == some t)=p1.filter (fun x=>(nthO l x.1).dst == some t):=by
    intro t ht
    refine CU (p2:=(i',v) :: p2) (s:=s) ok hp (.inl ?_) ?_ hil st.closed hiL hir t ht
    ·rw[hπ1,hp];simp
    intro x hx
    rcases List.mem_cons.1 hx with rfl|hx
    ·exact .inl rfl
    right;simp;exact ⟨_,hx⟩
   have hd':Cs P l (runE l e0 (p.filter fun x=>isL listed x.1)) i' w v:=
    DB okO' (fun t ht=>(B8 l t _ _ e0 (hlook t (by unfold names;exact List.mem_append_right _ ht))).symm) hd
   refine Dy hil okO' okG' st.rep hd' (ih p s _ _ _ (by omega) ?_)
   refine ⟨⟨pb,hπ,hpb,fun x hx hx2=>hmono _ (hwl x hx hx2)⟩,?_,by simp [st.size],hclosed',?_,st.dl,st.hd,?_,?_⟩
   ·intro k hk
    rw[hset] at hk
    simp only [Bool.or_eq_true] at hk
    rcases hk with hk|hk
    ·rw[beq_true hk];exact hip
    exact st.sub k hk
   ·intro q1 k u q2 hq hk
    rw[hset] at hk
    simp only [Bool.or_eq_false_iff] at hk
    exact st.pend q1 k u q2 hq hk.2
   ·rcases st.sw with h|⟨h1,h2⟩
    ·exact .inl h
    exact .inr ⟨h1,fun x hx=>hmono _ (h2 x hx)⟩
   refine Es hiL hsz st.rep ?_ ⟨p1,p2,hp,hn⟩
   intro q1 q2 hq t htd x hx hxd
   have hqq:q1=p1∧q2=p2:=by
    have h1:p1 ++ (i',v) :: p2=q1 ++ (i',v) :: q2:=by rw[← hp,hq]
    rcases List.append_eq_append_iff.1 h1 with ⟨r,hr1,hr2⟩|⟨r,hr1,hr2⟩
    ·cases r with
     |nil=>simp at hr1 hr2;exact ⟨hr1,hr2.symm⟩
     |cons y r=>
      simp at hr2
      exfalso
      apply hn.2
      rw[hr2.2];simp
    cases r with
    |nil=>simp at hr1 hr2;exact ⟨hr1.symm,hr2⟩
    |cons y r=>
     simp at hr2
     exfalso
     apply hn.1
     rw[hr1,← hr2.1];simp
   rw[hqq.2] at hx
   have hf:=hlook t (by unfold names;rw[htd];simp)
   cases hLx:isL listed x.1 with
   |false=>rfl
   |true=>
    exfalso
    have hm:x∈(p.filter fun x=>isL listed x.1).filter (fun x=>(nthO l x.1).dst == some t):=by
     rw[List.mem_filter,List.mem_filter]
     exact ⟨⟨by rw[hp];simp [hx],hLx⟩,by simp [hxd]⟩
    rw[hf,List.mem_filter] at hm
    have h1:=(List.nodup_append.1 hnd).1
    rw[hp,List.map_append,List.map_cons] at h1
    exact (List.nodup_append.1 h1).2.2 x.1 (List.mem_map.2 ⟨x,hm.1,rfl⟩) x.1 (by simp;right;exact ⟨_,hx⟩) rfl
  -- the next writer
  rcases st.hd with rfl|⟨c,r,rfl⟩
  ·simp at his
  have hic:i=c:=by
   simp only [List.map_cons,List.mem_cons] at his
   rcases his with h|h
   ·exact h
   exfalso
   obtain ⟨x,hx,hxi⟩:=List.mem_map.1 h
   have hA:=ok.wr pb c r hπ x hx
   rw[hxi] at hA
   have hcL:=CC st.closed hA hir
   have:=st.sub c hcL
   exact (List.nodup_append.1 hnd).2.2 c this c (by simp) rfl
  subst hic
  have hip:i∉p.map (·.1):=fun h=>(List.nodup_append.1 hnd).2.2 i h i (by simp) rfl
  have hlook:∀t∈names l (nthO l i),(p.filter fun x=>isL listed x.1).filter (fun x=>(nthO l x.1).dst == some t)=p.filter (fun x=>(nthO l x.1).dst == some t):=by
   intro t ht
   refine CU (p1:=p) (p2:=[]) (s:=(i,true) :: r) ok (by simp) (.inr ⟨rfl,r.map (·.1),?_⟩) (by simp) hil st.closed hiL hir t ht
   rw[hπ1];simp
  have hacts:=st.dl
  have hacts':Ca P l (runE l e0 (p.filter fun x=>isL listed x.1)) i w fun v w1=>(r=[]∨S w1)∧DL P l S Q r ((runE l e0 p).put (nthO l i).dst v) w1:=
   EG okO' (fun t ht=>(B8 l t _ _ e0 (hlook t (by unfold names;exact List.mem_append_right _ ht))).symm) hacts
  refine EJ hil okO' okG' st.rep hacts' ?_
  rintro v w1 ⟨hS1,hdl1⟩
  obtain ⟨q,qb,s',hr',hqb,hq2,hdl2,hhd2,hpend2⟩:=peel r _ hdl1
  have hq1:r.map (·.1)=q.map (·.1) ++ s'.map (·.1):=by rw[hr',List.map_append,hqb]
  have hqL:∀x∈q,isL listed x.1=false:=by
   intro x hx
   cases hLx:isL listed x.1 with
   |false=>rfl
   |true=>
    exfalso
    have h1:=st.sub _ hLx
    exact (List.nodup_append.1 hnd).2.2 x.1 h1 x.1 (by simp only [List.map_cons,hq1];simp;right;left;exact ⟨_,hx⟩) rfl
  have hqi:∀x∈q,x.1≠i:=by
   intro x hx e
   have h1:=(List.nodup_append.1 hnd).2.1
   simp only [List.map_cons] at h1
   exact (List.nodup_cons.1 h1).1 (by rw[hq1,← e];simp;left;exact ⟨_,hx⟩)
  refine ih (p ++ (i,v) :: q) s' _ _ _ (by omega) ?_
  refine ⟨⟨pb ++ (i,true) :: qb,by rw[hπ,hr'];simp,by simp [hpb,hqb],?_⟩,?_,by simp [st.size],hclosed',?_,?_,hhd2,?_,?_⟩
  ·intro x hx hx2
   rcases List.mem_append.1 hx with h|h
   ·exact hmono _ (hwl x h hx2)
   rcases List.mem_cons.1 h with rfl|h
   ·rw[hset,Nat.beq_refl];rfl
   have:=hq2 x h
   rw[hx2] at this;cases this
  ·intro k hk
   rw[hset] at hk
   simp only [Bool.or_eq_true] at hk
   rcases hk with hk|hk
   ·rw[beq_true hk];simp
   have:=st.sub k hk
   rw[List.map_append]
   exact List.mem_append_left _ this
  ·intro q1 k u q2 hq hk
   rw[hset] at hk
   simp only [Bool.or_eq_false_iff] at hk
   rcases List.append_eq_append_iff.1 hq with ⟨t,ht1,ht2⟩|⟨t,ht1,ht2⟩
   ·-- behind p
    cases t with
    |nil=>
     simp at ht1 ht2
     exfalso
     have:k=i:=by rw[← ht2.1.1]
     rw[this,Nat.beq_refl] at hk
     exact Bool.noConfusion hk.1
    |cons y t=>
     simp at ht2
     obtain ⟨rfl,ht2⟩:=ht2
     have:=hpend2 t k u q2 ht2
     rw[ht1,B7]
     exact this
   cases t with
   |nil=>
    simp at ht1 ht2
    exfalso
    have:k=i:=by rw[ht2.1.1]
    rw[this,Nat.beq_refl] at hk
    exact Bool.noConfusion hk.1
   |cons y t=>
    simp at ht2
    obtain ⟨rfl,ht2⟩:=ht2
    exact st.pend q1 k u t ht1 hk.2
  ·rw[B7]
   exact hdl2
  ·rcases hS1 with hrn|hS
   ·right
    rw[hrn] at hr'
    have hq0:qb=[]∧s'=[]:=by
     have:=hr'.symm
     simpa using this
    have hqn:q=[]:=by
     have h1:=hqb
     rw[hq0.1] at h1
     simpa using h1.symm
    refine ⟨hq0.2,?_⟩
    rw[hqn]
    intro x hx
    rcases List.mem_append.1 hx with h|h
    ·rw[hrn] at hπ
     have hm:x.1∈pb.map (·.1):=by rw[hpb];exact List.mem_map.2 ⟨x,h,rfl⟩
     obtain ⟨y,hy,hyx⟩:=List.mem_map.1 hm
     have hA:=ok.last pb i hπ y hy
     rw[hyx] at hA
     exact hmono _ (CC st.closed hA hir)
    simp at h
    rw[h,hset,Nat.beq_refl];rfl
   exact .inl hS
  have hff:((p ++ (i,v) :: q).filter fun x=>isL (listed.setIfInBounds i true) x.1)=(p.filter fun x=>isL listed x.1) ++ [(i,v)]:=by
   rw[List.filter_append]
   congr 1
   ·apply List.filter_congr
    intro x hx
    rw[hset]
    have:Nat.beq x.1 i=false:=by
     cases hb:Nat.beq x.1 i with
     |true=>exact absurd (List.mem_map.2 ⟨x,hx,beq_true hb⟩) hip
     |false=>rfl
    rw[this];rfl
   rw[List.filter_cons_of_pos (by rw[hset,Nat.beq_refl];rfl),B5]
   intro x hx
   rw[hset,hqL x hx]
   cases hb:Nat.beq x.1 i with
   |true=>exact absurd (beq_true hb) (hqi x hx)
   |false=>rfl
  rw[hff,B7]
  exact st.rep.put (nthO l i).dst v
end main
theorem AY {id:Nat} {l:List Oper} {Q:Exit→Env→World→Prop} {e:Env} {w:World} {N:Nat} (hm:P.follows .mixedOrders=true) (S:World→Prop) (π:List (Nat×Bool)) (hc:chk N l π=true)
 (hS:S w.drew) (h:DL P l S (Q .normal) π e w.drew):EC P N (.region id l.toArray true) Q e w:=by
 intro Qx a hr hq
 have ok:=ok_of_chk hc
 refine wp_region_any hm ?_
 obtain ⟨q,qb,s,h1,h2,h3,h4,h5,h6⟩:=peel π _ h
 have hrep:∀i,isL (Array.replicate l.toArray.size false) i=false:=by
  intro i
  unfold isL
  rw[Array.getD_eq_getD_getElem?,Array.getElem?_replicate]
  split <;> rfl
 refine draw_main (S:=S) (Q:=Q .normal) (e0:=e) (p:=q) (s:=s) ok (fun e' a' w' hr' hx=>hq _ _ _ _ hr' hx) _ _ _ _ ?_ ?_
 ·unfold left
  refine Nat.le_trans (List.length_filter_le _ _) ?_
  simp
 refine ⟨⟨qb,h1,h2,fun x hx hx2=>?_⟩,fun i hi=>?_,by simp,fun i hi=>?_,fun p1 i v p2 hp _=>h6 p1 i v p2 hp,h4,h5,.inl hS,?_⟩
 ·rw[h3 x hx] at hx2;cases hx2
 ·rw[hrep] at hi;cases hi
 ·rw[hrep] at hi;cases hi
 rw[B5 (fun x _=>hrep x.1)]
 exact hr
end
end Go.Eng
namespace Go.Eng
open Go Go.RowKit
section
variable {P : Program} {l : List Oper} {S : World → Prop} {Q : Env → World → Prop} {r : List (Nat × Bool)} {e : Env} {w : World} {i d : Nat} {op : Op} {ty : TypeId} {pos : String} {af : Array Edge}
theorem B9 {g:Option Tmp} (ho:nthO l i=⟨g,op,ty,pos,af,none⟩):Ci l e i=true:=by
 unfold Ci Region.wanted;rw[ho]
theorem E8 {g:Option Tmp} {j:Nat} {b:Bool} (ho:nthO l i=⟨g,op,ty,pos,af,some (j,b)⟩) (hg:gEv l.toArray e j=some b):Ci l e i=true:=by
 unfold Ci Region.wanted;rw[ho];dsimp only;rw[hg];simp
theorem Fl {g:Option Tmp} {j:Nat} {b:Bool} (ho:nthO l i=⟨g,op,ty,pos,af,some (j,b)⟩) (hg:gEv l.toArray e j=some (!b)):Ci l e i=false:=by
 unfold Ci Region.wanted;rw[ho];dsimp only;rw[hg];cases b <;> rfl
theorem AP (h:Q e w):DL P l S Q [] e w:=h
theorem Aj {v:Value} (ho:nthO l i=⟨some d,op,ty,pos,af,none⟩)
 (hx:∀w',S w'→(execOp e.ev ⟨some d,op,ty,pos,af,none⟩).run P w'= .ok (.value v) w') (h:DL P l S Q r (e.set d v) w):DL P l S Q ((i,false) :: r) e w:=by
 refine ⟨v,fun w' hw=>.inl ⟨B9 ho,by rw[ho];exact hx w' hw⟩,?_⟩
 rw[ho];exact h
theorem Ay {v:Value} {j:Nat} {b:Bool} (ho:nthO l i=⟨some d,op,ty,pos,af,some (j,b)⟩) (hg:gEv l.toArray e j=some b)
 (hx:∀w',S w'→(execOp e.ev ⟨some d,op,ty,pos,af,some (j,b)⟩).run P w'= .ok (.value v) w') (h:DL P l S Q r (e.set d v) w):DL P l S Q ((i,false) :: r) e w:=by
 refine ⟨v,fun w' hw=>.inl ⟨E8 ho hg,by rw[ho];exact hx w' hw⟩,?_⟩
 rw[ho];exact h
theorem AJ {j:Nat} {b:Bool} (ho:nthO l i=⟨some d,op,ty,pos,af,some (j,b)⟩) (hg:gEv l.toArray e j=some (!b))
 (h:DL P l S Q r (e.set d undef) w):DL P l S Q ((i,false) :: r) e w:=by
 refine ⟨undef,fun w' hw=>.inr ⟨Fl ho hg,rfl⟩,?_⟩
 rw[ho];exact h
theorem BK {v:Value} {w1:World} (ho:nthO l i=⟨some d,op,ty,pos,af,none⟩)
 (hx:(execOp e.ev ⟨some d,op,ty,pos,af,none⟩).run P w= .ok (.value v) w1) (hS:r=[]∨S w1) (h:DL P l S Q r (e.set d v) w1):DL P l S Q ((i,true) :: r) e w:=by
 refine .inr ⟨B9 ho,.inl ⟨v,w1,by rw[ho];exact hx,hS,?_⟩⟩
 rw[ho];exact h
theorem BP {w1:World} (ho:nthO l i=⟨none,op,ty,pos,af,none⟩)
 (hx:(execOp e.ev ⟨none,op,ty,pos,af,none⟩).run P w= .ok .skip w1) (hS:r=[]∨S w1) (h:DL P l S Q r e w1):DL P l S Q ((i,true) :: r) e w:=by
 refine .inr ⟨B9 ho,.inr (.inl ⟨w1,by rw[ho];exact hx,hS,?_⟩)⟩
 rw[ho];exact h
theorem BO {f:FuncId} {args:Array Value} {w1:World} {C:Value→World→Prop} (ho:nthO l i=⟨some d,op,ty,pos,af,none⟩)
 (hx:(execOp e.ev ⟨some d,op,ty,pos,af,none⟩).run P w= .ok (.enter f args) w1) (hc:Ret P f args w1 C)
 (h:∀v w2,C v w2→(r=[]∨S w2)∧DL P l S Q r (e.set d v) w2):DL P l S Q ((i,true) :: r) e w:=by
 refine .inr ⟨B9 ho,.inr (.inr ⟨f,args,w1,C,by rw[ho];exact hx,hc,fun v w2 hv=>?_⟩)⟩
 rw[ho];exact h v w2 hv
theorem FR {f:FuncId} {args:Array Value} {w1:World} {C:Value→World→Prop} {j:Nat} {b:Bool} (ho:nthO l i=⟨some d,op,ty,pos,af,some (j,b)⟩) (hg:gEv l.toArray e j=some b)
 (hx:(execOp e.ev ⟨some d,op,ty,pos,af,some (j,b)⟩).run P w= .ok (.enter f args) w1) (hc:Ret P f args w1 C)
 (h:∀v w2,C v w2→(r=[]∨S w2)∧DL P l S Q r (e.set d v) w2):DL P l S Q ((i,true) :: r) e w:=by
 refine .inr ⟨E8 ho hg,.inr (.inr ⟨f,args,w1,C,by rw[ho];exact hx,hc,fun v w2 hv=>?_⟩)⟩
 rw[ho];exact h v w2 hv
theorem FS {j:Nat} {b:Bool} (ho:nthO l i=⟨some d,op,ty,pos,af,some (j,b)⟩) (hg:gEv l.toArray e j=some (!b))
 (hS:r=[]∨S w) (h:DL P l S Q r (e.set d undef) w):DL P l S Q ((i,true) :: r) e w:=by
 refine .inl ⟨Fl ho hg,hS,?_⟩
 rw[ho];exact h
end
def Cells (L:List (Addr×Value)) (w:World):Prop:=∀x∈L,w.cell? x.1=some x.2
theorem Cells.get {L:List (Addr×Value)} {w:World} (h:Cells L w) {p:Addr} {v:Value} (hm:(p,v)∈L):w.cell? p=some v:=h _ hm
theorem Cells.nil (w:World):Cells [] w:=fun _ h=>by cases h
theorem Cells.cons {L:List (Addr×Value)} {w:World} {p:Addr} {v:Value} (h1:w.cell? p=some v) (h:Cells L w):Cells ((p,v) :: L) w:=by
 intro x hx
 rcases List.mem_cons.1 hx with rfl|hx
 ·exact h1
 exact h x hx
theorem Cells.drew {L:List (Addr×Value)} {w:World} (h:Cells L w):Cells L w.drew:=h
theorem cell?_alloc {w:World} {o:Obj} {p:Addr} {v:Value} (h:w.cell? p=some v):(w.alloc o).cell? p=some v:=by
 have hlt:=World.block_lt_of_cell? w p h
 rw[World.cell?_of_block (w:=w) (w':=w.alloc o) (a:=p) (Below.heap_alloc _ _ _ hlt)]
 exact h
theorem Cells.alloc {L:List (Addr×Value)} {w:World} (h:Cells L w) (o:Obj):Cells L (w.alloc o):=fun x hx=>cell?_alloc (h x hx)
theorem Cells.grown {L:List (Addr×Value)} {w w':World} {row:Option Nat} (h:Cells L w) (hg:w.grownBy w' row) (hr:∀x∈L,some x.1.block≠row):Cells L w':=
 fun x hx=>hg.cell (h x hx) (hr x hx)
def Keep (w w':World):Prop:=∀a v,w.cell? a=some v→w'.cell? a=some v
theorem Keep.trans {a b c:World} (h:Keep a b) (k:Keep b c):Keep a c:=fun x v hx=>k x v (h x v hx)
theorem Keep.alloc (w:World) (o:Obj):Keep w (w.alloc o):=fun _ _ h=>cell?_alloc h
theorem Keep.drew (w:World):Keep w w.drew:=fun _ _ h=>h
theorem Keep.of_below {w w':World} {B:Nat} (h:Below B w w') (hB:w.heap.size≤B):Keep w w':=fun a v hv=>by
 rw[h.cell (by have:=World.block_lt_of_cell? w a hv;omega)];exact hv
theorem Keep.cells {L:List (Addr×Value)} {w w':World} (h:Keep w w') (hL:Cells L w):Cells L w':=fun x hx=>h _ _ (hL x hx)
theorem append_where {P:Program} {w:World} {t ty el:TypeId} {i:TypeInfo} {z:Value} {base:Nat}
 (ht:P.underlying t=some (.slice el)) (hi:P.info? el=some i) (hz:i.zero=some z) {v:Value} {n:Nat} {xs:List Value} (hown:w.ownsRow base el i.size v n xs)
 {ad:Addr} {m c:Nat} {news:List Value} (hl:news.length=m * i.size) (hnews:∀j u,news[j]? =some u→w.cell? (ad.add j)=some u) (h1:∀u∈news,u.oneCell'=true)
 (hbytes:(n+m) * i.bytes≤140737488355328) (h63:n+m≤maxLen) {v':Value} {w':World}
 (hr:(Builtin.append_ #[t,t] ty #[v,.slice (some ad) m c]).run P w= .ok v' w'):v'.ownBlock=v.ownBlock∨v'.ownBlock=some w.heap.size:=by
 have hsmall:n+m≤9223372036854775807:=by simp only [maxLen] at h63;omega
 rcases hown.2 with ⟨rfl,rfl⟩|⟨g,cap,cur,rfl,hbg,hg,hnc,hcm,hcs,htake⟩
 ·by_cases hm:m=0
  ·subst hm
   have hn:news=[]:=List.eq_nil_of_length_eq_zero (by simpa using hl)
   subst hn
   simp [Builtin.append_,run_underlying ht,sizeOf,typeInfo,hi,Builtin.lenOf,Builtin.firstCells,loadCells,loadCellsFrom] at hr
   left;rw[← hr.1]
  have hr2:=run_append_nil (P:=P) w t ty el i z ht hi hz ad m c news hl hnews (by omega) (by omega) (by have hb:=hbytes;simp only [Nat.zero_add] at hb;omega)
  rw[hr2] at hr
  injection hr with h1 h2
  right;rw[← h1];rfl
 by_cases hroom:n+m≤cap
 ·have hfit:n * i.size+news.length≤cur.size:=by rw[hl,hcs,← Nat.add_mul];exact Nat.mul_le_mul_right _ hroom
  have hr2:=run_append_room (P:=P) w t ty el i ht hi g n cap cur hg ad m c news hl hnews h1 hroom hfit
  rw[hr2] at hr
  injection hr with h1 h2
  left;rw[← h1];rfl
 have holds:∀j u,xs[j]? =some u→w.cell? ((⟨g,0,none⟩:Addr).add j)=some u:=hown.cells (g:=g) rfl
 have hr2:=run_append_grow (P:=P) w t ty el i z ht hi hz ⟨g,0,none⟩ n cap xs hown.1 holds ad m c news hl hnews (by omega) (by omega) (growslice_fits (by omega) hbytes)
 rw[hr2] at hr
 injection hr with h1 h2
 right;rw[← h1];rfl
theorem x_append {P:Program} {w:World} {ρ:Operand→Value} {d:Option Tmp} {ty:TypeId} {pos:String} {af:Array Edge} {g:Option (Nat×Bool)} {t el:TypeId} {s x:Operand} {z:Value} {size bytes base:Nat}
 (ht:P.underlying t=some (.slice el)) (hi:(P.info? el).map (fun i=>(i.zero,i.size,i.bytes))=some (some z,size,bytes)) (hzs:z.cells.size=size) (hsz:0<size)
 {v:Value} {n:Nat} {xs:List Value} (hs:ρ s=v) (hown:w.ownsRow base el size v n xs)
 {ad:Addr} {m c:Nat} {news:List Value} (hx:ρ x= .slice (some ad) m c) (hl:news.length=m * size) (hnews:∀j u,news[j]? =some u→w.cell? (ad.add j)=some u) (h1:∀u∈news,u.oneCell'=true)
 (hbytes:(n+m) * bytes≤140737488355328) (hb0:0<bytes) (hbase:base≤w.heap.size):
 ∃v' w',(execOp ρ ⟨d,.call { callee:=.builtin .append,args:=#[s,x],argTypes:=#[t,t] },ty,pos,af,g⟩).run P w= .ok (.value v') w'∧
  w'.ownsRow base el size v' (n+m) (xs ++ news)∧w.grownBy w' v.ownBlock∧(v'= .slice none 0 0↔v= .slice none 0 0∧m=0)∧(v'.ownBlock=v.ownBlock∨v'.ownBlock=some w.heap.size):=by
 obtain ⟨i,hi1,hi2,rfl,rfl⟩:=info_parts hi
 have h63:n+m≤maxLen:=by
  have:n+m≤(n+m) * i.bytes:=Nat.le_mul_of_pos_right _ hb0
  simp only [maxLen];omega
 obtain ⟨v',w',hr,h2,h3,h4⟩:=run_append_own (P:=P) w base t ty el i z i.size i.bytes ht hi1 hi2 rfl rfl hzs hsz v n xs hown ad m c news hl hnews h1 h63 hbytes hbase
 refine ⟨v',w',?_,h2,h3,h4,append_where ht hi1 hi2 hown hl hnews h1 hbytes h63 hr⟩
 unfold execOp
 simp only [resolve,invoke,builtin,Sem.run_bind,Sem.run_pure,Result.andThen_ok,List.map_toArray,List.map_cons,List.map_nil,hs,hx,hr]
theorem ES {P:Program} {w:World} {ρ:Operand→Value} {d:Option Tmp} {ty:TypeId} {pos:String} {af:Array Edge} {g:Option (Nat×Bool)} {t el:TypeId} {s x:Operand} {z:Value} {size bytes base:Nat}
 (ht:P.underlying t=some (.slice el)) (hi:(P.info? el).map (fun i=>(i.zero,i.size,i.bytes))=some (some z,size,bytes))
 {v:Value} {n:Nat} {xs:List Value} (hs:ρ s=v) (hown:w.ownsRow base el size v n xs) {c:Nat} (hx:ρ x= .slice none 0 c):
 (execOp ρ ⟨d,.call { callee:=.builtin .append,args:=#[s,x],argTypes:=#[t,t] },ty,pos,af,g⟩).run P w= .ok (.value v) w:=by
 obtain ⟨i,hi1,hi2,hi3,hi4⟩:=info_parts hi
 have hsz:∃a l c',v= .slice a l c'∧l≤c':=by
  rcases hown.2 with ⟨rfl,_⟩|⟨g,cap,cur,rfl,_,_,hle,_⟩
  ·exact ⟨_,_,_,rfl,Nat.le_refl _⟩
  exact ⟨_,_,_,rfl,hle⟩
 obtain ⟨a,l,c',rfl,hle⟩:=hsz
 unfold execOp
 simp [resolve,invoke,builtin,hs,hx,Builtin.append_,run_underlying ht,sizeOf,typeInfo,hi1,Builtin.lenOf,hle,Builtin.firstCells]
 cases a <;> simp [storeCells]
theorem x_append1 {P:Program} {w:World} {ρ:Operand→Value} {d:Option Tmp} {ty:TypeId} {pos:String} {af:Array Edge} {g:Option (Nat×Bool)} {t el:TypeId} {s x:Operand} {z:Value} {bytes base:Nat}
 (ht:P.underlying t=some (.slice el)) (hi:(P.info? el).map (fun i=>(i.zero,i.size,i.bytes))=some (some z,1,bytes)) (hzs:z.cells.size=1)
 {v:Value} {n:Nat} {xs:List Value} (hs:ρ s=v) (hown:w.ownsRow base el 1 v n xs)
 {b:Nat} {u:Value} (hx:ρ x= .slice (some ⟨b,0,none⟩) 1 1) (hu:w.cell? ⟨b,0,none⟩=some u) (h1:u.oneCell'=true)
 (hbytes:(n+1) * bytes≤140737488355328) (hb0:0<bytes) (hbase:base≤w.heap.size):
 ∃v' w',(execOp ρ ⟨d,.call { callee:=.builtin .append,args:=#[s,x],argTypes:=#[t,t] },ty,pos,af,g⟩).run P w= .ok (.value v') w'∧
  w'.ownsRow base el 1 v' (n+1) (xs ++ [u])∧w.grownBy w' v.ownBlock∧(v'.ownBlock=v.ownBlock∨v'.ownBlock=some w.heap.size):=by
 obtain ⟨v',w',h2,h3,h4,_,h6⟩:=x_append (d:=d) (ty:=ty) (pos:=pos) (af:=af) (g:=g) (news:=[u]) ht hi hzs (by omega) hs hown hx rfl (fun j y hj=>by
  cases j with
  |zero=>simp at hj;subst hj;simpa [Addr.add] using hu
  |succ j=>simp at hj) (fun y hy=>by simp at hy;subst hy;exact h1) hbytes hb0 hbase
 exact ⟨v',w',h2,h3,h4,h6⟩
end Go.Eng
namespace Go.Proofs.YteepnepebilckaaGreatDoor
open Go Go.Eng
noncomputable instance:Tab Tryz.prog where
 one:=[2,3,4,21,22,23,27,28,33,35,42,46,49,59,60,71,74,75,78,80,88,89,91,92,95,96,97,98,108,110,113,114,121,124,127,132,143,162,177,181,204]
 agg:=[(25,2),(30,2),(39,4),(48,4),(53,4),(54,4),(62,2),(82,6),(83,4),(84,4),(94,8),(101,7),(103,1),(116,1),(117,21),(153,5),(206,2)]
 fld:=[(25,0,0),(25,1,1),(30,0,0),(30,1,1),(39,0,0),(39,1,1),(39,2,2),(39,3,3),(48,0,0),(48,1,1),(48,2,2),(48,3,3),(53,0,0),(53,1,1),(53,2,2),(53,3,3),(54,0,0),(54,1,1),(54,2,2),(54,3,3),(62,0,0),(62,1,1),(82,0,0),(82,1,1),(82,3,2),(82,4,3),(82,5,4),(82,6,5),(83,0,0),(83,1,1),(83,2,2),(83,3,3),(84,0,0),(84,1,1),(84,2,2),(84,3,3),(94,0,0),(94,1,1),(94,2,2),(94,3,3),(94,4,4),(94,5,5),(94,6,6),(94,7,7),(101,0,0),(101,1,1),(101,2,2),(101,3,3),(101,4,4),(101,5,5),(101,6,6),(103,0,0),(116,0,0),(153,0,0),(153,1,1),(153,2,2),(153,3,3),(153,4,4),(206,0,0),(206,1,1)]
 sl:=[(22,4),(23,4),(27,4),(28,4),(33,1),(35,1),(42,1),(46,1),(49,1),(59,4),(60,4),(75,1),(78,1),(92,1),(108,1),(110,1),(113,1),(114,1),(127,5),(204,2)]
 ptr:=[71,74,97,181]
 ints:=[(2,.i64),(3,.i64),(21,.i32),(88,.i32),(89,.i64),(91,.i8),(95,.i64),(96,.i64),(121,.u32),(132,.u64),(143,.i8),(162,.i64),(177,.u64)]
 hone:=by kernel_rfl
 hagg:=by kernel_rfl
 hfld:=by kernel_rfl
 hsl:=by kernel_rfl
 hptr:=by kernel_rfl
 hints:=by kernel_rfl
theorem Cb:(Tryz.prog.info? 3).map (fun i=>(i.zero,i.size,i.bytes))=some (some (.int .i64 0),1,8):=by kernel_rfl
theorem info4:(Tryz.prog.info? 4).map (fun i=>(i.zero,i.size,i.bytes))=some (some (.bool false),1,1):=by kernel_rfl
theorem FO:(Tryz.prog.info? 35).map (fun i=>(i.zero,i.size,i.bytes))=some (some (.slice none 0 0),1,24):=by kernel_rfl
theorem info39:(Tryz.prog.info? 39).map (fun i=>(i.zero,i.size,i.bytes))=some (some (.agg #[.int .i64 0,.int .i64 0,.slice none 0 0,.int .i64 0]),4,48):=by kernel_rfl
theorem info48:(Tryz.prog.info? 48).map (fun i=>(i.zero,i.size,i.bytes))=some (some (.agg #[.int .i64 0,.int .i64 0,.slice none 0 0,.int .i64 0]),4,48):=by kernel_rfl
theorem info49:(Tryz.prog.info? 49).map (fun i=>(i.zero,i.size,i.bytes))=some (some (.slice none 0 0),1,24):=by kernel_rfl
theorem info53:(Tryz.prog.info? 53).map (fun i=>(i.zero,i.size,i.bytes))=some (some (.agg #[.int .i64 0,.int .i64 0,.slice none 0 0,.int .i64 0]),4,48):=by kernel_rfl
theorem info54:(Tryz.prog.info? 54).map (fun i=>(i.zero,i.size,i.bytes))=some (some (.agg #[.int .i64 0,.int .i64 0,.slice none 0 0,.int .i64 0]),4,48):=by kernel_rfl
theorem CF:(Tryz.prog.info? 74).map (fun i=>(i.zero,i.size,i.bytes))=some (some (.pointer none),1,8):=by kernel_rfl
theorem FY:(Tryz.prog.info? 83).map (fun i=>(i.zero,i.size,i.bytes))=some (some (.agg #[.int .i64 0,.int .i64 0,.slice none 0 0,.int .i64 0]),4,48):=by kernel_rfl
theorem F8:(Tryz.prog.info? 84).map (fun i=>(i.zero,i.size,i.bytes))=some (some (.agg #[.int .i64 0,.int .i64 0,.slice none 0 0,.int .i64 0]),4,48):=by kernel_rfl
theorem Gh:(Tryz.prog.info? 88).map (fun i=>(i.zero,i.size,i.bytes))=some (some (.int .i32 0),1,4):=by kernel_rfl
theorem CH:(Tryz.prog.info? 97).map (fun i=>(i.zero,i.size,i.bytes))=some (some (.pointer none),1,8):=by kernel_rfl
theorem Fj:(Tryz.prog.info? 103).map (fun i=>(i.zero,i.size,i.bytes))=some (some (.agg #[.pointer none]),1,8):=by kernel_rfl
theorem EA:(Tryz.prog.info? 113).map (fun i=>(i.zero,i.size,i.bytes))=some (some (.slice none 0 0),1,24):=by kernel_rfl
theorem Hd:(Tryz.prog.info? 153).map (fun i=>(i.zero,i.size,i.bytes))=some (some (.agg #[.pointer none,.pointer none,.pointer none,.int .i32 0,.int .i32 0]),5,32):=by kernel_rfl
theorem D2:(Tryz.prog.info? 206).map (fun i=>(i.zero,i.size,i.bytes))=some (some (.agg #[.pointer none,.int .i64 0]),2,16):=by kernel_rfl
end Go.Proofs.YteepnepebilckaaGreatDoor
