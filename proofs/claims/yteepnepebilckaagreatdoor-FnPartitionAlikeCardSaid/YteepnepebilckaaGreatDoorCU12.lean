/- The law FnPartitionAlike returns true for every input in which the opcode table reads as laid, and its argument reads as it did, the table being tied to the text of the program. -/
import Derived.Test.YteepnepebilckaaGreatDoorCU11
namespace Go.Proofs.YteepnepebilckaaGreatDoor
open Go Go.Eng
inductive RchS (S:Nat→List Nat) (wo:Nat):Nat→Prop where
 |entry:wo≠0→RchS S wo 0
 |step {b s:Nat}:RchS S wo b→s∈S b→s≠wo→RchS S wo s
def Dom (S:Nat→List Nat) (a b:Nat):Prop:= ¬ RchS S a b
section
variable {S : Nat → List Nat}
theorem RchS.ne {a b:Nat} (h:RchS S a b):b≠a:=by
 cases h with
 |entry h=>exact fun e=>h e.symm
 |step _ _ h=>exact h
theorem Dom.rfl' (a:Nat):Dom S a a:=fun h=>h.ne rfl
theorem Dom.trans {a b c:Nat} (h:Dom S a b) (k:Dom S b c):Dom S a c:=by
 intro hr
 have key:RchS S b c∨RchS S a b:=by
  clear k
  induction hr with
  |entry h0=>
   by_cases e:b=0
   ·subst e;exact .inr (.entry h0)
   exact .inl (.entry e)
  | @step x s hr' hs hne ih=>
    rcases ih with h1|h1
    ·by_cases e:s=b
     ·subst e;exact .inr (.step hr' hs hne)
     exact .inl (.step h1 hs e)
    exact .inr h1
 exact key.elim k h
theorem Dom.anti {n a b:Nat} (hn:RchS S n a) (h:Dom S a b) (k:Dom S b a):a=b:=by
 refine Classical.byContradiction fun e=>?_
 have key:∀x,RchS S n x→(RchS S a x∧RchS S b x)∨RchS S b a∨RchS S a b:=by
  intro x hx
  induction hx with
  |entry _=>
   by_cases ea:a=0
   ·subst ea;exact .inr (.inl (.entry fun h=>e h.symm))
   by_cases eb:b=0
   ·subst eb;exact .inr (.inr (.entry ea))
   exact .inl ⟨.entry ea,.entry eb⟩
  | @step y s _ hs _ ih=>
    rcases ih with ⟨h1,h2⟩|h1
    ·by_cases ea:s=a
     ·subst ea;exact .inr (.inl (.step h2 hs e))
     by_cases eb:s=b
     ·subst eb;exact .inr (.inr (.step h1 hs ea))
     exact .inl ⟨.step h1 hs ea,.step h2 hs eb⟩
    exact .inr h1
 rcases key a hn with ⟨h1,_⟩|h1|h1
 ·exact h1.ne rfl
 ·exact k h1
 exact h h1
end
def predsL (S:Nat→List Nat) (n b:Nat):List Nat:=(List.range n).flatMap fun i=>((S i).filter fun s=>s == b).map fun _=>i
theorem mem_predsL {S:Nat→List Nat} {n b p:Nat}:p∈predsL S n b↔p<n∧b∈S p:=by
 simp [predsL,List.mem_flatMap]
theorem predsL_len {S:Nat→List Nat} {b:Nat}:∀n,(∀i,i<n→(S i).length≤2)→(predsL S n b).length≤2 * n
 |0,_=>by simp [predsL]
 |n+1,h=>by
  have ih:=predsL_len (S:=S) (b:=b) n fun i hi=>h i (by omega)
  have h1:=h n (by omega)
  have h2:((S n).filter fun s=>s == b).length≤(S n).length:=List.length_filter_le _ _
  unfold predsL at ih ⊢
  rw[List.range_succ,List.flatMap_append,List.length_append]
  simp only [List.flatMap_cons,List.flatMap_nil,List.append_nil,List.length_map]
  omega
theorem countP_lt {α:Type} {p q:α→Bool}:∀{l:List α},(∀x∈l,p x=true→q x=true)→(∃x∈l,q x=true∧p x=false)→l.countP p<l.countP q
 | [],_,⟨x,hx,_⟩=>by cases hx
 |a :: l,h,⟨x,hx,hq,hp⟩=>by
  rw[List.countP_cons,List.countP_cons]
  have hle:l.countP p≤l.countP q:=List.countP_mono_left fun y hy=>h y (.tail _ hy)
  rcases List.mem_cons.1 hx with e|hx'
  ·subst e
   rw[hp,hq]
   simp
   omega
  have:=countP_lt (p:=p) (q:=q) (l:=l) (fun y hy=>h y (.tail _ hy)) ⟨x,hx',hq,hp⟩
  have ha:=h a (.head _)
  by_cases e:p a=true
  ·rw[e,ha e];simp;omega
  have e:p a=false:=by simpa using e
  rw[e]
  simp only [Bool.false_eq_true,if_false]
  omega
def EU (g:Gph) (i k a:Nat):Prop:=
 if g.op i=13 then Dom g.succs (g.blk a) ((g.preds (g.blk i)).getD k 0)
 else (g.blk a≠g.blk i∧Dom g.succs (g.blk a) (g.blk i))∨(g.blk a=g.blk i∧a<i)
structure Frm (g:Gph):Prop where
 one:1≤g.nb
 nb:g.nb≤9
 nv:g.nv≤48
 blk:∀i,i<g.nv→g.blk i<g.nb
 kind:∀b,b<g.nb→0≤g.kind b∧g.kind b≤2∧((g.succs b).length:Int)=Cz (g.kind b)
 likely:∀b,b<g.nb→ -1≤g.likely b∧g.likely b≤1∧(g.kind b≠1→g.likely b=0)
 succs:∀b,b<g.nb→∀s∈g.succs b,1≤s∧s<g.nb
 rch:∀b,b<g.nb→RchS g.succs g.nb b
 preds:∀b,b<g.nb→g.preds b=predsL g.succs g.nb b
 bvals:∀b,b<g.nb→g.bvals b=(List.range g.nv).filter fun i=>g.blk i == b
structure GoodA (g:Gph):Prop extends Frm g where
 ops:∀i,i<g.nv→0≤g.op i∧g.op i≤15∧((g.args i).length:Int)=manyI (g.op i) ((g.preds (g.blk i)).length:Nat)
 aux:∀i,i<g.nv→(g.op i=0→0≤g.aux i∧g.aux i≤3)∧(1<g.op i→g.aux i=0)∧(g.op i=13→0<(g.args i).length)
 args:∀i,i<g.nv→∀k,k<(g.args i).length→(g.args i).getD k 0<g.nv∧EU g i k ((g.args i).getD k 0)
structure GoodG (T:Nat→Bool) (g:Gph):Prop extends GoodA g where
 tru:∀i,i<g.nv→g.op i≠14→∀k,k<(g.args i).length→T ((g.args i).getD k 0)=decide (g.op i=15∧k=2)
 tr:∀i,i<g.nv→T i=if isT (g.op i) then true else if g.op i=14 then T ((g.args i).getD 0 0) else false
 ctrl:∀b,b<g.nb→(g.kind b=0∧g.ctrl b=[])∨∃c,g.ctrl b=[c]∧g.kind b≠0∧c<g.nv∧Dom g.succs (g.blk c) b∧T c=decide (g.kind b=1)
theorem GR (k:Int):Cz k≤2:=by
 unfold Cz
 split
 ·decide
 split <;> decide
section
variable {T : Nat → Bool} {g : Gph}
theorem Frm.slen (h:Frm g) {b:Nat} (hb:b<g.nb):(g.succs b).length≤2:=by
 have h1:=(h.kind b hb).2.2
 have h2:=GR (g.kind b)
 omega
theorem Frm.plen (h:Frm g) {b:Nat} (hb:b<g.nb):(g.preds b).length≤18:=by
 rw[h.preds b hb]
 have h1:=predsL_len (S:=g.succs) (b:=b) g.nb fun i hi=>h.slen hi
 have h2:=h.nb
 omega
theorem Frm.anti (h:Frm g) {a b:Nat} (ha:a<g.nb) (h1:Dom g.succs a b) (h2:Dom g.succs b a):a=b:=Dom.anti (h.rch a ha) h1 h2
theorem GoodA.args_mem (_h:GoodA g) {i a:Nat} (_hi:i<g.nv) (ha:a∈g.args i):∃k,k<(g.args i).length∧(g.args i).getD k 0=a:=by
 obtain ⟨k,hk,rfl⟩:=List.getElem_of_mem ha
 exact ⟨k,hk,by rw[List.getD_eq_getElem?_getD,List.getElem?_eq_getElem hk];rfl⟩
theorem GoodA.args_lt (h:GoodA g) {i a:Nat} (hi:i<g.nv) (ha:a∈g.args i):a<g.nv:=by
 obtain ⟨k,hk,rfl⟩:=h.args_mem hi ha
 exact (h.args i hi k hk).1
theorem manyI_le (o:Int) (p:Int) (hp:p≤18):manyI o p≤18:=by
 unfold manyI
 repeat (first|omega|split)
theorem GoodA.alen (h:GoodA g) {i:Nat} (hi:i<g.nv):(g.args i).length≤18:=by
 have h1:=(h.ops i hi).2.2
 have h2:=manyI_le (g.op i) ((g.preds (g.blk i)).length:Nat) (by have:=h.plen (h.blk i hi);omega)
 omega
noncomputable def domc (S:Nat→List Nat) (n b:Nat):Nat:=by
 classical exact (List.range n).countP fun d=>decide (Dom S d b)
theorem Frm.domc_lt (h:Frm g) {a b:Nat} (ha:a<g.nb) (hb:b<g.nb) (hab:Dom g.succs a b) (hne:a≠b):domc g.succs g.nb a<domc g.succs g.nb b:=by
 classical
 unfold domc
 refine countP_lt (fun d _ hd=>?_) ⟨b,List.mem_range.2 hb,by simp [Dom.rfl'],?_⟩
 ·exact decide_eq_true ((of_decide_eq_true hd).trans hab)
 exact decide_eq_false fun hd=>hne (h.anti ha hab hd)
noncomputable def rk (g:Gph) (i:Nat):Nat:=domc g.succs g.nb (g.blk i) * 64+i
theorem GoodA.copy1 (h:GoodA g) {i:Nat} (hi:i<g.nv) (ho:g.op i=14):∃j,g.args i=[j]:=by
 have h1:=(h.ops i hi).2.2
 rw[ho] at h1
 have h2:(g.args i).length=1:=by
  have:manyI 14 ((g.preds (g.blk i)).length:Nat)=1:=rfl
  omega
 exact List.length_eq_one_iff.1 h2
theorem GoodA.copy2 (h:GoodA g) {i j:Nat} (hi:i<g.nv) (ho:g.op i=14) (hj:g.args i=[j]):j<g.nv∧((g.blk j≠g.blk i∧Dom g.succs (g.blk j) (g.blk i))∨(g.blk j=g.blk i∧j<i)):=by
 have h1:=h.args i hi 0 (by rw[hj];exact Nat.one_pos)
 rw[hj] at h1
 refine ⟨h1.1,?_⟩
 have h2:=h1.2
 unfold EU at h2
 rw[ho,if_neg (by decide)] at h2
 exact h2
theorem GoodA.cinv (h:GoodA g):CInv g (rk g):=by
 refine ⟨fun i hi a ha=>h.args_lt hi ha,fun i hi ho=>?_⟩
 obtain ⟨j,hj⟩:=h.copy1 hi ho
 obtain ⟨h1,h2⟩:=h.copy2 hi ho hj
 refine ⟨j,hj,?_⟩
 unfold rk
 have h3:=h.nv
 rcases h2 with ⟨h4,h5⟩|⟨h4,h5⟩
 ·have:=h.domc_lt (h.blk j h1) (h.blk i hi) h5 h4
  omega
 rw[h4];omega
end
end Go.Proofs.YteepnepebilckaaGreatDoor
