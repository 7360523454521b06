/- The law FnCseOver returns true for every input in which the opcode table reads as laid, and its argument reads as it did, the table being tied to the text of the program. -/
import Derived.Test.YteepnepebilckaaGreatDoorCV22
namespace Go.Proofs.YteepnepebilckaaGreatDoor
open Go Go.Eng Go.RowKit Go.Shelf
def disj (a b:Nat×Nat):Prop:=a.1+a.2≤b.1∨b.1+b.2≤a.1
structure PK (g:Gph) (arr:Nat→Nat) (cls:Nat→Int) (P:List (Nat×Nat)) (pn:Int):Prop where
 perm:(elems arr g.nv).Perm (List.range g.nv)
 long:∀p∈P,1≤p.2∧p.1+p.2≤g.nv
 nodup:P.Nodup
 apart:∀p∈P,∀q∈P,p≠q→disj p q
 cin:∀p∈P,∀i,i<p.2→cls (arr (p.1+i)+1)=cls (arr p.1+1)
 cpos:∀p∈P,0<cls (arr p.1+1)∧cls (arr p.1+1)<pn
 cne:∀p∈P,∀q∈P,cls (arr p.1+1)=cls (arr q.1+1)→p=q
 cout:∀i,i<g.nv→(∀p∈P,¬ (p.1≤i∧i<p.1+p.2))→cls (arr i+1)= -((arr i:Int)+1)
 same:∀p∈P,∀i,i<p.2→key g (arr p.1)=key g (arr (p.1+i))
section
variable {g : Gph} {arr : Nat → Nat} {cls : Nat → Int} {P P' : List (Nat × Nat)} {pn : Int}
theorem FZ {a b:Nat×Nat} (h:disj a b):disj b a:=h.symm
theorem PI.pk (h:PI g arr cls P pn):PK g arr cls P pn:=by
 have hd:P.Pairwise disj:=h.apart
 have hn:P.Nodup:=by
  refine hd.imp_of_mem fun {a b} ha _ hab e=>?_
  subst e
  have:=h.long a ha
  rcases hab with h1|h1 <;> omega
 refine ⟨h.perm,fun p hp=>⟨by have:=h.long p hp;omega,(h.long p hp).2⟩,hn,fun p hp q hq hne=>?_,h.cin,h.cpos,h.cne,h.cout,h.same⟩
 obtain ⟨i,hi,rfl⟩:=List.getElem_of_mem hp
 obtain ⟨j,hj,rfl⟩:=List.getElem_of_mem hq
 rcases Nat.lt_trichotomy i j with hij|hij|hij
 ·exact List.pairwise_iff_getElem.1 hd i j hi hj hij
 ·subst hij;exact absurd rfl hne
 exact FZ (List.pairwise_iff_getElem.1 hd j i hj hi hij)
theorem PK.pi (h:PK g arr cls P pn) (h2:∀p∈P,2≤p.2):PI g arr cls P pn:=by
 refine ⟨h.perm,fun p hp=>⟨h2 p hp,(h.long p hp).2⟩,?_,h.cin,h.cpos,h.cne,h.cout,h.same⟩
 exact h.nodup.imp_of_mem fun {a b} ha hb hne=>h.apart a ha b hb hne
theorem PK.of_perm (h:PK g arr cls P pn) (hp:P.Perm P'):PK g arr cls P' pn:=
 ⟨h.perm,fun p hm=>h.long p (hp.mem_iff.2 hm),hp.nodup_iff.1 h.nodup,fun p hm q hq=>h.apart p (hp.mem_iff.2 hm) q (hp.mem_iff.2 hq),fun p hm=>h.cin p (hp.mem_iff.2 hm),fun p hm=>h.cpos p (hp.mem_iff.2 hm),
   fun p hm q hq=>h.cne p (hp.mem_iff.2 hm) q (hp.mem_iff.2 hq),fun i hi hn=>h.cout i hi fun p hm=>hn p (hp.mem_iff.1 hm),fun p hm=>h.same p (hp.mem_iff.2 hm)⟩
theorem popP_perm {i:Nat} (hi:i<P.length):P.Perm (popP P i ++ [P[i]]):=by
 have hl:P.getD (P.length - 1) (0,0)=P[P.length - 1]:=by
  rw[List.getD_eq_getElem?_getD,List.getElem?_eq_getElem (by omega)];rfl
 unfold popP
 rw[hl]
 by_cases e:i=P.length - 1
 ·have h1:P.set i P[P.length - 1]=P:=by
   subst e
   exact List.set_getElem_self ..
  rw[h1]
  have h2:P[i]=P.getLast (by intro h;rw[h] at hi;simp at hi):=by
   subst e
   exact (List.getLast_eq_getElem _).symm
  rw[h2,List.dropLast_concat_getLast]
 -- the last in place of the one
 have h1:P=P.take i ++ P[i] :: P.drop (i+1):=by
  rw[List.getElem_cons_drop,List.take_append_drop]
 have hne:P.drop (i+1)≠ []:=by
  intro h
  have:=congrArg List.length h
  simp at this
  omega
 have h3:P.drop (i+1)=(P.drop (i+1)).dropLast ++ [P[P.length - 1]]:=by
  have h4:=(List.dropLast_concat_getLast hne).symm
  rw[List.getLast_drop] at h4
  rw[List.getLast_eq_getElem] at h4
  exact h4
 have h5:P.set i P[P.length - 1]=P.take i ++ P[P.length - 1] :: P.drop (i+1):=List.set_eq_take_append_cons_drop .. ▸ by rw[if_pos hi]
 rw[h5]
 have h6:(P.take i ++ P[P.length - 1] :: P.drop (i+1)).dropLast=P.take i ++ P[P.length - 1] :: (P.drop (i+1)).dropLast:=by
  rw[List.dropLast_append_of_ne_nil (by simp),List.dropLast_cons_of_ne_nil hne]
 rw[h6]
 generalize hla:P[P.length - 1]=la at *
 generalize hpi:P[i]=pi at *
 generalize hT:P.take i=T at *
 generalize hD:P.drop (i+1)=D at *
 rw[h1,h3]
 generalize D.dropLast=D'
 have h7:(T ++ pi :: (D' ++ [la])).Perm (T ++ (la :: D' ++ [pi])):=by
  refine List.Perm.append_left T ?_
  have h8:(pi :: (D' ++ [la])).Perm (pi :: (la :: D')):=(List.perm_append_singleton la D').cons pi
  refine h8.trans ?_
  have h9:(pi :: (la :: D')).Perm ((la :: D') ++ [pi]):=(List.perm_append_singleton pi (la :: D')).symm
  exact h9
 simpa using h7
theorem PK.split {lo m d:Nat} {cls':Nat→Int} {pn':Int} (h:PK g arr cls (P ++ [(lo,m)]) pn) (hd:1≤d) (hdm:d≤m) (hA:∀i,i<g.nv→¬ (lo≤i∧i<lo+d)→cls' (arr i+1)=cls (arr i+1))
 (h1:d=1→cls' (arr lo+1)= -((arr lo:Int)+1)∧pn'=pn) (h2:d≠1→(∀q,q<d→cls' (arr (lo+q)+1)=pn)∧pn'=pn+1∧0<pn):
 PK g arr cls' (P ++ ((if d=1 then [] else [(lo,d)]) ++ (if d=m then [] else [(lo+d,m - d)]))) pn':=by
 have hX:(lo,m)∈P ++ [(lo,m)]:=List.mem_append_right _ (.head _)
 have hP:∀{p},p∈P→p∈P ++ [(lo,m)]:=fun hp=>List.mem_append_left _ hp
 have hXl:lo+m≤g.nv:=(h.long _ hX).2
 have hXn:(lo,m)∉P:=fun hm=>by
  have:=(List.nodup_append.1 h.nodup).2.2 _ hm _ (.head _)
  exact this rfl
 have hPX:∀p∈P,p.1+p.2≤lo∨lo+m≤p.1:=fun p hp=>h.apart p (hP hp) (lo,m) hX fun e=>hXn (e ▸ hp)
 have mem:∀p,p∈P ++ ((if d=1 then [] else [(lo,d)]) ++ (if d=m then [] else [(lo+d,m - d)]))↔p∈P∨(d≠1∧p=(lo,d))∨(d≠m∧p=(lo+d,m - d)):=fun p=>by
  rw[List.mem_append,List.mem_append]
  by_cases e1:d=1 <;> by_cases e2:d=m <;> simp [e1,e2]
 have uP:∀p∈P,∀i,i<p.2→cls' (arr (p.1+i)+1)=cls (arr (p.1+i)+1):=fun p hp i hi=>by
  have:=h.long p (hP hp)
  have:=hPX p hp
  exact hA _ (by omega) (by omega)
 have uX:∀i,d≤i→i<m→cls' (arr (lo+i)+1)=cls (arr lo+1):=fun i hi him=>by
  rw[hA _ (by omega) (by omega)]
  exact h.cin _ hX i him
 have nP:∀p∈P,cls' (arr p.1+1)=cls (arr p.1+1):=fun p hp=>uP p hp 0 (by have:=h.long p (hP hp);omega)
 have hc0:=h.cpos _ hX
 refine ⟨h.perm,fun p hp=>?_,?_,fun p hp q hq hne=>?_,fun p hp i hi=>?_,fun p hp=>?_,fun p hp q hq e=>?_,fun i hi hn=>?_,fun p hp i hi=>?_⟩
 ·rcases (mem p).1 hp with h3|⟨_,rfl⟩|⟨h3,rfl⟩
  ·exact h.long p (hP h3)
  ·exact ⟨hd,by show lo+d≤_;omega⟩
  exact ⟨by show 1≤m - d;omega,by show lo+d+(m - d)≤_;omega⟩
 ·have n1:∀p∈P,p≠(lo,d)∧p≠(lo+d,m - d):=fun p hp=>by
   have h3:=hPX p hp
   have h4:=(h.long p (hP hp)).1
   exact ⟨fun e=>by subst e;simp only at h3;omega,fun e=>by subst e;simp only at h3 h4;omega⟩
  rw[List.nodup_append,List.nodup_append]
  refine ⟨(List.nodup_append.1 h.nodup).1,⟨?_,?_,fun a ha c hc e=>?_⟩,fun a ha c hc e=>?_⟩
  ·split <;> simp
  ·split <;> simp
  ·subst e
   by_cases e1:d=1
   ·rw[if_pos e1] at ha;cases ha
   rw[if_neg e1] at ha
   by_cases e2:d=m
   ·rw[if_pos e2] at hc;cases hc
   rw[if_neg e2] at hc
   have e3:a=(lo,d):=by simpa using ha
   have e4:a=(lo+d,m - d):=by simpa using hc
   rw[e3] at e4
   injection e4 with e4 _
   omega
  subst e
  have h3:=n1 a ha
  rcases List.mem_append.1 hc with h4|h4
  ·by_cases e1:d=1
   ·rw[if_pos e1] at h4;cases h4
   rw[if_neg e1] at h4;exact h3.1 (by simpa using h4)
  by_cases e2:d=m
  ·rw[if_pos e2] at h4;cases h4
  rw[if_neg e2] at h4;exact h3.2 (by simpa using h4)
 ·rcases (mem p).1 hp with h3|⟨_,rfl⟩|⟨h3,rfl⟩ <;> rcases (mem q).1 hq with h4|⟨_,rfl⟩|⟨h4,rfl⟩
  ·exact h.apart p (hP h3) q (hP h4) hne
  ·have:=hPX p h3;show p.1+p.2≤lo∨lo+d≤p.1;omega
  ·have:=hPX p h3;show p.1+p.2≤lo+d∨lo+d+(m - d)≤p.1;omega
  ·have:=hPX q h4;show lo+d≤q.1∨q.1+q.2≤lo;omega
  ·exact absurd rfl hne
  ·exact .inl (Nat.le_refl _)
  ·have:=hPX q h4;show lo+d+(m - d)≤q.1∨q.1+q.2≤lo+d;omega
  ·exact .inr (Nat.le_refl _)
  exact absurd rfl hne
 ·rcases (mem p).1 hp with h3|⟨h3,rfl⟩|⟨h3,rfl⟩
  ·rw[uP p h3 i hi,nP p h3];exact h.cin p (hP h3) i hi
  ·have h4:=(h2 h3).1
   exact (h4 i hi).trans (h4 0 (by omega)).symm
  have hi:i<m - d:=hi
  show cls' (arr (lo+d+i)+1)=cls' (arr (lo+d)+1)
  rw[show lo+d+i=lo+(d+i) by omega,uX (d+i) (by omega) (by omega),uX d (Nat.le_refl _) (by omega)]
 ·have hpn:pn≤pn'∧(d≠1→pn<pn'):=by
   by_cases e:d=1
   ·have:=(h1 e).2;exact ⟨by omega,fun h=>absurd e h⟩
   have:=(h2 e).2;exact ⟨by omega,fun _=>by omega⟩
  rcases (mem p).1 hp with h3|⟨h3,rfl⟩|⟨h3,rfl⟩
  ·rw[nP p h3];have:=h.cpos p (hP h3);omega
  ·have h4:cls' (arr lo+1)=pn:=(h2 h3).1 0 (by omega)
   show 0<cls' (arr lo+1)∧cls' (arr lo+1)<pn'
   rw[h4];exact ⟨(h2 h3).2.2,hpn.2 h3⟩
  show 0<cls' (arr (lo+d)+1)∧cls' (arr (lo+d)+1)<pn'
  rw[uX d (Nat.le_refl _) (by omega)];have:0<cls (arr lo+1)∧cls (arr lo+1)<pn:=hc0;omega
 ·have hc0':0<cls (arr lo+1)∧cls (arr lo+1)<pn:=hc0
  rcases (mem p).1 hp with h3|⟨h3,rfl⟩|⟨h3,rfl⟩ <;> rcases (mem q).1 hq with h4|⟨h4,rfl⟩|⟨h4,rfl⟩
  ·rw[nP p h3,nP q h4] at e;exact h.cne p (hP h3) q (hP h4) e
  ·have h5:cls' (arr lo+1)=pn:=(h2 h4).1 0 (by omega)
   rw[nP p h3,h5] at e;have:=h.cpos p (hP h3);omega
  ·have h5:cls' (arr (lo+d)+1)=cls (arr lo+1):=uX d (Nat.le_refl _) (by omega)
   rw[nP p h3,h5] at e
   exact absurd ((h.cne p (hP h3) (lo,m) hX e) ▸ h3) hXn
  ·have h5:cls' (arr lo+1)=pn:=(h2 h3).1 0 (by omega)
   rw[nP q h4,h5] at e;have:=h.cpos q (hP h4);omega
  ·rfl
  ·have h5:cls' (arr lo+1)=pn:=(h2 h3).1 0 (by omega)
   have h6:cls' (arr (lo+d)+1)=cls (arr lo+1):=uX d (Nat.le_refl _) (by omega)
   rw[h5,h6] at e;omega
  ·have h5:cls' (arr (lo+d)+1)=cls (arr lo+1):=uX d (Nat.le_refl _) (by omega)
   rw[nP q h4,h5] at e
   exact absurd ((h.cne q (hP h4) (lo,m) hX e.symm) ▸ h4) hXn
  ·have h5:cls' (arr lo+1)=pn:=(h2 h4).1 0 (by omega)
   have h6:cls' (arr (lo+d)+1)=cls (arr lo+1):=uX d (Nat.le_refl _) (by omega)
   rw[h5,h6] at e;omega
  rfl
 ·by_cases hin:lo≤i∧i<lo+d
  ·by_cases e1:d=1
   ·have:i=lo:=by omega
    subst this
    exact (h1 e1).1
   exact absurd hin (hn (lo,d) ((mem _).2 (.inr (.inl ⟨e1,rfl⟩))))
  rw[hA i hi hin]
  refine h.cout i hi fun p hp hpi=>?_
  rcases List.mem_append.1 hp with h3|h3
  ·exact hn p ((mem p).2 (.inl h3)) hpi
  have e3:p=(lo,m):=by simpa using h3
  subst e3
  have hpi:lo≤i∧i<lo+m:=hpi
  exact hn (lo+d,m - d) ((mem _).2 (.inr (.inr ⟨by omega,rfl⟩))) ⟨by show lo+d≤i;omega,by show i<lo+d+(m - d);omega⟩
 have hsX:=h.same _ hX
 rcases (mem p).1 hp with h3|⟨h3,rfl⟩|⟨h3,rfl⟩
 ·exact h.same p (hP h3) i hi
 ·exact hsX i (by have hi:i<d:=hi;show i<m;omega)
 have hi:i<m - d:=hi
 show key g (arr (lo+d))=key g (arr (lo+d+i))
 rw[show lo+d+i=lo+(d+i) by omega]
 exact (hsX d (by show d<m;omega)).symm.trans (hsX (d+i) (by show d+i<m;omega))
def Phi (P:List (Nat×Nat)):Int:=(P.map fun p=>2 * (p.2:Int) - 3).sum
theorem Fq (P:List (Nat×Nat)) (p:Nat×Nat):Phi (P ++ [p])=Phi P+(2 * (p.2:Int) - 3):=by simp [Phi]
structure PartsOk (g:Gph) (arr:Nat→Nat) (o n a:Nat) (ks:List Nat) (cls:Nat→Int) (P:List (Nat×Nat)) (pn:Int) (R:(Nat→Int)×List (Nat×Nat)×Int):Prop where
 pk:PK g arr R.1 R.2.1 R.2.2
 new:∀p∈R.2.1,p∈P∨(2≤p.2∧o+a≤p.1∧p.1+p.2≤o+n∧∀k∈ks,¬ (p.1<o+k∧o+k<p.1+p.2))
 out:∀i,i<g.nv→¬ (o+a≤i∧i<o+n)→R.1 (arr i+1)=cls (arr i+1)
 one:∀u v,a≤u→u<v→v<n→(∀k∈ks,¬ (u<k∧k≤v))→R.1 (arr (o+u)+1)=R.1 (arr (o+v)+1)
 phi:Phi R.2.1+(R.2.2 - pn)+2 * (ks.length:Int)=Phi P+2 * ((n:Int) - (a:Int))
 le:pn≤R.2.2
theorem upR_in {lo m q:Nat} {z:Int} (h:q<m):upR cls arr lo m z (arr (lo+q)+1)=z:=by
 unfold upR
 rw[if_pos]
 exact List.any_eq_true.2 ⟨q,List.mem_range.2 h,by simp⟩
theorem G1 {lo m x:Nat} {z:Int} (h:∀q,q<m→x≠arr (lo+q)+1):upR cls arr lo m z x=cls x:=by
 unfold upR
 rw[if_neg]
 intro h1
 obtain ⟨q,hq,e⟩:=List.any_eq_true.1 h1
 exact h q (List.mem_range.1 hq) (by simpa using e)
theorem parts_ok {o n:Nat}:∀(r:List Nat) (a:Nat) (cls:Nat→Int) (P:List (Nat×Nat)) (pn:Int),r≠ []→(a :: r).Pairwise (· < ·)→(∀h,r.getLast h=n)→PK g arr cls (P ++ [(o+a,n - a)]) pn→0<pn→
 PartsOk g arr o n a r cls P pn (parts arr o (a :: r) cls P pn)
 | [],_,_,_,_,h,_,_,_,_=>absurd rfl h
 |c :: r,a,cls,P,pn,_,hinc,hlast,h,hpn=>by
  have hac:a<c:=(List.pairwise_cons.1 hinc).1 c (.head _)
  have hinc':=(List.pairwise_cons.1 hinc).2
  have hcn:c≤n∧(r=[]→c=n)∧(r≠ []→c<n):=by
   by_cases hr:r=[]
   ·subst hr
    have:=hlast (by simp)
    simp at this
    exact ⟨by omega,fun _=>this,fun h=>absurd rfl h⟩
   have h1:=hlast (by simp)
   rw[List.getLast_cons hr] at h1
   have h2:=(List.pairwise_cons.1 hinc').1 n (h1 ▸ List.getLast_mem hr)
   exact ⟨by omega,fun h=>absurd h hr,fun _=>h2⟩
  have hX:(o+a,n - a)∈P ++ [(o+a,n - a)]:=List.mem_append_right _ (.head _)
  have hXl:o+a+(n - a)≤g.nv:=(h.long _ hX).2
  have inj:∀i j,i<g.nv→j<g.nv→arr i=arr j→i=j:=fun i j hi hj e=>Cj h.perm hi hj e
  obtain ⟨cls1,hc1⟩:∃cls1,cls1=if c - a=1 then (fun x=>if x=arr (o+a)+1 then -((arr (o+a):Int)+1) else cls x) else upR cls arr (o+a) (c - a) pn:=⟨_,rfl⟩
  obtain ⟨P1,hP1⟩:∃P1,P1=if c - a=1 then P else P ++ [(o+a,c - a)]:=⟨_,rfl⟩
  obtain ⟨pn1,hp1⟩:∃pn1,pn1=if c - a=1 then pn else pn+1:=⟨_,rfl⟩
  have hpt:parts arr o (a :: c :: r) cls P pn=parts arr o (c :: r) cls1 P1 pn1:=by
   rw[parts_two,hc1,hP1,hp1]
   by_cases e:c - a=1
   ·simp only [if_pos e]
   simp only [if_neg e]
  have hA:∀i,i<g.nv→¬ (o+a≤i∧i<o+a+(c - a))→cls1 (arr i+1)=cls (arr i+1):=fun i hi hn=>by
   rw[hc1]
   by_cases e:c - a=1
   ·rw[if_pos e]
    show (if arr i+1=arr (o+a)+1 then _ else _)=_
    rw[if_neg fun e2=>by have:=inj i (o+a) hi (by omega) (by omega);omega]
   rw[if_neg e]
   exact G1 fun q hq e2=>by have:=inj i (o+a+q) hi (by omega) (by omega);omega
  have hB:c - a≠1→∀q,q<c - a→cls1 (arr (o+a+q)+1)=pn:=fun e q hq=>by
   rw[hc1,if_neg e]
   exact upR_in hq
  have hS:=h.split (cls':=cls1) (pn':=pn1) (d:=c - a) (by omega) (by omega) hA
   (fun e=>⟨by rw[hc1,if_pos e];show (if _=_ then _ else _)=_;rw[if_pos rfl],by rw[hp1,if_pos e]⟩)
   (fun e=>⟨hB e,by rw[hp1,if_neg e],hpn⟩)
  have hS1:PK g arr cls1 (P1 ++ (if c=n then [] else [(o+c,n - c)])) pn1:=by
   have e1:P ++ ((if c - a=1 then [] else [(o+a,c - a)]) ++ if c - a=n - a then [] else [(o+a+(c - a),n - a - (c - a))])=P1 ++ (if c=n then [] else [(o+c,n - c)]):=by
    rw[← List.append_assoc]
    congr 1
    ·rw[hP1]
     by_cases e:c - a=1
     ·rw[if_pos e,if_pos e,List.append_nil]
     rw[if_neg e,if_neg e]
    by_cases e:c=n
    ·rw[if_pos (by omega),if_pos e]
    rw[if_neg (by omega),if_neg e,show o+a+(c - a)=o+c by omega,show n - a - (c - a)=n - c by omega]
   rw[e1] at hS
   exact hS
  have hphi1:Phi P1+(pn1 - pn)+2=Phi P+2 * ((c:Int) - (a:Int)):=by
   rw[hP1,hp1]
   by_cases e:c - a=1
   ·rw[if_pos e,if_pos e];omega
   rw[if_neg e,if_neg e,Fq]
   show Phi P+(2 * ((c - a:Nat):Int) - 3)+(pn+1 - pn)+2=_
   omega
  have hple:pn≤pn1:=by rw[hp1];split <;> omega
  have hnew1:∀p∈P1,p∈P∨(2≤p.2∧o+a≤p.1∧p.1+p.2≤o+c):=fun p hp=>by
   rw[hP1] at hp
   by_cases e:c - a=1
   ·rw[if_pos e] at hp;exact .inl hp
   rw[if_neg e] at hp
   rcases List.mem_append.1 hp with h3|h3
   ·exact .inl h3
   have e3:p=(o+a,c - a):=by simpa using h3
   subst e3
   exact .inr ⟨by show 2≤c - a;omega,Nat.le_refl _,by show o+a+(c - a)≤o+c;omega⟩
  rw[hpt]
  by_cases hr:r=[]
  ·subst hr
   have hc:=hcn.2.1 rfl
   rw[if_pos hc,List.append_nil] at hS1
   refine ⟨hS1,fun p hp=>?_,fun i hi hn=>?_,fun u v hu huv hv hk=>?_,?_,hple⟩
   ·rcases hnew1 p hp with h3|h3
    ·exact .inl h3
    refine .inr ⟨h3.1,h3.2.1,by omega,fun k hk=>?_⟩
    have:k=c:=by simpa using hk
    omega
   ·exact hA i hi (by omega)
   ·have e:c - a≠1:=by omega
    have h3:=hB e (u - a) (by omega)
    have h4:=hB e (v - a) (by omega)
    rw[show o+a+(u - a)=o+u by omega] at h3
    rw[show o+a+(v - a)=o+v by omega] at h4
    exact h3.trans h4.symm
   show Phi P1+(pn1 - pn)+2 * ((1:Nat):Int)=_
   omega
  have hc:=hcn.2.2 hr
  rw[if_neg (by omega)] at hS1
  have ih:=parts_ok r c cls1 P1 pn1 hr hinc' (fun h=>by rw[← hlast (by simp),List.getLast_cons hr]) hS1 (by omega)
  refine ⟨ih.pk,fun p hp=>?_,fun i hi hn=>?_,fun u v hu huv hv hk=>?_,?_,Int.le_trans hple ih.le⟩
  ·rcases ih.new p hp with h3|h3
   ·rcases hnew1 p h3 with h4|h4
    ·exact .inl h4
    refine .inr ⟨h4.1,h4.2.1,by omega,fun k hk=>?_⟩
    rcases List.mem_cons.1 hk with rfl|hk
    ·omega
    have:=(List.pairwise_cons.1 hinc').1 k hk
    omega
   refine .inr ⟨h3.1,by omega,h3.2.2.1,fun k hk=>?_⟩
   rcases List.mem_cons.1 hk with rfl|hk
   ·omega
   exact h3.2.2.2 k hk
  ·rw[ih.out i hi (by omega)]
   exact hA i hi (by omega)
  ·have hkc:=hk c (.head _)
   by_cases hvc:v<c
   ·have e:c - a≠1:=by omega
    have h3:=hB e (u - a) (by omega)
    have h4:=hB e (v - a) (by omega)
    rw[show o+a+(u - a)=o+u by omega] at h3
    rw[show o+a+(v - a)=o+v by omega] at h4
    rw[ih.out _ (by omega) (by omega),ih.out _ (by omega) (by omega),h3,h4]
   exact ih.one u v (by omega) huv hv fun k hkm=>hk k (.tail _ hkm)
  have:=ih.phi
  show Phi (parts arr o (c :: r) cls1 P1 pn1).2.1+((parts arr o (c :: r) cls1 P1 pn1).2.2 - pn)+2 * ((r.length+1:Nat):Int)=_
  omega
end
end Go.Proofs.YteepnepebilckaaGreatDoor
namespace Go.Proofs.YteepnepebilckaaGreatDoor
open Go Go.Eng Go.RowKit Go.Shelf
section
variable {g : Gph} {arr : Nat → Nat} {cls : Nat → Int} {P : List (Nat × Nat)} {pn : Int} {o n : Nat} {D : List Nat}
theorem Cx {i:Nat} (h:¬ (o≤i∧i<o+n)):AZ arr o n D i=arr i:=by unfold AZ;rw[if_neg h]
theorem arrS_in {j:Nat} (h:j<n):AZ arr o n D (o+j)=D.getD j 0:=by unfold AZ;rw[if_pos (by omega),Nat.add_sub_cancel_left]
theorem arrS_ex (hp:D.Perm (clsD arr o n)) {j:Nat} (h:j<n):∃q,q<n∧AZ arr o n D (o+j)=arr (o+q):=by
 have hl:D.length=n:=by rw[hp.length_eq,BB]
 have h1:D.getD j 0∈clsD arr o n:=hp.mem_iff.1 (Bq (by omega))
 obtain ⟨q,hq,e⟩:=List.mem_map.1 h1
 exact ⟨q,List.mem_range.1 hq,by rw[arrS_in h,e]⟩
theorem arrS_perm (hp:D.Perm (clsD arr o n)) {nv:Nat} (ho:o+n≤nv):(elems (AZ arr o n D) nv).Perm (elems arr nv):=by
 have hl:D.length=n:=by rw[hp.length_eq,BB]
 obtain ⟨m,hm⟩:∃m,nv=o+(n+m):=⟨nv - o - n,by omega⟩
 subst hm
 have key:∀f:Nat→Nat,elems f (o+(n+m))=(List.range o).map f ++ ((List.range n).map (fun j=>f (o+j)) ++ (List.range m).map fun j=>f (o+(n+j))):=fun f=>by
  unfold elems
  rw[List.range_add,List.map_append,List.map_map,List.range_add,List.map_append,List.map_map]
  rfl
 rw[key,key]
 have h1:(List.range o).map (AZ arr o n D)=(List.range o).map arr:=List.map_congr_left fun i hi=>Cx (by have:=List.mem_range.1 hi;omega)
 have h2:((List.range n).map fun j=>AZ arr o n D (o+j))=D:=by
  refine List.ext_getElem (by simp [hl]) fun j h3 h4=>?_
  rw[List.getElem_map,List.getElem_range,arrS_in (by omega),List.getD_eq_getElem?_getD,List.getElem?_eq_getElem h4];rfl
 have h3:((List.range m).map fun j=>AZ arr o n D (o+(n+j)))=(List.range m).map fun j=>arr (o+(n+j)):=List.map_congr_left fun i _=>Cx (by omega)
 rw[h1,h2,h3]
 exact List.Perm.append_left _ (List.Perm.append_right _ hp)
theorem PK.sortS (h:PK g arr cls P pn) (hX:(o,n)∈P) (hp:D.Perm (clsD arr o n)):PK g (AZ arr o n D) cls P pn:=by
 have hXl:=h.long _ hX
 have ho:o+n≤g.nv:=hXl.2
 have hn1:1≤n:=hXl.1
 have oth:∀p∈P,p≠(o,n)→∀i,i<p.2→AZ arr o n D (p.1+i)=arr (p.1+i):=fun p hpm hne i hi=>by
  have:=h.apart p hpm _ hX hne
  exact Cx (by rcases this with h1|h1 <;> (have h1:=h1;simp only at h1;omega))
 have inX:∀i,i<n→cls (AZ arr o n D (o+i)+1)=cls (arr o+1)∧key g (AZ arr o n D (o+i))=key g (arr o):=fun i hi=>by
  obtain ⟨q,hq,e⟩:=arrS_ex hp hi
  rw[e]
  exact ⟨h.cin _ hX q hq,(h.same _ hX q hq).symm⟩
 have hd:∀p∈P,cls (AZ arr o n D p.1+1)=cls (arr p.1+1)∧key g (AZ arr o n D p.1)=key g (arr p.1):=fun p hpm=>by
  by_cases e:p=(o,n)
  ·subst e;exact inX 0 (by omega)
  have:AZ arr o n D p.1=arr p.1:=oth p hpm e 0 (by have:=(h.long p hpm).1;omega)
  rw[this];exact ⟨rfl,rfl⟩
 refine ⟨(arrS_perm hp ho).trans h.perm,h.long,h.nodup,h.apart,fun p hpm i hi=>?_,fun p hpm=>?_,fun p hpm q hqm e=>?_,fun i hi hn=>?_,fun p hpm i hi=>?_⟩
 ·rw[(hd p hpm).1]
  by_cases e:p=(o,n)
  ·subst e;exact (inX i hi).1
  rw[oth p hpm e i hi];exact h.cin p hpm i hi
 ·rw[(hd p hpm).1];exact h.cpos p hpm
 ·rw[(hd p hpm).1,(hd q hqm).1] at e;exact h.cne p hpm q hqm e
 ·rw[Cx (hn _ hX)];exact h.cout i hi hn
 rw[(hd p hpm).2]
 by_cases e:p=(o,n)
 ·subst e;exact (inX i hi).2.symm
 rw[oth p hpm e i hi];exact h.same p hpm i hi
theorem ordA_len (cls:Nat→Int) (l:List Nat):(ordA cls l).length=l.length:=by
 match l with
 | []=>rfl
 | [_]=>rfl
 | [a,b]=>rw[Dp];split <;> rfl
 |_ :: _ :: _ :: _=>rfl
theorem Fm (g:Gph) (cls:Nat→Int) (arr:Nat→Nat) (o m x:Nat):key (gsw g cls arr o m) x=key g x:=by
 unfold key
 have:((gsw g cls arr o m).args x).length=(g.args x).length:=by
  show (if inC arr o m x then ordA cls (g.args x) else g.args x).length=_
  split
  ·exact ordA_len cls _
  rfl
 rw[this];rfl
theorem PK.gsw (h:PK g arr cls P pn) (o m:Nat):PK (gsw g cls arr o m) arr cls P pn:=
 ⟨h.perm,h.long,h.nodup,h.apart,h.cin,h.cpos,h.cne,h.cout,fun p hp i hi=>by rw[Fm,Fm];exact h.same p hp i hi⟩
end
end Go.Proofs.YteepnepebilckaaGreatDoor
namespace Go.Proofs.YteepnepebilckaaGreatDoor
open Go Go.Eng Go.RowKit Go.Shelf
section
variable {g : Gph} {arr : Nat → Nat} {cls : Nat → Int} {o n : Nat}
theorem DU {m k:Nat}:k∈spt g cls arr o m↔k=0∨(k<m∧1≤k∧vcl g cls (arr (o+k - 1))≠vcl g cls (arr (o+k))):=by
 unfold spt
 rw[List.mem_cons,List.mem_filter,List.mem_range]
 simp
theorem spt_inc (hn:1≤n):(spt g cls arr o n ++ [n]).Pairwise (· < ·):=by
 rw[List.pairwise_append]
 refine ⟨?_,List.pairwise_singleton ..,fun a ha c hc=>?_⟩
 ·unfold spt
  rw[List.pairwise_cons]
  refine ⟨fun a ha=>?_,List.pairwise_lt_range.filter _⟩
  have:=(List.mem_filter.1 ha).2
  have:=(of_decide_eq_true this).1
  omega
 have:c=n:=by simpa using hc
 rcases DU.1 ha with h|h <;> omega
theorem Fa (m:Nat):∃r,spt g cls arr o m=0 :: r:=⟨_,rfl⟩
theorem cuts_of (hn:1≤n) (hn2:n≤900):Cuts (spt g cls arr o n ++ [n]) n:=by
 have h1:=spt_inc (g:=g) (cls:=cls) (arr:=arr) (o:=o) hn
 have h2:=spt_len g cls arr o n
 refine ⟨⟨by rw[List.length_append];simp,by rw[List.length_append];simp;omega⟩,fun q hq=>?_⟩
 have e:∀k,k<(spt g cls arr o n ++ [n]).length→(spt g cls arr o n ++ [n]).getD k 0∈spt g cls arr o n ++ [n]:=fun k hk=>Bq hk
 constructor
 ·rw[List.getD_eq_getElem?_getD,List.getElem?_eq_getElem (show q<_ by omega),List.getD_eq_getElem?_getD,List.getElem?_eq_getElem hq]
  exact List.pairwise_iff_getElem.1 h1 q (q+1) (by omega) hq (by omega)
 rcases List.mem_append.1 (e (q+1) hq) with h3|h3
 ·rcases DU.1 h3 with h4|h4 <;> omega
 have:(spt g cls arr o n ++ [n]).getD (q+1) 0=n:=by simpa using h3
 omega
theorem spt_alike {u v:Nat} (huv:u≤v) (hv:v<n) (hk:∀k∈spt g cls arr o n,¬ (u<k∧k≤v)):vcl g cls (arr (o+u))=vcl g cls (arr (o+v)):=by
 induction v with
 |zero=>rw[show u=0 by omega]
 |succ v ih=>
  by_cases e:u=v+1
  ·rw[e]
  have h1:=ih (by omega) (by omega) fun k hk2 h3=>hk k hk2 ⟨h3.1,by omega⟩
  rw[h1]
  refine Classical.byContradiction fun hne=>?_
  exact hk (v+1) (DU.2 (.inr ⟨hv,by omega,by rw[show o+(v+1) - 1=o+v by omega];exact hne⟩)) ⟨by omega,Nat.le_refl _⟩
theorem spt_same {D:List Nat} {u v:Nat} (hso:SortOut (fun x y=>ca cls (g.args x) (g.args y)) D (clsD arr o n)) (hDl:D.length=n) (hlen:∀i,i<n→(g.args (arr (o+i))).length=(g.args (arr o)).length)
 (huv:u<v) (hv:v<n) (he:vcl g cls (arr (o+u))=vcl g cls (arr (o+v))):∀k∈spt g cls arr o n,¬ (u<k∧k≤v):=by
 have hmono:∀i j,i≤j→j<n→lexc (vcl g cls (arr (o+i))) (vcl g cls (arr (o+j)))≤0:=fun i j hij hj=>by
  by_cases e:i=j
  ·rw[e,(lexc_eq _ _ rfl).2 rfl];exact Int.le_refl _
  have h1:=hso.srt i j (by omega) (by omega)
  rw[BU (show i<n by omega),BU hj,ca_lexc,lexc_neg] at h1
  unfold vcl
  omega
 have hl:∀i j,i<n→j<n→(vcl g cls (arr (o+i))).length=(vcl g cls (arr (o+j))).length:=fun i j hi hj=>by
  unfold vcl
  rw[List.length_map,List.length_map,hlen i hi,hlen j hj]
 intro k hk ⟨h1,h2⟩
 rcases DU.1 hk with h3|⟨h3,h4,h5⟩
 ·omega
 apply h5
 rw[show o+k - 1=o+(k - 1) by omega]
 have m1:=hmono u (k - 1) (by omega) (by omega)
 have m2:=hmono (k - 1) k (by omega) (by omega)
 have m3:=hmono k v h2 hv
 have q1:vcl g cls (arr (o+u))=vcl g cls (arr (o+(k - 1))):=by
  refine (lexc_eq _ _ (hl _ _ (by omega) (by omega))).1 ?_
  have h6:=lexc_trans _ _ _ (hl (k - 1) k (by omega) (by omega)) (hl k v (by omega) hv) m2 m3
  rw[← he,lexc_neg] at h6
  omega
 have q2:vcl g cls (arr (o+u))=vcl g cls (arr (o+k)):=by
  refine (lexc_eq _ _ (hl _ _ (by omega) (by omega))).1 ?_
  have h6:=lexc_trans _ _ _ (hl u (k - 1) (by omega) (by omega)) (hl (k - 1) k (by omega) (by omega)) m1 m2
  rw[← he,lexc_neg] at m3
  omega
 rw[← q1,← q2]
end
end Go.Proofs.YteepnepebilckaaGreatDoor
namespace Go.Proofs.YteepnepebilckaaGreatDoor
open Go Go.Eng Go.RowKit Go.Shelf
structure Cong (g:Gph) (R:Nat→Nat→Prop):Prop where
 key:∀x y,R x y→key g x=key g y
 args:∀x y,R x y→∀k,k<(g.args x).length→R ((g.args x).getD k 0) ((g.args y).getD k 0)
structure SwO (g0 g:Gph):Prop where
 eq:g= { g0 with args:=g.args }
 args:∀v,g.args v=g0.args v∨(comm (g0.op v).toNat=true∧∃a b,g0.args v=[a,b]∧g.args v=[b,a])
theorem ordA_or (cls:Nat→Int) (l:List Nat):ordA cls l=l∨∃a b,l=[a,b]∧ordA cls l=[b,a]:=by
 match l with
 | []=>exact .inl rfl
 | [_]=>exact .inl rfl
 | [a,b]=>
   rw[Dp]
   by_cases h:cls (b+1)<cls (a+1)
   ·rw[if_pos h];exact .inr ⟨a,b,rfl,rfl⟩
   rw[if_neg h];exact .inl rfl
 |_ :: _ :: _ :: _=>exact .inl rfl
theorem SwO.gsw {g0 g:Gph} {cls:Nat→Int} {arr:Nat→Nat} {o n m:Nat} (h:SwO g0 g) (hm:m=if comm (g.op (arr o)).toNat then n else 0) (hop:∀i,i<n→g.op (arr (o+i))=g.op (arr o)):SwO g0 (gsw g cls arr o m):=by
 have ho:g.op=g0.op:=by rw[h.eq]
 refine ⟨by rw[h.eq];rfl,fun v=>?_⟩
 show (if inC arr o m v then ordA cls (g.args v) else g.args v)=_∨(_∧∃a b,_∧(if inC arr o m v then ordA cls (g.args v) else g.args v)=_)
 by_cases hv:inC arr o m v=true
 ·rw[if_pos hv]
  obtain ⟨i,hi,e⟩:=DN.1 hv
  have hc:comm (g0.op v).toNat=true:=by
   by_cases hc:comm (g.op (arr o)).toNat=true
   ·rw[if_pos hc] at hm
    rw[← ho,e,hop i (by omega)];exact hc
   rw[if_neg hc] at hm;omega
  rcases ordA_or cls (g.args v) with h1|⟨a,b,h1,h2⟩
  ·rw[h1]
   exact h.args v
  rw[h2]
  rcases h.args v with h3|⟨_,c,d,h3,h4⟩
  ·exact .inr ⟨hc,a,b,by rw[← h3,h1],rfl⟩
  rw[h1] at h4
  injection h4 with h5 h6
  injection h6 with h6
  left
  rw[h3,h5,h6]
 rw[if_neg hv]
 exact h.args v
structure PJ (g0 g:Gph) (arr:Nat→Nat) (cls:Nat→Int) (P:List (Nat×Nat)) (pn:Int) (fw:Prop):Prop where
 pi:PI g arr cls P pn
 pos:0<pn
 sw:SwO g0 g
 most:(∀v,v<g0.nv→comm (g0.op v).toNat=false)→∀R,Cong g0 R→∀x y,x<g0.nv→y<g0.nv→R x y→cls (x+1)=cls (y+1)
 few:fw→∀p∈P,p.2≤12∧∀i j,i<j→j<p.2→arr (p.1+i)<arr (p.1+j)
section
variable {g0 g : Gph} {arr : Nat → Nat} {cls : Nat → Int} {P : List (Nat × Nat)} {pn : Int} {fw : Prop} {o n m : Nat} {D : List Nat}
theorem PK.mem_of (h:PK g arr cls P pn) (hX:(o,n)∈P) {x:Nat} (hx:x<g.nv) (e:cls (x+1)=cls (arr o+1)):∃u,u<n∧x=arr (o+u):=by
 obtain ⟨i,hi,rfl⟩:=CX h.perm hx
 by_cases hin:∃p∈P,p.1≤i∧i<p.1+p.2
 ·obtain ⟨p,hp,h1,h2⟩:=hin
  have h3:=h.cin p hp (i - p.1) (by omega)
  rw[show p.1+(i - p.1)=i by omega] at h3
  have h4:=h.cne p hp _ hX (by rw[← h3,e])
  subst h4
  exact ⟨i - o,by have h2:i<o+n:=h2;omega,by rw[show o+(i - o)=i by have h1:o≤i:=h1;omega]⟩
 have h3:=h.cout i hi fun p hp hpi=>hin ⟨p,hp,hpi⟩
 have h4:0<cls (arr o+1)∧cls (arr o+1)<pn:=h.cpos _ hX
 omega
end
end Go.Proofs.YteepnepebilckaaGreatDoor
namespace Go.Proofs.YteepnepebilckaaGreatDoor
open Go Go.Eng Go.RowKit Go.Shelf
def Do (g:Gph) (arr:Nat→Nat) (cls:Nat→Int) (p:Nat×Nat):Prop:=∀u v,u<p.2→v<p.2→vcl g cls (arr (p.1+u))=vcl g cls (arr (p.1+v))
section
variable {g0 g : Gph} {arr : Nat → Nat} {cls : Nat → Int} {P : List (Nat × Nat)} {pn : Int} {fw : Prop} {o n m : Nat} {D : List Nat}
theorem PJ.opeq (h:PJ g0 g arr cls P pn fw) (hX:(o,n)∈P):∀i,i<n→g.op (arr (o+i))=g.op (arr o):=fun i hi=>by
 have h1:key g (arr o)=key g (arr (o+i)):=h.pi.same _ hX i hi
 unfold key at h1
 injection h1 with h1 _
 exact h1.symm
theorem PJ.leneq (h:PJ g0 g arr cls P pn fw) (hX:(o,n)∈P):∀i,i<n→(g.args (arr (o+i))).length=(g.args (arr o)).length:=fun i hi=>by
 have h1:key g (arr o)=key g (arr (o+i)):=h.pi.same _ hX i hi
 unfold key at h1
 injection h1 with _ h1
 injection h1 with _ h1
 injection h1 with h1 _
 omega
theorem PJ.stay (h:PJ g0 g arr cls P pn fw) (hX:(o,n)∈P) (hm:m=if comm (g.op (arr o)).toNat then n else 0)
 (hso:SortOut (fun x y=>ca cls ((gsw g cls arr o m).args x) ((gsw g cls arr o m).args y)) (clsD arr o n) D) (h1:(spt (gsw g cls arr o m) cls (AZ arr o n D) o n).length=1):
 PJ g0 (gsw g cls arr o m) (AZ arr o n D) cls P pn fw∧Do (gsw g cls arr o m) (AZ arr o n D) cls (o,n):=by
 have hpk:=h.pi.pk
 have hXl:=h.pi.long _ hX
 have hn:2≤n:=hXl.1
 have hon:o+n≤g.nv:=hXl.2
 have hpk1:PK (gsw g cls arr o m) (AZ arr o n D) cls P pn:=(hpk.gsw o m).sortS hX hso.perm
 have hno:∀k∈spt (gsw g cls arr o m) cls (AZ arr o n D) o n,k=0:=fun k hk=>by
  obtain ⟨r,hr⟩:=Fa (g:=gsw g cls arr o m) (cls:=cls) (arr:=AZ arr o n D) (o:=o) n
  rw[hr] at h1 hk
  have:r=[]:=List.eq_nil_of_length_eq_zero (by simpa using h1)
  rw[this] at hk
  simpa using hk
 have halike:∀u v,u≤v→v<n→vcl (gsw g cls arr o m) cls (AZ arr o n D (o+u))=vcl (gsw g cls arr o m) cls (AZ arr o n D (o+v)):=fun u v huv hv=>
  spt_alike huv hv fun k hk h3=>by have:=hno k hk;omega
 have hst:Do (gsw g cls arr o m) (AZ arr o n D) cls (o,n):=fun u v hu hv=>by
  rcases Nat.le_total u v with h2|h2
  ·exact halike u v h2 hv
  exact (halike v u h2 hu).symm
 refine ⟨⟨hpk1.pi fun p hp=>(h.pi.long p hp).1,h.pos,h.sw.gsw hm (h.opeq hX),h.most,fun hf p hp=>?_⟩,hst⟩
 have hfw:=h.few hf p hp
 refine ⟨hfw.1,fun i j hij hj=>?_⟩
 by_cases e:p=(o,n)
 ·subst e
  have hj:j<n:=hj
  have hDl:D.length=n:=by rw[hso.perm.length_eq,BB]
  have h2:=hso.stb (by rw[BB];exact hfw.1) (fun a c hac hc=>by
   rw[BB] at hc
   rw[BU (by omega),BU hc]
   exact hfw.2 a c hac hc) i j hij (by rw[BB];exact hj)
  have e1:AZ arr o n D (o+i)=D.getD i 0:=arrS_in (by omega)
  have e2:AZ arr o n D (o+j)=D.getD j 0:=arrS_in hj
  have e3:=halike i j (by omega) hj
  show AZ arr o n D (o+i)<AZ arr o n D (o+j)
  have hne:AZ arr o n D (o+i)≠AZ arr o n D (o+j):=fun e4=>by
   have:=Cj hpk1.perm (show o+i<g.nv by omega) (show o+j<g.nv by omega) e4
   omega
  rcases h2 with h3|h3
  ·exfalso
   rw[ca_lexc,← e1,← e2] at h3
   have e5:=(lexc_eq (vcl (gsw g cls arr o m) cls (AZ arr o n D (o+i))) (vcl (gsw g cls arr o m) cls (AZ arr o n D (o+j))) (by rw[e3])).2 e3
   unfold vcl at e5
   omega
  omega
 have hd:=hpk.apart p hp _ hX e
 have hpl:=(h.pi.long p hp).1
 have hout:∀q,q<p.2→AZ arr o n D (p.1+q)=arr (p.1+q):=fun q hq=>Cx (by
  rcases hd with h3|h3
  ·have h3:p.1+p.2≤o:=h3;omega
  have h3:o+n≤p.1:=h3;omega)
 rw[hout i (by omega),hout j hj]
 exact hfw.2 i j hij hj
end
end Go.Proofs.YteepnepebilckaaGreatDoor
namespace Go.Proofs.YteepnepebilckaaGreatDoor
open Go Go.Eng Go.RowKit Go.Shelf
section
variable {g0 g : Gph} {arr : Nat → Nat} {cls : Nat → Int} {P : List (Nat × Nat)} {pn : Int} {fw : Prop} {o n m i : Nat} {D : List Nat}
theorem Phi_perm {P P':List (Nat×Nat)} (h:P.Perm P'):Phi P=Phi P':=by
 induction h with
 |nil=>rfl
 |cons x _ ih=>simp [Phi] at ih ⊢;omega
 |swap x y l=>simp [Phi];omega
 |trans _ _ a b=>exact a.trans b
theorem clsD_S (hp:D.Perm (clsD arr o n)):clsD (AZ arr o n D) o n=D:=by
 have hl:D.length=n:=by rw[hp.length_eq,BB]
 refine List.ext_getElem (by rw[BB,hl]) fun j h1 h2=>?_
 have h3:=BU (arr:=AZ arr o n D) (o:=o) (n:=n) (j:=j) (by omega)
 rw[arrS_in (by omega),List.getD_eq_getElem?_getD,List.getElem?_eq_getElem h1,List.getD_eq_getElem?_getD,List.getElem?_eq_getElem h2] at h3
 exact h3
theorem PJ.cut (h:PJ g0 g arr cls P pn fw) (hi:i<P.length) (hPi:P[i]=(o,n)) (hm:m=if comm (g.op (arr o)).toNat then n else 0) (hargs:∀v,v<g0.nv→∀x∈g0.args v,x<g0.nv)
 (hso:SortOut (fun x y=>ca cls ((gsw g cls arr o m).args x) ((gsw g cls arr o m).args y)) (clsD arr o n) D) (h1:(spt (gsw g cls arr o m) cls (AZ arr o n D) o n).length≠1)
 {R:(Nat→Int)×List (Nat×Nat)×Int} (hR:R=parts (AZ arr o n D) o (spt (gsw g cls arr o m) cls (AZ arr o n D) o n ++ [n]) cls (popP P i) pn):
 PJ g0 (gsw g cls arr o m) (AZ arr o n D) R.1 R.2.1 R.2.2 fw∧R.2.2+Phi R.2.1+1≤pn+Phi P∧pn≤R.2.2:=by
 have hX:(o,n)∈P:=hPi ▸ List.getElem_mem hi
 have hpk:=h.pi.pk
 have hXl:=h.pi.long _ hX
 have hn:2≤n:=hXl.1
 have hon:o+n≤g.nv:=hXl.2
 have hnv:g.nv=g0.nv:=by rw[h.sw.eq]
 have hpk1:PK (gsw g cls arr o m) (AZ arr o n D) cls P pn:=(hpk.gsw o m).sortS hX hso.perm
 have hpp:=popP_perm hi
 rw[hPi] at hpp
 have hpk2:=hpk1.of_perm hpp
 obtain ⟨r0,hr0⟩:=Fa (g:=gsw g cls arr o m) (cls:=cls) (arr:=AZ arr o n D) (o:=o) n
 have hinc:=spt_inc (g:=gsw g cls arr o m) (cls:=cls) (arr:=AZ arr o n D) (o:=o) (n:=n) (by omega)
 have hks:∀k,k∈spt (gsw g cls arr o m) cls (AZ arr o n D) o n→k=0∨k∈r0 ++ [n]:=fun k hk=>by
  rw[hr0] at hk
  rcases List.mem_cons.1 hk with h2|h2
  ·exact .inl h2
  exact .inr (List.mem_append_left _ h2)
 have hks2:∀k,k∈r0 ++ [n]→k∈spt (gsw g cls arr o m) cls (AZ arr o n D) o n∨k=n:=fun k hk=>by
  rcases List.mem_append.1 hk with h2|h2
  ·exact .inl (by rw[hr0];exact .tail _ h2)
  exact .inr (by simpa using h2)
 have hrl:2≤(r0 ++ [n]).length:=by
  rw[hr0] at h1
  rw[List.length_append]
  simp at h1 ⊢
  have:r0.length≠0:=fun e=>h1 (List.eq_nil_of_length_eq_zero e)
  omega
 have hc:spt (gsw g cls arr o m) cls (AZ arr o n D) o n ++ [n]=0 :: (r0 ++ [n]):=by rw[hr0];rfl
 rw[hc] at hinc hR
 have hpo:=parts_ok (g:=gsw g cls arr o m) (arr:=AZ arr o n D) (o:=o) (n:=n) (r0 ++ [n]) 0 cls (popP P i) pn (by simp) hinc (fun _=>by simp) hpk2 h.pos
 rw[← hR] at hpo
 have hmem:∀p∈popP P i,p∈P:=fun p hp=>hpp.mem_iff.2 (List.mem_append_left _ hp)
 have hneX:∀p∈popP P i,p≠(o,n):=fun p hp e=>by
  have:=(List.nodup_append.1 hpk2.nodup).2.2 p hp (o,n) (.head _)
  exact this e
 refine ⟨⟨hpo.pk.pi fun p hp=>?_,?_,h.sw.gsw hm (h.opeq hX),fun hcm Rl hcg x y hx hy hxy=>?_,fun hf p hp=>?_⟩,?_,hpo.le⟩
 ·rcases hpo.new p hp with h2|h2
  ·exact (h.pi.long p (hmem p h2)).1
  exact h2.1
 ·have:=hpo.le;have:=h.pos;omega
 ·-- congruent values stay together
  have hm0:m=0:=by
   rw[hm,if_neg]
   have:g.op=g0.op:=by rw[h.sw.eq]
   rw[this,hcm (arr o) (by rw[← hnv];exact BR h.pi.perm (by omega))]
   simp
  have hge:∀v,v<g0.nv→(gsw g cls arr o m).args v=g0.args v:=fun v hv=>by
   rw[hm0,D8]
   rcases h.sw.args v with h2|⟨h2,_⟩
   ·exact h2
   rw[hcm v hv] at h2;cases h2
  have hold:=h.most hcm Rl hcg x y hx hy hxy
  have hx':x<(gsw g cls arr o m).nv:=by show x<g.nv;omega
  have hy':y<(gsw g cls arr o m).nv:=by show y<g.nv;omega
  have e0:cls (AZ arr o n D o+1)=cls (AZ arr o n D o+1):=rfl
  by_cases hxc:cls (x+1)=cls (AZ arr o n D o+1)
  ·obtain ⟨u,hu,rfl⟩:=hpk1.mem_of hX hx' hxc
   obtain ⟨v,hv,rfl⟩:=hpk1.mem_of hX hy' (by rw[← hold,hxc])
   have hve:vcl (gsw g cls arr o m) cls (AZ arr o n D (o+u))=vcl (gsw g cls arr o m) cls (AZ arr o n D (o+v)):=by
    unfold vcl
    rw[hge _ hx,hge _ hy]
    have hkl:(g0.args (AZ arr o n D (o+u))).length=(g0.args (AZ arr o n D (o+v))).length:=by
     have hk:=hcg.key _ _ hxy
     unfold key at hk
     injection hk with _ hk
     injection hk with _ hk
     injection hk with hk _
     omega
    refine List.ext_getElem (by simpa using hkl) fun k h5 h6=>?_
    rw[List.length_map] at h5 h6
    have h7:=hcg.args _ _ hxy k h5
    rw[List.getD_eq_getElem?_getD,List.getElem?_eq_getElem h5,List.getD_eq_getElem?_getD,List.getElem?_eq_getElem h6] at h7
    have h7:Rl ((g0.args (AZ arr o n D (o+u)))[k]) ((g0.args (AZ arr o n D (o+v)))[k]):=h7
    rw[List.getElem_map,List.getElem_map]
    exact h.most hcm Rl hcg _ _ (hargs _ hx _ (List.getElem_mem h5)) (hargs _ hy _ (List.getElem_mem h6)) h7
   have hlen1:∀i,i<n→((gsw g cls arr o m).args (AZ arr o n D (o+i))).length=((gsw g cls arr o m).args (AZ arr o n D o)).length:=fun i hi=>by
    have hk:=hpk1.same _ hX i hi
    unfold key at hk
    injection hk with _ hk
    injection hk with _ hk
    injection hk with hk _
    have hk:(((gsw g cls arr o m).args (AZ arr o n D o)).length:Int)=((gsw g cls arr o m).args (AZ arr o n D (o+i))).length:=hk
    omega
   have hone:∀a c,a<c→c<n→vcl (gsw g cls arr o m) cls (AZ arr o n D (o+a))=vcl (gsw g cls arr o m) cls (AZ arr o n D (o+c))→R.1 (AZ arr o n D (o+a)+1)=R.1 (AZ arr o n D (o+c)+1):=fun a c hac hcn he=>by
    refine hpo.one a c (Nat.zero_le _) hac hcn fun k hk=>?_
    rcases hks2 k hk with h5|h5
    ·exact spt_same (D:=clsD arr o n) (by rw[clsD_S hso.perm];exact hso) (BB _ _ _) hlen1 hac hcn he k h5
    omega
   rcases Nat.lt_trichotomy u v with h5|h5|h5
   ·exact hone u v h5 hv hve
   ·rw[h5]
   exact (hone v u h5 hu hve.symm).symm
  have hout:∀z,z<(gsw g cls arr o m).nv→cls (z+1)≠cls (AZ arr o n D o+1)→R.1 (z+1)=cls (z+1):=fun z hz hne=>by
   obtain ⟨q,hq,rfl⟩:=CX hpk1.perm hz
   refine hpo.out q hq fun hin=>hne ?_
   have h5:=hpk1.cin _ hX (q - o) (by show q - o<n;omega)
   have h5:cls (AZ arr o n D (o+(q - o))+1)=cls (AZ arr o n D o+1):=h5
   rw[show o+(q - o)=q by omega] at h5
   exact h5
  rw[hout x hx' hxc,hout y hy' (by rw[← hold];exact hxc)]
  exact hold
 ·have hfX:=h.few hf _ hX
  rcases hpo.new p hp with h2|⟨h2,h3,h4,h5⟩
  ·have h3:=h.few hf p (hmem p h2)
   refine ⟨h3.1,fun a c hac hcp=>?_⟩
   have hd:=hpk.apart p (hmem p h2) _ hX (hneX p h2)
   have hout:∀q,q<p.2→AZ arr o n D (p.1+q)=arr (p.1+q):=fun q hq=>Cx (by
    rcases hd with h6|h6
    ·have h6:p.1+p.2≤o:=h6;omega
    have h6:o+n≤p.1:=h6;omega)
   rw[hout a (by omega),hout c hcp]
   exact h3.2 a c hac hcp
  have hn12:n≤12:=hfX.1
  refine ⟨by omega,fun a c hac hcp=>?_⟩
  obtain ⟨b0,hb0⟩:∃b0,p.1=o+b0:=⟨p.1 - o,by omega⟩
  rw[hb0] at h3 h4 h5 ⊢
  have hD:=hso.stb (by rw[BB];exact hn12) (fun a c hac hc=>by
   rw[BB] at hc
   rw[BU (by omega),BU hc]
   exact hfX.2 a c hac hc) (b0+a) (b0+c) (by omega) (by rw[BB];omega)
  have e1:AZ arr o n D (o+b0+a)=D.getD (b0+a) 0:=by rw[Nat.add_assoc];exact arrS_in (by omega)
  have e2:AZ arr o n D (o+b0+c)=D.getD (b0+c) 0:=by rw[Nat.add_assoc];exact arrS_in (by omega)
  have hal:=spt_alike (g:=gsw g cls arr o m) (cls:=cls) (arr:=AZ arr o n D) (o:=o) (n:=n) (u:=b0+a) (v:=b0+c) (by omega) (by omega) fun k hk h6=>by
   rcases hks k hk with h7|h7
   ·omega
   exact h5 k h7 ⟨by omega,by omega⟩
  rw[show o+(b0+a)=o+b0+a by omega,show o+(b0+c)=o+b0+c by omega] at hal
  have hne:AZ arr o n D (o+b0+a)≠AZ arr o n D (o+b0+c):=fun e4=>by
   have:=Cj hpk1.perm (show o+b0+a<g.nv by omega) (show o+b0+c<g.nv by omega) e4
   omega
  rcases hD with h6|h6
  ·exfalso
   rw[ca_lexc,← e1,← e2] at h6
   have e5:=(lexc_eq (vcl (gsw g cls arr o m) cls (AZ arr o n D (o+b0+a))) (vcl (gsw g cls arr o m) cls (AZ arr o n D (o+b0+c))) (by rw[hal])).2 hal
   unfold vcl at e5
   omega
  omega
 have h2:=hpo.phi
 have h3:=Phi_perm hpp
 rw[Fq] at h3
 have h3:Phi P=Phi (popP P i)+(2 * (n:Int) - 3):=h3
 have h4:(2:Int)≤((r0 ++ [n]).length:Int):=by exact_mod_cast hrl
 omega
end
end Go.Proofs.YteepnepebilckaaGreatDoor
namespace Go.Proofs.YteepnepebilckaaGreatDoor
open Go Go.Eng Go.RowKit Go.Shelf
structure GA (g:Gph):Prop where
 nv:g.nv≤48
 op:∀v,v<g.nv→0≤g.op v∧g.op v≤15
 two:∀v,v<g.nv→comm (g.op v).toNat=true→(g.args v).length=2
 lt:∀v,v<g.nv→∀x∈g.args v,x<g.nv
 small:∀v,v<g.nv→(g.args v).length≤1000
theorem GA.sw {g0 g:Gph} (h:GA g0) (s:SwO g0 g):GA g:=by
 have e1:g.nv=g0.nv:=by rw[s.eq]
 have e2:g.op=g0.op:=by rw[s.eq]
 have hl:∀v,(g.args v).length=(g0.args v).length:=fun v=>by
  rcases s.args v with h1|⟨_,a,b,h1,h2⟩
  ·rw[h1]
  rw[h1,h2];rfl
 have hm:∀v x,x∈g.args v→x∈g0.args v:=fun v x hx=>by
  rcases s.args v with h1|⟨_,a,b,h1,h2⟩
  ·rw[← h1];exact hx
  rw[h2] at hx
  rw[h1]
  simp at hx ⊢
  rcases hx with h3|h3
  ·exact .inr h3
  exact .inl h3
 refine ⟨by rw[e1];exact h.nv,fun v hv=>by rw[e2];exact h.op v (by omega),fun v hv hc=>by rw[hl];rw[e2] at hc;exact h.two v (by omega) hc,fun v hv x hx=>by rw[e1];exact h.lt v (by omega) x (hm v x hx),fun v hv=>by rw[hl];exact h.small v (by omega)⟩
theorem stab_other {g:Gph} {arr:Nat→Nat} {cls:Nat→Int} {P:List (Nat×Nat)} {pn:Int} {o n m:Nat} {D:List Nat} (h:PK g arr cls P pn) (hX:(o,n)∈P) (hmn:m≤n) {p:Nat×Nat} (hp:p∈P) (hne:p≠(o,n)) (hs:Do g arr cls p):
 Do (gsw g cls arr o m) (AZ arr o n D) cls p:=by
 have hd:=h.apart p hp _ hX hne
 have hXl:=h.long _ hX
 have hpl:=h.long p hp
 have key:∀q,q<p.2→vcl (gsw g cls arr o m) cls (AZ arr o n D (p.1+q))=vcl g cls (arr (p.1+q)):=fun q hq=>by
  have h0:p.1+q<o∨o+n≤p.1+q:=by
   rcases hd with h1|h1
   ·have h1:p.1+p.2≤o:=h1;omega
   have h1:o+n≤p.1:=h1;omega
  rw[Cx (by omega)]
  unfold vcl
  have h2:(gsw g cls arr o m).args (arr (p.1+q))=g.args (arr (p.1+q)):=by
   show (if inC arr o m (arr (p.1+q)) then _ else _)=_
   rw[if_neg]
   intro h3
   obtain ⟨i,hi,e⟩:=DN.1 h3
   have hon:o+n≤g.nv:=hXl.2
   have:=Cj h.perm (show p.1+q<g.nv by omega) (show o+i<g.nv by omega) e
   omega
  rw[h2]
 intro u v hu hv
 rw[key u hu,key v hv]
 exact hs u v hu hv
set_option maxHeartbeats 4000000
attribute [local irreducible] EC EL DL Ret thenQ blockQ Bi bodyQ onlyN execOp Sem.run World.cell? World.frozen? World.setCell World.alloc
section
variable {w : World} {B Bs : Nat} {L : Lay} {b : Bl} {g : Gph} {arr : Nat → Nat} {cls : Nat → Int} {pv sp : Value} {P : List (Nat × Nat)} {Q : Exit → Env → World → Prop} {t : Nat → Value} {ds : List Deferred} {pn : Int} {mbx i o n : Nat} {chg : Bool}
theorem cseD0 (hs:St w B L b g arr cls pv P) (hi:i<P.length) (hP:P[i]=(o,n))
 (h:∀t,EC Tryz.prog Tryz.f41.ntmps (dropC 1 BH) Q (Env.sets ⟨t,ds⟩ [(1,.pointer (some ⟨b.fbx,0,none⟩)),(7,pv),(8,.pointer (some ⟨b.vbx,0,none⟩)),(13,.int .i32 pn),(18,.pointer (some ⟨mbx,0,none⟩)),(19,sp),(20,.bool chg),(21,.int .i64 (i:Int)),(22,.slice (some ⟨b.A,o,none⟩) n (g.nv+1 - o))]) w):
 EC Tryz.prog Tryz.f41.ntmps (dropC 0 BH) Q (Env.sets ⟨t,ds⟩ [(1,.pointer (some ⟨b.fbx,0,none⟩)),(7,pv),(8,.pointer (some ⟨b.vbx,0,none⟩)),(13,.int .i32 pn),(18,.pointer (some ⟨mbx,0,none⟩)),(19,sp),(20,.bool chg),(21,.int .i64 (i:Int))]) w:=by
 have hml:(P.map (slV b.A (g.nv+1))).length=P.length:=List.length_map ..
 obtain ⟨gb,capb,e1,_,_,_,hcell⟩:=row_form (w:=w) (base:=b.Eb) (el:=113) (v:=pv) (xs:=P.map (slV b.A (g.nv+1))) (by rw[hml];exact hs.row) (k:=i) (by rw[hml];exact hi)
 rw[hml] at e1
 subst e1
 rw[List.getElem_map,hP] at hcell
 have hcell:w.cell? ⟨gb,0+i,none⟩=some (.slice (some ⟨b.A,o,none⟩) n (g.nv+1 - o)):=hcell
 refine Ae (Ac (Ab Ad rfl (Ab Ad rfl (Ab (x_index1 rfl rfl (An rfl) (by omega)) rfl (Ab (Ai rfl (Ag rfl) ‹_›) rfl ?_)))))
 refine Ab Ah rfl (Af (Aa (Bj ds [(1,.pointer (some ⟨b.fbx,0,none⟩)),(7,.slice (some ⟨gb,0,none⟩) P.length capb),(8,.pointer (some ⟨b.vbx,0,none⟩)),(13,.int .i32 pn),(18,.pointer (some ⟨mbx,0,none⟩)),(19,sp),(20,.bool chg),(21,.int .i64 (i:Int)),(22,.slice (some ⟨b.A,o,none⟩) n (g.nv+1 - o))] rfl ⟨rfl,rfl,rfl,rfl,rfl,rfl,rfl,rfl,rfl,trivial⟩ fun t=>?_)))
 exact h t
end
end Go.Proofs.YteepnepebilckaaGreatDoor
namespace Go.Proofs.YteepnepebilckaaGreatDoor
open Go Go.Eng Go.RowKit Go.Shelf
theorem Sp.only {w w':World} {Bs:Nat} {sp pv:Value} {l:List Nat} {A:Nat→Prop} (h:Sp w Bs sp pv l) (hO:Only A w w') (hA:∀k,sp.ownBlock=some k→¬ A k):Sp w' Bs sp pv l:=
 ⟨Ax h.row fun k e=>hO.block k (As h.row k e).2 (hA k e),h.ne⟩
theorem Sp.lo {w:World} {Bs:Nat} {sp pv:Value} {l:List Nat} (h:Sp w Bs sp pv l):∀k,sp.ownBlock=some k→Bs≤k:=fun k e=>(As h.row k e).1
set_option maxHeartbeats 4000000
attribute [local irreducible] EC EL DL Ret thenQ blockQ Bi bodyQ onlyN execOp Sem.run World.cell? World.frozen? World.setCell World.alloc
section
variable {w : World} {B Bs : Nat} {L : Lay} {b : Bl} {g0 g : Gph} {arr : Nat → Nat} {cls : Nat → Int} {pv sp : Value} {P : List (Nat × Nat)} {Q : Exit → Env → World → Prop} {t : Nat → Value} {ds : List Deferred} {pn : Int} {mbx i o n : Nat} {chg : Bool} {l0 : List Nat} {fw : Prop}
theorem cseClass (hs:St w B L b g arr cls pv P) (hj:PJ g0 g arr cls P pn fw) (ga:GA g0) (hE:GE b.E L g) (hB:0<B) (hBE:B≤b.E) (hb:b.Ok) (hb2:b.Ok2 Bs) (hBs:Bs≤w.heap.size) (hEb:b.Eb≤w.heap.size) (hsp:Sp w Bs sp pv l0) (hi:i<P.length) (hP:P[i]=(o,n)) (hpn:pn≤1000) (hPl:P.length≤1000)
 (hstay:∀t w' m D sp' l',(m=if comm (g.op (arr o)).toNat then n else 0)→m≤n→SortOut (fun x y=>ca cls ((gsw g cls arr o m).args x) ((gsw g cls arr o m).args y)) (clsD arr o n) D→(spt (gsw g cls arr o m) cls (AZ arr o n D) o n).length=1→St w' B L b (gsw g cls arr o m) (AZ arr o n D) cls pv P→PJ g0 (gsw g cls arr o m) (AZ arr o n D) cls P pn fw→Do (gsw g cls arr o m) (AZ arr o n D) cls (o,n)→Sp w' Bs sp' pv l'→Below B w w'→
   Q (.exit 15) (Env.sets ⟨t,ds⟩ [(1,.pointer (some ⟨b.fbx,0,none⟩)),(7,pv),(8,.pointer (some ⟨b.vbx,0,none⟩)),(13,.int .i32 pn),(18,.pointer (some ⟨mbx,0,none⟩)),(19,sp'),(20,.bool chg),(21,.int .i64 (i:Int)),(22,.slice (some ⟨b.A,o,none⟩) n (g.nv+1 - o))]) w')
 (hcut:∀t w' m D sp' pv' l' (R:(Nat→Int)×List (Nat×Nat)×Int),(m=if comm (g.op (arr o)).toNat then n else 0)→SortOut (fun x y=>ca cls ((gsw g cls arr o m).args x) ((gsw g cls arr o m).args y)) (clsD arr o n) D→(spt (gsw g cls arr o m) cls (AZ arr o n D) o n).length≠1→
   R=parts (AZ arr o n D) o (spt (gsw g cls arr o m) cls (AZ arr o n D) o n ++ [n]) cls (popP P i) pn→St w' B L b (gsw g cls arr o m) (AZ arr o n D) R.1 pv' R.2.1→PJ g0 (gsw g cls arr o m) (AZ arr o n D) R.1 R.2.1 R.2.2 fw→R.2.2+Phi R.2.1+1≤pn+Phi P→Sp w' Bs sp' pv' l'→Below B w w'→
   Q .normal (Env.sets ⟨t,ds⟩ [(1,.pointer (some ⟨b.fbx,0,none⟩)),(7,pv'),(8,.pointer (some ⟨b.vbx,0,none⟩)),(13,.int .i32 R.2.2),(18,.pointer (some ⟨mbx,0,none⟩)),(19,sp'),(20,.bool true),(21,.int .i64 ((i:Int) - 1)),(22,.slice (some ⟨b.A,o,none⟩) n (g.nv+1 - o))]) w'):
 EC Tryz.prog Tryz.f41.ntmps (dropC 0 BH) Q (Env.sets ⟨t,ds⟩ [(1,.pointer (some ⟨b.fbx,0,none⟩)),(7,pv),(8,.pointer (some ⟨b.vbx,0,none⟩)),(13,.int .i32 pn),(18,.pointer (some ⟨mbx,0,none⟩)),(19,sp),(20,.bool chg),(21,.int .i64 (i:Int))]) w:=by
 have hX:(o,n)∈P:=hP ▸ List.getElem_mem hi
 have hXl:=hj.pi.long _ hX
 have hn2:2≤n:=hXl.1
 have hon:o+n≤g.nv:=hXl.2
 have gag:=ga.sw hj.sw
 have he:=hb.e
 have h2:=hb2.all
 refine cseD0 hs hi hP fun t=>(cseD1 hs hE hb hB gag.nv hj.pi.perm hon (by omega) gag.op (hj.opeq hX) gag.two gag.lt fun t w1 hs1 hb1 hO1=>?_)
 obtain ⟨m,hm⟩:∃m,m=if comm (g.op (arr o)).toNat then n else 0:=⟨_,rfl⟩
 have hmn:m≤n:=by rw[hm];split <;> omega
 rw[← hm] at hs1
 have ga1:GA (gsw g cls arr o m):=ga.sw (hj.sw.gsw hm (hj.opeq hX))
 have hE1:GE b.E L (gsw g cls arr o m):=hE.gsw m o
 have hsp1:=hsp.only hO1 fun k e=>by have:=hsp.lo k e;omega
 have hlen1:∀i,i<n→((gsw g cls arr o m).args (arr (o+i))).length=((gsw g cls arr o m).args (arr o)).length:=fun i hi=>by
  have h3:∀x,((gsw g cls arr o m).args x).length=(g.args x).length:=fun x=>by
   show (if inC arr o m x then ordA cls (g.args x) else g.args x).length=_
   split
   ·exact ordA_len cls _
   rfl
  rw[h3,h3];exact hj.leneq hX i hi
 refine cseD2 (g:=gsw g cls arr o m) hs1 hE1 hb ga1.nv hj.pi.perm hon (by omega) hlen1 ga1.small ga1.lt fun t w2 D hso hs2 hO2=>?_
 have hsp2:=hsp1.only hO2 fun k e h3=>by have:=hsp.lo k e;omega
 have hpk1:PK (gsw g cls arr o m) (AZ arr o n D) cls P pn:=(hj.pi.pk.gsw o m).sortS hX hso.perm
 have hlen2:∀i,i<n→((gsw g cls arr o m).args (AZ arr o n D (o+i))).length=((gsw g cls arr o m).args (AZ arr o n D o)).length:=fun i hi=>by
  have hk:=hpk1.same _ hX i hi
  unfold key at hk
  injection hk with _ hk
  injection hk with _ hk
  injection hk with hk _
  have hk:(((gsw g cls arr o m).args (AZ arr o n D o)).length:Int)=((gsw g cls arr o m).args (AZ arr o n D (o+i))).length:=hk
  omega
 have z1:=hO1.size
 have z2:=hO2.size
 refine cseD3a (g:=gsw g cls arr o m) hs2 hE1 hb hb2 (by omega) hsp2 fun t w3 sp3 hs3 hsp3 hb3 z3=>(cseD3b (g:=gsw g cls arr o m) hs3 hE1 hb hb2 (by omega) hsp3 ga1.nv hpk1.perm hon (by omega) hlen2 ga1.small ga1.lt fun t w4 sp4 hs4 hsp4 hb4=>?_)
 have z4:=hb4.size
 have hbl2:Below B w1 w2:=hO2.below (by omega) fun j hj=>by omega
 have hbl4:Below B w w4:=((hb1.trans hbl2).trans (hb3.mono (by omega))).trans (hb4.mono (by omega))
 refine cseD4 (g:=gsw g cls arr o m) hsp4 (fun h1 t=>hstay t w4 m D sp4 _ hm hmn hso h1 hs4 (hj.stay hX hm hso h1).1 (hj.stay hX hm hso h1).2 hsp4 hbl4) (fun h1 t=>?_)
 refine cseD5 (g:=gsw g cls arr o m) hs4 hE1 hb hi hPl fun t w5 pv5 hs5 hpe hO5=>?_
 have z5:=hO5.size
 have hpvl:∀k,pv.ownBlock=some k→b.Eb≤k:=fun k e=>(As hs4.row k e).1
 have hhi:=hb.hi
 have hsp5:Sp w5 Bs sp4 pv5 (spt (gsw g cls arr o m) cls (AZ arr o n D) o n):=⟨(hsp4.only hO5 fun k e e2=>hsp4.ne k e2 e).row,fun k e=>hsp4.ne k (hpe ▸ e)⟩
 have hbl5:Below B w w5:=hbl4.trans (hO5.below (by omega) fun j hj=>by have:=hpvl j hj;omega)
 have hsl:=spt_len (gsw g cls arr o m) cls (AZ arr o n D) o n
 have hnv:g.nv≤48:=gag.nv
 refine cseD6a (g:=gsw g cls arr o m) hs5 hE1 hb hb2 (by omega) hsp5 (by omega) fun t w6 sp6 hs6 hsp6 hb6 z6=>(cseD6b (g:=gsw g cls arr o m) hs6 hE1 hBE (by omega) hb hb2 hsp6 (cuts_of (by omega) (by omega)) ga1.nv hpk1.perm hon ⟨by have:=hj.pos;omega,hpn⟩ (by rw[Fb];omega) fun t w7 pv7 hs7 hsp7 hb7=>?_)
 have hc:=hj.cut hi hP hm ga.lt hso h1 rfl
 exact hcut t w7 m D sp6 pv7 _ _ hm hso h1 rfl hs7 hc.1 hc.2.1 hsp7 ((hbl5.trans (hb6.mono (by omega))).trans hb7)
end
end Go.Proofs.YteepnepebilckaaGreatDoor
