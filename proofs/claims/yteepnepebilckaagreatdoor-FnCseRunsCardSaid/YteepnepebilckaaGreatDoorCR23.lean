/- The law FnCseRuns returns true for every input in which the opcode table reads as laid, and its arguments read as they did, the table being tied to the text of the program. -/
import Derived.Test.YteepnepebilckaaGreatDoorCR22
namespace Go.Proofs.YteepnepebilckaaGreatDoor
open Go Go.Eng
structure ClsC (g:Gph) (cls:Nat→Int):Prop where
 key:∀x y,x<g.nv→y<g.nv→cls (x+1)=cls (y+1)→key g x=key g y
 args:∀x y,x<g.nv→y<g.nv→cls (x+1)=cls (y+1)→vcl g cls x=vcl g cls y
structure Mv (g:Gph) (cls:Nat→Int) (f:Nat→Nat):Prop where
 lt:∀x,x<g.nv→f x<g.nv
 cl:∀x,x<g.nv→cls (f x+1)=cls (x+1)
 dom:∀x,x<g.nv→Dom g.succs (g.blk (f x)) (g.blk x)
 le:∀x,x<g.nv→g.blk (f x)=g.blk x→f x≤x
def Gph.mv (g:Gph) (f:Nat→Nat):Gph:= { g with args:=fun v=>(g.args v).map f,ctrl:=fun b=>(g.ctrl b).map f }
theorem Dw (f:Nat→Nat) {l:List Nat} {k:Nat} (h:k<l.length):(l.map f).getD k 0=f (l.getD k 0):=by
 rw[List.getD_eq_getElem?_getD,List.getD_eq_getElem?_getD,List.getElem?_map,List.getElem?_eq_getElem h];rfl
section
variable {T : Nat → Bool} {g g0 : Gph} {cls : Nat → Int} {f : Nat → Nat} {E : Int → Int → List Int → Int}
theorem key_op {x y:Nat} (h:key g x=key g y):g.op x=g.op y∧g.aux x=g.aux y∧(g.args x).length=(g.args y).length∧(g.op x=13→g.blk x=g.blk y):=by
 unfold key at h
 injection h with h1 h
 injection h with h2 h
 injection h with h3 h
 injection h with h4 _
 refine ⟨h1,h2,by omega,fun h5=>?_⟩
 rw[if_pos h5,if_pos (h1 ▸ h5)] at h4
 omega
theorem ClsC.arg (c:ClsC g cls) {x y:Nat} (hx:x<g.nv) (hy:y<g.nv) (e:cls (x+1)=cls (y+1)) {k:Nat} (hk:k<(g.args x).length):cls ((g.args x).getD k 0+1)=cls ((g.args y).getD k 0+1):=by
 have h1:=c.args x y hx hy e
 have h2:=(key_op (c.key x y hx hy e)).2.2.1
 unfold vcl at h1
 have h3:=congrArg (fun l=>l[k]?) h1
 simp only [List.getElem?_map,List.getElem?_eq_getElem hk,List.getElem?_eq_getElem (h2 ▸ hk)] at h3
 rw[List.getD_eq_getElem?_getD,List.getD_eq_getElem?_getD,List.getElem?_eq_getElem hk,List.getElem?_eq_getElem (h2 ▸ hk)]
 simpa using h3
theorem GoodG.cls_T (h:GoodG T g) (c:ClsC g cls):∀n x y,rk g x<n→x<g.nv→y<g.nv→cls (x+1)=cls (y+1)→T x=T y
 |0,_,_,h0,_,_,_=>absurd h0 (Nat.not_lt_zero _)
 |n+1,x,y,h0,hx,hy,e=>by
  have hk:=key_op (c.key x y hx hy e)
  rw[h.tr x hx,h.tr y hy,← hk.1]
  by_cases h1:isT (g.op x)
  ·rw[if_pos h1,if_pos h1]
  rw[if_neg h1,if_neg h1]
  by_cases h2:g.op x=14
  ·rw[if_pos h2,if_pos h2]
   obtain ⟨j,hj,hr⟩:=h.cinv.copy x hx h2
   have hl:0<(g.args x).length:=by rw[hj];exact Nat.one_pos
   have ha:=c.arg hx hy e hl
   refine h.cls_T c n _ _ (by rw[hj];show rk g j<n;omega) (h.args x hx 0 hl).1 (h.args y hy 0 (by omega)).1 ha
  rw[if_neg h2,if_neg h2]
theorem GoodG.moved (h:GoodG T g) (c:ClsC g cls) (m:Mv g cls f):GoodG T (g.mv f):=by
 have hT:∀x,x<g.nv→T (f x)=T x:=fun x hx=>h.cls_T c _ _ _ (Nat.lt_succ_self _) (m.lt x hx) hx (m.cl x hx)
 refine { toGoodA:= { toFrm:=⟨h.one,h.nb,h.nv,h.blk,h.kind,h.likely,h.succs,h.rch,h.preds,h.bvals⟩,ops:=fun i hi=>?_,aux:=fun i hi=>?_,args:=fun i hi k hk=>?_ },tru:=fun i hi ho k hk=>?_,tr:=fun i hi=>?_,ctrl:=fun b hb=>?_ }
 ·have:=h.ops i hi
  refine ⟨this.1,this.2.1,?_⟩
  show (((g.args i).map f).length:Int)=_
  rw[List.length_map];exact this.2.2
 ·have:=h.aux i hi
  refine ⟨this.1,this.2.1,fun ho=>?_⟩
  show 0<((g.args i).map f).length
  rw[List.length_map];exact this.2.2 ho
 ·have hk:k<(g.args i).length:=by
   have:k<((g.args i).map f).length:=hk
   rwa [List.length_map] at this
  obtain ⟨h1,h2⟩:=h.args i hi k hk
  show ((g.args i).map f).getD k 0<g.nv∧Cp (g.mv f) i k (((g.args i).map f).getD k 0)
  rw[Dw f hk]
  obtain ⟨a,ha⟩:∃a,a=(g.args i).getD k 0:=⟨_,rfl⟩
  rw[← ha] at h1 h2 ⊢
  refine ⟨m.lt a h1,?_⟩
  have hd:=m.dom a h1
  unfold Cp at h2 ⊢
  show if g.op i=13 then Dom g.succs (g.blk (f a)) _ else (g.blk (f a)≠g.blk i∧Dom g.succs (g.blk (f a)) (g.blk i))∨(g.blk (f a)=g.blk i∧f a<i)
  by_cases ho:g.op i=13
  ·rw[if_pos ho] at h2 ⊢
   exact hd.trans h2
  rw[if_neg ho] at h2 ⊢
  rcases h2 with ⟨h3,h4⟩|⟨h3,h4⟩
  ·refine .inl ⟨fun e=>h3 ?_,hd.trans h4⟩
   rw[e] at hd
   exact h.anti (h.blk a h1) h4 hd
  by_cases e:g.blk (f a)=g.blk i
  ·have:=m.le a h1 (by rw[e,h3])
   exact .inr ⟨e,by omega⟩
  exact .inl ⟨e,by rw[← h3];exact hd⟩
 ·have hk:k<(g.args i).length:=by
   have:k<((g.args i).map f).length:=hk
   rwa [List.length_map] at this
  show T (((g.args i).map f).getD k 0)=_
  rw[Dw f hk,hT _ (h.args i hi k hk).1]
  exact h.tru i hi ho k hk
 ·show T i=if isT (g.op i) then true else if g.op i=14 then T (((g.args i).map f).getD 0 0) else false
  rw[h.tr i hi]
  by_cases h2:g.op i=14
  ·obtain ⟨j,hj⟩:=h.copy1 hi h2
   have hl:0<(g.args i).length:=by rw[hj];exact Nat.one_pos
   rw[if_pos h2,if_pos h2,Dw f hl,hT _ (h.args i hi 0 hl).1]
  rw[if_neg h2,if_neg h2]
 show (g.kind b=0∧(g.ctrl b).map f=[])∨∃c,(g.ctrl b).map f=[c]∧g.kind b≠0∧c<g.nv∧Dom g.succs (g.blk c) b∧T c=decide (g.kind b=1)
 rcases h.ctrl b hb with ⟨h1,h2⟩|⟨c,h1,h2,h3,h4,h5⟩
 ·exact .inl ⟨h1,by rw[h2];rfl⟩
 exact .inr ⟨f c,by rw[h1];rfl,h2,m.lt c h3,(m.dom c h3).trans h4,by rw[hT c h3];exact h5⟩
structure KE (g:Gph) (E:Int→Int→List Int→Int) (cls:Nat→Int) (now:Sta) (b:Nat):Prop where
 val:∀x,x<g.nv→g.op x≠13→Dom g.succs (g.blk x) b→now x=E (g.op x) (g.aux x) ((g.args x).map now)
 eq:∀x y,x<g.nv→y<g.nv→cls (x+1)=cls (y+1)→Dom g.succs (g.blk x) b→Dom g.succs (g.blk y) b→now x=now y
theorem GoodG.argD (h:GoodG T g) {x k:Nat} (hx:x<g.nv) (ho:g.op x≠13) (hk:k<(g.args x).length):(g.args x).getD k 0<g.nv∧Dom g.succs (g.blk ((g.args x).getD k 0)) (g.blk x)∧(g.blk ((g.args x).getD k 0)=g.blk x→(g.args x).getD k 0<x):=by
 obtain ⟨h1,h2⟩:=h.args x hx k hk
 unfold Cp at h2
 rw[if_neg ho] at h2
 refine ⟨h1,?_,fun e=>?_⟩
 ·rcases h2 with h3|h3
  ·exact h3.2
  rw[h3.1];exact Dom.rfl' _
 rcases h2 with h3|h3
 ·exact absurd e h3.1
 exact h3.2
theorem KE_step (h:GoodG T g) (c:ClsC g cls) {b edge:Nat} {old now:Sta} (hb:b<g.nb) (hc:Came g (KE g E cls) b edge old) (hs:StepR g E b edge old now):KE g E cls now b:=by
 have hfrom:∀x,g.blk x≠b→Dom g.succs (g.blk x) b→∃p,KE g E cls old p∧Dom g.succs (g.blk x) p:=fun x hx hD=>by
  rcases hc with e|⟨p,h1,h2,h3,h4⟩
  ·subst e
   exact absurd (RchS.entry hx) hD
  have hbs:b∈g.succs p:=by
   have:=Bn h2
   rw[h3,h.preds b hb,mem_predsL] at this
   exact this.2
  exact ⟨p,h4,hD.pred hbs fun e=>hx e.symm⟩
 have hval:∀x,x<g.nv→g.op x≠13→Dom g.succs (g.blk x) b→now x=E (g.op x) (g.aux x) ((g.args x).map now):=fun x hx ho hD=>by
  by_cases hxb:g.blk x=b
  ·exact hs.val x hx hxb ho
  obtain ⟨p,h4,hDp⟩:=hfrom x hxb hD
  rw[hs.out x fun _=>hxb,h4.val x hx ho hDp]
  congr 1
  refine List.map_congr_left fun a ha=>?_
  obtain ⟨k,hk,rfl⟩:=h.args_mem hx ha
  obtain ⟨h5,h6,_⟩:=h.argD hx ho hk
  refine (hs.out _ fun _ e=>?_).symm
  rw[e] at h6
  exact hxb (h.anti (h.blk x hx) hD h6)
 refine ⟨hval,?_⟩
 have key:∀n x y,(if g.blk x=b then x+1 else 0)+(if g.blk y=b then y+1 else 0)≤n→x<g.nv→y<g.nv→cls (x+1)=cls (y+1)→Dom g.succs (g.blk x) b→Dom g.succs (g.blk y) b→now x=now y:=by
  intro n
  induction n with
  |zero=>
   intro x y hn hx hy e hDx hDy
   have hxb:g.blk x≠b:=fun e=>by rw[if_pos e] at hn;omega
   have hyb:g.blk y≠b:=fun e=>by rw[if_pos e] at hn;omega
   rw[hs.out x fun _=>hxb,hs.out y fun _=>hyb]
   rcases hc with e|⟨p,h1,h2,h3,h4⟩
   ·subst e
    exact absurd (RchS.entry hxb) hDx
   have hbs:b∈g.succs p:=by
    have:=Bn h2
    rw[h3,h.preds b hb,mem_predsL] at this
    exact this.2
   exact h4.eq x y hx hy e (hDx.pred hbs fun e=>hxb e.symm) (hDy.pred hbs fun e=>hyb e.symm)
  |succ n ih=>
   intro x y hn hx hy e hDx hDy
   have hk:=key_op (c.key x y hx hy e)
   by_cases h0:g.blk x≠b∧g.blk y≠b
   ·rw[if_neg h0.1,if_neg h0.2] at hn
    exact ih x y (by rw[if_neg h0.1,if_neg h0.2];omega) hx hy e hDx hDy
   by_cases ho:g.op x=13
   ·have hby:=hk.2.2.2 ho
    have hxb:g.blk x=b:=Classical.byContradiction fun h1=>h0 ⟨h1,fun h2=>h1 (by rw[hby,h2])⟩
    have hyb:g.blk y=b:=by rw[← hby,hxb]
    obtain ⟨h5,p,h6,h7,h8,h9⟩:=h.came hx hxb ho hc
    obtain ⟨h5',p',h6',h7',h8',h9'⟩:=h.came hy hyb (hk.1 ▸ ho) hc
    rw[h7] at h7'
    subst h7'
    rw[hs.phi x hx hxb ho,hs.phi y hy hyb (hk.1 ▸ ho)]
    exact h8.eq _ _ (h.args x hx edge h5).1 (h.args y hy edge h5').1 (c.arg hx hy e h5) h9 h9'
   rw[hval x hx ho hDx,hval y hy (hk.1 ▸ ho) hDy,← hk.1,← hk.2.1]
   congr 1
   refine List.ext_getElem (by rw[List.length_map,List.length_map,hk.2.2.1]) fun k h1 h2=>?_
   rw[List.length_map] at h1 h2
   rw[List.getElem_map,List.getElem_map]
   have g1:(g.args x)[k]=(g.args x).getD k 0:=by rw[List.getD_eq_getElem?_getD,List.getElem?_eq_getElem h1];rfl
   have g2:(g.args y)[k]=(g.args y).getD k 0:=by rw[List.getD_eq_getElem?_getD,List.getElem?_eq_getElem h2];rfl
   rw[g1,g2]
   obtain ⟨a1,a2,a3⟩:=h.argD hx ho h1
   obtain ⟨b1,b2,b3⟩:=h.argD hy (hk.1 ▸ ho) h2
   refine ih _ _ ?_ a1 b1 (c.arg hx hy e h1) (a2.trans hDx) (b2.trans hDy)
   have m1:(if g.blk ((g.args x).getD k 0)=b then (g.args x).getD k 0+1 else 0)≤(if g.blk x=b then x+1 else 0)∧(g.blk x=b→(if g.blk ((g.args x).getD k 0)=b then (g.args x).getD k 0+1 else 0)≤x):=by
    by_cases e1:g.blk ((g.args x).getD k 0)=b
    ·have e2:g.blk x=b:=by
      rw[e1] at a2
      exact h.anti (h.blk x hx) hDx a2
     have:=a3 (by rw[e1,e2])
     rw[if_pos e1,if_pos e2]
     exact ⟨by omega,fun _=>by omega⟩
    rw[if_neg e1];exact ⟨Nat.zero_le _,fun _=>Nat.zero_le _⟩
   have m2:(if g.blk ((g.args y).getD k 0)=b then (g.args y).getD k 0+1 else 0)≤(if g.blk y=b then y+1 else 0)∧(g.blk y=b→(if g.blk ((g.args y).getD k 0)=b then (g.args y).getD k 0+1 else 0)≤y):=by
    by_cases e1:g.blk ((g.args y).getD k 0)=b
    ·have e2:g.blk y=b:=by
      rw[e1] at b2
      exact h.anti (h.blk y hy) hDy b2
     have:=b3 (by rw[e1,e2])
     rw[if_pos e1,if_pos e2]
     exact ⟨by omega,fun _=>by omega⟩
    rw[if_neg e1];exact ⟨Nat.zero_le _,fun _=>Nat.zero_le _⟩
   by_cases e1:g.blk x=b
   ·have:=m1.2 e1
    rw[if_pos e1] at hn
    omega
   have e2:g.blk y=b:=Classical.byContradiction fun h2=>h0 ⟨e1,h2⟩
   have:=m2.2 e2
   rw[if_pos e2] at hn
   omega
 intro x y hx hy e hDx hDy
 exact key _ x y (Nat.le_refl _) hx hy e hDx hDy
theorem FU (h:GoodG T g) (c:ClsC g cls) (m:Mv g cls f) (n:Nat) (old:Sta):runG g E n 0 0 old=runG (g.mv f) E n 0 0 old:=by
 refine run_eq (K:=KE g E cls) h (h.moved c m) (fun _ _=>rfl) (fun _ _=>rfl) (fun _ _=>rfl) (fun b edge old now hb hcm hs=>?_) n 0 0 old h.one (.inl rfl)
 have hK:=KE_step h c hb hcm hs
 refine ⟨hK,⟨hs.out,fun i hi hib ho=>?_,fun i hi hib ho=>?_⟩,fun hk=>?_⟩
 ·obtain ⟨h5,p,h6,h7,h8,h9⟩:=h.came hi hib ho hcm
  show now i=old (((g.args i).map f).getD edge 0)
  rw[hs.phi i hi hib ho,Dw f h5]
  have h1:=(h.args i hi edge h5).1
  exact (h8.eq _ _ (m.lt _ h1) h1 (m.cl _ h1) ((m.dom _ h1).trans h9) h9).symm
 ·show now i=E (g.op i) (g.aux i) (((g.args i).map f).map now)
  rw[hs.val i hi hib ho,List.map_map]
  congr 1
  refine List.map_congr_left fun a ha=>?_
  obtain ⟨k,hk,rfl⟩:=h.args_mem hi ha
  obtain ⟨h1,h2,_⟩:=h.argD hi ho hk
  rw[show g.blk i=b from hib] at h2
  exact (hK.eq _ _ (m.lt _ h1) h1 (m.cl _ h1) ((m.dom _ h1).trans h2) h2).symm
 show now ((g.ctrl b).getD 0 0)=now (((g.ctrl b).map f).getD 0 0)
 rcases h.ctrl b hb with ⟨h1,_⟩|⟨c',h1,h2,h3,h4,h5⟩
 ·exact absurd h1 hk
 rw[h1]
 exact (hK.eq _ _ (m.lt _ h3) h3 (m.cl _ h3) ((m.dom _ h3).trans h4) h4).symm
theorem FE {o:Int} (h0:0≤o) (h:comm o.toNat=true):o≠13∧o≠14∧o≠15:=by
 refine ⟨fun e=>?_,fun e=>?_,fun e=>?_⟩ <;> (subst e;exact absurd h (by decide))
theorem GoodG.swo (h:GoodG T g0) (s:SwO g0 g):GoodG T g:=by
 have hl:∀v,(g.args v).length=(g0.args v).length:=fun v=>by
  rcases s.args v with h1|⟨_,a,b,h1,h2⟩
  ·rw[h1]
  rw[h1,h2];rfl
 have hm:∀v k,v<g0.nv→k<(g.args v).length→(∃k',k'<(g0.args v).length∧(g.args v).getD k 0=(g0.args v).getD k' 0)∧((g.args v).getD k 0=(g0.args v).getD k 0∨(g0.op v≠13∧g0.op v≠14∧g0.op v≠15)):=fun v k hv hk=>by
  rcases s.args v with h1|⟨hc,a,b,h1,h2⟩
  ·rw[h1] at hk ⊢
   exact ⟨⟨k,hk,rfl⟩,.inl rfl⟩
  refine ⟨?_,.inr (FE (h.ops v hv).1 hc)⟩
  rw[h2] at hk ⊢
  rw[h1]
  match k,hk with
  |0,_=>exact ⟨1,by simp,rfl⟩
  |1,_=>exact ⟨0,by simp,rfl⟩
  |k+2,hk=>exact absurd (show k+2<2 from hk) (by omega)
 obtain ⟨A,hA⟩:∃A,A=g.args:=⟨_,rfl⟩
 have e:=s.eq
 rw[← hA] at hl hm e
 subst e
 refine { toGoodA:= { toFrm:=⟨h.one,h.nb,h.nv,h.blk,h.kind,h.likely,h.succs,h.rch,h.preds,h.bvals⟩,ops:=fun i hi=>?_,aux:=fun i hi=>?_,args:=fun i hi k hk=>?_ },tru:=fun i hi ho k hk=>?_,tr:=fun i hi=>?_,ctrl:=h.ctrl }
 ·have:=h.ops i hi
  refine ⟨this.1,this.2.1,?_⟩
  show ((A i).length:Int)=_
  rw[hl];exact this.2.2
 ·have:=h.aux i hi
  refine ⟨this.1,this.2.1,fun ho=>?_⟩
  show 0<(A i).length
  rw[hl];exact this.2.2 ho
 ·obtain ⟨⟨k',hk',e1⟩,h2⟩:=hm i k hi hk
  show (A i).getD k 0<g0.nv∧_
  have h3:=h.args i hi k' hk'
  refine ⟨by rw[e1];exact h3.1,?_⟩
  rcases h2 with h2|h2
  ·have h4:=(h.args i hi k (by rw[← hl];exact hk)).2
   rw[← h2] at h4
   exact h4
  have h4:=h3.2
  rw[← e1] at h4
  unfold Cp at h4 ⊢
  show if g0.op i=13 then _ else _
  rw[if_neg h2.1] at h4 ⊢
  exact h4
 ·obtain ⟨⟨k',hk',e1⟩,h2⟩:=hm i k hi hk
  show T ((A i).getD k 0)=decide (g0.op i=15∧k=2)
  rcases h2 with h2|h2
  ·rw[h2];exact h.tru i hi ho k (by rw[← hl];exact hk)
  rw[e1,h.tru i hi ho k' hk',decide_eq_false (fun h=>h2.2.2 h.1),decide_eq_false (fun h=>h2.2.2 h.1)]
 show T i=if isT (g0.op i) then true else if g0.op i=14 then T ((A i).getD 0 0) else false
 rw[h.tr i hi]
 by_cases h2:g0.op i=14
 ·obtain ⟨j,hj⟩:=h.copy1 hi h2
  obtain ⟨_,h3⟩:=hm i 0 hi (by rw[hl,hj];exact Nat.one_pos)
  rcases h3 with h3|h3
  ·rw[h3]
  exact absurd h2 h3.2.1
 rw[if_neg h2,if_neg h2]
theorem run_swo (h:GoodG T g0) (s:SwO g0 g) (hE:∀o a x y,0≤o→comm o.toNat=true→E o a [x,y]=E o a [y,x]) (n:Nat) (old:Sta):runG g0 E n 0 0 old=runG g E n 0 0 old:=by
 have h':=h.swo s
 have hpe:g.preds=g0.preds:=by rw[s.eq]
 have hse:g.succs=g0.succs:=by rw[s.eq]
 have hke:g.kind=g0.kind:=by rw[s.eq]
 have hce:g.ctrl=g0.ctrl:=by rw[s.eq]
 have hoe:g.op=g0.op:=by rw[s.eq]
 have hae:g.aux=g0.aux:=by rw[s.eq]
 have hbe:g.blk=g0.blk:=by rw[s.eq]
 have hne:g.nv=g0.nv:=by rw[s.eq]
 refine run_eq (K:=fun _ _=>True) h h' (fun b _=>by rw[hke]) (fun b _=>by rw[hse]) (fun b _=>by rw[hpe]) (fun b edge old now hb _ hs=>?_) n 0 0 old h.one (.inl rfl)
 refine ⟨trivial,⟨fun i hi=>hs.out i fun hin=>?_,fun i hi hbi ho=>?_,fun i hi hbi ho=>?_⟩,fun _=>by rw[hce]⟩
 ·rw[← hbe];exact hi (by omega)
 ·rw[hne] at hi
  rw[hbe] at hbi
  rw[hoe] at ho
  rw[hs.phi i hi hbi ho]
  rcases s.args i with h1|⟨hc,_⟩
  ·rw[h1]
  exact absurd ho (FE (h.ops i hi).1 hc).1
 rw[hne] at hi
 rw[hbe] at hbi
 rw[hoe] at ho
 rw[hs.val i hi hbi ho,hoe,hae]
 rcases s.args i with h1|⟨hc,a,b',h1,h2⟩
 ·rw[h1]
 rw[h1,h2]
 exact hE _ _ _ _ (h.ops i hi).1 hc
end
end Go.Proofs.YteepnepebilckaaGreatDoor
namespace Go.Proofs.YteepnepebilckaaGreatDoor
open Go Go.Eng Go.RowKit Go.Shelf
theorem GRep.cong {w:World} {B:Nat} {L:Lay} {g:Gph} (h:GRep w B L g) {A C:Nat→List Nat} (hA:∀v,v<g.nv→A v=g.args v) (hC:∀k,k<g.nb→C k=g.ctrl k):GRep w B L { g with args:=A,ctrl:=C }:=by
 refine ⟨fun τ=>?_,h.tags.same rfl rfl⟩
 have h1:=h.comp τ
 cases τ with
 |args i=>intro hi;show Row _ _ _ _ ((A i).map L.vp);rw[hA i hi];exact h1 hi
 |ctrl i=>intro hi;show Row _ _ _ _ ((C i).map L.vp);rw[hC i hi];exact h1 hi
 |_=>exact h1
theorem GE.ac {E:Nat} {L:Lay} {g:Gph} (h:GE E L g) (A C:Nat→List Nat):GE E L { g with args:=A,ctrl:=C }:=⟨h.fb,h.bb,h.vb,fun τ hτ hl=>h.sl τ hτ (by cases τ <;> exact hl)⟩
def fR (rw:Nat→Option Nat) (x:Nat):Nat:=(rw (x+1)).getD x
open Classical in
noncomputable def CA (g:Gph) (f:Nat→Nat) (S:List Nat):Nat→List Nat:=fun x=>if x∈S then (g.args x).map f else g.args x
def Cx (g:Gph) (f:Nat→Nat) (k:Nat):Nat→List Nat:=fun x=>if x<k then (g.ctrl x).map f else g.ctrl x
def mpt (f:Nat→Nat) (l:List Nat) (a:Nat):List Nat:=(l.take a).map f ++ l.drop a
theorem mpt_len (f:Nat→Nat) (l:List Nat) (a:Nat):(mpt f l a).length=l.length:=by unfold mpt;simp;omega
theorem mpt_get (f:Nat→Nat) {l:List Nat} {a:Nat} (h:a<l.length):(mpt f l a).getD a 0=l.getD a 0:=by
 unfold mpt
 rw[List.getD_eq_getElem?_getD,List.getElem?_append_right (by simp;omega),List.getD_eq_getElem?_getD]
 simp [show min a l.length=a by omega]
theorem Fy (f:Nat→Nat) (l:List Nat):mpt f l l.length=l.map f:=by unfold mpt;simp
theorem mpt_set (f:Nat→Nat) {l:List Nat} {a:Nat} (h:a<l.length):(mpt f l a).set a (f (l.getD a 0))=mpt f l (a+1):=by
 have hg:l.getD a 0=l[a]:=by rw[List.getD_eq_getElem?_getD,List.getElem?_eq_getElem h];rfl
 unfold mpt
 rw[List.set_append_right _ _ (by simp;omega),hg]
 have h6:a - ((l.take a).map f).length=0:=by simp;omega
 rw[h6,List.drop_eq_getElem_cons h,List.set_cons_zero,List.take_succ_eq_append_getElem h,List.map_append,List.append_assoc]
 rfl
theorem Fb (f:Nat→Nat) {l:List Nat} {a:Nat} (h:a<l.length) (e:f (l.getD a 0)=l.getD a 0):mpt f l a=mpt f l (a+1):=by
 have hg:l.getD a 0=l[a]:=by rw[List.getD_eq_getElem?_getD,List.getElem?_eq_getElem h];rfl
 rw[hg] at e
 unfold mpt
 rw[List.drop_eq_getElem_cons h,List.take_succ_eq_append_getElem h,List.map_append,List.append_assoc]
 show _=_ ++ ([f l[a]] ++ _)
 rw[e];rfl
noncomputable def BV (g:Gph) (f:Nat→Nat) (S:List Nat) (v a:Nat):Nat→List Nat:=fun x=>if x=v then mpt f (g.args v) a else CA g f S x
theorem FV (g:Gph) (f:Nat→Nat) {S:List Nat} {v:Nat} (hv:v∉S):BV g f S v 0=CA g f S:=by
 funext x
 unfold BV CA
 by_cases e:x=v
 ·subst e;rw[if_pos rfl,if_neg hv];rfl
 rw[if_neg e]
theorem mapP_all (g:Gph) (f:Nat→Nat) {S:List Nat} {v:Nat}:BV g f S v (g.args v).length=CA g f (S ++ [v]):=by
 funext x
 unfold BV CA
 by_cases e:x=v
 ·subst e;rw[if_pos rfl,if_pos (by simp),Fy]
 rw[if_neg e]
 by_cases h:x∈S
 ·rw[if_pos h,if_pos (by simp [h])]
 rw[if_neg h,if_neg (by simp [h,e])]
theorem G1 (g:Gph) (f:Nat→Nat) {S:List Nat} {v a:Nat} (h:a<(g.args v).length):(fun x=>if x=v then (BV g f S v a v).set a (f ((g.args v).getD a 0)) else BV g f S v a x)=BV g f S v (a+1):=by
 funext x
 by_cases e:x=v
 ·subst e
  rw[if_pos rfl]
  unfold BV
  rw[if_pos rfl,if_pos rfl]
  exact mpt_set f h
 rw[if_neg e]
 unfold BV
 rw[if_neg e,if_neg e]
theorem Gl (g:Gph) (f:Nat→Nat) {S:List Nat} {v a:Nat} (h:a<(g.args v).length) (e:f ((g.args v).getD a 0)=(g.args v).getD a 0):BV g f S v a=BV g f S v (a+1):=by
 funext x
 unfold BV
 rw[Fb f h e]
def B5 (g:Gph) (f:Nat→Nat) (k a:Nat):Nat→List Nat:=fun x=>if x=k then mpt f (g.ctrl k) a else Cx g f k x
theorem ctrP_zero (g:Gph) (f:Nat→Nat) (k:Nat):B5 g f k 0=Cx g f k:=by
 funext x
 unfold B5 Cx
 by_cases e:x=k
 ·subst e;rw[if_pos rfl,if_neg (by omega)];rfl
 rw[if_neg e]
theorem ctrP_all (g:Gph) (f:Nat→Nat) (k:Nat):B5 g f k (g.ctrl k).length=Cx g f (k+1):=by
 funext x
 unfold B5 Cx
 by_cases e:x=k
 ·subst e;rw[if_pos rfl,if_pos (by omega),Fy]
 rw[if_neg e]
 by_cases h:x<k
 ·rw[if_pos h,if_pos (by omega)]
 rw[if_neg h,if_neg (by omega)]
theorem GF (g:Gph) (f:Nat→Nat) {k a:Nat} (h:a<(g.ctrl k).length):(fun x=>if x=k then (B5 g f k a k).set a (f ((g.ctrl k).getD a 0)) else B5 g f k a x)=B5 g f k (a+1):=by
 funext x
 by_cases e:x=k
 ·subst e
  rw[if_pos rfl]
  unfold B5
  rw[if_pos rfl,if_pos rfl]
  exact mpt_set f h
 rw[if_neg e]
 unfold B5
 rw[if_neg e,if_neg e]
theorem FZ (g:Gph) (f:Nat→Nat) {k a:Nat} (h:a<(g.ctrl k).length) (e:f ((g.ctrl k).getD a 0)=(g.ctrl k).getD a 0):B5 g f k a=B5 g f k (a+1):=by
 funext x
 unfold B5
 rw[Fb f h e]
set_option maxHeartbeats 4000000
attribute [local irreducible] EC EL DL Ret thenQ blockQ Bf bodyQ onlyN execOp Sem.run World.cell? World.frozen? World.setCell World.alloc
theorem Fp {w:World} {B E:Nat} {L:Lay} {g:Gph} (h:GRep w B L g) (hE:GE E L g) {i k j:Nat} (hi:i<g.nv) (hk:k<(g.args i).length):
 Ret Tryz.prog 69 #[L.vp i,.int .i64 (k:Int),L.vp j] w fun v w'=>v= .tuple #[]∧GRep w' B L (g.setArg i k j)∧Below B w w'∧Only (fun j=>j<E) w w':=by
 obtain ⟨b,cap,hv,hob,hc,hf⟩:=h.argsE hi hk
 have h1:=h.vArgs hi
 rw[hv] at h1
 have hlt:=(h.slLt (τ:=.args i) rfl hi b hob).1
 have hle:b<E:=hE.sl (.args i) rfl hi b hob
 refine ret_of_EC Tryz.func69 rfl rfl (Ac (Ab Ad rfl (Ab (Ax rfl) rfl (Ab (Ak rfl (Al rfl)) rfl (Ab (Ai rfl (Ag rfl) ‹_›) rfl ?_)))))
 refine Ab Ad rfl (Ab Ad rfl (Ab (x_index1 rfl rfl (An rfl) (by omega)) rfl (Bc (AV rfl rfl rfl (AJ rfl) hc (hf _)) rfl (Af ?_))))
 refine BE rfl rfl ⟨rfl,?_,DC hlt,(Only.refl _ w).set (L.vp j) hle⟩
 rw[Nat.zero_add]
 exact h.setArg hi hk hob
theorem DD {w:World} {B E:Nat} {L:Lay} {g:Gph} (h:GRep w B L g) (hE:GE E L g) {b k j:Nat} (hb:b<g.nb) (hk:k<(g.ctrl b).length):
 Ret Tryz.prog 71 #[L.bp b,.int .i64 (k:Int),L.vp j] w fun v w'=>v= .tuple #[]∧GRep w' B L (g.setCtrl b k j)∧Below B w w'∧Only (fun j=>j<E) w w':=by
 obtain ⟨b1,cap,hv,hob,hc,hf⟩:=h.ctrlE hb hk
 have h1:=h.bCtrl hb
 rw[hv] at h1
 have hlt:=(h.slLt (τ:=.ctrl b) rfl hb b1 hob).1
 have hle:b1<E:=hE.sl (.ctrl b) rfl hb b1 hob
 refine ret_of_EC Tryz.func71 rfl rfl (Ac (Ab Ad rfl (Ab (Ax rfl) rfl (Ab (Ak rfl (Al rfl)) rfl (Ab (Ai rfl (Ag rfl) ‹_›) rfl ?_)))))
 refine Ab Ad rfl (Ab Ad rfl (Ab (x_index1 rfl rfl (An rfl) (by omega)) rfl (Bc (AV rfl rfl rfl (AJ rfl) hc (hf _)) rfl (Af ?_))))
 refine BE rfl rfl ⟨rfl,?_,DC hlt,(Only.refl _ w).set (L.vp j) hle⟩
 rw[Nat.zero_add]
 exact h.setCtrl hb hk hob
section
variable {w : World} {B E fbx RB : Nat} {L : Lay} {g : Gph} {Q : Exit → Env → World → Prop} {t : Nat → Value} {ds : List Deferred} {rw : Nat → Option Nat}
theorem cseG (h0:GRep w B L g) (hE:GE E L g) (hER:E≤RB) (hn:g.nv≤48) (hnb:g.nb≤9) (hbv:∀k,k<g.nb→∀v∈g.bvals k,v<g.nv) (hperm:(preK g g.nb).Perm (List.range g.nv)) (ha:∀v,v<g.nv→(g.args v).length≤1000∧∀x∈g.args v,x<g.nv)
 (hct:∀k,k<g.nb→(g.ctrl k).length≤1000∧∀c∈g.ctrl k,c<g.nv) (hop:∀v,v<g.nv→g.op v≤15) (hfb:w.heap[fbx]? =some (.cells #[L.fp] 71 (0,0))) (hR:w.heap[RB]? =some (.cells (cellsOf (fun i=>ptO L (rw i)) (g.nv+1)) 97 (0,0)))
 (h:∀t w',GRep w' B L (g.mv (fR rw))→Below B w w'→Only (fun j=>j<E) w w'→Q .normal (Env.sets ⟨t,ds⟩ []) w'):
 EC Tryz.prog Tryz.f41.ntmps (dropC 20 BY) Q (Env.sets ⟨t,ds⟩ [(1,.pointer (some ⟨fbx,0,none⟩)),(43,.slice (some ⟨RB,0,none⟩) (g.nv+1) (g.nv+1))]) w:=by
 obtain ⟨f,hf⟩:∃f,f=fR rw:=⟨_,rfl⟩
 rw[← hf] at h
 obtain ⟨fa,fc,hfs⟩:=h0.fblocksV
 have h1:=h0.fBlocks
 rw[hfs] at h1
 have h2:w.cell? ⟨fbx,0,none⟩=some L.fp:=Am hfb rfl
 have htot:(preK g g.nb).length=g.nv:=by rw[hperm.length_eq,List.length_range]
 have hnod:(preK g g.nb).Nodup:=hperm.nodup_iff.2 List.nodup_range
 have hRw:∀W,Only (fun j=>j<E) w W→W.heap[RB]? =some (.cells (cellsOf (fun i=>ptO L (rw i)) (g.nv+1)) 97 (0,0)):=fun W hO=>(hO.block RB (Bi hR) (by omega)).trans hR
 have hBw:B≤w.heap.size:=h0.baseLe
 have hgn:∀{W W':World},Gn W W'→Only (fun j=>j<E) w W→Below B w W→Only (fun j=>j<E) w W'∧Below B w W':=fun hG hO hb=>by
  have:=hO.size
  exact ⟨hO.bel this hG.below,hb.trans (hG.below.mono (by omega))⟩
 refine Ae (Ac (Ab (Ai rfl (Ag rfl) ‹_›) rfl ?_))
 refine Ab (Ax rfl) rfl (Ab (Ak rfl (Al rfl)) rfl (Ab (Ai rfl (Ag rfl) ‹_›) rfl ?_))
 refine Ab (AP rfl (An rfl)) rfl (Ab Ad rfl (Af (Aa (Aq ?_))))
 refine EC_loop (fun m e w1=>∃k,k≤g.nb∧GRep w1 B L { g with args:=CA g f (preK g k),ctrl:=Cx g f k }∧Below B w w1∧Only (fun j=>j<E) w w1∧AtD e ds [(1,.pointer (some ⟨fbx,0,none⟩)),(43,.slice (some ⟨RB,0,none⟩) (g.nv+1) (g.nv+1)),(525,.slice fa g.nb fc),(526,.int .i64 (g.nb:Int)),(527,.int .i64 (k:Int))]∧m=g.nb - k) g.nb
  ⟨0,Nat.zero_le _,h0.cong (fun v _=>if_neg (by simp [preK])) (fun k _=>if_neg (Nat.not_lt_zero _)),Below.refl _ _,Only.refl _ _,AU rfl ⟨rfl,rfl,rfl,rfl,rfl,trivial⟩,rfl⟩ ?_
 clear h1 h2 hfb
 rintro m e w1 ⟨k,hk,hg,hbl,hO,⟨t,rfl⟩,rfl⟩
 refine Ae (Ac (Ab (AY rfl rfl) rfl (Af (Aa (Ae ?_)))))
 refine AG rfl rfl (fun hlt=>?_) (fun hge=>?_)
 rotate_left
 ·have hkn:k=g.nb:=by omega
  rw[hkn] at hg
  refine AK (AA (AD (Az ?_)))
  refine h _ w1 ?_ hbl hO
  exact hg.cong (A:=fun v=>(g.args v).map f) (C:=fun b=>(g.ctrl b).map f) (fun v hv=>(if_pos (hperm.mem_iff.2 (List.mem_range.2 hv))).symm) fun b hb=>(if_pos hb).symm
 have hkn:k<g.nb:=by omega
 refine As (Aa ?_)
 obtain ⟨fb,fcc,e1,_,hbc,_⟩:=hg.fblocksE hkn
 rw[hfs] at e1
 injection e1 with e1 _ e3
 subst e1
 obtain ⟨va,vc,hvs⟩:=Row.len (hg.comp (.bvals k) hkn)
 obtain ⟨nk,hnk⟩:∃nk,nk=(g.bvals k).length:=⟨_,rfl⟩
 rw[show ({ g with args:=CA g f (preK g k),ctrl:=Cx g f k }:Gph).bvals k=g.bvals k from rfl,← hnk] at hvs
 have hkl:nk≤1000:=by
  have h3:=preK_lt g (n:=g.nb) hkn (i:=nk - 1)
  rw[htot,List.length_append,List.length_take] at h3
  by_cases h4:nk=0
  ·omega
  have:=h3 (by omega);omega
 have h1:=hg.bVals hkn
 rw[hvs] at h1
 refine Ae (Aq (Ae (Ac (Ab (x_index1 rfl rfl (An rfl) (by omega)) rfl (Ab (Ai rfl (Ag rfl) ‹_›) rfl ?_)))))
 refine Ab Ah rfl (Af (Aa ?_))
 refine A0 (fun e w2=>GRep w2 B L { g with args:=CA g f (preK g (k+1)),ctrl:=Cx g f k }∧Below B w w2∧Only (fun j=>j<E) w w2∧AtD e ds [(1,.pointer (some ⟨fbx,0,none⟩)),(43,.slice (some ⟨RB,0,none⟩) (g.nv+1) (g.nv+1)),(525,.slice (some ⟨fb,0,none⟩) g.nb fc),(526,.int .i64 (g.nb:Int)),(527,.int .i64 (k:Int)),(51,L.bp k)]) ?_ ?_
 ·refine Ae (Ac (Ab Ad rfl (Ab (Ax rfl) rfl (Ab (Ak rfl (Al rfl)) rfl (Ab (Ai rfl (Ag rfl) ‹_›) rfl ?_)))))
  refine Ab (AP rfl (An rfl)) rfl (Ab Ad rfl (Af (Aa (Aq ?_))))
  refine EC_loop (fun m e w2=>∃i,i≤nk∧GRep w2 B L { g with args:=CA g f (preK g k ++ (g.bvals k).take i),ctrl:=Cx g f k }∧Below B w w2∧Only (fun j=>j<E) w w2∧AtD e ds [(1,.pointer (some ⟨fbx,0,none⟩)),(43,.slice (some ⟨RB,0,none⟩) (g.nv+1) (g.nv+1)),(525,.slice (some ⟨fb,0,none⟩) g.nb fc),(526,.int .i64 (g.nb:Int)),(527,.int .i64 (k:Int)),(51,L.bp k),(534,.slice va nk vc),(535,.int .i64 (nk:Int)),(536,.int .i64 (i:Int))]∧m=nk - i) nk
   ⟨0,Nat.zero_le _,by simpa using hg,hbl,hO,AU rfl ⟨rfl,rfl,rfl,rfl,rfl,rfl,rfl,rfl,rfl,trivial⟩,rfl⟩ ?_
  clear h1 hg hbl hO hbc
  rintro m e w2 ⟨i,hi,hg,hbl,hO,⟨t,rfl⟩,rfl⟩
  refine Ae (Ac (Ab (AY rfl rfl) rfl (Af (Aa (Ae ?_)))))
  refine AG rfl rfl (fun hlt=>?_) (fun hge=>?_)
  rotate_left
  ·have hin:i=nk:=by omega
   have e:preK g k ++ (g.bvals k).take i=preK g (k+1):=by rw[hin,hnk,List.take_length,Cr]
   rw[e] at hg
   refine AK (AA (AD (Az ?_)))
   exact AS ⟨hg,hbl,hO,AU rfl ⟨rfl,rfl,rfl,rfl,rfl,rfl,trivial⟩⟩
  have hin:i<nk:=by omega
  refine As (Aa ?_)
  obtain ⟨vb,vcc,e2,_,hvc,_⟩:=Row.elem (hg.comp (.bvals k) hkn) (k:=i) (by show i<(g.bvals k).length;omega)
  rw[show ({ g with args:=CA g f (preK g k ++ (g.bvals k).take i),ctrl:=Cx g f k }:Gph).bvals k=g.bvals k from rfl] at e2 hvc
  rw[hvs] at e2
  injection e2 with e2 _ e4
  subst e2
  obtain ⟨v,hve⟩:∃v,v=(g.bvals k).getD i 0:=⟨_,rfl⟩
  rw[← hve] at hvc
  have hvn:v<g.nv:=by rw[hve];exact hbv k hkn _ (Bn (by omega))
  obtain ⟨S,hS⟩:∃S,S=preK g k ++ (g.bvals k).take i:=⟨_,rfl⟩
  have hnext:preK g k ++ (g.bvals k).take (i+1)=S ++ [v]:=by
   rw[List.take_add_one,← List.append_assoc,← hS]
   congr 1
   rw[hve,List.getD_eq_getElem?_getD,List.getElem?_eq_getElem (by omega)];rfl
  have hvS:v∉S:=by
   have h3:(S ++ [v]).Sublist (preK g g.nb):=by
    rw[← hnext]
    refine (List.Sublist.append_left (List.take_sublist _ _) _).trans ?_
    rw[← Cr]
    obtain ⟨d,hd⟩:∃d,g.nb=k+1+d:=⟨g.nb - (k+1),by omega⟩
    have e:List.range (k+1+d)=List.range (k+1) ++ (List.range d).map (k+1+ ·):=List.range_add ..
    show ((List.range (k+1)).flatMap g.bvals).Sublist ((List.range g.nb).flatMap g.bvals)
    rw[hd,e,List.flatMap_append]
    exact List.sublist_append_left _ _
   have h4:=h3.nodup hnod
   intro hm
   exact (List.nodup_append.1 h4).2.2 v hm v (.head _) rfl
  rw[← hS] at hg
  obtain ⟨na,hna⟩:∃na,na=(g.args v).length:=⟨_,rfl⟩
  have hnal:na≤1000:=by rw[hna];exact (ha v hvn).1
  have hg0:GRep w2 B L { g with args:=BV g f S v 0,ctrl:=Cx g f k }:=by rw[FV g f hvS];exact hg
  obtain ⟨aa,ac,has⟩:=hg0.argsV hvn
  have hl0:(({ g with args:=BV g f S v 0,ctrl:=Cx g f k }:Gph).args v).length=na:=by
   show (BV g f S v 0 v).length=na
   unfold BV
   rw[if_pos rfl,mpt_len,hna]
  rw[hl0] at has
  have hva:=hg0.vArgs hvn
  rw[has] at hva
  refine Ae (Aq (Ae (Ac (Ab (x_index1 rfl rfl (An rfl) (by omega)) rfl (Ab (Ai rfl (Ag rfl) ‹_›) rfl ?_)))))
  refine Ab Ah rfl (Af (Aa (Ae (Ac (Ab Ad rfl (Ab (Ax rfl) rfl (Ab (Ak rfl (Al rfl)) rfl (Ab (Ai rfl (Ag rfl) ‹_›) rfl ?_))))))))
  refine Ab (AP rfl (An rfl)) rfl (Ab Ad rfl (Af (Aa (Aq ?_))))
  refine EC_loop (fun m e w3=>∃a,a≤na∧GRep w3 B L { g with args:=BV g f S v a,ctrl:=Cx g f k }∧Below B w w3∧Only (fun j=>j<E) w w3∧AtD e ds [(1,.pointer (some ⟨fbx,0,none⟩)),(43,.slice (some ⟨RB,0,none⟩) (g.nv+1) (g.nv+1)),(525,.slice (some ⟨fb,0,none⟩) g.nb fc),(526,.int .i64 (g.nb:Int)),(527,.int .i64 (k:Int)),(51,L.bp k),(534,.slice (some ⟨vb,0,none⟩) nk vc),(535,.int .i64 (nk:Int)),(536,.int .i64 (i:Int)),(53,L.vp v),(543,.slice aa na ac),(544,.int .i64 (na:Int)),(545,.int .i64 (a:Int))]∧m=na - a) na
   ⟨0,Nat.zero_le _,hg0,hbl,hO,AU rfl ⟨rfl,rfl,rfl,rfl,rfl,rfl,rfl,rfl,rfl,rfl,rfl,rfl,rfl,trivial⟩,rfl⟩ ?_
  clear hg hg0 hbl hO hvc hva
  rintro m e w3 ⟨a,haa,hg,hbl,hO,⟨t,rfl⟩,rfl⟩
  refine Ae (Ac (Ab (AY rfl rfl) rfl (Af (Aa (Ae ?_)))))
  refine AG rfl rfl (fun hlt=>?_) (fun hge=>?_)
  rotate_left
  ·have han:a=na:=by omega
   rw[han,hna,mapP_all,← hnext] at hg
   refine AK (AA (AD (Az (Ar (Aa (Ac (Ab (x_inc rfl rfl (by omega)) rfl (Ab Ad rfl (Af ?_)))))))))
   exact Av (nk - (i+1)) (by omega) ⟨i+1,by omega,hg,hbl,hO,AU rfl ⟨rfl,rfl,rfl,rfl,rfl,rfl,rfl,rfl,rfl,trivial⟩,rfl⟩
  have han:a<na:=by omega
  refine As (Aa ?_)
  have hlen:(({ g with args:=BV g f S v a,ctrl:=Cx g f k }:Gph).args v).length=na:=by
   show (BV g f S v a v).length=na
   unfold BV
   rw[if_pos rfl,mpt_len,hna]
  obtain ⟨y,hy⟩:∃y,y=(g.args v).getD a 0:=⟨_,rfl⟩
  have hyn:y<g.nv:=by rw[hy];exact (ha v hvn).2 _ (Bn (by omega))
  obtain ⟨ab,acc,e5,_,hac,_⟩:=hg.argsE (k:=a) hvn (by rw[hlen];exact han)
  have hgy:(({ g with args:=BV g f S v a,ctrl:=Cx g f k }:Gph).args v).getD a 0=y:=by
   show (BV g f S v a v).getD a 0=y
   unfold BV
   rw[if_pos rfl,mpt_get f (by omega),hy]
  rw[hgy] at hac
  rw[hlen,has] at e5
  injection e5 with e5 _ e6
  subst e5
  have hRc:w3.cell? ⟨RB,0+(y+1),none⟩=some (ptO L (rw (y+1))):=Am (hRw w3 hO) (by rw[Nat.zero_add];exact A9 _ (by omega))
  have hid:=hg.vID (i:=y) hyn
  refine Ae (Aq (Ae (Ac (Ab Ad rfl (Ab (x_index1 rfl rfl (An rfl) (by omega)) rfl (Ab (Ai rfl (Ag rfl) ‹_›) rfl ?_))))))
  refine Ab Ah rfl (Ab Ah rfl (Af (Aa (Ae (Ac (Ab Ad rfl (Ab Ad rfl (Ab (Ax rfl) rfl (Ab (Ak rfl (Al rfl)) rfl (Ab (Ai rfl (Ag rfl) hid) rfl (Ab (Be (i:=y+1) rfl rfl (by omega) (An rfl) (by omega)) rfl ?_)))))))))))
  refine Ab (Ai rfl (Ag rfl) hRc) rfl (Ab Ah rfl (Af (Aa ?_)))
  have hfy:f y=(rw (y+1)).getD y:=by rw[hf];rfl
  cases hrw:rw (y+1) with
  |none=>
   rw[hrw] at hfy
   refine Ae (Ac (Ab Ad rfl (Ab (CJ (p:=none) rfl rfl (BR rfl)) rfl (Af (Aa (Bj rfl rfl (As (Ar (Aa (Ac (Ab (x_inc rfl rfl (by omega)) rfl ?_)))))))))))
   refine Ab Ad rfl (Af ?_)
   rw[Gl g f (by omega) (by rw[← hy];exact hfy)] at hg
   exact Av (na - (a+1)) (by omega) ⟨a+1,by omega,hg,hbl,hO,AU rfl ⟨rfl,rfl,rfl,rfl,rfl,rfl,rfl,rfl,rfl,rfl,rfl,rfl,rfl,trivial⟩,rfl⟩
  |some z=>
   rw[hrw] at hfy
   have hfy:f y=z:=hfy
   refine Ae (Ac (Ab Ad rfl (Ab (CJ (p:=some ⟨L.vb z,0,none⟩) rfl rfl (BR rfl)) rfl (Af (Aa (Bm rfl rfl (Ae (Ae (Ac (Ab Ad rfl (Ab (Ax rfl) rfl ?_)))))))))))
   refine Ab (FO rfl (hg.val (i:=y) hyn)) rfl (Ab (Eh rfl) rfl (Bg (AI Tryz.func64 rfl rfl rfl rfl) rfl Dy ?_))
   rintro _ w4 ⟨rfl,hG4⟩
   obtain ⟨hO4,hb4⟩:=hgn hG4 hO hbl
   have hg4:=hg.on hG4.below
   refine Ab (A4 (a:=0) (b:=1) rfl rfl) rfl ?_
   rw[show decide ((0:Int)=1)=false from rfl]
   refine Ab Ad rfl (AF rfl rfl (AF rfl rfl (AF rfl rfl (AF rfl rfl (AF rfl rfl (Ab (AN rfl) rfl (Af (Aa (Bj rfl rfl (As (Aa ?_)))))))))))
   refine Ac (Ab Ad rfl (Ab Ad rfl (Ab Ad rfl (Bg (AI Tryz.func69 rfl rfl rfl rfl) rfl (Fp (j:=z) hg4 (hE.ac _ _) hvn (by rw[hlen];exact han)) ?_))))
   rintro _ w5 ⟨rfl,hg5,hb5,hO5⟩
   refine Af (Ar (Aa (Ac (Ab (x_inc rfl rfl (by omega)) rfl (Ab Ad rfl (Af ?_))))))
   have hg6:GRep w5 B L { g with args:=BV g f S v (a+1),ctrl:=Cx g f k }:=by
    rw[← G1 g f (by omega),← hy,hfy]
    exact hg5
   exact Av (na - (a+1)) (by omega) ⟨a+1,by omega,hg6,hb4.trans hb5,hO4.trans hO5,AU rfl ⟨rfl,rfl,rfl,rfl,rfl,rfl,rfl,rfl,rfl,rfl,rfl,rfl,rfl,trivial⟩,rfl⟩
 clear h1 hg hbl hO hbc
 rintro e w2 ⟨hg,hbl,hO,⟨t,rfl⟩⟩
 obtain ⟨cn,hcn⟩:∃cn,cn=(g.ctrl k).length:=⟨_,rfl⟩
 have hcnl:cn≤1000:=by rw[hcn];exact (hct k hkn).1
 have hg0:GRep w2 B L { g with args:=CA g f (preK g (k+1)),ctrl:=B5 g f k 0 }:=by rw[ctrP_zero];exact hg
 have hlen:∀a,(({ g with args:=CA g f (preK g (k+1)),ctrl:=B5 g f k a }:Gph).ctrl k).length=cn:=fun a=>by
  show (B5 g f k a k).length=cn
  unfold B5
  rw[if_pos rfl,mpt_len,hcn]
 obtain ⟨ca,cc,hcs⟩:=hg0.ctrlV hkn
 rw[hlen] at hcs
 refine Ae (Ac (Ab Ad rfl (Bg (AI Tryz.func70 rfl rfl rfl rfl) rfl (Ea hg0 (b:=k) hkn) ?_)))
 rintro _ wx ⟨rfl,ew⟩
 rw[ew,hcs]
 clear ew wx
 refine Ab (AP rfl (An rfl)) rfl (Ab Ad rfl (Af (Aa (Aq ?_))))
 refine EC_loop (fun m e w3=>∃a,a≤cn∧GRep w3 B L { g with args:=CA g f (preK g (k+1)),ctrl:=B5 g f k a }∧Below B w w3∧Only (fun j=>j<E) w w3∧AtD e ds [(1,.pointer (some ⟨fbx,0,none⟩)),(43,.slice (some ⟨RB,0,none⟩) (g.nv+1) (g.nv+1)),(525,.slice (some ⟨fb,0,none⟩) g.nb fc),(526,.int .i64 (g.nb:Int)),(527,.int .i64 (k:Int)),(51,L.bp k),(617,.slice ca cn cc),(618,.int .i64 (cn:Int)),(619,.int .i64 (a:Int))]∧m=cn - a) cn
  ⟨0,Nat.zero_le _,hg0,hbl,hO,AU rfl ⟨rfl,rfl,rfl,rfl,rfl,rfl,rfl,rfl,rfl,trivial⟩,rfl⟩ ?_
 clear hg hg0 hbl hO
 rintro m e w3 ⟨a,haa,hg,hbl,hO,⟨t,rfl⟩,rfl⟩
 refine Ae (Ac (Ab (AY rfl rfl) rfl (Af (Aa (Ae ?_)))))
 refine AG rfl rfl (fun hlt=>?_) (fun hge=>?_)
 rotate_left
 ·have han:a=cn:=by omega
  rw[han,hcn,ctrP_all] at hg
  refine AK (AA (AD (Az (Ar (Aa (Ac (Ab (x_inc rfl rfl (by omega)) rfl (Ab Ad rfl (Af ?_)))))))))
  exact Av (g.nb - (k+1)) (by omega) ⟨k+1,by omega,hg,hbl,hO,AU rfl ⟨rfl,rfl,rfl,rfl,rfl,trivial⟩,rfl⟩
 have han:a<cn:=by omega
 refine As (Aa ?_)
 obtain ⟨y,hy⟩:∃y,y=(g.ctrl k).getD a 0:=⟨_,rfl⟩
 have hyn:y<g.nv:=by rw[hy];exact (hct k hkn).2 _ (Bn (by omega))
 obtain ⟨ab,acc,e5,_,hac,_⟩:=hg.ctrlE (k:=a) hkn (by rw[hlen];exact han)
 have hgy:(({ g with args:=CA g f (preK g (k+1)),ctrl:=B5 g f k a }:Gph).ctrl k).getD a 0=y:=by
  show (B5 g f k a k).getD a 0=y
  unfold B5
  rw[if_pos rfl,mpt_get f (by omega),hy]
 rw[hgy] at hac
 rw[hlen,hcs] at e5
 injection e5 with e5 _ e6
 subst e5
 have hRc:w3.cell? ⟨RB,0+(y+1),none⟩=some (ptO L (rw (y+1))):=Am (hRw w3 hO) (by rw[Nat.zero_add];exact A9 _ (by omega))
 have hid:=hg.vID (i:=y) hyn
 refine Ae (Aq (Ae (Ac (Ab Ad rfl (Ab (x_index1 rfl rfl (An rfl) (by omega)) rfl (Ab (Ai rfl (Ag rfl) ‹_›) rfl ?_))))))
 refine Ab Ah rfl (Ab Ah rfl (Af (Aa (Ae (Ac (Ab Ad rfl (Ab Ad rfl (Ab (Ax rfl) rfl (Ab (Ak rfl (Al rfl)) rfl (Ab (Ai rfl (Ag rfl) hid) rfl (Ab (Be (i:=y+1) rfl rfl (by omega) (An rfl) (by omega)) rfl ?_)))))))))))
 refine Ab (Ai rfl (Ag rfl) hRc) rfl (Ab Ah rfl (Af (Aa ?_)))
 have hfy:f y=(rw (y+1)).getD y:=by rw[hf];rfl
 cases hrw:rw (y+1) with
 |none=>
  rw[hrw] at hfy
  refine Ae (Ac (Ab Ad rfl (Ab (CJ (p:=none) rfl rfl (BR rfl)) rfl (Af (Aa (Bj rfl rfl (As (Ar (Aa (Ac (Ab (x_inc rfl rfl (by omega)) rfl ?_)))))))))))
  refine Ab Ad rfl (Af ?_)
  rw[FZ g f (by omega) (by rw[← hy];exact hfy)] at hg
  exact Av (cn - (a+1)) (by omega) ⟨a+1,by omega,hg,hbl,hO,AU rfl ⟨rfl,rfl,rfl,rfl,rfl,rfl,rfl,rfl,rfl,trivial⟩,rfl⟩
 |some z=>
  rw[hrw] at hfy
  have hfy:f y=z:=hfy
  have hoy:=hg.vOp (i:=y) hyn
  have hoy2:g.op y≤15:=hop y hyn
  refine Ae (Ac (Ab Ad rfl (Ab (CJ (p:=some ⟨L.vb z,0,none⟩) rfl rfl (BR rfl)) rfl (Af (Aa (Bm rfl rfl (Ae (Ae (Ac (Ab Ad rfl (Ab (Ax rfl) rfl ?_)))))))))))
  refine Ab (Ak rfl (Al rfl)) rfl (Ab (Ai rfl (Ag rfl) hoy) rfl (Ab (A4 rfl rfl) rfl (Af (Aa ?_))))
  refine AG rfl rfl (fun h17=>?_) (fun h17=>?_)
  ·exfalso
   have h17:g.op y=17:=h17
   omega
  refine As (Aa (Ac (Ab Ad rfl (Ab Ad rfl (Ab Ad rfl (Bg (AI Tryz.func71 rfl rfl rfl rfl) rfl (DD (j:=z) hg (hE.ac _ _) hkn (by rw[hlen];exact han)) ?_))))))
  rintro _ w5 ⟨rfl,hg5,hb5,hO5⟩
  refine Af (Ar (Aa (Ac (Ab (x_inc rfl rfl (by omega)) rfl (Ab Ad rfl (Af ?_))))))
  have hg6:GRep w5 B L { g with args:=CA g f (preK g (k+1)),ctrl:=B5 g f k (a+1) }:=by
   rw[← GF g f (by omega),← hy,hfy]
   exact hg5
  exact Av (cn - (a+1)) (by omega) ⟨a+1,by omega,hg6,hbl.trans hb5,hO.trans hO5,AU rfl ⟨rfl,rfl,rfl,rfl,rfl,rfl,rfl,rfl,rfl,trivial⟩,rfl⟩
end
end Go.Proofs.YteepnepebilckaaGreatDoor
namespace Go.Proofs.YteepnepebilckaaGreatDoor
open Go Go.Eng Go.RowKit Go.Shelf
def FewG (g:Gph):Prop:=∀v,v<g.nv→((List.range g.nv).filter fun x=>g.op x == g.op v && g.aux x == g.aux v).length≤12
def Gph.ac (g:Gph) (m c:Value):Gph:= { g with am:=m,cl:=c }
def Start (g:Gph) (s:MS):Prop:=∃arr P cls,s=⟨g.args,arr,cls,P,(P.length:Int)+1,0,false⟩∧Part0 g (fun i=>(preK g g.nb).getD i 0) arr P∧Nu arr g.nv P P.length 0 cls∧∀x,x=0∨g.nv<x→cls x=0
structure CseR (g:Gph) (fw:Prop) (A:Nat→List Nat) (arr:Nat→Nat) (cls:Nat→Int) (P:List (Nat×Nat)) (rw:Nat→Option Nat):Prop where
 pj:∃pn,PJ g { g with args:=A } arr cls P pn fw
 stab:∀p∈P,DB { g with args:=A } arr cls p
 hist:∃s0,Start g s0∧∃pn i,Rc g.op s0 ⟨A,arr,cls,P,pn,i,false⟩∧¬ i<P.length
 rw:RwI g (fun y x=>cls (y+1)=cls (x+1)∧Dom g.succs (g.blk y) (g.blk x)∧(fw→g.blk y=g.blk x→y≤x)) rw
theorem LLs.on2 {w w':World} {base base':Nat} {v:Value} {us:List Value} {xss:List (List Int)} (h:LLs w base v us xss) (hb:base'≤base) (hk:∀k,base≤k→k<w.heap.size→v.ownBlock=some k∨(∃i,(us.getD i nilS).ownBlock=some k)→w'.heap[k]? =w.heap[k]?):LLs w' base' v us xss:=
 ⟨ownsRow_low (Ay h.row fun k e=>hk k (Au h.row k e).1 (Au h.row k e).2 (.inl e)) hb,h.len,fun i hi=>ownsRow_low (Ay (h.ints i hi) fun k e=>hk k (Au (h.ints i hi) k e).1 (Au (h.ints i hi) k e).2 (.inr ⟨i,e⟩)) hb,h.ne⟩
theorem preK_mem {g:Gph} (h:Frm g):∀k,k≤g.nb→(preK g k).Perm ((List.range g.nv).filter fun i=>decide (g.blk i<k))
 |0,_=>by
  have:((List.range g.nv).filter fun i=>decide (g.blk i<0))=[]:=List.filter_eq_nil_iff.2 fun x _=>by simp
  rw[this];exact List.Perm.refl _
 |k+1,hk=>by
  have ih:=preK_mem h k (by omega)
  rw[Cr,h.bvals k (by omega)]
  have h1:=List.filter_append_perm (fun i=>decide (g.blk i<k)) ((List.range g.nv).filter fun i=>decide (g.blk i<k+1))
  rw[List.filter_filter,List.filter_filter] at h1
  have e1:((List.range g.nv).filter fun i=>g.blk i == k)=(List.range g.nv).filter fun a=> !decide (g.blk a<k) && decide (g.blk a<k+1):=List.filter_congr fun x _=>by
   rw[Bool.eq_iff_iff]
   simp
   omega
  have e2:((List.range g.nv).filter fun i=>decide (g.blk i<k))=(List.range g.nv).filter fun a=>decide (g.blk a<k) && decide (g.blk a<k+1):=List.filter_congr fun x _=>by
   rw[Bool.eq_iff_iff]
   simp
   omega
  rw[e1]
  rw[e2] at ih
  exact (ih.append (List.Perm.refl _)).trans h1
theorem Gc {g:Gph} (h:Frm g):(preK g g.nb).Perm (List.range g.nv):=by
 refine (preK_mem h g.nb (Nat.le_refl _)).trans (List.Perm.of_eq (List.filter_eq_self.2 fun x hx=>?_))
 exact decide_eq_true (h.blk x (List.mem_range.1 hx))
theorem apart_len {N:Nat}:∀(P:List (Nat×Nat)) (lo:Nat),P.Pairwise (fun a b=>a.1+a.2≤b.1)→(∀p∈P,lo≤p.1∧2≤p.2∧p.1+p.2≤N)→lo≤N→lo+2 * P.length≤N∧Phi P≤2 * ((N:Int) - lo)
 | [],lo,_,_,h=>⟨by simpa using h,by simp [Phi];omega⟩
 |p :: P,lo,ha,hl,h=>by
  have h1:=hl p (.head _)
  have h2:=List.pairwise_cons.1 ha
  have ih:=apart_len P (p.1+p.2) h2.2 (fun q hq=>⟨h2.1 q hq,(hl q (.tail _ hq)).2⟩) h1.2.2
  obtain ⟨a,b⟩:=ih
  unfold Phi at b ⊢
  rw[List.map_cons,List.sum_cons,List.length_cons]
  omega
theorem pj_start {g g0:Gph} {arr0 arr:Nat→Nat} {cls:Nat→Int} {P:List (Nat×Nat)} {fw:Prop} (he:g=g0) (hpi:PI g arr cls P ((P.length:Int)+1)) (h0:Part0 g arr0 arr P) (hfw:fw→FewG g):PJ g0 g arr cls P ((P.length:Int)+1) fw:=by
 subst he
 refine ⟨hpi,by omega,⟨rfl,fun _=>.inl rfl⟩,fun _ R hR x y hx hy hxy=>?_,fun hf p hp=>⟨?_,h0.asc p hp⟩⟩
 ·obtain ⟨i,hi,rfl⟩:=C4 hpi.perm hx
  obtain ⟨j,hj,rfl⟩:=C4 hpi.perm hy
  have hk:=hR.key _ _ hxy
  have key:∀i j,i<j→j<g.nv→Go.Proofs.YteepnepebilckaaGreatDoor.key g (arr i)=Go.Proofs.YteepnepebilckaaGreatDoor.key g (arr j)→cls (arr i+1)=cls (arr j+1):=fun i j hij hj e=>by
   obtain ⟨p,hp,h1,h2⟩:=h0.most i j hij hj e
   have a1:=hpi.cin p hp (i - p.1) (by omega)
   have a2:=hpi.cin p hp (j - p.1) (by omega)
   rw[show p.1+(i - p.1)=i by omega] at a1
   rw[show p.1+(j - p.1)=j by omega] at a2
   rw[a1,a2]
  rcases Nat.lt_trichotomy i j with h1|h1|h1
  ·exact key i j h1 hj hk
  ·rw[h1]
  exact (key j i h1 hi hk.symm).symm
 have hl:=h0.long p hp
 have h1:(clsD arr p.1 p.2).Nodup:=by
  refine List.nodup_iff_pairwise_ne.2 (List.pairwise_iff_getElem.2 fun i j hi hj hij e=>?_)
  have gt:∀i (h:i<(clsD arr p.1 p.2).length),(clsD arr p.1 p.2)[i]=arr (p.1+i):=fun i h=>by
   rw[← BS (arr:=arr) (o:=p.1) (n:=p.2) (j:=i) (by rwa [BC] at h),List.getD_eq_getElem?_getD,List.getElem?_eq_getElem h];rfl
  rw[gt,gt] at e
  rw[BC] at hi hj
  have:=CB hpi.perm (by omega) (by omega) e
  omega
 have h2:=h1.length_le_of_subset (l₂:=(List.range g.nv).filter fun x=>g.op x == g.op (arr p.1) && g.aux x == g.aux (arr p.1)) fun x hx=>by
  obtain ⟨j,hj,rfl⟩:=List.mem_map.1 hx
  have hj:=List.mem_range.1 hj
  have hk:=key_op (h0.same p hp j hj)
  exact List.mem_filter.2 ⟨List.mem_range.2 (BW hpi.perm (by omega)),by simp [hk.1,hk.2.1]⟩
 rw[BC] at h2
 exact Nat.le_trans h2 (hfw hf _ (BW hpi.perm (by omega)))
set_option maxHeartbeats 4000000
attribute [local irreducible] EC EL DL Ret thenQ blockQ Bf bodyQ onlyN execOp Sem.run World.cell? World.frozen? World.setCell World.alloc
theorem cse_ret {w:World} {B:Nat} {L:Lay} {g:Gph} {T:Nat→Bool} {fw:Prop} (hg:GRep w B L g) (hB:0<B) (hG:GoodG T g) (ham:g.am= .map none) (hty:∀x y,g.op x=g.op y→g.ty x=g.ty y) (hent:L.entry=some ⟨L.bb 0,0,none⟩)
 (hopt:∀k,k<21→w.cell? ⟨0,k,none⟩=some (.bool (comm k))) (hfw:fw→FewG g):
 Ret Tryz.prog 41 #[L.fp] w fun v w'=>v= .tuple #[]∧∃A arr cls P rw r cv us,CseR g fw A arr cls P rw∧GRep w' B L ((({ g with args:=A }:Gph).mv (fR rw)).ac (.map (some r)) cv)∧LLs w' w.heap.size cv us (P.map fun p=>CK (clsL arr p))∧Below B w w':=by
 have hGA:=hG.toGoodA
 have hF:=hG.toFrm
 have hn:=hF.nv
 have hnb:=hF.nb
 have hnb1:=hF.one
 have hBw:=hg.baseLe
 have hfB:=hg.tags.fbB
 have hfl:=Bv hg
 have hperm:=Gc hF
 have hbv:∀k,k<g.nb→∀v∈g.bvals k,v<g.nv:=fun k hk v hv=>by
  rw[hF.bvals k hk] at hv
  exact List.mem_range.1 (List.mem_filter.1 hv).1
 have hop:∀i,i<g.nv→g.op i≤15:=fun i hi=>(hGA.ops i hi).2.1
 have hal:∀i,i<g.nv→(g.args i).length≤18:=fun i hi=>hGA.alen hi
 obtain ⟨E,hEd⟩:∃E,E=w.heap.size:=⟨_,rfl⟩
 have hE0:GE E L g:=by rw[hEd];exact hg.ge
 rw[← hEd] at hBw hfl
 refine ret_of_EC_W Tryz.func41 rfl rfl (cseA0 hg hn fun t w1 fbx abx A hf1 ha1 hA1 n1 n2 n3 hb1 hfb1 hab1 hAr1=>?_)
 rw[← hEd] at hf1 ha1 hA1
 have hz1:=hb1.size
 refine cseA1 (w0:=w) (E:=E) (hg.on hb1) ham hE0 hn hf1 ha1 hA1 ⟨n1,n2,n3⟩ hfb1 hab1 hAr1 fun t w2 r hr n4 n5 n6 hg2 hm2 hfb2 hab2 hAr2 hO2=>?_
 have hE2:=hE0.am (.map (some r))
 have hz2:=hO2.size
 have hGS0:GS w2 w2 L g.nv abx A r []:=⟨hab2,hAr2,.inl ⟨rfl,0,hm2⟩,Only.refl _ _⟩
 refine cseA2 (g:= { g with am:=.map (some r) }) hg2 rfl hE2 hn hnb hf1 ha1 hA1 hr ⟨n1,n2,n3,n4,n5,n6⟩ hfb2 hbv (by show (preK g g.nb).length=g.nv;rw[hperm.length_eq,List.length_range]) hGS0 fun t w3 hGS=>?_
 have hO3:=hGS.only
 have hz3:=hO3.size
 have hfbl2:=Bi hfb2
 have hg3:GRep w3 B L { g with am:=.map (some r) }:=hg2.keepE hE2 fun q hq=>hO3.block q (by omega) (by omega)
 have hfb3:=(hO3.block fbx hfbl2 (by omega)).trans hfb2
 refine cseA3 (g:= { g with am:=.map (some r) }) hg3 rfl hE2 hn hf1 ha1 hA1 ⟨n1,n2,n3⟩ hfb3 hGS hperm hF.blk hty hop fun t w4 arr P pv Eb h0 hAr4 hO4 e1 e2 e3 e4 hEb4 hrow4=>?_
 have hz4:=hO4.size
 have hfbl3:=Bi hfb3
 have habl3:=Bi hGS.a
 have hAl3:=Bi hGS.arr
 have hg4:GRep w4 B L { g with am:=.map (some r) }:=hg3.keepE hE2 fun q hq=>hO4.block q (by omega) (by omega)
 have hfb4:=(hO4.block fbx hfbl3 n2).trans hfb3
 have hab4:=(hO4.block abx habl3 n3).trans hGS.a
 refine cseB1 (E:=E) (g:= { g with am:=.map (some r) }) hg4 hn hfb4 fun t w5 vbx VE hvx hVE n7 hb5 hvb5 hVE5=>?_
 have hz5:=hb5.size
 have hpvl:∀k,pv.ownBlock=some k→Eb≤k∧k<w4.heap.size:=fun k e=>Au hrow4 k e
 obtain ⟨b,hbd⟩:∃b:Bl,b=⟨E,Eb,A,fbx,abx,vbx,VE⟩:=⟨_,rfl⟩
 have hbE:b.E=E:=by rw[hbd]
 have hbEb:b.Eb=Eb:=by rw[hbd]
 have hbA:b.A=A:=by rw[hbd]
 have hbf:b.fbx=fbx:=by rw[hbd]
 have hba:b.abx=abx:=by rw[hbd]
 have hbv':b.vbx=vbx:=by rw[hbd]
 have hbV:b.VE=VE:=by rw[hbd]
 have hok:b.Ok:=⟨by omega,by omega,by omega,by omega⟩
 have hab4v:=hab4
 have hg5:GRep w5 B L { g with am:=.map (some r) }:=hg4.on hb5
 have hopt':∀{W:World},Below B w W→∀k,k<21→W.cell? ⟨0,k,none⟩=some (.bool (comm k)):=fun hb k hk=>(World.cell?_of_block (a:=⟨0,k,none⟩) (hb.block 0 hB)).trans (hopt k hk)
 have hB1:Below B w w1:=hb1.mono (by omega)
 have hB2:Below B w w2:=hB1.trans (hO2.below (by omega) fun j hj=>by omega)
 have hB3:Below B w w3:=hB2.trans (hO3.below (by omega) fun j hj=>by omega)
 have hB4:Below B w w4:=hB3.trans (hO4.below (by omega) fun j hj=>by omega)
 have hB5:Below B w w5:=hB4.trans (hb5.mono (by omega))
 have habl4:=Bi hab4
 have hAl4:=Bi hAr4
 obtain ⟨hpl,hph⟩:0+2 * P.length≤g.nv∧Phi P≤2 * ((g.nv:Int) - (0:Nat)):=apart_len P 0 h0.apart (fun p hp=>⟨Nat.zero_le _,h0.long p hp⟩) (Nat.zero_le g.nv)
 have hs5:St w5 B L b { g with am:=.map (some r) } arr (fun _=>0) pv P:=by
  refine ⟨hg5,?_,?_,?_,?_,?_,?_,?_,hopt' hB5⟩
  ·rw[hbA];exact (hb5.block A hAl4).trans hAr4
  ·rw[hbV];exact hVE5
  ·rw[hbf];exact (hb5.block fbx (Bi hfb4)).trans hfb4
  ·rw[hbv',hbV];exact hvb5
  ·rw[hba,hbA]
   have:w5.heap[abx]? =_:=(hb5.block abx habl4).trans hab4
   rw[show (preK { g with am:=.map (some r) } g.nb).length=g.nv from by show (preK g g.nb).length=g.nv;rw[hperm.length_eq,List.length_range]] at this
   exact this
  ·rw[hbEb,hbA];exact Ay hrow4 fun k e=>hb5.block k (hpvl k e).2
  rw[hbv',hbV]
  exact ⟨fun e=>by have:=hpvl _ e;omega,fun e=>by have:=hpvl _ e;omega⟩
 have hEb:GE b.E L { g with am:=.map (some r) }:=by rw[hbE];exact hE2
 rw[← hbf,← hbv',← hba,← hbV]
 refine cseB2 hs5 (fun _ _=>rfl) hEb hok hn hnb hbv hperm fun t w6 cls6 hs6 hz6 hc6 hO6=>?_
 have hzz6:=hO6.size
 have hel:(elems (fun i=>(preK g g.nb).getD i 0) g.nv).Perm (List.range g.nv):=by
  rw[elems_of (by rw[hperm.length_eq,List.length_range]) fun _ _=>rfl]
  exact hperm
 have hep:(elems arr g.nv).Perm (List.range g.nv):=h0.perm.trans hel
 refine cseB3 hs6 hz6 hEb hok hn hc6 hep h0 (by omega) fun t w7 cls7 mbx hs7 hz7 hNu7 hpi7 hm1 hm2 hO7=>?_
 have hzz7:=hO7.size
 have hj7:=pj_start (fw:=fw) rfl hpi7 h0 hfw
 have ga:GA { g with am:=.map (some r) }:=⟨hn,fun v hv=>⟨(hGA.ops v hv).1,hop v hv⟩,fun v hv hc=>?_,fun v hv x hx=>hGA.args_lt hv hx,fun v hv=>by have:=hal v hv;show (g.args v).length≤1000;omega⟩
 ·have hB67:Below B w w7:=(hB5.trans (hO6.below (by omega) fun j hj=>by omega)).trans (hO7.below (by omega) fun j hj=>by omega)
  have l1:=Bi hs7.vb
  have l2:=Bi hs7.ve
  refine cseMain hs7 hj7 ga hEb hB (by omega) hok ⟨by omega⟩ (by omega) (by omega) rfl fun t w8 gs arr8 cls8 pv8 P8 pn8 i8 hs8 hj8 hE8 hst8 hrc8 hi8 hPl8 hb8=>?_
  have hB8:Below B w w8:=hB67.trans hb8
  have hz8:=hb8.size
  obtain ⟨A8,hA8⟩:∃A8,A8=gs.args:=⟨_,rfl⟩
  have hge:=hj8.sw.eq
  rw[← hA8] at hge
  subst hge
  clear hA8
  have hne8:=hs8.ne
  have hlt8:∀i,i<g.nv→arr8 i<g.nv:=fun i hi=>BW hj8.pi.perm hi
  have hfb8:=Bi hs8.fb
  have hab8:=Bi hs8.ab
  have hAA8:=Bi hs8.ar
  refine cseE hs8 hE8 hok hn ⟨hnb1,hnb⟩ hlt8 hj8.pi.long hPl8 hent (fun x hx=>⟨hF.slen hx,fun s hs=>(hF.succs x hx s hs).2⟩) hF.preds hF.rch fun t w9 cv us tb RB T9 en ex hRB hs9 hL9 hcv9 hO9=>?_
  have hz9:=hO9.size
  have hn9:=hs9.ne
  have hab9:=(hO9.block b.abx hab8 (by omega)).trans hs8.ab
  refine cseF (g:= { { { g with am:=.map (some r) } with args:=A8 } with cl:=cv }) (Rel:=fun y x=>cls8 (y+1)=cls8 (x+1)∧Dom g.succs (g.blk y) (g.blk x)∧(fw→g.blk y=g.blk x→y≤x)) hs9 hn hnb hF.blk hPl8 hlt8 hj8.pi.long hj8.pi.apart (fun p hp D' hso i j hij hj hd=>?_) fun t w10 rw hI10 hR10 hO10=>?_
  ·have hcl:=BC arr8 p.1 p.2
   have hDl:D'.length=p.2:=by rw[hso.perm.length_eq,hcl]
   have hin:∀i,i<p.2→cls8 (D'.getD i 0+1)=cls8 (arr8 p.1+1):=fun i hi=>by
    have h1:D'.getD i 0∈clsD arr8 p.1 p.2:=hso.perm.mem_iff.1 (Bn (by omega))
    obtain ⟨q,hq,e⟩:=List.mem_map.1 h1
    rw[← e]
    exact hj8.pi.cin p hp q (List.mem_range.1 hq)
   refine ⟨by rw[hin i (by omega),hin j hj],hd,fun hf hbe=>?_⟩
   obtain ⟨f1,f2⟩:=hj8.few hf p hp
   rcases hso.stb (by omega) (fun a c hac hc=>by
    rw[hcl] at hc
    rw[BS (by omega),BS hc]
    exact f2 a c hac hc) i j hij (by omega) with h1|h1
   ·exfalso
    have h1:Dk ((en (g.blk (D'.getD i 0)+1):Nat):Int) ((en (g.blk (D'.getD j 0)+1):Nat):Int)<0:=h1
    rw[hbe] at h1
    unfold Dk at h1
    rw[if_neg (by omega),if_neg (by omega)] at h1
    omega
   exact h1
  have hz10:=hO10.size
  have hk10:=hs9.keep hO10
  refine Bh _ [(1,.pointer (some ⟨b.fbx,0,none⟩)),(43,.slice (some ⟨RB,0,none⟩) (g.nv+1) (g.nv+1))] rfl ⟨rfl,rfl,trivial⟩ fun t=>?_
  refine cseG (g:= { { { g with am:=.map (some r) } with args:=A8 } with cl:=cv }) (E:=b.E) hk10.1 hs9.ge hn9.2.1 hn hnb hbv hperm (fun v hv=>⟨(ga.sw hj8.sw).small v hv,(ga.sw hj8.sw).lt v hv⟩) (fun k hk=>?_) hop hk10.2.2.2.2 hR10 fun t w11 hg11 hb11 hO11=>?_
  ·rcases hG.ctrl k hk with ⟨_,h1⟩|⟨c,h1,_,h2,_⟩
   ·show (g.ctrl k).length≤1000∧∀c∈g.ctrl k,c<g.nv
    rw[h1]
    exact ⟨Nat.zero_le _,fun c hc=>by cases hc⟩
   show (g.ctrl k).length≤1000∧∀c∈g.ctrl k,c<g.nv
   rw[h1]
   exact ⟨by simp,fun c' hc=>by rw[List.mem_singleton.1 hc];exact h2⟩
  have hz11:=hO11.size
  have hfb10:=hk10.2.2.2.2
  have hfb11:=(hO11.block b.fbx (Bi hfb10) (by omega)).trans hfb10
  have hab10:=(hO10.block b.abx (by omega) (fun e=>by rcases e with e|e <;> omega)).trans hab9
  have hab11:=(hO11.block b.abx (by omega) (by omega)).trans hab10
  have hL11:LLs w11 w.heap.size cv us (P8.map fun p=>CK (clsL arr8 p)):=hL9.on2 (by omega) fun k h1 h2 h3=>by
   have h4:=hcv9 k h1 h3
   exact (hO11.block k (by omega) (by omega)).trans (hO10.block k h2 fun e=>by rcases e with e|e <;> omega)
  have hB11:Below B w w11:=((hB8.trans (hO9.below (by omega) fun j hj=>by omega)).trans (hO10.below (by omega) fun j hj=>by rcases hj with e|e <;> omega)).trans hb11
  refine Fr rfl (fun D hD=>?_) fun w' hb'=>⟨rfl,A8,arr8,cls8,P8,rw,r,cv,us,⟨⟨pn8,⟨hj8.pi.perm,hj8.pi.long,hj8.pi.apart,hj8.pi.cin,hj8.pi.cpos,hj8.pi.cne,hj8.pi.cout,hj8.pi.same⟩,hj8.pos,⟨rfl,hj8.sw.args⟩,fun hc R hR=>hj8.most hc R ⟨hR.key,hR.args⟩,hj8.few⟩,hst8,
   ⟨_,⟨arr,P,cls7,rfl,⟨h0.perm,h0.long,h0.apart,h0.same,h0.most,h0.asc,h0.top,h0.srt⟩,hNu7,hz7⟩,pn8,i8,hrc8,hi8⟩,fun x y hx e=>hI10 x y hx e⟩,hg11.on hb',hL11.on2 (Nat.le_refl _) fun k _ h2 _=>hb'.block k h2,hB11.trans (hb'.mono (by have:=hB11.size;omega))⟩
  have hD:D∈ [D49 RB (g.nv+1),D53 b.VE (g.nv+1),D48 b.fbx b.abx]:=hD
  simp only [List.mem_cons,List.not_mem_nil,or_false] at hD
  rcases hD with h|h|h <;> rw[h]
  ·exact (GI _).at _
  ·exact (Ft _).at _
  exact idle48 (hg11.comp .fn) hfb11 hab11
 have hc:comm (g.op v).toNat=true:=hc
 obtain ⟨k,hk⟩:∃k:Nat,g.op v=(k:Int):=⟨_,(Int.toNat_of_nonneg (hGA.ops v hv).1).symm⟩
 have h1:=(hGA.ops v hv).2.2
 rw[hk] at hc h1
 have h2:k=2∨k=4∨k=5∨k=6∨k=7∨k=11∨k=12:=by
  simp [comm] at hc
  omega
 show (g.args v).length=2
 have h3:manyI (k:Int) ((g.preds (g.blk v)).length:Nat)=2:=by rcases h2 with rfl|rfl|rfl|rfl|rfl|rfl|rfl <;> rfl
 omega
end Go.Proofs.YteepnepebilckaaGreatDoor
namespace Go.Proofs.YteepnepebilckaaGreatDoor
open Go Go.Eng
def Dl (f:Fn) (v:Vl):Prop:=(((v.op<0∨15<v.op)∨v.blk<0)∨(f.blks.length:Int)≤v.blk)∨(v.args.length:Int)≠manyI v.op ((predsOf f v.blk.toNat).length:Nat)
def C8 (v:Vl):Prop:=((v.op=0∧(v.aux<0∨3<v.aux))∨(1<v.op∧v.aux≠0))∨(v.op=13∧v.args.length=0)
def Dn (f:Fn) (i k:Nat) (a:Int):Prop:=
 if (f.v i).op=13 then ¬ Rch f (f.v a.toNat).blk ((predsOf f (f.v i).blk.toNat).getD k 0)
 else ((f.v a.toNat).blk≠(f.v i).blk∧¬ Rch f (f.v a.toNat).blk (f.v i).blk.toNat)∨((f.v a.toNat).blk=(f.v i).blk∧a<i)
def E6 (f:Fn) (i k:Nat):Prop:=
 (0≤(f.v i).args.getD k 0∧(f.v i).args.getD k 0<f.vals.length)∧Dn f i k ((f.v i).args.getD k 0)
def D1 (f:Fn) (i k:Nat):Prop:=(f.v i).op≠14→truthN f 48 ((f.v i).args.getD k 0).toNat=decide ((f.v i).op=15∧k=2)
def D6 (f:Fn) (b:Nat):Prop:=(f.b b).kind≠0→¬ Rch f (f.v (f.b b).ctrl.toNat).blk b∧truthN f 48 (f.b b).ctrl.toNat=decide ((f.b b).kind=1)
structure GoodP (f:Fn):Prop where
 shp:ShapeP f
 fst:∀i,i<f.vals.length→¬ Dl f (f.v i)
 snd:∀i,i<f.vals.length→¬ C8 (f.v i)∧∀k,k<(f.v i).args.length→E6 f i k
 tru:∀i,i<f.vals.length→∀k,k<(f.v i).args.length→D1 f i k
 ctl:∀b,b<f.blks.length→D6 f b
end Go.Proofs.YteepnepebilckaaGreatDoor
