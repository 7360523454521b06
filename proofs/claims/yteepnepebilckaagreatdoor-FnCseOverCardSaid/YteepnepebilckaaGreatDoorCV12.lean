/- The law FnCseOver returns true for every input in which the opcode table reads as laid, and its argument reads as it did, the table being tied to the text of the program. -/
import Derived.Test.YteepnepebilckaaGreatDoorCV11
namespace Go.Proofs.YteepnepebilckaaGreatDoor
open Go Go.Eng Go.RowKit
set_option maxHeartbeats 4000000
attribute [local irreducible] EC EL DL Ret thenQ blockQ Bi bodyQ onlyN execOp Sem.run World.cell? World.frozen? World.setCell World.alloc
theorem Fu {g:Gph} {i:Nat} (hi:i<g.nv):(toF g).v i=gv g i:=by
 show ((List.range g.nv).map (gv g)).getD i default=_
 rw[List.getD_eq_getElem?_getD,List.getElem?_map,List.getElem?_range hi];rfl
theorem Fy {g:Gph} {i:Nat} (hi:i<g.nb):(toF g).b i=gb g i:=by
 show ((List.range g.nb).map (gb g)).getD i default=_
 rw[List.getD_eq_getElem?_getD,List.getElem?_map,List.getElem?_range hi];rfl
theorem Ge (g:Gph):(toF g).vals.length=g.nv:=by simp [toF]
theorem toF_nb (g:Gph):(toF g).blks.length=g.nb:=by simp [toF]
theorem wf_toF {g:Gph} (ok:GOk g) (h1:1≤g.nb):Wf (toF g):=by
 have h2:=Ge g
 have h3:=toF_nb g
 refine ⟨by rw[h3];exact ok.nb,by rw[h2];exact ok.nv,by rw[h3];exact h1,fun i hi=>?_,fun i hi=>?_,fun i hi=>?_,fun i hi=>?_,fun i hi=>?_⟩
 ·rw[h2] at hi;rw[Fu hi,h3]
  have:=ok.blk i hi
  exact ⟨by show (0:Int)≤(g.blk i:Int);omega,by show (g.blk i:Int)<_;omega⟩
 ·rw[h2] at hi;rw[Fu hi,h2]
  obtain ⟨ha,hb⟩:=ok.args i hi
  refine ⟨by simpa [gv,nats] using ha,fun a ha=>?_⟩
  obtain ⟨x,hx,rfl⟩:=List.mem_map.1 (show a∈(g.args i).map _ from ha)
  have:=hb x hx
  omega
 ·rw[h3] at hi;rw[Fy hi,h3]
  obtain ⟨ha,hb⟩:=ok.succs i hi
  refine ⟨by simpa [gb,nats] using ha,fun a ha=>?_⟩
  obtain ⟨x,hx,rfl⟩:=List.mem_map.1 (show a∈(g.succs i).map _ from ha)
  have:=hb x hx
  omega
 ·rw[h3] at hi;rw[Fy hi,h2]
  have h4:=ok.ctrl i hi
  show -1≤ctl (g.ctrl i)∧ctl (g.ctrl i)<_
  cases hc:g.ctrl i with
  |nil=>exact ⟨by decide,by show (-1:Int)<_;omega⟩
  |cons c l=>
   have:=h4 c (by rw[hc];simp)
   exact ⟨by show (-1:Int)≤(c:Int);omega,by show (c:Int)<_;omega⟩
 rw[h3] at hi;rw[Fy hi]
 exact ok.likely i hi
end Go.Proofs.YteepnepebilckaaGreatDoor
namespace Go.Proofs.YteepnepebilckaaGreatDoor
open Go Go.Eng Go.RowKit
set_option maxHeartbeats 4000000
attribute [local irreducible] EC EL DL Ret thenQ blockQ Bi bodyQ onlyN execOp Sem.run World.cell? World.frozen? World.setCell World.alloc
def manyI (op p:Int):Int:=if op≤1 then 0 else if op=13 then p else if op=8∨op=9∨op=14 then 1 else if op=15 then 3 else 2
theorem Gz (w:World) (op p:Int):Ret Tryz.prog 26 #[.int .i64 op,.int .i64 p] w fun v w'=>v= .int .i64 (manyI op p)∧w'=w:=by
 refine ret_of_EC Tryz.func26 rfl rfl (Ae (Ac (Ab Ah rfl (Af (Aa (Ae (Ao (Ae (Ac (Ab Ad rfl (Ab (C7 rfl rfl) rfl ?_)))))))))))
 refine Ab Ah rfl (Af (Aa ?_))
 refine AI rfl rfl (fun h1=>?_) (fun h1=>?_)
 ·refine Ae (Ac (Ab Ah rfl (Af (Aa (AE (AS (AO ?_)))))))
  exact Az rfl rfl rfl ⟨congrArg (Value.int .i64) (show (0:Int)=manyI op p from by rw[manyI,if_pos h1]),rfl⟩
 refine Ae (Ac (Ab Ad rfl (Ab (Bn rfl rfl) rfl (Ab Ah rfl (Af (Aa ?_))))))
 refine AI rfl rfl (fun h2=>?_) (fun h2=>?_)
 ·refine Ae (Ac (Ab Ad rfl (Ab Ah rfl (Af (Aa (AE (AS (AO ?_))))))))
  exact Az rfl rfl rfl ⟨congrArg (Value.int .i64) (show (p:Int)=manyI op p from by rw[manyI,if_neg h1,if_pos h2]),rfl⟩
 by_cases h3:op=8∨op=9∨op=14
 ·have key:∀e:Env,True:=fun _=>trivial
  refine Ae (Ac (Ab Ad rfl (Ab (Bn rfl rfl) rfl (Ab Ad rfl ?_))))
  by_cases h8:op=8
  ·rw[decide_eq_true h8]
   refine AF rfl rfl (AF rfl rfl (Ab (AV rfl) rfl (Ab Ad rfl (AF rfl rfl (AF rfl rfl (Ab (AV rfl) rfl (Ab Ah rfl (Af (Aa (Bm rfl rfl (Ae ?_)))))))))))
   refine Ac (Ab Ah rfl (Af (Aa (AE (AS (AO ?_))))))
   exact Az rfl rfl rfl ⟨congrArg (Value.int .i64) (show (1:Int)=manyI op p from by rw[manyI,if_neg h1,if_neg h2,if_pos h3]),rfl⟩
  rw[decide_eq_false h8]
  refine Av rfl rfl Ad rfl (Av rfl rfl (Bn rfl rfl) rfl (Ab (AM rfl) rfl (Ab Ad rfl ?_)))
  by_cases h9:op=9
  ·rw[decide_eq_true h9]
   refine AF rfl rfl (AF rfl rfl (Ab (AV rfl) rfl (Ab Ah rfl (Af (Aa (Bm rfl rfl (Ae (Ac (Ab Ah rfl (Af (Aa ?_)))))))))))
   refine AE (AS (AO ?_))
   exact Az rfl rfl rfl ⟨congrArg (Value.int .i64) (show (1:Int)=manyI op p from by rw[manyI,if_neg h1,if_neg h2,if_pos h3]),rfl⟩
  rw[decide_eq_false h9]
  refine Av rfl rfl Ad rfl (Av rfl rfl (Bn rfl rfl) rfl (Ab (AM rfl) rfl (Ab Ah rfl (Af (Aa ?_)))))
  have h14:op=14:=(h3.resolve_left h8).resolve_left h9
  rw[decide_eq_true h14]
  refine Bm rfl rfl (Ae (Ac (Ab Ah rfl (Af (Aa (AE (AS (AO ?_))))))))
  exact Az rfl rfl rfl ⟨congrArg (Value.int .i64) (show (1:Int)=manyI op p from by rw[manyI,if_neg h1,if_neg h2,if_pos h3]),rfl⟩
 refine Ae (Ac (Ab Ad rfl (Ab (Bn rfl rfl) rfl (Ab Ad rfl ?_))))
 rw[decide_eq_false (fun h=>h3 (.inl h))]
 refine Av rfl rfl Ad rfl (Av rfl rfl (Bn rfl rfl) rfl (Ab (AM rfl) rfl (Ab Ad rfl ?_)))
 rw[decide_eq_false (fun h=>h3 (.inr (.inl h)))]
 refine Av rfl rfl Ad rfl (Av rfl rfl (Bn rfl rfl) rfl (Ab (AM rfl) rfl (Ab Ah rfl (Af (Aa ?_)))))
 rw[decide_eq_false (fun h=>h3 (.inr (.inr h)))]
 refine Bh rfl rfl (Ae (Ac (Ab Ad rfl (Ab (Bn rfl rfl) rfl (Ab Ah rfl (Af (Aa ?_)))))))
 refine AI rfl rfl (fun h4=>?_) (fun h4=>?_)
 ·refine Ae (Ac (Ab Ah rfl (Af (Aa (AE (AS (AO ?_)))))))
  exact Az rfl rfl rfl ⟨congrArg (Value.int .i64) (show (3:Int)=manyI op p from by rw[manyI,if_neg h1,if_neg h2,if_neg h3,if_pos h4]),rfl⟩
 refine Aq (Ap (Aa (Ae (Ac (Ab Ah rfl (Af (Aa (AE ?_))))))))
 exact Az rfl rfl rfl ⟨congrArg (Value.int .i64) (show (2:Int)=manyI op p from by rw[manyI,if_neg h1,if_neg h2,if_neg h3,if_neg h4]),rfl⟩
end Go.Proofs.YteepnepebilckaaGreatDoor
namespace Go.Proofs.YteepnepebilckaaGreatDoor
open Go Go.Eng Go.RowKit
set_option maxHeartbeats 4000000
attribute [local irreducible] EC EL DL Ret thenQ blockQ Bi bodyQ onlyN execOp Sem.run World.cell? World.frozen? World.setCell World.alloc
def isT (o:Int):Prop:=o=10∨o=11∨o=12
instance (o:Int):Decidable (isT o):=inferInstanceAs (Decidable (_∨_∨_))
def truthN (f:Fn):Nat→Nat→Bool
 |0,v=>decide (isT (f.v v).op)
 |n+1,v=>if isT (f.v v).op then true else if (f.v v).op=14 then truthN f n ((f.v v).args.getD 0 0).toNat else false
def TOk (f:Fn):Prop:=∀v,v<f.vals.length→(f.v v).op=14→0<(f.v v).args.length∧0≤(f.v v).args.getD 0 0∧(f.v v).args.getD 0 0<f.vals.length
theorem CN {f:Fn} {n v:Nat} (h:isT (f.v v).op):truthN f n v=true:=by
 cases n with
 |zero=>exact decide_eq_true h
 |succ n=>exact if_pos h
theorem E6 {f:Fn} {v:Nat} (h:¬ isT (f.v v).op):truthN f 0 v=false:=decide_eq_false h
theorem C0 {f:Fn} {n v:Nat} (h:¬ isT (f.v v).op) (h2:(f.v v).op≠14):truthN f n v=false:=by
 cases n with
 |zero=>exact decide_eq_false h
 |succ n=>exact (if_neg h).trans (if_neg h2)
theorem Dr {f:Fn} {n v:Nat} (h:¬ isT (f.v v).op) (h2:(f.v v).op=14):truthN f (n+1) v=truthN f n ((f.v v).args.getD 0 0).toNat:=(if_neg h).trans (if_pos h2)
theorem truth_one {f:Fn} (tok:TOk f) (n:Nat)
 (ih:∀m,n=m+1→∀(w:World) (x:Value),FnV w x f→∀v,v<f.vals.length→Ret Tryz.prog 39 #[x,.int .i64 (v:Int),.int .i64 (m:Int)] w fun r w'=>r= .bool (truthN f m v)∧Below w.heap.size w w')
 (w:World) (x:Value) (hx:FnV w x f) (v:Nat) (hv:v<f.vals.length) (hn:n≤48):
 Ret Tryz.prog 39 #[x,.int .i64 (v:Int),.int .i64 (n:Int)] w fun r w'=>r= .bool (truthN f n v)∧Below w.heap.size w w':=by
 obtain ⟨xv,xb,rfl,hvals,hblks⟩:=hx
 refine ret_of_EC Tryz.func39 rfl rfl ?_
 have hx0:FnV w (.agg #[xv,xb]) f:=⟨xv,xb,rfl,hvals,hblks⟩
 obtain ⟨av,cv,rfl,hvl⟩:=hvals
 obtain ⟨B,hBd⟩:∃B,B=w.heap.size:=⟨_,rfl⟩
 refine Ae (Ac (Ab (Bv (v:=.agg #[.slice av f.vals.length cv,xb]) rfl) rfl (el_new (.cells #[.slice av f.vals.length cv,xb] 30) B (by omega) fun wa hN1 hO1 hZ1 hB1 hK1=>?_)))
 obtain ⟨b1,hb1⟩:∃b1,b1=w.heap.size:=⟨_,rfl⟩
 rw[← hb1] at hN1 ⊢
 refine Ab Ah rfl (Af (Aa ?_))
 obtain ⟨bb,ob,rfl,hq⟩:=hvl.resolve_left (fun e=>by rw[e] at hv;simp at hv)
 obtain ⟨s0,hcells0,⟨sa,sc,rfl,hints⟩⟩:=hq v hv
 have hcells:=hcells0.keep hK1
 have g1:wa.cell? ⟨b1,0+0,none⟩=some (.slice (some ⟨bb,ob,none⟩) f.vals.length cv):=Am hN1 rfl
 have hBle:B≤wa.heap.size:=by omega
 refine Ae (Ac (Ab (Al rfl (Ak rfl)) rfl (Ab (Ai rfl (Ag rfl) ‹_›) rfl ?_)))
 refine Ab Ad rfl (Ab (A5 (n:=4) rfl rfl (An rfl) hv) rfl (Ab (A4 rfl (A0 rfl) hcells) rfl (Ab (A9 DZ) rfl (Bc (Bb rfl rfl (A7 rfl) rfl rfl) rfl (Af (Aa ?_))))))
 have ho:(f.vals.getD v default)=f.v v:=rfl
 simp only [ho] at hcells hints ⊢
 refine ec_new (.cells #[.int .i64 (f.v v).op,.int .i64 (f.v v).blk,.slice sa (f.v v).args.length sc,.int .i64 (f.v v).aux] 39) B (by omega) fun wb hN2 hO2 hZ2 hB2 hK2=>?_
 obtain ⟨V,hV⟩:∃V,V=wa.heap.size:=⟨_,rfl⟩
 rw[← hV] at hN2 ⊢
 have hb2:Below B w wb:=hB1.trans hB2
 have f0:wb.cell? ⟨V,0+0,none⟩=some (.int .i64 (f.v v).op):=Am hN2 rfl
 refine Ae (Ao (Ae (Ac (Ab (Al rfl (Ak rfl)) rfl (Ab (Ai rfl (Ag rfl) ‹_›) rfl ?_)))))
 refine Ab (Bn rfl rfl) rfl (Ab Ad rfl ?_)
 have hTrue:∀(h:isT (f.v v).op),true=truthN f n v:=fun h=>(CN h).symm
 by_cases h10:(f.v v).op=10
 ·rw[decide_eq_true h10]
  refine AF rfl rfl (AF rfl rfl (AF rfl rfl (Ab (AV rfl) rfl (Ab Ad rfl (AF rfl rfl (AF rfl rfl (AF rfl rfl (Ab (AV rfl) rfl (Ab Ah rfl (Af (Aa ?_)))))))))))
  refine Bm rfl rfl (Ae (Ac (Ab Ah rfl (Af (Aa (AE (AS (AO ?_))))))))
  exact Az rfl rfl rfl ⟨congrArg Value.bool (hTrue (.inl h10)),by rw[hb1,← hBd];exact hb2⟩
 rw[decide_eq_false h10]
 refine Av rfl rfl (Al rfl (Ak rfl)) rfl (Av rfl rfl (Ai rfl (Ag rfl) ‹_›) rfl ?_)
 refine Av rfl rfl (Bn rfl rfl) rfl (Ab (AM rfl) rfl (Ab Ad rfl ?_))
 by_cases h11:(f.v v).op=11
 ·rw[decide_eq_true h11]
  refine AF rfl rfl (AF rfl rfl (AF rfl rfl (Ab (AV rfl) rfl (Ab Ah rfl (Af (Aa (Bm rfl rfl (Ae (Ac (Ab Ah rfl (Af ?_)))))))))))
  refine Aa (AE (AS (AO ?_)))
  exact Az rfl rfl rfl ⟨congrArg Value.bool (hTrue (.inr (.inl h11))),by rw[hb1,← hBd];exact hb2⟩
 rw[decide_eq_false h11]
 refine Av rfl rfl (Al rfl (Ak rfl)) rfl (Av rfl rfl (Ai rfl (Ag rfl) ‹_›) rfl ?_)
 refine Av rfl rfl (Bn rfl rfl) rfl (Ab (AM rfl) rfl (Ab Ah rfl (Af (Aa ?_))))
 by_cases h12:(f.v v).op=12
 ·rw[decide_eq_true h12]
  refine Bm rfl rfl (Ae (Ac (Ab Ah rfl (Af (Aa (AE (AS (AO ?_))))))))
  exact Az rfl rfl rfl ⟨congrArg Value.bool (hTrue (.inr (.inr h12))),by rw[hb1,← hBd];exact hb2⟩
 rw[decide_eq_false h12]
 have hno:¬ isT (f.v v).op:=fun h=>by
  rcases h with h|h|h
  ·exact h10 h
  ·exact h11 h
  exact h12 h
 refine Bh rfl rfl (Ae (Ac (Ab (Al rfl (Ak rfl)) rfl (Ab (Ai rfl (Ag rfl) ‹_›) rfl ?_))))
 refine Ab (Bn rfl rfl) rfl (Ab Ad rfl ?_)
 by_cases h14:(f.v v).op=14
 ·rw[decide_eq_true h14]
  refine Av rfl rfl Ad rfl (Av rfl rfl (BE rfl rfl) rfl (Ab (AV rfl) rfl (Ab Ah rfl (Af (Aa ?_)))))
  cases n with
  |zero=>
   rw[decide_eq_false (show ¬ (0:Int)<((0:Nat):Int) by decide)]
   refine Bh rfl rfl (Aq (Ap (Aa (Ae (Ac (Ab Ah rfl (Af (Aa (AE ?_)))))))))
   exact Az rfl rfl rfl ⟨congrArg Value.bool (E6 hno).symm,by rw[hb1,← hBd];exact hb2⟩
  |succ m=>
   rw[decide_eq_true (show (0:Int)<((m+1:Nat):Int) by omega)]
   refine Bm rfl rfl ?_
   obtain ⟨ha0,ha1,ha2⟩:=tok v hv h14
   obtain ⟨bi,oi,rfl,hai⟩:=hints.get ha0
   have hai2:=(Keep.of_below hb2 (by omega)) _ _ hai
   have f1:wb.drew.cell? ⟨b1,0+0,none⟩=some (.slice (some ⟨bb,ob,none⟩) f.vals.length cv):=Am (w:=wb.drew) ((hO2 _ (by omega)).trans hN1) rfl
   have f2:wb.drew.cell? ⟨b1,0+1,none⟩=some xb:=Am (w:=wb.drew) ((hO2 _ (by omega)).trans hN1) rfl
   have f3:wb.drew.cell? ⟨V,0+2,none⟩=some (.slice (some ⟨bi,oi,none⟩) (f.v v).args.length sc):=Am (w:=wb.drew) hN2 rfl
   have f4:wb.drew.cell? ⟨bi,oi+0,none⟩=some (.int .i64 ((f.v v).args.getD 0 0)):=Keep.drew wb _ _ hai2
   have hc0:Cells [(⟨b1,0+0,none⟩,.slice (some ⟨bb,ob,none⟩) f.vals.length cv),(⟨b1,0+1,none⟩,xb),(⟨V,0+2,none⟩,.slice (some ⟨bi,oi,none⟩) (f.v v).args.length sc),(⟨bi,oi+0,none⟩,.int .i64 ((f.v v).args.getD 0 0))] wb.drew:=.cons f1 (.cons f2 (.cons f3 (.cons f4 (.nil _))))
   refine Ae (AY mixed _ [(0,false),(1,false),(2,false),(3,false),(4,false),(5,false),(6,false),(7,true),(8,false)] (by kernel_rfl) hc0 ?_)
   have hbd:=hb2.drew
   have hszd:w.heap.size≤wb.drew.heap.size:=hbd.size
   generalize wb.drew=Wd at hc0 hbd hszd ⊢
   refine Aj rfl (fun _ hS=>A4 (cs:=[.slice (some ⟨bb,ob,none⟩) f.vals.length cv,xb]) rfl (A0 rfl) (fun j u hj=>by
    rcases j with _|_|j
    ·simp at hj;subst hj;exact hS.get (.head _)
    ·simp at hj;subst hj;exact hS.get (.tail _ (.head _))
    simp at hj)) ?_
   refine Aj rfl (fun _ _=>Al rfl (Ak rfl)) (Aj rfl (fun _ hS=>Ai rfl (Ag rfl) (hS.get (by first|exact mm0|exact mm1|exact mm2|exact mm3|exact mm4|exact mm5|exact mm6|exact mm7))) ?_)
   refine Aj rfl (fun _ _=>x_index1 rfl rfl (An rfl) (by omega)) (Aj rfl (fun _ hS=>Ai rfl (Ag rfl) (hS.get (by first|exact mm0|exact mm1|exact mm2|exact mm3|exact mm4|exact mm5|exact mm6|exact mm7))) ?_)
   refine Aj rfl (fun _ _=>Ad) (Aj rfl (fun _ _=>CQ (c:=(m:Int)) rfl rfl (by rw[IntWalk.i64_in _ (by omega)];omega)) ?_)
   have hx1:FnV Wd (.agg #[.slice (some ⟨bb,ob,none⟩) f.vals.length cv,xb]) f:=hx0.keep (Keep.of_below hbd (by omega))
   have haz:(f.v v).args.getD 0 0=((((f.v v).args.getD 0 0).toNat:Nat):Int):=by omega
   have hcall:=ih m rfl Wd _ hx1 ((f.v v).args.getD 0 0).toNat (by omega)
   rw[← haz] at hcall
   refine BO rfl (AG Tryz.func39 rfl rfl rfl rfl) hcall ?_
   rintro r w2 ⟨rfl,hb3⟩
   refine ⟨.inr ((Keep.of_below hb3 (Nat.le_refl _)).cells hc0),?_⟩
   refine Aj rfl (fun _ _=>Ah) (AP (Aa (AE (AS (AO ?_)))))
   exact Az rfl rfl rfl ⟨congrArg Value.bool (Dr hno h14).symm,by rw[hb1,← hBd];exact hbd.trans (hb3.mono (by omega))⟩
 rw[decide_eq_false h14]
 refine AF rfl rfl (AF rfl rfl (Ab (AM rfl) rfl (Ab Ah rfl (Af (Aa (Bh rfl rfl (Aq (Ap (Aa (Ae (Ac ?_)))))))))))
 refine Ab Ah rfl (Af (Aa (AE ?_)))
 exact Az rfl rfl rfl ⟨congrArg Value.bool (C0 hno h14).symm,by rw[hb1,← hBd];exact hb2⟩
theorem truth_ret {f:Fn} (tok:TOk f):∀(n:Nat),n≤48→∀(w:World) (x:Value),FnV w x f→∀v,v<f.vals.length→
 Ret Tryz.prog 39 #[x,.int .i64 (v:Int),.int .i64 (n:Int)] w fun r w'=>r= .bool (truthN f n v)∧Below w.heap.size w w'
 |0,_,w,x,hx,v,hv=>truth_one tok 0 (fun m h=>by omega) w x hx v hv (by omega)
 |n+1,hn,w,x,hx,v,hv=>truth_one tok (n+1) (fun m h=>by
   have:m=n:=by omega
   subst this
   exact truth_ret tok m (by omega)) w x hx v hv hn
theorem Truth_ret {f:Fn} (tok:TOk f) {w:World} {x:Value} (hx:FnV w x f) {v:Nat} (hv:v<f.vals.length):
 Ret Tryz.prog 27 #[x,.int .i64 (v:Int)] w fun r w'=>r= .bool (truthN f 48 v)∧Below w.heap.size w w':=by
 obtain ⟨xv,xb,rfl,hvals,hblks⟩:=hx
 refine ret_of_EC Tryz.func27 rfl rfl ?_
 have hx0:FnV w (.agg #[xv,xb]) f:=⟨xv,xb,rfl,hvals,hblks⟩
 obtain ⟨B,hBd⟩:∃B,B=w.heap.size:=⟨_,rfl⟩
 refine Ae (Ac (Ab (Bv (v:=.agg #[xv,xb]) rfl) rfl (el_new (.cells #[xv,xb] 30) B (by omega) fun wa hN1 hO1 hZ1 hB1 hK1=>(Ab Ah rfl (Af (Aa (Ae (Ac (Ab (A4 (cs:=[xv,xb]) rfl (A0 rfl) (A3 hN1)) rfl (Ab Ad rfl (Be (AG Tryz.func39 rfl rfl rfl rfl) rfl (truth_ret tok 48 (Nat.le_refl _) wa _ (hx0.keep hK1) v hv) ?_)))))))))))
 rintro r w2 ⟨rfl,hb2⟩
 refine Ab Ah rfl (Af (Aa (AE ?_)))
 exact Az rfl rfl rfl ⟨rfl,by rw[← hBd];exact hB1.trans (hb2.mono (by omega))⟩
end Go.Proofs.YteepnepebilckaaGreatDoor
namespace Go.Proofs.YteepnepebilckaaGreatDoor
open Go Go.Eng Go.RowKit
set_option maxHeartbeats 4000000
attribute [local irreducible] EC EL DL Ret thenQ blockQ Bi bodyQ onlyN execOp Sem.run World.cell? World.frozen? World.setCell World.alloc
def ovS (nb:Nat) (R:Nat→Nat) (b:Nat):Value:=.slice (some ⟨R b,0,none⟩) nb nb
def Grid (w:World) (f:Fn) (k:Nat) (R:Nat→Nat):Prop:=∀b,b<k→∃D:Nat→Bool,w.heap[R b]? =some (.cells (bools D f.blks.length) 4 (0,0))∧∀i,i<f.blks.length→(D i=true↔¬ Rch f (b:Int) i)
theorem Over_ret {w:World} {x:Value} {f:Fn} (hx:FnV w x f) (sh:Shp f):
 Ret Tryz.prog 19 #[x] w fun v w'=>∃g cap R,v= .slice (some ⟨g,0,none⟩) f.blks.length cap∧(∀b,b<f.blks.length→w'.cell? ⟨g,0+b,none⟩=some (ovS f.blks.length R b))∧Grid w' f f.blks.length R∧Below w.heap.size w w':=by
 obtain ⟨xv,xb,rfl,hvals,hblks⟩:=hx
 refine ret_of_EC Tryz.func19 rfl rfl ?_
 have hx0:FnV w (.agg #[xv,xb]) f:=⟨xv,xb,rfl,hvals,hblks⟩
 obtain ⟨ab,cb,rfl,hbl⟩:=hblks
 obtain ⟨B,hBd⟩:∃B,B=w.heap.size:=⟨_,rfl⟩
 have hnb:=sh.nb
 have hone:=sh.one
 refine Ae (Ac (Ab (Bv (v:=.agg #[xv,.slice ab f.blks.length cb]) rfl) rfl (el_new (.cells #[xv,.slice ab f.blks.length cb] 30) B (by omega) fun wa hN1 hO1 hZ1 hB1 hK1=>(Ab Ah rfl (Af (Aa ?_))))))
 obtain ⟨b1,hb1⟩:∃b1,b1=w.heap.size:=⟨_,rfl⟩
 rw[← hb1] at hN1 ⊢
 have key:∀{W:World} {ρ:Operand→Value} {d:Option Tmp} {ty:TypeId} {pos:String} {af:Array Edge} {g:Option (Nat×Bool)},(execOp ρ ⟨d,.buildSlice 46 0 #[],ty,pos,af,g⟩).run Tryz.prog W= .ok (.value (.slice (some ⟨W.heap.size,0,none⟩) 0 0)) (W.alloc (.cells #[] 49)):=by
  intro W ρ d ty pos af g
  have key:(Instr.buildSlice 46 0 #[]).run Tryz.prog W= .ok (.slice (some ⟨W.heap.size,0,none⟩) 0 0) (W.alloc (.cells #[] 49)):=by kernel_rfl
  simp [execOp,key]
 refine Ae (Ac (Ab key rfl ?_))
 have hBle:B≤wa.heap.size:=by omega
 refine el_new (.cells #[] 49) B (by omega) fun wb hN2 hO2 hZ2 hB2 hK2=>(Ab Ah rfl (Af (Aa ?_)))
 have hbelB:Below B w wb:=hB1.trans hB2
 have hbx:wb.heap[b1]? =some (.cells #[xv,.slice ab f.blks.length cb] 30 (0,0)):=(hO2 _ (by omega)).trans hN1
 have g2:wb.cell? ⟨b1,0+1,none⟩=some (.slice ab f.blks.length cb):=Am hbx rfl
 obtain ⟨S0,hS0⟩:∃S0,S0=wa.heap.size:=⟨_,rfl⟩
 have hrow0:wb.ownsRow S0 49 1 (.slice (some ⟨wa.heap.size,0,none⟩) 0 0) 0 []:=⟨rfl,.inr ⟨wa.heap.size,0,#[],rfl,Nat.le_of_eq hS0,hN2,Nat.le_refl _,by decide,rfl,rfl⟩⟩
 have hs0:S0≤wb.heap.size:=by omega
 refine AW (fun e wr=>∃v R,At e [(3,v)]∧wr.ownsRow S0 49 1 v f.blks.length ((List.range f.blks.length).map (ovS f.blks.length R))∧Grid wr f f.blks.length R∧Below B w wr) ?_ ?_
 ·refine Ae (Ac (Ab (Al rfl (Ak rfl)) rfl (Ab (Ai rfl (Ag rfl) ‹_›) rfl ?_)))
  refine Ab (AN rfl (An rfl)) rfl (Ab Ad rfl (Af (Aa (Ao ?_))))
  refine EC_loop (fun n e wr=>∃(i:Nat) (v:Value) (R:Nat→Nat),i≤f.blks.length∧At e [(1,.pointer (some ⟨b1,0,none⟩)),(3,v),(10,.int .i64 (f.blks.length:Int)),(11,.int .i64 (i:Int))]∧wr.ownsRow S0 49 1 v i ((List.range i).map (ovS f.blks.length R))∧Grid wr f i R∧(∀b,b<i→S0≤R b∧R b<wr.heap.size∧v.ownBlock≠some (R b))∧(∀j,j<S0→wr.heap[j]? =wb.heap[j]?)∧S0≤wr.heap.size∧Below B w wr∧n=f.blks.length - i) f.blks.length
   ⟨0,_,fun _=>0,Nat.zero_le _,Ar rfl ⟨rfl,rfl,rfl,rfl,trivial⟩,hrow0,fun b hb=>absurd hb (Nat.not_lt_zero _),fun b hb=>absurd hb (Nat.not_lt_zero _),fun _ _=>rfl,hs0,hbelB,rfl⟩ ?_
  rintro n e wr ⟨i,v,R,hi,⟨t,rfl⟩,hrow,hgrid,hlow,hst,hsz,hb,rfl⟩
  refine Ae (Ac (Ab (AX rfl rfl) rfl (Af (Aa (Ae ?_)))))
  refine AI rfl rfl (fun hlt=>?_) (fun hge=>?_)
  rotate_left
  ·have hi:i=f.blks.length:=by omega
   subst hi
   refine AK (AB (AD (AA ?_)))
   exact AR ⟨v,R,Ar rfl ⟨rfl,trivial⟩,hrow,hgrid,hb⟩
  have hlt:i<f.blks.length:=by omega
  refine Aq (Aa (Ae (Ao (Ae (Ac (Ab Ad rfl (Ab Ah rfl (Af (Aa ?_)))))))))
  have hbxr:wr.heap[b1]? =some (.cells #[xv,.slice ab f.blks.length cb] 30 (0,0)):=(hst b1 (by omega)).trans hbx
  refine Ae (Ac (Ab (A4 (cs:=[xv,.slice ab f.blks.length cb]) rfl (A0 rfl) (A3 hbxr)) rfl (Ab Ad rfl (Be (AG Tryz.func34 rfl rfl rfl rfl) rfl (reach_ret (hx0.keep (Keep.of_below hb (by omega))) sh (i:Int)) ?_))))
  rintro _ w1 ⟨G,S,rfl,hGs,hN,hSr,hb1'⟩
  refine Ab Ah rfl (Af (Aa ?_))
  have hGlt:G<w1.heap.size:=(Array.getElem?_eq_some_iff.1 hN).1
  have hrow1:=Ax hrow (w':=w1) fun k e=>hb1'.block k (As hrow k e).2
  have hgrid1:Grid w1 f i R:=fun b hbi=>by
   obtain ⟨D,h1,h2⟩:=hgrid b hbi
   exact ⟨D,(hb1'.block _ (hlow b hbi).2.1).trans h1,h2⟩
  have hst1:∀j,j<S0→w1.heap[j]? =wb.heap[j]? :=fun j hj=>(hb1'.block j (by omega)).trans (hst j hj)
  have hbel1:Below B w w1:=hb.trans (hb1'.mono (by omega))
  have hsz1:=hb1'.size
  have hvlt:=As hrow
  refine AW (fun e wi=>At e [(1,.pointer (some ⟨b1,0,none⟩)),(3,v),(10,.int .i64 (f.blks.length:Int)),(11,.int .i64 (i:Int)),(5,.slice (some ⟨G,0,none⟩) f.blks.length f.blks.length)]∧wi.heap[G]? =some (.cells (bools (fun x=> !S x) f.blks.length) 4 (0,0))∧(∀j,j≠G→wi.heap[j]? =w1.heap[j]?)∧wi.heap.size=w1.heap.size∧Below B w wi) ?_ ?_
  ·refine Ae (Ac (Ab Ad rfl (Ab (AN rfl (An rfl)) rfl (Ab Ad rfl (Af (Aa (Ao ?_)))))))
   refine EC_loop (fun m e wi=>∃(k:Nat) (T:Nat→Bool),k≤f.blks.length∧At e [(1,.pointer (some ⟨b1,0,none⟩)),(3,v),(10,.int .i64 (f.blks.length:Int)),(11,.int .i64 (i:Int)),(5,.slice (some ⟨G,0,none⟩) f.blks.length f.blks.length),(18,.int .i64 (f.blks.length:Int)),(19,.int .i64 (k:Int))]∧wi.heap[G]? =some (.cells (bools T f.blks.length) 4 (0,0))∧(∀x,T x=if x<k then !S x else S x)∧(∀j,j≠G→wi.heap[j]? =w1.heap[j]?)∧wi.heap.size=w1.heap.size∧Below B w wi∧m=f.blks.length - k) f.blks.length
    ⟨0,S,Nat.zero_le _,Ar rfl ⟨rfl,rfl,rfl,rfl,rfl,rfl,rfl,trivial⟩,hN,fun x=>by simp,fun _ _=>rfl,rfl,hbel1,rfl⟩ ?_
   rintro m e wi ⟨k,T,hk,⟨t,rfl⟩,hT,hTS,hsti,hszi,hbi',rfl⟩
   refine Ae (Ac (Ab (AX rfl rfl) rfl (Af (Aa (Ae ?_)))))
   refine AI rfl rfl (fun hlk=>?_) (fun hge=>?_)
   rotate_left
   ·have hk:k=f.blks.length:=by omega
    subst hk
    refine AK (AB (AD (AA ?_)))
    have hbe:bools T f.blks.length=bools (fun x=> !S x) f.blks.length:=by
     apply Array.ext_getElem?
     intro x
     by_cases hx:x<f.blks.length
     ·rw[BM _ hx,BM _ hx,hTS,if_pos hx]
     rw[Array.getElem?_eq_none (by rw[CK];omega),Array.getElem?_eq_none (by rw[CK];omega)]
    rw[hbe] at hT
    exact AR ⟨Ar rfl ⟨rfl,rfl,rfl,rfl,rfl,trivial⟩,hT,hsti,hszi,hbi'⟩
   have hlk:k<f.blks.length:=by omega
   have hcy:wi.cell? ⟨G,0+k,none⟩=some (.bool (T k)):=Am hT (by rw[Nat.zero_add];exact BM _ hlk)
   refine Aq (Aa (Ae (Ao (Ae (Ac (Ab Ad rfl (Ab Ah rfl (Af (Aa (Ac (Ab Ad rfl ?_)))))))))))
   refine Ab Ad rfl (Ab Ad rfl (Ab Ad rfl (Ab (x_index1 rfl rfl (An rfl) (by omega)) rfl (Ab (Ai rfl (Ag rfl) ‹_›) rfl ?_))))
   refine Ab (BS rfl) rfl (Ab (x_index1 rfl rfl (An rfl) (by omega)) rfl (Bc (AU (v:=.bool (!T k)) rfl rfl rfl (AH rfl) hcy (AQ hT)) rfl (Af (Ap (Aa ?_)))))
   have hT2:=AC (o:=0+k) (u:=.bool (!T k)) hT
   rw[bools_set] at hT2
   refine Ac (Ab (x_inc rfl rfl (by omega)) rfl (Ab Ad rfl (Af ?_)))
   refine Aw (f.blks.length - (k+1)) (by omega) ⟨k+1,_,by omega,Ar rfl ⟨rfl,rfl,rfl,rfl,rfl,rfl,rfl,trivial⟩,hT2,fun x=>?_,fun j hj=>(Below.heap_setCell _ _ _ _ hj).trans (hsti j hj),(Bp _ _).trans hszi,hbi'.setCell (by show B≤G;omega) _,rfl⟩
   rw[Nat.zero_add]
   by_cases e:x=k
   ·subst e;rw[if_pos rfl,if_pos (Nat.lt_succ_self _),hTS,if_neg (Nat.lt_irrefl _)]
   rw[if_neg e,hTS]
   by_cases e2:x<k
   ·rw[if_pos e2,if_pos (by omega)]
   rw[if_neg e2,if_neg (by omega)]
  rintro e w2 ⟨⟨t,rfl⟩,hN',hst2,hsz2,hb2⟩
  refine Ac (Ab Ad rfl (Ab Ad rfl (Ab (Bo (v:=.slice (some ⟨G,0,none⟩) f.blks.length f.blks.length) rfl rfl Tryz.underlying46 (by kernel_rfl) (z:=.slice none 0 0) rfl) rfl ?_)))
  have hBle:B≤w2.heap.size:=by omega
  refine el_new (.cells #[.slice (some ⟨G,0,none⟩) f.blks.length f.blks.length] 49) B (by omega) fun w3 hN3 hO3 hZ3 hB3 hK3=>?_
  have hrow3:=Ax hrow1 (w':=w3) fun k e=>(hO3 k (by have:=hvlt k e;omega)).trans (hst2 k (by have:=hvlt k e;omega))
  refine BD hrow3 (Am hN3 rfl) rfl (by omega) (by decide) (by omega) Tryz.underlying46 info49 rfl rfl rfl rfl ?_
  intro v4 w4 hrow4 hgr4 hwh4
  refine Ab Ah rfl (Af (Ap (Aa ?_)))
  have hsz4:=hgr4.size
  have hvG:v.ownBlock≠some G:=fun e=>by have:=hvlt G e;omega
  have hle:∀j,j<w2.heap.size→v.ownBlock≠some j→w4.heap[j]? =w2.heap[j]? :=fun j hj hne=>by
   rw[hgr4.block j (by omega) (fun e=>hne e.symm),hO3 j hj]
  refine Ac (Ab (x_inc rfl rfl (by omega)) rfl (Ab Ad rfl (Af ?_)))
  refine Aw (f.blks.length - (i+1)) (by omega) ⟨i+1,v4,fun b=>if b=i then G else R b,by omega,Ar rfl ⟨rfl,rfl,rfl,rfl,trivial⟩,?_,?_,?_,?_,by omega,?_,rfl⟩
  ·have:(List.range (i+1)).map (ovS f.blks.length fun b=>if b=i then G else R b)=(List.range i).map (ovS f.blks.length R) ++ [.slice (some ⟨G,0,none⟩) f.blks.length f.blks.length]:=by
    rw[List.range_succ,List.map_append]
    congr 1
    ·apply List.map_congr_left
     intro b hbm
     have:=List.mem_range.1 hbm
     show Value.slice (some ⟨if b=i then G else R b,0,none⟩) _ _=_
     rw[if_neg (by omega)];rfl
    simp [ovS]
   rw[this];exact hrow4
  ·intro b hbi
   by_cases e:b=i
   ·subst e
    refine ⟨fun x=> !S x,?_,fun j hj=>?_⟩
    ·show w4.heap[if b=b then G else R b]? =_
     rw[if_pos rfl,hle G (by omega) hvG];exact hN'
    have:=hSr j hj
    show ((!S j)=true↔_)
    rw[← this]
    cases S j <;> simp
   obtain ⟨D,h1,h2⟩:=hgrid1 b (by omega)
   obtain ⟨l1,l2,l3⟩:=hlow b (by omega)
   refine ⟨D,?_,h2⟩
   show w4.heap[if b=i then G else R b]? =_
   rw[if_neg e,hle _ (by omega) l3,hst2 _ (by omega)];exact h1
  ·intro b hbi
   show S0≤(if b=i then G else R b)∧(if b=i then G else R b)<_∧v4.ownBlock≠some (if b=i then G else R b)
   by_cases e:b=i
   ·rw[if_pos e]
    refine ⟨by omega,by omega,?_⟩
    rcases hwh4 with h|h
    ·rw[h];exact hvG
    rw[h];intro e2;have:=Option.some.inj e2;omega
   rw[if_neg e]
   obtain ⟨l1,l2,l3⟩:=hlow b (by omega)
   refine ⟨l1,by omega,?_⟩
   rcases hwh4 with h|h
   ·rw[h];exact l3
   rw[h];intro e2;have:=Option.some.inj e2;omega
  ·intro j hj
   rw[hle j (by omega) (fun e=>by have:=hvlt j e;omega),hst2 j (by omega)]
   exact hst1 j hj
  exact (hb2.trans hB3).grown hgr4 (by omega) (fun j e=>by have:=hvlt j e;omega)
 rintro e wr ⟨v,R,⟨t,rfl⟩,hrow,hgrid,hb⟩
 refine Ae (Ac (Ab Ad rfl (Ab Ah rfl (Af (Aa (AE ?_))))))
 rcases hrow.2 with ⟨_,h0⟩|⟨g,cap,cur,rfl,_,hg,h1,h2,h3,h4⟩
 ·omega
 refine Az rfl rfl rfl ⟨g,cap,R,rfl,fun b hbn=>?_,hgrid,by rw[hb1,← hBd];exact hb⟩
 rw[cell_of_row wr g _ cur _ (0,0) hg,Nat.zero_add]
 have h5:((List.range f.blks.length).map (ovS f.blks.length R))[b]? =some (ovS f.blks.length R b):=by
  rw[List.getElem?_map,List.getElem?_range hbn];rfl
 rw[← h4,List.getElem?_take] at h5
 split at h5
 ·rw[Array.getElem?_toList] at h5;exact h5
 cases h5
end Go.Proofs.YteepnepebilckaaGreatDoor
