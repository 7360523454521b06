/- The law FnCseOver returns true for every input in which the opcode table reads as laid, and its argument reads as it did, the table being tied to the text of the program. -/
import Derived.Test.YteepnepebilckaaGreatDoorCV06
namespace Go.Proofs.YteepnepebilckaaGreatDoor
open Go Go.Eng Go.RowKit
set_option maxHeartbeats 4000000
attribute [local irreducible] EC EL DL Ret thenQ blockQ Bi bodyQ onlyN execOp Sem.run World.cell? World.frozen? World.setCell World.alloc
end Go.Proofs.YteepnepebilckaaGreatDoor
namespace Go.Proofs.YteepnepebilckaaGreatDoor
open Go Go.Eng Go.RowKit
set_option maxHeartbeats 4000000
attribute [local irreducible] EC EL DL Ret thenQ blockQ Bi bodyQ onlyN execOp Sem.run World.cell? World.frozen? World.setCell World.alloc
theorem GRep.baseLe {w:World} {B:Nat} {L:Lay} {g:Gph} (h:GRep w B L g):B≤w.heap.size:=by
 have h1:=Br h
 have h2:=h.tags.fbB
 omega
def Lay.fp (L:Lay):Value:=.pointer (some ⟨L.fb,0,none⟩)
end Go.Proofs.YteepnepebilckaaGreatDoor
namespace Go.Proofs.YteepnepebilckaaGreatDoor
open Go Go.Eng Go.RowKit
set_option maxHeartbeats 4000000
attribute [local irreducible] EC EL DL Ret thenQ blockQ Bi bodyQ onlyN execOp Sem.run World.cell? World.frozen? World.setCell World.alloc
theorem D3 {w:World} {B:Nat} {L:Lay} {g:Gph} (h:GRep w B L g) {b:Nat} (hb:b<g.nb):
 Ret Tryz.prog 70 #[L.bp b] w fun v w'=>v=L.sl (.ctrl b)∧w'=w:=by
 have f1:=h.bCtrl hb
 refine ret_of_EC Tryz.func70 rfl rfl (Ae (Ac (Ab Ah rfl (Af (Aa (Ae (Ac (Ab Ad rfl (Ab (Au rfl) rfl (Ab (Al rfl (Ak rfl)) rfl (Ab (Ai rfl (Ag rfl) ‹_›) rfl ?_)))))))))))
 refine Ab Ah rfl (Af (Aa (AE ?_)))
 exact Az rfl rfl rfl ⟨rfl,rfl⟩
end Go.Proofs.YteepnepebilckaaGreatDoor
namespace Go.Proofs.YteepnepebilckaaGreatDoor
open Go Go.Eng Go.RowKit
set_option maxHeartbeats 4000000
attribute [local irreducible] EC EL DL Ret thenQ blockQ Bi bodyQ onlyN execOp Sem.run World.cell? World.frozen? World.setCell World.alloc
def ctl (l:List Nat):Int:=match l with| []=> -1|c :: _=>(c:Int)
def nats (l:List Nat):List Int:=l.map fun a=>((a:Nat):Int)
def gv (g:Gph) (i:Nat):Vl:=⟨g.op i,(g.blk i:Int),nats (g.args i),g.aux i⟩
def gb (g:Gph) (i:Nat):Bk:=⟨g.kind i,ctl (g.ctrl i),nats (g.succs i),g.likely i⟩
def toF (g:Gph):Fn:=⟨(List.range g.nv).map (gv g),(List.range g.nb).map (gb g)⟩
structure GOk (g:Gph):Prop where
 nb:g.nb≤9
 nv:g.nv≤48
 blk:∀i,i<g.nv→g.blk i<g.nb
 args:∀i,i<g.nv→(g.args i).length≤64∧∀a∈g.args i,a<g.nv
 succs:∀i,i<g.nb→(g.succs i).length≤2∧∀a∈g.succs i,a<g.nb
 ctrl:∀i,i<g.nb→∀a∈g.ctrl i,a<g.nv
 likely:∀i,i<g.nb→ -1≤g.likely i∧g.likely i≤1
theorem EF {l:List Nat} {k:Nat} (hk:k<l.length):nats (l.take k) ++ [((l.getD k 0:Nat):Int)]=nats (l.take (k+1)):=by
 unfold nats
 rw[List.take_succ_eq_append_getElem hk,List.map_append,List.getD_eq_getElem?_getD,List.getElem?_eq_getElem hk];rfl
theorem Bq {l:List Nat} {k:Nat} (hk:k<l.length):l.getD k 0∈l:=by
 rw[List.getD_eq_getElem?_getD,List.getElem?_eq_getElem hk];simp
theorem data_ret {w:World} {B0:Nat} {L:Lay} {g:Gph} (h:GRep w B0 L g) (ok:GOk g):
 Ret Tryz.prog 43 #[L.fp] w fun v w'=>Own w.heap.size w' v (toF g)∧Below w.heap.size w w':=by
 refine ret_of_EC Tryz.func43 rfl rfl ?_
 have oknb:=ok.nb
 have oknv:=ok.nv
 obtain ⟨B,hBd⟩:∃B,B=w.heap.size:=⟨_,rfl⟩
 refine Ae (Ac (Ab (A9 CS) rfl (el_new (.cells #[nilS,nilS] 62) B (by omega) fun wb hN2 hO2 hZ2 hB2 hK2=>(Af (Aa (Ae (Ac (Ab (A9 CS) rfl (el_new (.cells #[nilS,nilS] 62) B (by omega) fun W0 hN3 hO3 hZ3 hB3 hK3=>(Af (Aa ?_)))))))))))
 have hC0:W0.heap[w.heap.size]? =some (.cells #[nilS,nilS] 62 (0,0)):=(hO3 _ (by omega)).trans hN2
 have hbel0:Below B w W0:=hB2.trans hB3
 obtain ⟨C,hCe⟩:∃C,C=w.heap.size:=⟨_,rfl⟩
 obtain ⟨X,hXe⟩:∃X,X=wb.heap.size:=⟨_,rfl⟩
 rw[← hCe] at hC0
 have hX0:W0.heap[X]? =some (.cells #[nilS,nilS] 62 (0,0)):=by rw[hXe];exact hN3
 obtain ⟨S0,hS0⟩:∃S0,S0=W0.heap.size:=⟨_,rfl⟩
 have hG:∀{wr:World},Below B w wr→GRep wr B0 L g:=fun hb=>h.keep fun k hk=>hb.block k (by omega)
 obtain ⟨a,cap,ha⟩:=h.fvaluesV
 obtain ⟨a2,cap2,ha2⟩:=h.fblocksV
 refine AW (fun e wr=>∃R,At e [(0,.pointer (some ⟨L.fb,0,none⟩)),(2,.pointer (some ⟨C,0,none⟩)),(3,.pointer (some ⟨X,0,none⟩))]∧QRow wr S0 83 B X C R (((List.range g.nv).map (gv g)).map vq)∧wr.heap[X]? =some (.cells #[R,nilS] 62 (0,0))∧(∀j,j<S0→j≠X→wr.heap[j]? =W0.heap[j]?)∧S0≤wr.heap.size∧Below B w wr) ?_ ?_
 ·have g1:W0.cell? ⟨L.fb,0+2,none⟩=some (.slice a g.nv cap):=by rw[← ha];exact (hG hbel0).fValues
  rw[← hCe,← hXe]
  refine Ae (Ac (Ab Ad rfl (Ab (Au rfl) rfl (Ab (Al rfl (Ak rfl)) rfl (Ab (Ai rfl (Ag rfl) ‹_›) rfl ?_)))))
  refine Ab (AN rfl (An rfl)) rfl (Ab Ad rfl (Af (Aa (Ao ?_))))
  refine EC_loop (fun n e wr=>∃(i:Nat) (R:Value),i≤g.nv∧At e [(0,.pointer (some ⟨L.fb,0,none⟩)),(2,.pointer (some ⟨C,0,none⟩)),(3,.pointer (some ⟨X,0,none⟩)),(17,.slice a g.nv cap),(18,.int .i64 (g.nv:Int)),(19,.int .i64 (i:Int))]∧QRow wr S0 83 B X C R (((List.range i).map (gv g)).map vq)∧wr.heap[X]? =some (.cells #[R,nilS] 62 (0,0))∧(∀j,j<S0→j≠X→wr.heap[j]? =W0.heap[j]?)∧S0≤wr.heap.size∧Below B w wr∧n=g.nv - i) g.nv
   ⟨0,nilS,Nat.zero_le _,Ar rfl ⟨rfl,rfl,rfl,rfl,rfl,rfl,trivial⟩,QRow.nil W0 S0 _ B X C (by omega),hX0,fun _ _ _=>rfl,Nat.le_of_eq hS0,hbel0,rfl⟩ ?_
  rintro n e wr ⟨i,R,hi,⟨t,rfl⟩,hQ,hXr,hst,hsz,hb,rfl⟩
  refine Ae (Ac (Ab (AX rfl rfl) rfl (Af (Aa (Ae ?_)))))
  refine AI rfl rfl (fun hlt=>?_) (fun hge=>?_)
  rotate_left
  ·have hi:i=g.nv:=by omega
   subst hi
   refine AK (AB (AD (AA ?_)))
   exact AR ⟨R,Ar rfl ⟨rfl,rfl,rfl,trivial⟩,hQ,hXr,hst,hsz,hb⟩
  have hlt:i<g.nv:=by omega
  have hGr:=hG hb
  obtain ⟨bv,cap',e1,_,hei,_⟩:=hGr.fvaluesE (k:=i) hlt
  rw[ha] at e1
  injection e1 with e1 e2 e3
  subst e1
  have hbi:=ok.blk i hlt
  refine Aq (Aa (Ae (Ao (Ae (Ac (Ab (x_index1 rfl rfl (An rfl) (by omega)) rfl (Ab (Ai rfl (Ag rfl) ‹_›) rfl ?_)))))))
  refine Ab Ah rfl (Af (Aa (Ae ?_)))
  have hD:=hGr.drew
  have f1:=hD.vOp (i:=i) hlt
  have f2:=hD.vBlk (i:=i) hlt
  have f3:=hD.bID (i:=g.blk i) hbi
  have f4:=hD.vAux (i:=i) hlt
  have hc0:Cells [(⟨L.vb i,0+1,none⟩,.int .i64 (g.op i)),(⟨L.vb i,0+6,none⟩,L.bp (g.blk i)),(⟨L.bb (g.blk i),0+0,none⟩,.int .i32 ((g.blk i:Int)+1)),(⟨L.vb i,0+3,none⟩,.int .i64 (g.aux i))] wr.drew:=.cons f1 (.cons f2 (.cons f3 (.cons f4 (.nil _))))
  refine AY mixed _ [(0,false),(1,false),(2,false),(3,false),(4,false),(5,false),(6,false),(7,false),(8,false),(9,false),(10,false),(11,false),(12,false),(13,false),(14,false),(15,false),(16,false),(17,false),(18,true),(19,true)] (by kernel_rfl) hc0 ?_
  have hQ:=hQ.stay (w':=wr.drew) (fun _ _ _ _ _=>rfl) (Nat.le_refl _)
  have hXr:wr.drew.heap[X]? =some (.cells #[R,nilS] 62 (0,0)):=hXr
  have hst:∀j,j<S0→j≠X→wr.drew.heap[j]? =W0.heap[j]? :=hst
  have hb:=hb.drew
  have hsz:S0≤wr.drew.heap.size:=hsz
  generalize wr.drew=Wd at hc0 hQ hXr hst hb hsz ⊢
  refine Aj rfl (fun _ _=>Ad) (Aj rfl (fun _ _=>Au rfl) (Aj rfl (fun _ _=>Al rfl (Ak rfl)) (Aj rfl (fun _ hS=>Ai rfl (Ag rfl) (hS.get (by first|exact mm0|exact mm1|exact mm2|exact mm3|exact mm4|exact mm5|exact mm6|exact mm7))) ?_)))
  refine Aj rfl (fun _ _=>Ad) (Aj rfl (fun _ _=>Au rfl) (Aj rfl (fun _ _=>Al rfl (Ak rfl)) (Aj rfl (fun _ hS=>Ai rfl (Ag rfl) (hS.get (by first|exact mm0|exact mm1|exact mm2|exact mm3|exact mm4|exact mm5|exact mm6|exact mm7))) ?_)))
  refine Aj rfl (fun _ _=>Au rfl) (Aj rfl (fun _ _=>Al rfl (Ak rfl)) (Aj rfl (fun _ hS=>Ai rfl (Ag rfl) (hS.get (by first|exact mm0|exact mm1|exact mm2|exact mm3|exact mm4|exact mm5|exact mm6|exact mm7))) ?_))
  refine Aj rfl (fun _ _=>Ce (m:=(g.blk i:Int)+1) rfl (by kernel_rfl) (B2 rfl) (IntWalk.i64_in _ (by omega))) (Aj rfl (fun _ _=>CQ (c:=(g.blk i:Int)) rfl rfl (by rw[IntWalk.i64_in _ (by omega)];omega)) ?_)
  refine Aj rfl (fun _ _=>Ad) (Aj rfl (fun _ _=>Au rfl) (Aj rfl (fun _ _=>Al rfl (Ak rfl)) (Aj rfl (fun _ hS=>Ai rfl (Ag rfl) (hS.get (by first|exact mm0|exact mm1|exact mm2|exact mm3|exact mm4|exact mm5|exact mm6|exact mm7))) ?_)))
  refine Aj rfl (fun _ _=>G0 rfl rfl rfl) (BK rfl (A9 D0) (.inr (hc0.alloc _)) (BP rfl (Bb rfl rfl (A7 rfl) rfl rfl) (.inl rfl) (AP (Aa ?_))))
  have hBle:B≤Wd.heap.size:=by have:=hb.size;omega
  refine ec_new (.cells #[.int .i64 (g.op i),.int .i64 (g.blk i:Int),nilS,.int .i64 (g.aux i)] 83) B (by omega) fun W hN1 hO1 hZ1 hB1 hK1=>?_
  have hbW:Below B w W:=hb.trans hB1
  have hQW:=hQ.stay (w':=W) (fun j hj _ _ _=>hO1 j hj) (by omega)
  have hXlt:X<Wd.heap.size:=(Array.getElem?_eq_some_iff.1 hXr).1
  have hClt:C<Wd.heap.size:=by have:=(Array.getElem?_eq_some_iff.1 hC0).1;omega
  have hXW:W.heap[X]? =some (.cells #[R,nilS] 62 (0,0)):=(hO1 X hXlt).trans hXr
  have hstW:∀j,j<S0→j≠X→W.heap[j]? =W0.heap[j]? :=fun j hj hne=>(hO1 j (by omega)).trans (hst j hj hne)
  obtain ⟨V,hV⟩:∃V,V=Wd.heap.size:=⟨_,rfl⟩
  rw[← hV] at hN1 ⊢
  obtain ⟨S1,hS1⟩:∃S1,S1=W.heap.size:=⟨_,rfl⟩
  obtain ⟨hal,ham⟩:=ok.args i hlt
  have hown:∀j,R.ownBlock=some j→S0≤j∧j<Wd.heap.size:=by
   obtain ⟨_,_,_,ss,hss,hrow,_⟩:=hQ
   exact As hrow
  obtain ⟨aa,capa,haa⟩:=h.argsV (i:=i) hlt
  refine AW (fun e wi=>∃s,At e [(0,.pointer (some ⟨L.fb,0,none⟩)),(2,.pointer (some ⟨C,0,none⟩)),(3,.pointer (some ⟨X,0,none⟩)),(17,.slice (some ⟨bv,0,none⟩) g.nv cap),(18,.int .i64 (g.nv:Int)),(19,.int .i64 (i:Int)),(6,.pointer (some ⟨V,0,none⟩))]∧wi.ownsRow S1 3 1 s (g.args i).length ((nats (g.args i)).map (.int .i64))∧wi.heap[V]? =some (.cells #[.int .i64 (g.op i),.int .i64 (g.blk i:Int),s,.int .i64 (g.aux i)] 83 (0,0))∧(∀j,j<S1→j≠V→wi.heap[j]? =W.heap[j]?)∧S1≤wi.heap.size∧Below B w wi) ?_ ?_
  ·have g2:W.cell? ⟨L.vb i,0+5,none⟩=some (.slice aa (g.args i).length capa):=by rw[← haa];exact (hG hbW).vArgs hlt
   refine Ae (Ac (Ab Ad rfl (Ab (Au rfl) rfl (Ab (Al rfl (Ak rfl)) rfl (Ab (Ai rfl (Ag rfl) ‹_›) rfl ?_)))))
   refine Ab (AN rfl (An rfl)) rfl (Ab Ad rfl (Af (Aa (Ao ?_))))
   refine EC_loop (fun n e wi=>∃(k:Nat) (s:Value),k≤(g.args i).length∧At e [(0,.pointer (some ⟨L.fb,0,none⟩)),(2,.pointer (some ⟨C,0,none⟩)),(3,.pointer (some ⟨X,0,none⟩)),(17,.slice (some ⟨bv,0,none⟩) g.nv cap),(18,.int .i64 (g.nv:Int)),(19,.int .i64 (i:Int)),(6,.pointer (some ⟨V,0,none⟩)),(44,.slice aa (g.args i).length capa),(45,.int .i64 ((g.args i).length:Int)),(46,.int .i64 (k:Int))]∧wi.ownsRow S1 3 1 s k ((nats ((g.args i).take k)).map (.int .i64))∧wi.heap[V]? =some (.cells #[.int .i64 (g.op i),.int .i64 (g.blk i:Int),s,.int .i64 (g.aux i)] 83 (0,0))∧(∀j,j<S1→j≠V→wi.heap[j]? =W.heap[j]?)∧S1≤wi.heap.size∧Below B w wi∧n=(g.args i).length - k) (g.args i).length
    ⟨0,nilS,Nat.zero_le _,Ar rfl ⟨rfl,rfl,rfl,rfl,rfl,rfl,rfl,rfl,rfl,rfl,trivial⟩,World.ownsRow_nil _ _ _ _,hN1,fun _ _ _=>rfl,Nat.le_of_eq hS1,hbW,rfl⟩ ?_
   rintro n e wi ⟨k,s,hk,⟨t,rfl⟩,hrow,hVr,hsti,hszi,hbi',rfl⟩
   refine Ae (Ac (Ab (AX rfl rfl) rfl (Af (Aa (Ae ?_)))))
   refine AI rfl rfl (fun hlk=>?_) (fun hge=>?_)
   rotate_left
   ·have hk:k=(g.args i).length:=by omega
    subst hk
    refine AK (AB (AD (AA ?_)))
    rw[List.take_length] at hrow
    exact AR ⟨s,Ar rfl ⟨rfl,rfl,rfl,rfl,rfl,rfl,rfl,trivial⟩,hrow,hVr,hsti,hszi,hbi'⟩
   have hlk:k<(g.args i).length:=by omega
   have hGi:=hG hbi'
   obtain ⟨ba,capa',e4,_,hea,_⟩:=hGi.argsE (i:=i) (k:=k) hlt hlk
   rw[haa] at e4
   injection e4 with e4 e5 e6
   subst e4
   have hx:=ham _ (Bq hlk)
   have htk:=EF hlk
   generalize (g.args i).getD k 0=x at hea hx htk
   refine Aq (Aa (Ae (Ao (Ae (Ac (Ab (x_index1 rfl rfl (An rfl) (by omega)) rfl (Ab (Ai rfl (Ag rfl) ‹_›) rfl ?_)))))))
   refine Ab Ah rfl (Af (Aa ?_))
   have hD:=hGi.drew
   have f1:=hD.vID (i:=x) hx
   have f0:wi.drew.cell? ⟨V,0+2,none⟩=some s:=Am (w:=wi.drew) hVr rfl
   have hc0:Cells [(⟨V,0+2,none⟩,s),(⟨L.vb x,0+0,none⟩,.int .i32 ((x:Int)+1))] wi.drew:=.cons f0 (.cons f1 (.nil _))
   refine AY mixed _ [(0,false),(1,false),(2,false),(3,false),(4,false),(5,false),(6,false),(7,false),(8,true),(9,true),(10,false),(11,true)] (by kernel_rfl) hc0 ?_
   have hrow:wi.drew.ownsRow S1 3 1 s k ((nats ((g.args i).take k)).map (.int .i64)):=hrow
   have hVr:wi.drew.heap[V]? =some (.cells #[.int .i64 (g.op i),.int .i64 (g.blk i:Int),s,.int .i64 (g.aux i)] 83 (0,0)):=hVr
   have hsti:∀j,j<S1→j≠V→wi.drew.heap[j]? =W.heap[j]? :=hsti
   have hszi:S1≤wi.drew.heap.size:=hszi
   have hbi':=hbi'.drew
   generalize wi.drew=We at hc0 hrow hVr hsti hszi hbi' ⊢
   have hBle:B≤We.heap.size:=by omega
   have hlow:=As hrow
   have hVx:L.vb x≠V:=by have:=h.valLt hx;omega
   refine Aj rfl (fun _ _=>Al rfl (Ak rfl)) (Aj rfl (fun _ hS=>Ai rfl (Ag rfl) (hS.get (by first|exact mm0|exact mm1|exact mm2|exact mm3|exact mm4|exact mm5|exact mm6|exact mm7))) ?_)
   refine Aj rfl (fun _ _=>Ad) (Aj rfl (fun _ _=>Au rfl) (Aj rfl (fun _ _=>Al rfl (Ak rfl)) (Aj rfl (fun _ hS=>Ai rfl (Ag rfl) (hS.get (by first|exact mm0|exact mm1|exact mm2|exact mm3|exact mm4|exact mm5|exact mm6|exact mm7))) ?_)))
   refine Aj rfl (fun _ _=>Ce (m:=(x:Int)+1) rfl (by kernel_rfl) (B2 rfl) (IntWalk.i64_in _ (by omega))) (Aj rfl (fun _ _=>CQ (c:=(x:Int)) rfl rfl (by rw[IntWalk.i64_in _ (by omega)];omega)) ?_)
   refine BK rfl (Bo rfl rfl Tryz.underlying35 (by kernel_rfl) (z:=.int .i64 0) rfl) (.inr (hc0.alloc _)) (dl_new (.cells #[.int .i64 (x:Int)] 3) B (by omega) fun W6 hN6 hO6 hZ6 hB6 hK6=>?_)
   have hc6:=hK6.cells hc0
   have hrow6:=Ax hrow (w':=W6) fun j e=>hO6 j (hlow j e).2
   refine Cd hrow6 (Am hN6 rfl) rfl (by omega) (by decide) (by omega) rfl Tryz.underlying35 Cb rfl rfl rfl ?_
   intro v7 W7 hrow7 hgr7 hwh7
   have hsV:s.ownBlock≠some V:=fun e=>by have:=hlow _ e;omega
   have hc7:=hc6.grown hgr7 (by
    intro y hy
    simp only [List.mem_cons,List.not_mem_nil,or_false] at hy
    rcases hy with rfl|rfl
    ·exact fun e=>hsV e.symm
    exact fun e=>by have:=hlow (L.vb x) e.symm;have:=h.valLt hx;omega)
   refine ⟨.inr hc7,?_⟩
   refine Aj rfl (fun _ _=>Al rfl (Ak rfl)) ?_
   have hV7:W7.heap[V]? =some (.cells #[.int .i64 (g.op i),.int .i64 (g.blk i:Int),s,.int .i64 (g.aux i)] 83 (0,0)):=by
    rw[hgr7.block V (by omega) (fun e=>hsV e.symm),hO6 V (by omega)];exact hVr
   refine BP rfl (AU rfl rfl (Bd hrow7) (AH rfl) (Am hV7 rfl) (AQ hV7)) (.inl rfl) (AP (Ap (Aa ?_)))
   have hrow8:(W7.setCell ⟨V,0+2,none⟩ v7).ownsRow S1 3 1 v7 (k+1) ((nats ((g.args i).take (k+1))).map (.int .i64)):=by
    rw[← htk,List.map_append]
    refine Ax hrow7 fun j e=>Below.heap_setCell _ _ _ _ (fun e2=>?_)
    have e2:j=V:=e2
    rcases hwh7 with e3|e3
    ·rw[e3] at e;exact hsV (e2 ▸ e)
    rw[e3] at e;have:=Option.some.inj e;omega
   have hV8:(W7.setCell ⟨V,0+2,none⟩ v7).heap[V]? =some (.cells #[.int .i64 (g.op i),.int .i64 (g.blk i:Int),v7,.int .i64 (g.aux i)] 83 (0,0)):=AC (o:=0+2) (u:=v7) hV7
   have hst8:∀j,j<S1→j≠V→(W7.setCell ⟨V,0+2,none⟩ v7).heap[j]? =W.heap[j]? :=fun j hj hne=>by
    rw[Below.heap_setCell _ _ _ _ hne,hgr7.block j (by omega) (fun e=>by have:=hlow _ e.symm;omega),hO6 j (by omega)]
    exact hsti j hj hne
   have hsz8:S1≤(W7.setCell ⟨V,0+2,none⟩ v7).heap.size:=by rw[Bp];have:=hgr7.size;omega
   have hb8:Below B w (W7.setCell ⟨V,0+2,none⟩ v7):=((hbi'.trans hB6).grown hgr7 (by omega) (fun j e=>by have:=hlow j e;omega)).setCell (by show B≤V;omega) v7
   refine Ac (Ab (x_inc rfl rfl (by omega)) rfl (Ab Ad rfl (Af ?_)))
   exact Aw ((g.args i).length - (k+1)) (by omega) ⟨k+1,v7,by omega,Ar rfl ⟨rfl,rfl,rfl,rfl,rfl,rfl,rfl,rfl,rfl,rfl,trivial⟩,hrow8,hV8,hst8,hsz8,hb8,rfl⟩
  rintro e W7 ⟨s,⟨t,rfl⟩,hrowA,hV7,hst7,hsz7,hb7⟩
  have hownA:=As hrowA
  have hA:IntsV W7 s (nats (g.args i)):=BY (l:=nats (g.args i)) (by simpa [nats] using hrowA)
  obtain ⟨pa,pc,rfl⟩:=Bx hrowA
  have hX7:W7.heap[X]? =some (.cells #[R,nilS] 62 (0,0)):=(hst7 X (by omega) (by omega)).trans hXW
  have hQ7:=hQ.stay (w':=W7) (fun j hj _ _ _=>(hst7 j (by omega) (by omega)).trans (hO1 j (by omega))) (by omega)
  have hR7:W7.cell? ⟨X,0+0,none⟩=some R:=Am hX7 rfl
  have hlenA:(nats (g.args i)).length=(g.args i).length:=by simp [nats]
  refine Ac (Ab (Al rfl (Ak rfl)) rfl (Ab (Ai rfl (Ag rfl) ‹_›) rfl ?_))
  refine Ab (A4 rfl (A0 rfl) (A3 hV7)) rfl (Ab (Gb rfl) rfl ?_)
  have hBle:B≤W7.heap.size:=by omega
  refine el_new (.cells #[.int .i64 (g.op i),.int .i64 (g.blk i:Int),.slice pa (g.args i).length pc,.int .i64 (g.aux i)] 83) B (by omega) fun W8 hN8 hO8 hZ8 hB8 hK8=>?_
  have hcell8:∀j u,(q4 (vq (gv g i)) (.slice pa (g.args i).length pc))[j]? =some u→W8.cell? ((⟨W7.heap.size,0,none⟩:Addr).add j)=some u:=fun j u hj=>by
   rw[Addr.add_lit]
   exact Am hN8 (by simpa [q4,vq,gv] using hj)
  have hQ8:=hQ7.stay (w':=W8) (fun j hj _ _ _=>hO8 j hj) (by omega)
  have hst8:∀j,j<S0→j≠X→W8.heap[j]? =W0.heap[j]? :=fun j hj hne=>(hO8 j (by omega)).trans ((hst7 j (by omega) (by omega)).trans (hstW j hj hne))
  have hb8:Below B w W8:=hb7.trans hB8
  have hLs:Loose W8 B X C R.ownBlock (.slice pa (g.args i).length pc) (vq (gv g i)).l:=
   ⟨hA.keep hK8,.inr fun j hj=>by
     have h9:=hownA j hj
     exact ⟨by omega,by omega,by omega,by omega,fun e=>by have:=hown j e;omega⟩⟩
  have hXsz:X<W8.heap.size:=by omega
  have hlen:(((List.range i).map (gv g)).map vq).length=i:=by simp
  obtain ⟨hlo,hXR,hYR,ss,hss,hrow8,hloose⟩:=hQ8
  refine Cz hrow8 hcell8 (by intro u hu;simp [q4] at hu;rcases hu with rfl|rfl|rfl|rfl <;> rfl) rfl (by rw[hlen];omega) (by decide) (by omega) Tryz.underlying59 FY rfl (by decide) rfl rfl rfl ?_
  intro v9 W9 hrow9 hgr9 hwh9
  have hX9':W9.heap[X]? =some (.cells #[R,nilS] 62 (0,0)):=by
   rw[hgr9.block X hXsz (fun e=>hXR e.symm)];exact (hO8 X (by omega)).trans hX7
  refine Ab (Al rfl (Ak rfl)) rfl (Bc (AU rfl rfl (Bd hrow9) (AH rfl) (Am hX9' rfl) (AQ hX9')) rfl (Af (Ap (Aa ?_))))
  have htk:((List.range (i+1)).map (gv g)).map vq=((List.range i).map (gv g)).map vq ++ [vq (gv g i)]:=by
   rw[List.range_succ,List.map_append,List.map_append];rfl
  have hQ9:=QRow.push (q:=vq (gv g i)) (s:=.slice pa (g.args i).length pc) hlo hXR hYR hss hloose hLs hrow9 hgr9 hwh9 hXsz (by omega) 0
  rw[← htk] at hQ9
  have hX9:(W9.setCell ⟨X,0+0,none⟩ v9).heap[X]? =some (.cells #[v9,nilS] 62 (0,0)):=AC (o:=0+0) (u:=v9) hX9'
  have hst9:∀j,j<S0→j≠X→(W9.setCell ⟨X,0+0,none⟩ v9).heap[j]? =W0.heap[j]? :=fun j hj hne=>by
   rw[Below.heap_setCell _ _ _ _ hne,hgr9.block j (by omega) (fun e=>by have:=hown j e.symm;omega)]
   exact hst8 j hj hne
  have hb9:Below B w (W9.setCell ⟨X,0+0,none⟩ v9):=(hb8.grown hgr9 (by omega) (fun j e=>by have:=hown j e;omega)).setCell (by show B≤X;omega) v9
  have hsz9:S0≤(W9.setCell ⟨X,0+0,none⟩ v9).heap.size:=by
   rw[Bp];have:=hgr9.size;omega
  refine Ac (Ab (x_inc rfl rfl (by omega)) rfl (Ab Ad rfl (Af ?_)))
  exact Aw (g.nv - (i+1)) (by omega) ⟨i+1,v9,by omega,Ar rfl ⟨rfl,rfl,rfl,rfl,rfl,rfl,trivial⟩,hQ9,hX9,hst9,hsz9,hb9,rfl⟩
 rintro e W1 ⟨R1,⟨t,rfl⟩,hQ1,hX1,hst1,hsz1,hbel1⟩
 obtain ⟨S2,hS2⟩:∃S2,S2=W1.heap.size:=⟨_,rfl⟩
 have hC1:W1.heap[C]? =some (.cells #[nilS,nilS] 62 (0,0)):=(hst1 C (by omega) (by omega)).trans hC0
 refine AW (fun e wr=>∃R,At e [(0,.pointer (some ⟨L.fb,0,none⟩)),(2,.pointer (some ⟨C,0,none⟩)),(3,.pointer (some ⟨X,0,none⟩))]∧QRow wr S2 84 B X C R (((List.range g.nb).map (gb g)).map bq)∧wr.heap[X]? =some (.cells #[R1,R] 62 (0,0))∧(∀j,j<S2→j≠X→wr.heap[j]? =W1.heap[j]?)∧S2≤wr.heap.size∧Below B w wr) ?_ ?_
 ·have g1:W1.cell? ⟨L.fb,0+1,none⟩=some (.slice a2 g.nb cap2):=by rw[← ha2];exact (hG hbel1).fBlocks
  refine Ae (Ac (Ab Ad rfl (Ab (Au rfl) rfl (Ab (Al rfl (Ak rfl)) rfl (Ab (Ai rfl (Ag rfl) ‹_›) rfl ?_)))))
  refine Ab (AN rfl (An rfl)) rfl (Ab Ad rfl (Af (Aa (Ao ?_))))
  refine EC_loop (fun n e wr=>∃(i:Nat) (R:Value),i≤g.nb∧At e [(0,.pointer (some ⟨L.fb,0,none⟩)),(2,.pointer (some ⟨C,0,none⟩)),(3,.pointer (some ⟨X,0,none⟩)),(72,.slice a2 g.nb cap2),(73,.int .i64 (g.nb:Int)),(74,.int .i64 (i:Int))]∧QRow wr S2 84 B X C R (((List.range i).map (gb g)).map bq)∧wr.heap[X]? =some (.cells #[R1,R] 62 (0,0))∧(∀j,j<S2→j≠X→wr.heap[j]? =W1.heap[j]?)∧S2≤wr.heap.size∧Below B w wr∧n=g.nb - i) g.nb
   ⟨0,nilS,Nat.zero_le _,Ar rfl ⟨rfl,rfl,rfl,rfl,rfl,rfl,trivial⟩,QRow.nil W1 S2 _ B X C (by omega),hX1,fun _ _ _=>rfl,Nat.le_of_eq hS2,hbel1,rfl⟩ ?_
  rintro n e wr ⟨i,R,hi,⟨t,rfl⟩,hQ,hXr,hst,hsz,hb,rfl⟩
  refine Ae (Ac (Ab (AX rfl rfl) rfl (Af (Aa (Ae ?_)))))
  refine AI rfl rfl (fun hlt=>?_) (fun hge=>?_)
  rotate_left
  ·have hi:i=g.nb:=by omega
   subst hi
   refine AK (AB (AD (AA ?_)))
   exact AR ⟨R,Ar rfl ⟨rfl,rfl,rfl,trivial⟩,hQ,hXr,hst,hsz,hb⟩
  have hlt:i<g.nb:=by omega
  have hGr:=hG hb
  obtain ⟨bv,cap',e1,_,hei,_⟩:=hGr.fblocksE (k:=i) hlt
  rw[ha2] at e1
  injection e1 with e1 e2 e3
  subst e1
  obtain ⟨hlk1,hlk2⟩:=ok.likely i hlt
  refine Aq (Aa (Ae (Ao (Ae (Ac (Ab (x_index1 rfl rfl (An rfl) (by omega)) rfl (Ab (Ai rfl (Ag rfl) ‹_›) rfl ?_)))))))
  refine Ab Ah rfl (Af (Aa (Ae ?_)))
  have hD:=hGr.drew
  have f1:=hD.bKind (i:=i) hlt
  have f2:=hD.bLikely (i:=i) hlt
  have hc0:Cells [(⟨L.bb i,0+1,none⟩,.int .i64 (g.kind i)),(⟨L.bb i,0+2,none⟩,.int .i8 (g.likely i))] wr.drew:=.cons f1 (.cons f2 (.nil _))
  refine AY mixed _ [(0,false),(1,false),(2,false),(3,false),(4,false),(5,false),(6,false),(7,false),(8,false),(9,false),(10,true),(11,true)] (by kernel_rfl) hc0 ?_
  have hQ:=hQ.stay (w':=wr.drew) (fun _ _ _ _ _=>rfl) (Nat.le_refl _)
  have hXr:wr.drew.heap[X]? =some (.cells #[R1,R] 62 (0,0)):=hXr
  have hst:∀j,j<S2→j≠X→wr.drew.heap[j]? =W1.heap[j]? :=hst
  have hb:=hb.drew
  have hsz:S2≤wr.drew.heap.size:=hsz
  generalize wr.drew=Wd at hc0 hQ hXr hst hb hsz ⊢
  refine Aj rfl (fun _ _=>Ad) (Aj rfl (fun _ _=>Au rfl) (Aj rfl (fun _ _=>Al rfl (Ak rfl)) (Aj rfl (fun _ hS=>Ai rfl (Ag rfl) (hS.get (by first|exact mm0|exact mm1|exact mm2|exact mm3|exact mm4|exact mm5|exact mm6|exact mm7))) ?_)))
  refine Aj rfl (fun _ _=>Ad) (Aj rfl (fun _ _=>Au rfl) (Aj rfl (fun _ _=>Al rfl (Ak rfl)) (Aj rfl (fun _ hS=>Ai rfl (Ag rfl) (hS.get (by first|exact mm0|exact mm1|exact mm2|exact mm3|exact mm4|exact mm5|exact mm6|exact mm7))) ?_)))
  refine Aj rfl (fun _ _=>Ce (m:=g.likely i) rfl (by kernel_rfl) (B2 rfl) (IntWalk.i64_in _ (by omega))) (Aj rfl (fun _ _=>G5 rfl rfl rfl) (BK rfl (A9 DP) (.inr (hc0.alloc _)) (BP rfl (Bb rfl rfl (A7 rfl) rfl rfl) (.inl rfl) (AP (Aa ?_)))))
  have hBle:B≤Wd.heap.size:=by have:=hb.size;omega
  refine ec_new (.cells #[.int .i64 (g.kind i),.int .i64 (-1),nilS,.int .i64 (g.likely i)] 84) B (by omega) fun W hN1 hO1 hZ1 hB1 hK1=>?_
  have hbW:Below B w W:=hb.trans hB1
  have hXlt:X<Wd.heap.size:=(Array.getElem?_eq_some_iff.1 hXr).1
  have hClt:C<Wd.heap.size:=by have:=(Array.getElem?_eq_some_iff.1 hC1).1;omega
  have hXW:W.heap[X]? =some (.cells #[R1,R] 62 (0,0)):=(hO1 X hXlt).trans hXr
  have hstW:∀j,j<S2→j≠X→W.heap[j]? =W1.heap[j]? :=fun j hj hne=>(hO1 j (by omega)).trans (hst j hj hne)
  obtain ⟨V,hV⟩:∃V,V=Wd.heap.size:=⟨_,rfl⟩
  rw[← hV] at hN1 ⊢
  obtain ⟨S1,hS1⟩:∃S1,S1=W.heap.size:=⟨_,rfl⟩
  obtain ⟨hal,ham⟩:=ok.succs i hlt
  have hown:∀j,R.ownBlock=some j→S2≤j∧j<Wd.heap.size:=by
   obtain ⟨_,_,_,ss,hss,hrow,_⟩:=hQ
   exact As hrow
  obtain ⟨ac,capc,hac⟩:=h.ctrlV (i:=i) hlt
  refine AW (fun e wi=>At e [(0,.pointer (some ⟨L.fb,0,none⟩)),(2,.pointer (some ⟨C,0,none⟩)),(3,.pointer (some ⟨X,0,none⟩)),(72,.slice (some ⟨bv,0,none⟩) g.nb cap2),(73,.int .i64 (g.nb:Int)),(74,.int .i64 (i:Int)),(10,L.bp i),(11,.pointer (some ⟨V,0,none⟩))]∧wi.heap[V]? =some (.cells #[.int .i64 (g.kind i),.int .i64 (ctl (g.ctrl i)),nilS,.int .i64 (g.likely i)] 84 (0,0))∧(∀j,j≠V→wi.heap[j]? =W.heap[j]?)∧wi.heap.size=W.heap.size∧Below B w wi) ?_ ?_
  ·have g2:W.cell? ⟨L.bb i,0+6,none⟩=some (.slice ac (g.ctrl i).length capc):=by rw[← hac];exact (hG hbW).bCtrl hlt
   refine Ae (Ac (Ab Ad rfl (Ab (Au rfl) rfl (Ab (Al rfl (Ak rfl)) rfl (Ab (Ai rfl (Ag rfl) ‹_›) rfl ?_)))))
   refine Ab (AN rfl (An rfl)) rfl (Ab (BE rfl rfl) rfl (Af (Aa ?_)))
   refine AI rfl rfl (fun hpos=>?_) (fun hneg=>?_)
   rotate_left
   ·have hneg:¬ 0<(g.ctrl i).length:=by have:¬ (0:Int)<((g.ctrl i).length:Int):=hneg;omega
    have hctl:ctl (g.ctrl i)= -1:=by
     cases hcc:g.ctrl i with
     |nil=>rfl
     |cons c l=>rw[hcc] at hneg;simp at hneg
    refine Aq ?_
    exact AR ⟨Ar rfl ⟨rfl,rfl,rfl,rfl,rfl,rfl,rfl,rfl,trivial⟩,by rw[hctl];exact hN1,fun j hne=>rfl,rfl,hbW⟩
   have hpos:0<(g.ctrl i).length:=by have:(0:Int)<((g.ctrl i).length:Int):=hpos;omega
   have hGW:=hG hbW
   obtain ⟨ba,capa',e4,_,hea,_⟩:=hGW.ctrlE (i:=i) (k:=0) hlt hpos
   rw[hac] at e4
   injection e4 with e4 e5 e6
   subst e4
   have hx:=ok.ctrl i hlt _ (Bq hpos)
   have hctl:ctl (g.ctrl i)=(((g.ctrl i).getD 0 0:Nat):Int):=by
    cases hcc:g.ctrl i with
    |nil=>rw[hcc] at hpos;simp at hpos
    |cons c l=>rfl
   generalize (g.ctrl i).getD 0 0=x at hea hx hctl
   have f3:=hGW.vID (i:=x) hx
   have f4:W.cell? ⟨V,0+1,none⟩=some (.int .i64 (-1)):=Am hN1 rfl
   refine Ac (Ab Ad rfl (Ab (Au rfl) rfl (Ab (Al rfl (Ak rfl)) rfl (Ab (Ai rfl (Ag rfl) ‹_›) rfl ?_))))
   refine Ab (x_index1 rfl rfl (An rfl) (by omega)) rfl (Ab (Ai rfl (Ag rfl) ‹_›) rfl ?_)
   refine Ab (Au rfl) rfl (Ab (Al rfl (Ak rfl)) rfl (Ab (Ai rfl (Ag rfl) ‹_›) rfl ?_))
   refine Ab (Ce (m:=(x:Int)+1) rfl (by kernel_rfl) (B2 rfl) (IntWalk.i64_in _ (by omega))) rfl (Ab (CQ (c:=(x:Int)) rfl rfl (by rw[IntWalk.i64_in _ (by omega)];omega)) rfl ?_)
   refine Ab (Al rfl (Ak rfl)) rfl (Bc (AU rfl rfl rfl (AH rfl) f4 (AQ hN1)) rfl (Af ?_))
   have hV1:=AC (o:=0+1) (u:=.int .i64 (x:Int)) hN1
   rw[← hctl] at hV1 ⊢
   exact AR ⟨Ar rfl ⟨rfl,rfl,rfl,rfl,rfl,rfl,rfl,rfl,trivial⟩,hV1,fun j hne=>Below.heap_setCell _ _ _ _ hne,Bp _ _,hbW.setCell (by show B≤V;omega) _⟩
  rintro e W5 ⟨⟨t,rfl⟩,hN5,hst5,hsz5,hb5⟩
  obtain ⟨aa,capa,haa⟩:=h.succsV (i:=i) hlt
  refine AW (fun e wi=>∃s,At e [(0,.pointer (some ⟨L.fb,0,none⟩)),(2,.pointer (some ⟨C,0,none⟩)),(3,.pointer (some ⟨X,0,none⟩)),(72,.slice (some ⟨bv,0,none⟩) g.nb cap2),(73,.int .i64 (g.nb:Int)),(74,.int .i64 (i:Int)),(10,L.bp i),(11,.pointer (some ⟨V,0,none⟩))]∧wi.ownsRow S1 3 1 s (g.succs i).length ((nats (g.succs i)).map (.int .i64))∧wi.heap[V]? =some (.cells #[.int .i64 (g.kind i),.int .i64 (ctl (g.ctrl i)),s,.int .i64 (g.likely i)] 84 (0,0))∧(∀j,j<S1→j≠V→wi.heap[j]? =W.heap[j]?)∧S1≤wi.heap.size∧Below B w wi) ?_ ?_
  ·have g2:W5.cell? ⟨L.bb i,0+3,none⟩=some (.slice aa (g.succs i).length capa):=by rw[← haa];exact (hG hb5).bSuccs hlt
   refine Ae (Ac (Ab Ad rfl (Ab (Au rfl) rfl (Ab (Al rfl (Ak rfl)) rfl (Ab (Ai rfl (Ag rfl) ‹_›) rfl ?_)))))
   refine Ab (AN rfl (An rfl)) rfl (Ab Ad rfl (Af (Aa (Ao ?_))))
   refine EC_loop (fun n e wi=>∃(k:Nat) (s:Value),k≤(g.succs i).length∧At e [(0,.pointer (some ⟨L.fb,0,none⟩)),(2,.pointer (some ⟨C,0,none⟩)),(3,.pointer (some ⟨X,0,none⟩)),(72,.slice (some ⟨bv,0,none⟩) g.nb cap2),(73,.int .i64 (g.nb:Int)),(74,.int .i64 (i:Int)),(10,L.bp i),(11,.pointer (some ⟨V,0,none⟩)),(109,.slice aa (g.succs i).length capa),(110,.int .i64 ((g.succs i).length:Int)),(111,.int .i64 (k:Int))]∧wi.ownsRow S1 3 1 s k ((nats ((g.succs i).take k)).map (.int .i64))∧wi.heap[V]? =some (.cells #[.int .i64 (g.kind i),.int .i64 (ctl (g.ctrl i)),s,.int .i64 (g.likely i)] 84 (0,0))∧(∀j,j<S1→j≠V→wi.heap[j]? =W.heap[j]?)∧S1≤wi.heap.size∧Below B w wi∧n=(g.succs i).length - k) (g.succs i).length
    ⟨0,nilS,Nat.zero_le _,Ar rfl ⟨rfl,rfl,rfl,rfl,rfl,rfl,rfl,rfl,rfl,rfl,rfl,trivial⟩,World.ownsRow_nil _ _ _ _,hN5,fun j _ hne=>hst5 j hne,by omega,hb5,rfl⟩ ?_
   rintro n e wi ⟨k,s,hk,⟨t,rfl⟩,hrow,hVr,hsti,hszi,hbi',rfl⟩
   refine Ae (Ac (Ab (AX rfl rfl) rfl (Af (Aa (Ae ?_)))))
   refine AI rfl rfl (fun hlk=>?_) (fun hge=>?_)
   rotate_left
   ·have hk:k=(g.succs i).length:=by omega
    subst hk
    refine AK (AB (AD (AA ?_)))
    rw[List.take_length] at hrow
    exact AR ⟨s,Ar rfl ⟨rfl,rfl,rfl,rfl,rfl,rfl,rfl,rfl,trivial⟩,hrow,hVr,hsti,hszi,hbi'⟩
   have hlk:k<(g.succs i).length:=by omega
   have hGi:=hG hbi'
   obtain ⟨ba,capa',e4,_,hea,_⟩:=hGi.succsE (i:=i) (k:=k) hlt hlk
   rw[haa] at e4
   injection e4 with e4 e5 e6
   subst e4
   have hx:=ham _ (Bq hlk)
   have htk:=EF hlk
   generalize (g.succs i).getD k 0=x at hea hx htk
   refine Aq (Aa (Ae (Ao (Ae (Ac (Ab (x_index1 rfl rfl (An rfl) (by omega)) rfl ?_))))))
   refine Ab (A4 (cs:=[L.bp x]) rfl (A0 rfl) (fun j v hj=>by
    cases j with
    |zero=>simp at hj;subst hj;exact hea
    |succ j=>simp at hj)) rfl ?_
   refine Ab (A9 Dz) rfl (Bc (Bb rfl rfl (A7 rfl) rfl rfl) rfl (Af (Aa ?_)))
   have hlow:=As hrow
   have hVlt:V<wi.heap.size:=(Array.getElem?_eq_some_iff.1 hVr).1
   have hBle:B≤wi.heap.size:=by omega
   refine ec_new (.cells #[L.bp x] 103) B (by omega) fun Wf hN2 hO2 hZ2 hB2 hK2=>?_
   have hbf:Below B w Wf:=hbi'.trans hB2
   have hrow:=Ax hrow (w':=Wf) fun j e=>hO2 j (hlow j e).2
   have hVr:=(hO2 V hVlt).trans hVr
   have hsti:∀j,j<S1→j≠V→Wf.heap[j]? =W.heap[j]? :=fun j hj hne=>(hO2 j (by omega)).trans (hsti j hj hne)
   obtain ⟨E,hE⟩:∃E,E=wi.heap.size:=⟨_,rfl⟩
   rw[← hE] at hN2 ⊢
   have hD:=(hG hbf).drew
   have f1:=hD.bID (i:=x) hx
   have f0:Wf.drew.cell? ⟨V,0+2,none⟩=some s:=Am (w:=Wf.drew) hVr rfl
   have f2:Wf.drew.cell? ⟨E,0+0,none⟩=some (L.bp x):=Am (w:=Wf.drew) hN2 rfl
   have hc0:Cells [(⟨V,0+2,none⟩,s),(⟨E,0+0,none⟩,L.bp x),(⟨L.bb x,0+0,none⟩,.int .i32 ((x:Int)+1))] Wf.drew:=.cons f0 (.cons f2 (.cons f1 (.nil _)))
   refine AY mixed _ [(0,false),(1,false),(2,false),(3,false),(4,false),(5,false),(6,false),(7,false),(8,false),(9,true),(10,true),(11,false),(12,true)] (by kernel_rfl) hc0 ?_
   have hrow:Wf.drew.ownsRow S1 3 1 s k ((nats ((g.succs i).take k)).map (.int .i64)):=hrow
   have hVr:Wf.drew.heap[V]? =some (.cells #[.int .i64 (g.kind i),.int .i64 (ctl (g.ctrl i)),s,.int .i64 (g.likely i)] 84 (0,0)):=hVr
   have hsti:∀j,j<S1→j≠V→Wf.drew.heap[j]? =W.heap[j]? :=hsti
   have hszf:wi.heap.size+1=Wf.drew.heap.size:=hZ2.symm
   have hbi':=hbf.drew
   generalize Wf.drew=We at hc0 hrow hVr hsti hszf hbi' ⊢
   have hBle:B≤We.heap.size:=by omega
   refine Aj rfl (fun _ _=>Al rfl (Ak rfl)) (Aj rfl (fun _ hS=>Ai rfl (Ag rfl) (hS.get (by first|exact mm0|exact mm1|exact mm2|exact mm3|exact mm4|exact mm5|exact mm6|exact mm7))) ?_)
   refine Aj rfl (fun _ _=>Al rfl (Ak rfl)) (Aj rfl (fun _ hS=>Ai rfl (Ag rfl) (hS.get (by first|exact mm0|exact mm1|exact mm2|exact mm3|exact mm4|exact mm5|exact mm6|exact mm7))) ?_)
   refine Aj rfl (fun _ _=>Au rfl) (Aj rfl (fun _ _=>Al rfl (Ak rfl)) (Aj rfl (fun _ hS=>Ai rfl (Ag rfl) (hS.get (by first|exact mm0|exact mm1|exact mm2|exact mm3|exact mm4|exact mm5|exact mm6|exact mm7))) ?_))
   refine Aj rfl (fun _ _=>Ce (m:=(x:Int)+1) rfl (by kernel_rfl) (B2 rfl) (IntWalk.i64_in _ (by omega))) (Aj rfl (fun _ _=>CQ (c:=(x:Int)) rfl rfl (by rw[IntWalk.i64_in _ (by omega)];omega)) ?_)
   refine BK rfl (Bo rfl rfl Tryz.underlying35 (by kernel_rfl) (z:=.int .i64 0) rfl) (.inr (hc0.alloc _)) (dl_new (.cells #[.int .i64 (x:Int)] 3) B (by omega) fun W6 hN6 hO6 hZ6 hB6 hK6=>?_)
   have hc6:=hK6.cells hc0
   have hrow6:=Ax hrow (w':=W6) fun j e=>hO6 j (by have:=hlow j e;omega)
   refine Cd hrow6 (Am hN6 rfl) rfl (by omega) (by decide) (by omega) rfl Tryz.underlying35 Cb rfl rfl rfl ?_
   intro v7 W7 hrow7 hgr7 hwh7
   have hsV:s.ownBlock≠some V:=fun e=>by have:=hlow _ e;omega
   have hc7:=hc6.grown hgr7 (by
    intro y hy
    simp only [List.mem_cons,List.not_mem_nil,or_false] at hy
    rcases hy with rfl|rfl|rfl
    ·exact fun e=>hsV e.symm
    ·exact fun e=>by have:=hlow E e.symm;omega
    exact fun e=>by have:=hlow (L.bb x) e.symm;have:=h.blkLt hx;omega)
   refine ⟨.inr hc7,?_⟩
   refine Aj rfl (fun _ _=>Al rfl (Ak rfl)) ?_
   have hV7:W7.heap[V]? =some (.cells #[.int .i64 (g.kind i),.int .i64 (ctl (g.ctrl i)),s,.int .i64 (g.likely i)] 84 (0,0)):=by
    rw[hgr7.block V (by omega) (fun e=>hsV e.symm),hO6 V (by omega)];exact hVr
   refine BP rfl (AU rfl rfl (Bd hrow7) (AH rfl) (Am hV7 rfl) (AQ hV7)) (.inl rfl) (AP (Ap (Aa ?_)))
   have hrow8:(W7.setCell ⟨V,0+2,none⟩ v7).ownsRow S1 3 1 v7 (k+1) ((nats ((g.succs i).take (k+1))).map (.int .i64)):=by
    rw[← htk,List.map_append]
    refine Ax hrow7 fun j e=>Below.heap_setCell _ _ _ _ (fun e2=>?_)
    have e2:j=V:=e2
    rcases hwh7 with e3|e3
    ·rw[e3] at e;exact hsV (e2 ▸ e)
    rw[e3] at e;have:=Option.some.inj e;omega
   have hV8:(W7.setCell ⟨V,0+2,none⟩ v7).heap[V]? =some (.cells #[.int .i64 (g.kind i),.int .i64 (ctl (g.ctrl i)),v7,.int .i64 (g.likely i)] 84 (0,0)):=AC (o:=0+2) (u:=v7) hV7
   have hst8:∀j,j<S1→j≠V→(W7.setCell ⟨V,0+2,none⟩ v7).heap[j]? =W.heap[j]? :=fun j hj hne=>by
    rw[Below.heap_setCell _ _ _ _ hne,hgr7.block j (by omega) (fun e=>by have:=hlow _ e.symm;omega),hO6 j (by omega)]
    exact hsti j hj hne
   have hsz8:S1≤(W7.setCell ⟨V,0+2,none⟩ v7).heap.size:=by rw[Bp];have:=hgr7.size;omega
   have hb8:Below B w (W7.setCell ⟨V,0+2,none⟩ v7):=((hbi'.trans hB6).grown hgr7 (by omega) (fun j e=>by have:=hlow j e;omega)).setCell (by show B≤V;omega) v7
   refine Ac (Ab (x_inc rfl rfl (by omega)) rfl (Ab Ad rfl (Af ?_)))
   exact Aw ((g.succs i).length - (k+1)) (by omega) ⟨k+1,v7,by omega,Ar rfl ⟨rfl,rfl,rfl,rfl,rfl,rfl,rfl,rfl,rfl,rfl,rfl,trivial⟩,hrow8,hV8,hst8,hsz8,hb8,rfl⟩
  rintro e W7 ⟨s,⟨t,rfl⟩,hrowA,hV7,hst7,hsz7,hb7⟩
  have hownA:=As hrowA
  have hA:IntsV W7 s (nats (g.succs i)):=BY (l:=nats (g.succs i)) (by simpa [nats] using hrowA)
  obtain ⟨pa,pc,rfl⟩:=Bx hrowA
  have hX7:W7.heap[X]? =some (.cells #[R1,R] 62 (0,0)):=(hst7 X (by omega) (by omega)).trans hXW
  have hQ7:=hQ.stay (w':=W7) (fun j hj _ _ _=>(hst7 j (by omega) (by omega)).trans (hO1 j (by omega))) (by omega)
  have hR7:W7.cell? ⟨X,0+1,none⟩=some R:=Am hX7 rfl
  refine Ac (Ab (Al rfl (Ak rfl)) rfl (Ab (Ai rfl (Ag rfl) ‹_›) rfl ?_))
  refine Ab (A4 rfl (A0 rfl) (A3 hV7)) rfl (Ab (FN rfl) rfl ?_)
  have hBle:B≤W7.heap.size:=by omega
  refine el_new (.cells #[.int .i64 (g.kind i),.int .i64 (ctl (g.ctrl i)),.slice pa (g.succs i).length pc,.int .i64 (g.likely i)] 84) B (by omega) fun W8 hN8 hO8 hZ8 hB8 hK8=>?_
  have hcell8:∀j u,(q4 (bq (gb g i)) (.slice pa (g.succs i).length pc))[j]? =some u→W8.cell? ((⟨W7.heap.size,0,none⟩:Addr).add j)=some u:=fun j u hj=>by
   rw[Addr.add_lit]
   exact Am hN8 (by simpa [q4,bq,gb] using hj)
  have hQ8:=hQ7.stay (w':=W8) (fun j hj _ _ _=>hO8 j hj) (by omega)
  have hst8:∀j,j<S2→j≠X→W8.heap[j]? =W1.heap[j]? :=fun j hj hne=>(hO8 j (by omega)).trans ((hst7 j (by omega) (by omega)).trans (hstW j hj hne))
  have hb8:Below B w W8:=hb7.trans hB8
  have hLs:Loose W8 B X C R.ownBlock (.slice pa (g.succs i).length pc) (bq (gb g i)).l:=
   ⟨hA.keep hK8,.inr fun j hj=>by
     have h9:=hownA j hj
     exact ⟨by omega,by omega,by omega,by omega,fun e=>by have:=hown j e;omega⟩⟩
  have hXsz:X<W8.heap.size:=by omega
  have hlen:(((List.range i).map (gb g)).map bq).length=i:=by simp
  obtain ⟨hlo,hXR,hYR,ss,hss,hrow8,hloose⟩:=hQ8
  refine Cz hrow8 hcell8 (by intro u hu;simp [q4] at hu;rcases hu with rfl|rfl|rfl|rfl <;> rfl) rfl (by rw[hlen];omega) (by decide) (by omega) Tryz.underlying60 F8 rfl (by decide) rfl rfl rfl ?_
  intro v9 W9 hrow9 hgr9 hwh9
  have hX9':W9.heap[X]? =some (.cells #[R1,R] 62 (0,0)):=by
   rw[hgr9.block X hXsz (fun e=>hXR e.symm)];exact (hO8 X (by omega)).trans hX7
  refine Ab (Al rfl (Ak rfl)) rfl (Bc (AU rfl rfl (Bd hrow9) (AH rfl) (Am hX9' rfl) (AQ hX9')) rfl (Af (Ap (Aa ?_))))
  have htk:((List.range (i+1)).map (gb g)).map bq=((List.range i).map (gb g)).map bq ++ [bq (gb g i)]:=by
   rw[List.range_succ,List.map_append,List.map_append];rfl
  have hQ9:=QRow.push (q:=bq (gb g i)) (s:=.slice pa (g.succs i).length pc) hlo hXR hYR hss hloose hLs hrow9 hgr9 hwh9 hXsz (by omega) 1
  rw[← htk] at hQ9
  have hX9:(W9.setCell ⟨X,0+1,none⟩ v9).heap[X]? =some (.cells #[R1,v9] 62 (0,0)):=AC (o:=0+1) (u:=v9) hX9'
  have hst9:∀j,j<S2→j≠X→(W9.setCell ⟨X,0+1,none⟩ v9).heap[j]? =W1.heap[j]? :=fun j hj hne=>by
   rw[Below.heap_setCell _ _ _ _ hne,hgr9.block j (by omega) (fun e=>by have:=hown j e.symm;omega)]
   exact hst8 j hj hne
  have hb9:Below B w (W9.setCell ⟨X,0+1,none⟩ v9):=(hb8.grown hgr9 (by omega) (fun j e=>by have:=hown j e;omega)).setCell (by show B≤X;omega) v9
  have hsz9:S2≤(W9.setCell ⟨X,0+1,none⟩ v9).heap.size:=by
   rw[Bp];have:=hgr9.size;omega
  refine Ac (Ab (x_inc rfl rfl (by omega)) rfl (Ab Ad rfl (Af ?_)))
  exact Aw (g.nb - (i+1)) (by omega) ⟨i+1,v9,by omega,Ar rfl ⟨rfl,rfl,rfl,rfl,rfl,rfl,trivial⟩,hQ9,hX9,hst9,hsz9,hb9,rfl⟩
 rintro e W2 ⟨R2,⟨t,rfl⟩,hQ2,hX2,hst2,hsz2,hbel2⟩
 have hC2:W2.heap[C]? =some (.cells #[nilS,nilS] 62 (0,0)):=(hst2 C (by omega) (by omega)).trans hC1
 refine Ae (Ac (Ab (A4 (cs:=[R1,R2]) rfl (A0 rfl) (A3 hX2)) rfl ?_))
 refine Bc (Cy (cs:=#[R1,R2]) rfl rfl hC2 (A7 rfl) rfl ?_) rfl ?_
 ·obtain ⟨_,_,_,_,_,h1,_⟩:=hQ1
  obtain ⟨_,_,_,_,_,h2,_⟩:=hQ2
  simp [Bd h1,Bd h2]
 refine Af (Aa ?_)
 have hgC:(W2.setRow C #[R1,R2]).heap[C]? =some (.cells #[R1,R2] 62 (0,0)):=setRow_heap _ _ _ _ _ _ hC2
 have hoC:∀j,j≠C→(W2.setRow C #[R1,R2]).heap[j]? =W2.heap[j]? :=fun j hj=>setRow_other _ _ _ _ hj
 have hszC:W2.heap.size≤(W2.setRow C #[R1,R2]).heap.size:=by simp [World.setRow]
 have hOwn:Own B (W2.setRow C #[R1,R2]) (.agg #[R1,R2]) (toF g):=fun w'' hw hs=>
  ⟨R1,R2,rfl,(hQ1.stay (w':=w'') (fun j hj hlo hne hnc=>(hw j hlo (by omega)).trans ((hoC j hnc).trans (hst2 j (by omega) hne))) (by omega)).vals,
    (hQ2.stay (w':=w'') (fun j hj hlo hne hnc=>(hw j hlo (by omega)).trans (hoC j hnc)) (by omega)).blks⟩
 have hbF:Below B w (W2.setRow C #[R1,R2]):=below_setRow' hbel2 (by omega) _
 refine AE ?_
 exact CD rfl rfl rfl rfl (BG (cs:=[R1,R2]) (A0 rfl) (A3 hgC)) (by rw[← hBd];exact ⟨hOwn,hbF⟩)
end Go.Proofs.YteepnepebilckaaGreatDoor
namespace Go.Proofs.YteepnepebilckaaGreatDoor
open Go Go.Eng Go.RowKit
def cellsOf (R:Nat→Value) (n:Nat):Array Value:=((List.range n).map R).toArray
theorem Bf (R:Nat→Value) {n i:Nat} (h:i<n):(cellsOf R n)[i]? =some (R i):=by
 simp [cellsOf,List.getElem?_range h]
theorem Cl (R:Nat→Value) (n:Nat):(cellsOf R n).size=n:=by simp [cellsOf]
theorem cellsOf_set (R:Nat→Value) (n s:Nat) (v:Value):(cellsOf R n).setIfInBounds s v=cellsOf (fun x=>if x=s then v else R x) n:=by
 apply Array.ext_getElem?
 intro i
 rw[Array.getElem?_setIfInBounds,Cl]
 by_cases hi:i<n
 ·rw[Bf _ hi,Bf _ hi]
  by_cases e:s=i
  ·subst e;simp [hi]
  rw[if_neg e]
  have:¬ i=s:=fun h=>e h.symm
  simp [this]
 have h1:(cellsOf R n)[i]? =none:=by rw[Array.getElem?_eq_none];rw[Cl];omega
 have h2:(cellsOf (fun x=>if x=s then v else R x) n)[i]? =none:=by rw[Array.getElem?_eq_none];rw[Cl];omega
 rw[h1,h2]
 split
 ·rw[if_neg (by omega)]
 rfl
theorem Dk (z:Value) (n:Nat):madeCells #[z] n=cellsOf (fun _=>z) n:=by
 simp [madeCells,cellsOf]
 apply Array.ext
 ·simp
 intro i h1 h2
 simp [Nat.mod_one]
structure Rows (w:World) (base:Nat) (R:Nat→Value) (n:Nat) (L:Nat→List Nat):Prop where
 row:∀b,b<n→w.ownsRow base 3 1 (R b) (L b).length ((nats (L b)).map (.int .i64))
 off:∀b c,b<n→c<n→b≠c→∀k,(R b).ownBlock=some k→(R c).ownBlock≠some k
theorem Rows.stay {w w':World} {base:Nat} {R:Nat→Value} {n:Nat} {L:Nat→List Nat} (h:Rows w base R n L) (hk:∀k,base≤k→k<w.heap.size→w'.heap[k]? =w.heap[k]?):Rows w' base R n L:=
 ⟨fun b hb=>Ax (h.row b hb) fun k e=>hk k (As (h.row b hb) k e).1 (As (h.row b hb) k e).2,h.off⟩
theorem Rows.push {w w':World} {base:Nat} {R:Nat→Value} {n:Nat} {L:Nat→List Nat} (h:Rows w base R n L) {s:Nat} (hs:s<n) {v':Value} {x:Nat} {g o:Nat} (hg:g<base)
 (hrow:w'.ownsRow base 3 1 v' ((L s).length+1) ((nats (L s)).map (.int .i64) ++ [.int .i64 (x:Int)])) (hgr:w.grownBy w' (R s).ownBlock) (hwh:v'.ownBlock=(R s).ownBlock∨v'.ownBlock=some w.heap.size):
 Rows (w'.setCell ⟨g,o,none⟩ v') base (fun b=>if b=s then v' else R b) n (fun b=>if b=s then L s ++ [x] else L b):=by
 refine ⟨fun b hb=>?_,fun b c hb hc hne k hk=>?_⟩
 ·show World.ownsRow _ _ _ _ (if b=s then v' else R b) (if b=s then L s ++ [x] else L b).length ((nats (if b=s then L s ++ [x] else L b)).map (.int .i64))
  by_cases e:b=s
  ·rw[if_pos e,if_pos e,List.length_append]
   have:nats (L s ++ [x])=nats (L s) ++ [(x:Int)]:=by simp [nats]
   rw[this,List.map_append]
   exact Ax hrow fun k e2=>Below.heap_setCell _ _ _ _ (by have:=(As hrow k e2).1;show k≠g;omega)
  rw[if_neg e,if_neg e]
  refine Ax (h.row b hb) fun k e2=>?_
  have hlt:=As (h.row b hb) k e2
  rw[Below.heap_setCell _ _ _ _ (by show k≠g;omega),hgr.block k hlt.2 (fun e3=>h.off b s hb hs e k e2 e3.symm)]
 have new:∀c,c<n→c≠s→(R c).ownBlock≠v'.ownBlock∨v'.ownBlock=none:=fun c hc hne=>by
  rcases hwh with e|e
  ·cases hv:v'.ownBlock with
   |none=>exact .inr rfl
   |some k=>
    left
    rw[hv] at e
    exact fun e2=>h.off c s hc hs hne k (e2.trans rfl) e.symm
  left
  rw[e]
  intro e2
  have:=(As (h.row c hc) _ e2).2
  omega
 have hk:(if b=s then v' else R b).ownBlock=some k:=hk
 show (if c=s then v' else R c).ownBlock≠some k
 by_cases e:b=s
 ·rw[if_pos e] at hk
  rw[if_neg (fun e2=>hne (e.trans e2.symm))]
  rcases new c hc (fun e2=>hne (e.trans e2.symm)) with h1|h1
  ·rw[← hk];exact h1
  rw[h1] at hk;cases hk
 rw[if_neg e] at hk
 by_cases e2:c=s
 ·rw[if_pos e2]
  rcases new b hb e with h1|h1
  ·rw[← hk];exact fun e3=>h1 e3.symm
  rw[h1];simp
 rw[if_neg e2];exact h.off b c hb hc hne k hk
theorem predsTo_len' (f:Fn) (sh:Shp f) (i k b:Nat) (hi:i<f.blks.length):(predsTo f i k b).length≤2 * i+2:=by
 have h1:∀m,m≤i→((List.range m).flatMap fun x=>((f.b x).succs.filter fun s=>s == (b:Int)).map fun _=>x).length≤2 * m:=by
  intro m
  induction m with
  |zero=>intro _;simp
  |succ m ih=>
   intro hm
   rw[List.range_succ,List.flatMap_append,List.length_append]
   have h2:=ih (by omega)
   have h3:=(sh.succs m (by omega)).1
   have h4:(((f.b m).succs.filter fun s=>s == (b:Int)).map fun _=>m).length≤(f.b m).succs.length:=by
    rw[List.length_map];exact List.length_filter_le _ _
   simp only [List.flatMap_cons,List.flatMap_nil,List.append_nil]
   omega
 have h2:=h1 i (Nat.le_refl _)
 have h3:=(sh.succs i hi).1
 have h4:((((f.b i).succs.take k).filter fun s=>s == (b:Int)).map fun _=>i).length≤(f.b i).succs.length:=by
  rw[List.length_map]
  refine Nat.le_trans (List.length_filter_le _ _) ?_
  rw[List.length_take];omega
 unfold predsTo
 rw[List.length_append]
 omega
set_option maxHeartbeats 4000000
attribute [local irreducible] EC EL DL Ret thenQ blockQ Bi bodyQ onlyN execOp Sem.run World.cell? World.frozen? World.setCell World.alloc
theorem Preds_ret {w:World} {x:Value} {f:Fn} (hx:FnV w x f) (sh:Shp f):
 Ret Tryz.prog 25 #[x] w fun v w'=>∃G R,v= .slice (some ⟨G,0,none⟩) f.blks.length f.blks.length∧w'.heap[G]? =some (.cells (cellsOf R f.blks.length) 35 (0,0))∧
  (∀b,b<f.blks.length→IntsV w' (R b) (nats (predsOf f b)))∧Below w.heap.size w w':=by
 obtain ⟨xv,xb,rfl,hvals,hblks⟩:=hx
 refine ret_of_EC Tryz.func25 rfl rfl ?_
 obtain ⟨ab,cb,rfl,hbl⟩:=hblks
 obtain ⟨B,hBd⟩:∃B,B=w.heap.size:=⟨_,rfl⟩
 have hnb:=sh.nb
 have hone:=sh.one
 refine Ae (Ac (Ab (Bv (v:=.agg #[xv,.slice ab f.blks.length cb]) rfl) rfl (el_new (.cells #[xv,.slice ab f.blks.length cb] 30) B (by omega) fun wa hN1 hO1 hZ1 hB1 hK1=>(Ab Ah rfl (Af (Aa ?_))))))
 obtain ⟨b1,hb1⟩:∃b1,b1=w.heap.size:=⟨_,rfl⟩
 rw[← hb1] at hN1 ⊢
 have g1:wa.cell? ⟨b1,0+1,none⟩=some (.slice ab f.blks.length cb):=Am hN1 rfl
 refine Ae (Ac (Ab (Al rfl (Ak rfl)) rfl (Ab (Ai rfl (Ag rfl) ‹_›) rfl ?_)))
 refine Ab (AN rfl (An rfl)) rfl (Ab (C2 Tryz.underlying33 FO rfl rfl rfl (by omega) (by omega)) rfl ?_)
 rw[Dk]
 have hBle:B≤wa.heap.size:=by omega
 refine el_new (.cells (cellsOf (fun _=>.slice none 0 0) f.blks.length) 35) B (by omega) fun wb hN2 hO2 hZ2 hB2 hK2=>?_
 obtain ⟨G,hG⟩:∃G,G=wa.heap.size:=⟨_,rfl⟩
 rw[← hG] at hN2 ⊢
 refine Ab Ah rfl (Af (Aa ?_))
 have hbelB:Below B w wb:=hB1.trans hB2
 have hbx:wb.heap[b1]? =some (.cells #[xv,.slice ab f.blks.length cb] 30 (0,0)):=(hO2 _ (by omega)).trans hN1
 have g2:wb.cell? ⟨b1,0+1,none⟩=some (.slice ab f.blks.length cb):=Am hbx rfl
 have hR0:Rows wb (G+1) (fun _=>.slice none 0 0) f.blks.length (predsTo f 0 0):=by
  have:predsTo f 0 0=fun _=>[]:=by funext b;simp [predsTo]
  rw[this]
  exact ⟨fun _ _=>World.ownsRow_nil _ _ _ _,fun _ _ _ _ _ k hk=>by cases hk⟩
 refine AW (fun e wr=>∃R,At e [(3,.slice (some ⟨G,0,none⟩) f.blks.length f.blks.length)]∧wr.heap[G]? =some (.cells (cellsOf R f.blks.length) 35 (0,0))∧Rows wr (G+1) R f.blks.length (predsTo f f.blks.length 0)∧Below B w wr) ?_ ?_
 ·refine Ae (Ac (Ab (Al rfl (Ak rfl)) rfl (Ab (Ai rfl (Ag rfl) ‹_›) rfl ?_)))
  refine Ab (AN rfl (An rfl)) rfl (Ab Ad rfl (Af (Aa (Ao ?_))))
  refine EC_loop (fun n e wr=>∃(i:Nat) (R:Nat→Value),i≤f.blks.length∧At e [(1,.pointer (some ⟨b1,0,none⟩)),(3,.slice (some ⟨G,0,none⟩) f.blks.length f.blks.length),(13,.slice ab f.blks.length cb),(14,.int .i64 (f.blks.length:Int)),(15,.int .i64 (i:Int))]∧wr.heap[G]? =some (.cells (cellsOf R f.blks.length) 35 (0,0))∧Rows wr (G+1) R f.blks.length (predsTo f i 0)∧G+1≤wr.heap.size∧Below B w wr∧n=f.blks.length - i) f.blks.length
   ⟨0,_,Nat.zero_le _,Ar rfl ⟨rfl,rfl,rfl,rfl,rfl,trivial⟩,hN2,hR0,by omega,hbelB,rfl⟩ ?_
  rintro n e wr ⟨i,R,hi,⟨t,rfl⟩,hS,hR,hsz,hb,rfl⟩
  refine Ae (Ac (Ab (AX rfl rfl) rfl (Af (Aa (Ae ?_)))))
  refine AI rfl rfl (fun hlt=>?_) (fun hge=>?_)
  rotate_left
  ·have hi:i=f.blks.length:=by omega
   subst hi
   refine AK (AB (AD (AA ?_)))
   exact AR ⟨R,Ar rfl ⟨rfl,trivial⟩,hS,hR,hb⟩
  have hlt:i<f.blks.length:=by omega
  obtain ⟨bb,ob,rfl,hq⟩:=hbl.resolve_left (fun e=>by rw[e] at hlt;simp at hlt)
  obtain ⟨s0,hcells0,⟨sa,sc,rfl,hints⟩⟩:=hq i hlt
  have hcells:=hcells0.keep (Ea hb (by omega))
  obtain ⟨hsl,hsm⟩:=sh.succs i hlt
  refine Aq (Aa (Ae (Ao (Ae (Ac (Ab Ad rfl (Ab (A5 (n:=4) rfl rfl (An rfl) hlt) rfl (Ab (A4 rfl (A0 rfl) hcells) rfl (Ab (A9 Ew) rfl (Ab Ah rfl (Bc (Bb rfl rfl (A7 rfl) rfl rfl) rfl ?_)))))))))))
  refine Af (Aa ?_)
  have ho:(f.blks.getD i default)=f.b i:=rfl
  simp only [ho] at hcells hints ⊢
  have hBle:B≤wr.heap.size:=by omega
  refine ec_new (.cells #[.int .i64 (f.b i).kind,.int .i64 (f.b i).ctrl,.slice sa (f.b i).succs.length sc,.int .i64 (f.b i).likely] 54) B (by omega) fun W hN3 hO3 hZ3 hB3 hK3=>?_
  have hl2:W.cell? ⟨wr.heap.size,0+2,none⟩=some (.slice sa (f.b i).succs.length sc):=Am hN3 rfl
  have hSW:=(hO3 G (by omega)).trans hS
  have hRW:=hR.stay (w':=W) fun k _ hk=>hO3 k hk
  have hbW:Below B w W:=hb.trans hB3
  refine Ae (Ac (Ab (Al rfl (Ak rfl)) rfl (Ab (Ai rfl (Ag rfl) ‹_›) rfl ?_)))
  refine Ab (AN rfl (An rfl)) rfl (Ab Ad rfl (Af (Aa (Ao ?_))))
  refine EC_loop (fun m e wi=>∃(k:Nat) (R:Nat→Value),k≤(f.b i).succs.length∧At e [(1,.pointer (some ⟨b1,0,none⟩)),(3,.slice (some ⟨G,0,none⟩) f.blks.length f.blks.length),(13,.slice (some ⟨bb,ob,none⟩) f.blks.length cb),(14,.int .i64 (f.blks.length:Int)),(15,.int .i64 (i:Int)),(4,.int .i64 (i:Int)),(21,.slice sa (f.b i).succs.length sc),(22,.int .i64 ((f.b i).succs.length:Int)),(23,.int .i64 (k:Int))]∧wi.heap[G]? =some (.cells (cellsOf R f.blks.length) 35 (0,0))∧Rows wi (G+1) R f.blks.length (predsTo f i k)∧G+1≤wi.heap.size∧Below B w wi∧m=(f.b i).succs.length - k) (f.b i).succs.length
   ⟨0,R,Nat.zero_le _,Ar rfl ⟨rfl,rfl,rfl,rfl,rfl,rfl,rfl,rfl,rfl,trivial⟩,hSW,hRW,by omega,hbW,rfl⟩ ?_
  rintro m e wi ⟨k,R,hk,⟨t,rfl⟩,hS,hR,hsz,hb,rfl⟩
  refine Ae (Ac (Ab (AX rfl rfl) rfl (Af (Aa (Ae ?_)))))
  refine AI rfl rfl (fun hlk=>?_) (fun hge=>?_)
  rotate_left
  ·have hk:k=(f.b i).succs.length:=by omega
   subst hk
   refine AK (AB (AD (AA (Ap (Aa ?_)))))
   rw[DK] at hR
   refine Ac (Ab (x_inc rfl rfl (by omega)) rfl (Ab Ad rfl (Af ?_)))
   exact Aw (f.blks.length - (i+1)) (by omega) ⟨i+1,R,by omega,Ar rfl ⟨rfl,rfl,rfl,rfl,rfl,trivial⟩,hS,hR,hsz,hb,rfl⟩
  have hlk:k<(f.b i).succs.length:=by omega
  obtain ⟨_,_,e3,hintI⟩:IntsV wi (.slice sa (f.b i).succs.length sc) (f.b i).succs:=IntsV.keep ⟨sa,sc,rfl,hints⟩ (Ea hb (by omega))
  obtain ⟨bi,oi,rfl,hai⟩:=hintI.get hlk
  injection e3 with e4 e5 e6
  subst e4
  have hmem:(f.b i).succs.getD k 0∈(f.b i).succs:=by rw[List.getD_eq_getElem?_getD,List.getElem?_eq_getElem hlk];simp
  obtain ⟨hy0,hy1⟩:=hsm _ hmem
  have hstep2:=predsTo_step f i k hlk ((f.b i).succs.getD k 0).toNat (by omega)
  generalize (f.b i).succs.getD k 0=y at hai hy0 hy1 hstep2
  have hyy:y=((y.toNat:Nat):Int):=by omega
  have hyl:y.toNat<f.blks.length:=by omega
  have hcy:wi.cell? ⟨G,0+y.toNat,none⟩=some (R y.toNat):=Am hS (by rw[Nat.zero_add];exact Bf _ hyl)
  refine Aq (Aa (Ae (Ao (Ae (Ac (Ab (x_index1 rfl rfl (An rfl) (by omega)) rfl (Ab (Ai rfl (Ag rfl) ‹_›) rfl ?_)))))))
  refine Ab Ah rfl (Af (Aa (Ac (Ab Ad rfl (Ab Ad rfl (Ab Ad rfl (Ab Ad rfl (Ab (Ba rfl rfl hyy (An rfl) hyl) rfl (Ab (Ai rfl (Ag rfl) ‹_›) rfl ?_)))))))))
  refine Ab Ad rfl (Ab (Bo (v:=.int .i64 (i:Int)) rfl rfl Tryz.underlying35 (by kernel_rfl) (z:=.int .i64 0) rfl) rfl ?_)
  have hBle:B≤wi.heap.size:=by omega
  refine el_new (.cells #[.int .i64 (i:Int)] 3) B (by omega) fun w6 hN6 hO6 hZ6 hB6 hK6=>?_
  have hR6:=hR.stay (w':=w6) fun k _ hk=>hO6 k hk
  have hlen:(predsTo f i k y.toNat).length≤64:=by
   have:=predsTo_len' f sh i k y.toNat hlt
   omega
  refine BD (hR6.row y.toNat hyl) (Am hN6 rfl) rfl (by omega) (by decide) (by omega) Tryz.underlying35 Cb rfl rfl rfl rfl ?_
  intro v7 w7 hrow7 hgr7 hwh7
  have hlow:=As (hR6.row y.toNat hyl)
  have hS7:w7.heap[G]? =some (.cells (cellsOf R f.blks.length) 35 (0,0)):=by
   rw[hgr7.block G (by omega) (fun e=>by have:=hlow G e.symm;omega),hO6 G (by omega)];exact hS
  refine Ab (Ba rfl rfl hyy (An rfl) hyl) rfl (Bc (AU rfl rfl (Bd hrow7) (AH rfl) (Am hS7 (by rw[Nat.zero_add];exact Bf _ hyl)) (AQ hS7)) rfl ?_)
  refine Af (Ap (Aa ?_))
  have hS8:=AC (o:=0+y.toNat) (u:=v7) hS7
  rw[cellsOf_set] at hS8
  have hR8:=hR6.push hyl (g:=G) (o:=0+y.toNat) (x:=i) (by omega) hrow7 hgr7 hwh7
  rw[hstep2] at hR8
  have hb8:Below B w (w7.setCell ⟨G,0+y.toNat,none⟩ v7):=((hb.trans hB6).grown hgr7 (by omega) (fun j e=>by have:=hlow j e;omega)).setCell (by show B≤G;omega) _
  refine Ac (Ab (x_inc rfl rfl (by omega)) rfl (Ab Ad rfl (Af ?_)))
  exact Aw ((f.b i).succs.length - (k+1)) (by omega) ⟨k+1,_,by omega,Ar rfl ⟨rfl,rfl,rfl,rfl,rfl,rfl,rfl,rfl,rfl,trivial⟩,by rw[Nat.zero_add] at hS8 ⊢;exact hS8,hR8,by rw[Bp];have:=hgr7.size;omega,hb8,rfl⟩
 rintro e wr ⟨R,⟨t,rfl⟩,hS,hR,hb⟩
 refine Ae (Ac (Ab Ad rfl (Ab Ah rfl (Af (Aa (AE ?_))))))
 refine Az rfl rfl rfl ⟨G,R,rfl,hS,fun b hbn=>?_,by rw[hb1,← hBd];exact hb⟩
 have h1:=hR.row b hbn
 have h2:predsTo f f.blks.length 0 b=predsOf f b:=by simp [predsTo,predsOf]
 rw[h2] at h1
 exact BY (l:=nats (predsOf f b)) (by simpa [nats] using h1)
end Go.Proofs.YteepnepebilckaaGreatDoor
namespace Go.Eng
open Go
theorem Gm {P:Program} {l:List Oper} {e:Env} {i:Nat} {w:World} {K K':Value→World→Prop} (h:Ca P l e i w K) (hk:∀v w,K v w→K' v w):Ca P l e i w K':=by
 rcases h with ⟨h1,h2⟩|⟨h1,h2⟩
 ·exact .inl ⟨h1,hk _ _ h2⟩
 refine .inr ⟨h1,?_⟩
 rcases h2 with ⟨v,w1,h3,h4⟩|⟨w1,h3,h4⟩|⟨f,args,w1,S,h3,h4,h5⟩
 ·exact .inl ⟨v,w1,h3,hk _ _ h4⟩
 ·exact .inr (.inl ⟨w1,h3,hk _ _ h4⟩)
 exact .inr (.inr ⟨f,args,w1,S,h3,h4,fun v w2 hv=>hk _ _ (h5 v w2 hv)⟩)
theorem DL_mono {P:Program} {l:List Oper} {S:World→Prop} {Q:Env→World→Prop} (Φ:Env→World→Prop):∀{r:List (Nat×Bool)} {e:Env} {w:World},DL P l S Φ r e w→(∀e w,Φ e w→Q e w)→DL P l S Q r e w
 | [],_,_,h,hq=>hq _ _ h
 |(_,false) :: _,_,_,⟨v,h1,h2⟩,hq=>⟨v,h1,DL_mono Φ h2 hq⟩
 |(_,true) :: _,_,_,h,hq=>Gm h fun _ _ hk=>⟨hk.1,DL_mono Φ hk.2 hq⟩
end Go.Eng
