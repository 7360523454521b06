/- The law FnCseOver returns true for every input in which the opcode table reads as laid, and its argument reads as it did, the table being tied to the text of the program. -/
import Derived.Test.YteepnepebilckaaGreatDoorCV13
namespace Go.Proofs.YteepnepebilckaaGreatDoor
open Go Go.Eng Go.RowKit
section
variable {w : World} {ρ : Operand → Value} {d : Option Tmp} {ty : TypeId} {pos : String} {af : Array Edge} {g : Option (Nat × Bool)}
theorem x_seg {x c c2:Operand} {b m k:Nat} (hx:ρ x= .slice (some ⟨b,0,none⟩) (7 * m) (7 * m)) (hc:ρ c= .int .i64 ((k * m:Nat):Int)) (hc2:ρ c2= .int .i64 (((k+1) * m:Nat):Int)) (hk:k<7) (hm:0<m):
 (execOp ρ ⟨d,.slice 110 x (some c) (some c2) none,ty,pos,af,g⟩).run Tryz.prog w= .ok (.value (seg b m k)) w:=by
 have h1:k * m+m≤7 * m:=by
  have:(k+1) * m≤7 * m:=Nat.mul_le_mul_right _ (by omega)
  rw[Nat.add_mul] at this;omega
 have h:=x_sliceLH (P:=Tryz.prog) (w:=w) (ρ:=ρ) (d:=d) (ty:=ty) (pos:=pos) (af:=af) (g:=g) (l:=k * m) (k:=(k+1) * m) Tryz.underlying110 Gh hx hc hc2 (by rw[Nat.add_mul];omega) (by rw[Nat.add_mul];omega) (by omega)
 rw[h]
 have e1:(k+1) * m - k * m=m:=by rw[Nat.add_mul];omega
 rw[e1,Nat.zero_add]
 rfl
end
theorem GRep.bFunc {w:World} {B:Nat} {L:Lay} {g:Gph} (h:GRep w B L g) {i:Nat} (hi:i<g.nb):w.cell? ⟨L.bb i,0+7,none⟩=some (.pointer (some ⟨L.fb,0,none⟩)):=Am (h.blk hi) rfl
def bpI (L:Lay) (v:Nat):Value:=if v=0 then .pointer none else L.bp (v - 1)
theorem DW (L:Lay) (v:Nat):(bpI L v).oneCell'=true:=by unfold bpI;split <;> rfl
theorem E5 (L:Lay) (b:Nat):bpI L (b+1)=L.bp b:=rfl
structure DomT (g:Gph) (d:Nat→Nat):Prop where
 root:d 1=0
 ok:∀v,VG g v→v≠1→VG g (d v)∧¬ LT.Rh (SG g) 1 (d v) v
 rank:∃num:Nat→Nat,∀v,VG g v→v≠1→num (d v)<num v
def dfl (v:Value):Deferred:=⟨.fn (.func 53) #[],#[.agg #[],v]⟩
def dfb (v:Value):Deferred:=⟨.fn (.func 125) #[],#[.agg #[],v]⟩
theorem idle2 (u v:Value):∀D∈ [dfb u,dfl v],Idle Tryz.prog D:=fun D hD=>by
 rcases List.mem_cons.1 hD with rfl|hD
 ·exact GV u
 have:D=dfl v:=by simpa using hD
 subst this;exact Fr v
structure LTS (w0 w:World) (L:Lay) (sc FB IB m:Nat) (sd vert lab par a bh bl idom:Nat→Nat):Prop where
 scr:Scr w sc m sd vert lab par a bh bl
 fb:w.heap[FB]? =some (.cells (cellsOf (bpI L) m) 74 (0,0))
 ib:w.heap[IB]? =some (.cells (cellsOf (fun i=>bpI L (idom i)) m) 74 (0,0))
 bel:Below w0.heap.size w0 w
 ne:w0.heap.size≤sc∧w0.heap.size≤IB∧FB≠sc∧IB≠sc∧IB≠FB
section
variable {w0 w w' : World} {L : Lay} {sc FB IB m : Nat} {sd vert lab par a bh bl idom sd' lab' a' bh' bl' : Nat → Nat}
theorem LTS.on (h:LTS w0 w L sc FB IB m sd vert lab par a bh bl idom) (hO:Only (fun j=>j=sc) w w') (hs:Scr w' sc m sd' vert lab' par a' bh' bl'):LTS w0 w' L sc FB IB m sd' vert lab' par a' bh' bl' idom:=by
 obtain ⟨h1,h2,h3,h4,h5⟩:=h.ne
 have hf:=(Array.getElem?_eq_some_iff.1 h.fb).1
 have hi:=(Array.getElem?_eq_some_iff.1 h.ib).1
 exact ⟨hs,(hO.block FB hf h3).trans h.fb,(hO.block IB hi h4).trans h.ib,h.bel.trans (hO.below h.bel.size fun j e=>by omega),h.ne⟩
theorem LTS.bel' (h:LTS w0 w L sc FB IB m sd vert lab par a bh bl idom) (hb:Below w.heap.size w w'):LTS w0 w' L sc FB IB m sd vert lab par a bh bl idom:=
 h.on (Only.of_below hb) (h.scr.stay (hb.block _ h.scr.lt))
theorem LTS.setI (h:LTS w0 w L sc FB IB m sd vert lab par a bh bl idom) {v d:Nat}:LTS w0 (w.setCell ⟨IB,0+v,none⟩ (bpI L d)) L sc FB IB m sd vert lab par a bh bl (LT.upd idom v d):=by
 obtain ⟨h1,h2,h3,h4,h5⟩:=h.ne
 have ho:∀j,j≠IB→(w.setCell ⟨IB,0+v,none⟩ (bpI L d)).heap[j]? =w.heap[j]? :=fun j hj=>Below.heap_setCell _ _ _ _ hj
 have hI:=AC (o:=0+v) (u:=bpI L d) h.ib
 rw[cellsOf_set] at hI
 refine ⟨h.scr.stay (ho sc fun e=>h4 e.symm),(ho FB fun e=>h5 e.symm).trans h.fb,hI.trans ?_,h.bel.setCell h2 _,h.ne⟩
 congr 2
 refine BA fun i _=>?_
 rw[Nat.zero_add]
 unfold LT.upd
 split <;> rfl
theorem LTS.cFB (h:LTS w0 w L sc FB IB m sd vert lab par a bh bl idom) {i:Nat} (hi:i<m):w.cell? ⟨FB,0+i,none⟩=some (bpI L i):=Am h.fb (by rw[Nat.zero_add];exact Bf _ hi)
theorem LTS.cIB (h:LTS w0 w L sc FB IB m sd vert lab par a bh bl idom) {i:Nat} (hi:i<m):w.cell? ⟨IB,0+i,none⟩=some (bpI L (idom i)):=Am h.ib (by rw[Nat.zero_add];exact Bf _ hi)
end
set_option maxHeartbeats 4000000
attribute [local irreducible] EC EL DL Ret thenQ blockQ Bi bodyQ onlyN execOp Sem.run World.cell? World.frozen? World.setCell World.alloc
theorem dominators_ret {w:World} {B0:Nat} {L:Lay} {g:Gph} (hg:GRep w B0 L g) (hn:1≤g.nb∧g.nb≤9) (hsu:∀x,x<g.nb→(g.succs x).length≤2∧∀s∈g.succs x,s<g.nb)
 (hpr:∀x,x<g.nb→g.preds x=predsL g.succs g.nb x) (hre:∀x,x<g.nb→RchS g.succs g.nb x):
 Ret Tryz.prog 107 #[L.fp,L.bp 0] w fun v w'=>∃IB d,v= .slice (some ⟨IB,0,none⟩) (g.nb+1) (g.nb+1)∧w.heap.size≤IB∧
  w'.heap[IB]? =some (.cells (cellsOf (fun i=>bpI L (d i)) (g.nb+1)) 74 (0,0))∧DomT g d∧Below w.heap.size w w':=by
 refine D4 Tryz.func107 rfl rfl ?_
 obtain ⟨m,hm⟩:∃m,m=g.nb+1:=⟨_,rfl⟩
 obtain ⟨B,hBd⟩:∃B,B=w.heap.size:=⟨_,rfl⟩
 rw[← hm,← hBd]
 have hfn:=hg.bFunc (i:=0) (by omega)
 have hfb:L.fb<B:=by rw[hBd];exact Br hg
 have hfbw:w.heap[L.fb]? =_:=hg.comp .fn
 refine Ae (Ac (Ab Ah rfl (Af (Aa (Ae (Ac (Ab Ad rfl (Ab (Au rfl) rfl (Ab (Al rfl (Ak rfl)) rfl (Ab (Ai rfl (Ag rfl) ‹_›) rfl ?_))))))))))
 refine Be (AG Tryz.func105 rfl rfl rfl rfl) rfl (NumBlocks_ret hg hn.2) ?_
 rintro _ wx ⟨rfl,ew⟩
 rw[← hm,ew]
 refine Ab Ah rfl (Af (Aa (Ae (Ac (Ab Ad rfl (Ab (Au rfl) rfl (Ab (B3 rfl hfbw) rfl (Ab (B4 rfl) rfl (Ab Ad rfl (Ab (Cc (c:=((7 * m:Nat):Int)) rfl rfl (by rw[IntWalk.i64_in _ (by omega)];omega)) rfl ?_))))))))))
 refine Be (AG Tryz.func52 rfl rfl rfl rfl) rfl (allocID_ret (by omega)) ?_
 rintro _ w1 ⟨sc,rfl,hsc,hscw,hb1⟩
 refine Ab Ah rfl (Af (Aa ?_))
 have hb1:Below B w w1:=hb1.mono (by omega)
 have hfb1:=(hb1.block _ hfb).trans hfbw
 refine BV [(0,L.fp),(1,L.bp 0),(5,.int .i64 ((m:Nat):Int)),(6,.slice (some ⟨sc,0,none⟩) (7 * m) (7 * m))] rfl ⟨rfl,rfl,rfl,rfl,trivial⟩ fun t=>(Ae (Ac (Ab Ad rfl (Ab (Au rfl) rfl (Ab (B3 rfl hfb1) rfl (Ab (B4 rfl) rfl (Ab Ad rfl (EL_d (Dj rfl rfl) rfl (Af (Aa (Bj [dfl (.slice (some ⟨sc,0,none⟩) (7 * m) (7 * m))] [(0,L.fp),(1,L.bp 0),(5,.int .i64 ((m:Nat):Int)),(6,.slice (some ⟨sc,0,none⟩) (7 * m) (7 * m))] rfl ⟨rfl,rfl,rfl,rfl,trivial⟩ fun t=>?_)))))))))))
 refine Ae (Ac (Ab Ad rfl (Ab Ad rfl (Ab (Cc (c:=((0 * m:Nat):Int)) rfl rfl (by rw[IntWalk.i64_in _ (by omega)];omega)) rfl ?_))))
 refine Ab Ad rfl (Ab (Cc (c:=(((0+1) * m:Nat):Int)) rfl rfl (by rw[IntWalk.i64_in _ (by omega)];omega)) rfl ?_)
 refine Ab (x_seg (k:=0) rfl rfl rfl (by decide) (by omega)) rfl (Ab Ah rfl (Af (Aa (Ae (Ac (Ab Ad rfl (Ab Ad rfl (Ab (Cc (c:=((1 * m:Nat):Int)) rfl rfl (by rw[IntWalk.i64_in _ (by omega)];omega)) rfl ?_))))))))
 refine Ab Ad rfl (Ab (Cc (c:=(((1+1) * m:Nat):Int)) rfl rfl (by rw[IntWalk.i64_in _ (by omega)];omega)) rfl ?_)
 refine Ab (x_seg (k:=1) rfl rfl rfl (by decide) (by omega)) rfl (Ab Ah rfl (Af (Aa (Ae (Ac (Ab Ad rfl (Ab Ad rfl (Ab (Cc (c:=((2 * m:Nat):Int)) rfl rfl (by rw[IntWalk.i64_in _ (by omega)];omega)) rfl ?_))))))))
 refine Ab Ad rfl (Ab (Cc (c:=(((2+1) * m:Nat):Int)) rfl rfl (by rw[IntWalk.i64_in _ (by omega)];omega)) rfl ?_)
 refine Ab (x_seg (k:=2) rfl rfl rfl (by decide) (by omega)) rfl (Ab Ah rfl (Af (Aa (Ae (Ac (Ab Ad rfl (Ab Ad rfl (Ab (Cc (c:=((3 * m:Nat):Int)) rfl rfl (by rw[IntWalk.i64_in _ (by omega)];omega)) rfl ?_))))))))
 refine Ab Ad rfl (Ab (Cc (c:=(((3+1) * m:Nat):Int)) rfl rfl (by rw[IntWalk.i64_in _ (by omega)];omega)) rfl ?_)
 refine Ab (x_seg (k:=3) rfl rfl rfl (by decide) (by omega)) rfl (Ab Ah rfl (Af (Aa (Ae (Ac (Ab Ad rfl (Ab Ad rfl (Ab (Cc (c:=((4 * m:Nat):Int)) rfl rfl (by rw[IntWalk.i64_in _ (by omega)];omega)) rfl ?_))))))))
 refine Ab Ad rfl (Ab (Cc (c:=(((4+1) * m:Nat):Int)) rfl rfl (by rw[IntWalk.i64_in _ (by omega)];omega)) rfl ?_)
 refine Ab (x_seg (k:=4) rfl rfl rfl (by decide) (by omega)) rfl (Ab Ah rfl (Af (Aa (Ae (Ac (Ab Ad rfl (Ab Ad rfl (Ab (Cc (c:=((5 * m:Nat):Int)) rfl rfl (by rw[IntWalk.i64_in _ (by omega)];omega)) rfl ?_))))))))
 refine Ab Ad rfl (Ab (Cc (c:=(((5+1) * m:Nat):Int)) rfl rfl (by rw[IntWalk.i64_in _ (by omega)];omega)) rfl ?_)
 refine Ab (x_seg (k:=5) rfl rfl rfl (by decide) (by omega)) rfl (Ab Ah rfl (Af (Aa (Ae (Ac (Ab Ad rfl (Ab Ad rfl (Ab (Cc (c:=((6 * m:Nat):Int)) rfl rfl (by rw[IntWalk.i64_in _ (by omega)];omega)) rfl ?_))))))))
 refine Ab Ad rfl (Ab (Cc (c:=(((6+1) * m:Nat):Int)) rfl rfl (by rw[IntWalk.i64_in _ (by omega)];omega)) rfl ?_)
 refine Ab (x_seg (k:=6) rfl rfl rfl (by decide) (by omega)) rfl (Ab Ah rfl (Af (Aa (Bj [dfl (.slice (some ⟨sc,0,none⟩) (7 * m) (7 * m))] [(0,L.fp),(1,L.bp 0),(5,.int .i64 ((m:Nat):Int)),(7,seg sc m 0),(8,seg sc m 1),(9,seg sc m 2),(10,seg sc m 3),(11,seg sc m 4),(12,seg sc m 5),(13,seg sc m 6)] rfl ⟨rfl,rfl,rfl,rfl,rfl,rfl,rfl,rfl,rfl,rfl,trivial⟩ fun t=>(Ae (Ac (Ab Ad rfl (Ab (Au rfl) rfl (Ab (B3 rfl hfb1) rfl (Ab (B4 rfl) rfl (Ab Ad rfl ?_)))))))))))
 refine Be (AG Tryz.func124 rfl rfl rfl rfl) rfl (allocBlock_ret (by omega)) ?_
 rintro _ w2 ⟨FB,rfl,hFB,hFBw,hb2⟩
 refine Ab Ah rfl (Af (Aa ?_))
 have hs1:=hb1.size
 have hb2':Below B w w2:=hb1.trans (hb2.mono (by omega))
 have hfb2:=(hb2'.block _ hfb).trans hfbw
 have hsc1:sc<w1.heap.size:=(Array.getElem?_eq_some_iff.1 hscw).1
 have hscw2:=(hb2.block sc hsc1).trans hscw
 refine Ae (Ac (Ab Ad rfl (Ab (Au rfl) rfl (Ab (B3 rfl hfb2) rfl (Ab (B4 rfl) rfl (Ab Ad rfl (EL_d (Dj rfl rfl) rfl (Af (Aa (Bj [dfb (.slice (some ⟨FB,0,none⟩) m m),dfl (.slice (some ⟨sc,0,none⟩) (7 * m) (7 * m))] [(0,L.fp),(1,L.bp 0),(5,.int .i64 ((m:Nat):Int)),(7,seg sc m 0),(8,seg sc m 1),(9,seg sc m 2),(10,seg sc m 3),(11,seg sc m 4),(12,seg sc m 5),(13,seg sc m 6),(14,.slice (some ⟨FB,0,none⟩) m m)] rfl ⟨rfl,rfl,rfl,rfl,rfl,rfl,rfl,rfl,rfl,rfl,rfl,trivial⟩ fun t=>?_))))))))))
 have hFB1:FB<w2.heap.size:=(Array.getElem?_eq_some_iff.1 hFBw).1
 have hneF:FB≠sc:=by omega
 obtain ⟨fa,fc,hfs⟩:=hg.fblocksV
 refine AW (fun e w3=>AtD e [dfb (.slice (some ⟨FB,0,none⟩) m m),dfl (.slice (some ⟨sc,0,none⟩) (7 * m) (7 * m))] [(0,L.fp),(1,L.bp 0),(5,.int .i64 ((m:Nat):Int)),(7,seg sc m 0),(8,seg sc m 1),(9,seg sc m 2),(10,seg sc m 3),(11,seg sc m 4),(12,seg sc m 5),(13,seg sc m 6),(14,.slice (some ⟨FB,0,none⟩) m m)]∧
  w3.heap[FB]? =some (.cells (cellsOf (bpI L) m) 74 (0,0))∧Only (fun j=>j=FB) w2 w3) ?_ ?_
 ·refine Ae ?_
  have hfl:=(hg.on (hb2'.mono (by omega))).fBlocks
  rw[hfs] at hfl
  refine Ac (Ab Ad rfl (Ab (Au rfl) rfl (Ab (Al rfl (Ak rfl)) rfl (Ab (Ai rfl (Ag rfl) ‹_›) rfl ?_))))
  refine Ab (AN rfl (An rfl)) rfl (Ab Ad rfl (Af (Aa (Ao ?_))))
  refine EC_loop (fun n e w3=>∃k,k≤g.nb∧AtD e [dfb (.slice (some ⟨FB,0,none⟩) m m),dfl (.slice (some ⟨sc,0,none⟩) (7 * m) (7 * m))] [(0,L.fp),(1,L.bp 0),(5,.int .i64 ((m:Nat):Int)),(7,seg sc m 0),(8,seg sc m 1),(9,seg sc m 2),(10,seg sc m 3),(11,seg sc m 4),(12,seg sc m 5),(13,seg sc m 6),(14,.slice (some ⟨FB,0,none⟩) m m),(103,.slice fa g.nb fc),(104,.int .i64 ((g.nb:Nat):Int)),(105,.int .i64 (k:Int))]∧
   w3.heap[FB]? =some (.cells (cellsOf (fun i=>if i≤k then bpI L i else .pointer none) m) 74 (0,0))∧Only (fun j=>j=FB) w2 w3∧n=g.nb - k) g.nb
   ⟨0,Nat.zero_le _,AT rfl ⟨rfl,rfl,rfl,rfl,rfl,rfl,rfl,rfl,rfl,rfl,rfl,rfl,rfl,rfl,trivial⟩,hFBw.trans (by
     congr 2
     refine BA fun i _=>?_
     by_cases e:i≤0
     ·rw[if_pos e];have:i=0:=by omega
      subst this;rfl
     rw[if_neg e]),Only.refl _ _,rfl⟩ ?_
  rintro n e w3 ⟨k,hk,⟨t,rfl⟩,hF3,hO3,rfl⟩
  refine Ae (Ac (Ab (AX rfl rfl) rfl (Af (Aa (Ae ?_)))))
  refine AI rfl rfl (fun hlt=>?_) (fun hge=>?_)
  rotate_left
  ·have hk:k=g.nb:=by omega
   subst hk
   refine AK (AB (AD (AA ?_)))
   refine AR ⟨AT rfl ⟨rfl,rfl,rfl,rfl,rfl,rfl,rfl,rfl,rfl,rfl,rfl,trivial⟩,hF3.trans ?_,hO3⟩
   congr 2
   refine BA fun i hi=>?_
   rw[if_pos (by omega)]
  have hlt:k<g.nb:=by omega
  have hg3:=hg.on ((hb2'.trans (hO3.below (E:=B) (by omega) fun j e=>by omega)).mono (by omega))
  obtain ⟨eb,ec,hse,_,hce,_⟩:=hg3.fblocksE hlt
  rw[hfs] at hse
  injection hse with e1 e2 e3
  subst e1
  have hid:w3.cell? ⟨L.bb k,0+0,none⟩=some (.int .i32 ((k+1:Nat):Int)):=hg3.bID hlt
  refine Aq (Aa (Ae (Ao (Ae (Ac (Ab (x_index1 rfl rfl (An rfl) (by omega)) rfl (Ab (Ai rfl (Ag rfl) ‹_›) rfl ?_)))))))
  refine Ab Ah rfl (Af (Aa (Ac (Ab Ad rfl (Ab Ad rfl (Ab (Au rfl) rfl (Ab (Al rfl (Ak rfl)) rfl (Ab (Ai rfl (Ag rfl) ‹_›) rfl ?_))))))))
  refine Ab Ad rfl (Ab (x_index1 rfl rfl (An rfl) (by omega)) rfl (Bc (AU rfl rfl rfl (AH rfl) (Am (o:=0+(k+1)) hF3 (by rw[Nat.zero_add];exact Bf _ (by omega))) (AQ hF3)) rfl ?_))
  refine Af (Ap (Aa ?_))
  have hF4:=AC (o:=0+(k+1)) (u:=L.bp k) hF3
  rw[cellsOf_set] at hF4
  have hO4:=hO3.set (o:=0+(k+1)) (L.bp k) (rfl:FB=FB)
  refine Ac (Ab (x_inc rfl rfl (by omega)) rfl (Ab Ad rfl (Af ?_)))
  refine Aw (g.nb - (k+1)) (by omega) ⟨k+1,by omega,AT rfl ⟨rfl,rfl,rfl,rfl,rfl,rfl,rfl,rfl,rfl,rfl,rfl,rfl,rfl,rfl,trivial⟩,hF4.trans ?_,hO4,rfl⟩
  congr 2
  refine BA fun i _=>?_
  rw[Nat.zero_add]
  by_cases e:i=k+1
  ·subst e
   rw[if_pos rfl,if_pos (Nat.le_refl _)];rfl
  rw[if_neg e]
  by_cases e2:i≤k
  ·rw[if_pos e2,if_pos (by omega)]
  rw[if_neg e2,if_neg (by omega)]
 rintro e w3 ⟨⟨t,rfl⟩,hF3,hO3⟩
 have hs2:=hb2.size
 have hs3:=hO3.size
 have hb3:Below B w w3:=hb2'.trans (hO3.below (by omega) fun j e=>by omega)
 have hsc3:=(hO3.block sc (by omega) (fun e=>by omega)).trans hscw2
 refine Ae (Ac ?_)
 have hBle:B≤w3.heap.size:=by omega
 refine Ab Ad rfl (Ab (C2 Tryz.underlying75 CF rfl rfl rfl (by omega) (by omega)) rfl ?_)
 rw[Dk]
 refine el_new (.cells (cellsOf (fun _=>.pointer none) m) 74) B (by omega) fun w4 hN4 hO4 hZ4 hB4 hK4=>?_
 obtain ⟨IB,hIB⟩:∃IB,IB=w3.heap.size:=⟨_,rfl⟩
 rw[← hIB] at hN4 ⊢
 refine Ab Ah rfl (Af (Aa ?_))
 have hb4:Below B w w4:=hb3.trans hB4
 have hsc4:=(hO4 sc (by omega)).trans hsc3
 have hF4:=(hO4 FB (by omega)).trans hF3
 have hS4:Scr w4 sc m (fun _=>0) (fun _=>0) (fun _=>0) (fun _=>0) (fun _=>0) (fun _=>0) (fun _=>0):=⟨fun _=>0,hsc4,fun _ _=>⟨rfl,rfl,rfl,rfl,rfl,rfl,rfl⟩⟩
 refine Bj [dfb (.slice (some ⟨FB,0,none⟩) m m),dfl (.slice (some ⟨sc,0,none⟩) (7 * m) (7 * m))] [(0,L.fp),(1,L.bp 0),(7,seg sc m 0),(8,seg sc m 1),(9,seg sc m 2),(10,seg sc m 3),(11,seg sc m 4),(12,seg sc m 5),(13,seg sc m 6),(14,.slice (some ⟨FB,0,none⟩) m m),(17,.slice (some ⟨IB,0,none⟩) m m)] rfl ⟨rfl,rfl,rfl,rfl,rfl,rfl,rfl,rfl,rfl,rfl,rfl,trivial⟩ fun t=>(Ae (Ac (Ab Ad rfl (Ab Ad rfl (Ab Ad rfl (Ab Ad rfl (Ab Ad rfl (Ab Ad rfl ?_))))))))
 rw[hm] at hS4
 refine Be (AG Tryz.func126 rfl rfl rfl rfl) rfl (by
  rw[hm]
  exact dfs_ret hg (hb4.mono (by omega)) (by omega) hn hsu hS4) ?_
 rintro _ w5 ⟨cn,num,vert,lab,par,rfl,hcn,hcn1,hS5,hDI,hlab,hO5⟩
 refine Ab Ah rfl (Af (Aa ?_))
 rw[← hm] at hS5
 have hb5:Below B w w5:=hb4.trans (hO5.below (by omega) fun j e=>by omega)
 have hs5:=hO5.size
 have hF5:=(hO5.block FB (by omega) hneF).trans hF4
 have hI5:=(hO5.block IB (by omega) (fun e=>by omega)).trans hN4
 have hV1:VG g 1:=⟨Nat.le_refl _,hn.1⟩
 have hVS:∀v,VG g v→∀u∈SG g v,VG g u:=fun v hv u hu=>by
  obtain ⟨s,hs,rfl⟩:=List.mem_map.1 hu
  obtain ⟨x,rfl,hx⟩:=hv.ex
  have:=(hsu x hx).2 s hs
  exact ⟨by omega,by omega⟩
 obtain ⟨hd,hall⟩:=hDI.dfs hV1 fun P h1 h2 v hv=>by
  obtain ⟨x,rfl,hx⟩:=hv.ex
  have key:∀y,RchS g.succs g.nb y→y<g.nb∧P (y+1):=fun y hy=>by
   induction hy with
   |entry _=>exact ⟨hn.1,h1⟩
   | @step b s _ hs _ ih=>exact ⟨(hsu b ih.1).2 s hs,h2 _ ih.2 ⟨by omega,by omega⟩ _ (List.mem_map.2 ⟨s,hs,rfl⟩)⟩
  exact (key x (hre x hx)).2
 have hnl:∀v,num v≤cn:=hDI.le
 have hVlt:∀v,VG g v→1≤v∧v<m:=fun v hv=>⟨hv.1,by have:=hv.2;omega⟩
 have h0:¬ VG g 0:=fun h=>by have:=h.1;omega
 have hvert:∀k,1≤k→k≤cn→VG g (vert k)∧num (vert k)=k:=hDI.vis
 have hvn:∀v,VG g v→vert (num v)=v:=fun v hv=>hDI.inv v (hall v hv)
 have hprd:∀x,x<g.nb→∀v,VG g v→(v∈(g.preds x).map (· +1)↔x+1∈SG g v):=fun x hx v hv=>by
  obtain ⟨y,rfl,hy⟩:=hv.ex
  rw[hpr x hx]
  constructor
  ·intro h
   obtain ⟨z,hz,e⟩:=List.mem_map.1 h
   have:z=y:=by omega
   subst this
   exact List.mem_map.2 ⟨x,(mem_predsL.1 hz).2,rfl⟩
  intro h
  obtain ⟨z,hz,e⟩:=List.mem_map.1 h
  have:z=x:=by omega
  subst this
  exact List.mem_map.2 ⟨y,mem_predsL.2 ⟨hy,hz⟩,rfl⟩
 refine Bj [dfb (.slice (some ⟨FB,0,none⟩) m m),dfl (.slice (some ⟨sc,0,none⟩) (7 * m) (7 * m))] [(7,seg sc m 0),(8,seg sc m 1),(9,seg sc m 2),(10,seg sc m 3),(11,seg sc m 4),(12,seg sc m 5),(13,seg sc m 6),(14,.slice (some ⟨FB,0,none⟩) m m),(17,.slice (some ⟨IB,0,none⟩) m m),(18,.int .i32 ((cn:Nat):Int))] rfl ⟨rfl,rfl,rfl,rfl,rfl,rfl,rfl,rfl,rfl,rfl,trivial⟩ fun t=>?_
 have hT0:LTS w w5 L sc FB IB m num vert lab par (fun _=>0) (fun _=>0) (fun _=>0) (fun _=>0):=⟨hS5,hF5,hI5,hb5.mono (by omega),by omega,by omega,hneF,by omega,by omega⟩
 refine AW (fun e wr=>∃sd lab a bh bl idom,AtD e [dfb (.slice (some ⟨FB,0,none⟩) m m),dfl (.slice (some ⟨sc,0,none⟩) (7 * m) (7 * m))] [(7,seg sc m 0),(8,seg sc m 1),(9,seg sc m 2),(10,seg sc m 3),(11,seg sc m 4),(12,seg sc m 5),(13,seg sc m 6),(14,.slice (some ⟨FB,0,none⟩) m m),(17,.slice (some ⟨IB,0,none⟩) m m),(18,.int .i32 ((cn:Nat):Int))]∧LTS w wr L sc FB IB m sd vert lab par a bh bl idom∧LT.LI (VG g) (SG g) num par 1 sd a lab bh bl idom∧idom 1=0) ?_ ?_
 ·refine Ae (Ac (Ab Ad rfl (Ab Ah rfl (Af (Aa (Ao ?_))))))
  refine EC_loop (fun n e wr=>∃i sd lab a bh bl idom,1≤i∧i≤cn∧AtD e [dfb (.slice (some ⟨FB,0,none⟩) m m),dfl (.slice (some ⟨sc,0,none⟩) (7 * m) (7 * m))] [(7,seg sc m 0),(8,seg sc m 1),(9,seg sc m 2),(10,seg sc m 3),(11,seg sc m 4),(12,seg sc m 5),(13,seg sc m 6),(14,.slice (some ⟨FB,0,none⟩) m m),(17,.slice (some ⟨IB,0,none⟩) m m),(18,.int .i32 ((cn:Nat):Int)),(19,.int .i32 ((i:Nat):Int))]∧LTS w wr L sc FB IB m sd vert lab par a bh bl idom∧LT.LI (VG g) (SG g) num par i sd a lab bh bl idom∧(∀v,VG g v→num v≤i→sd v=num v)∧idom 1=0∧n=i) cn
   ⟨cn,_,_,_,_,_,_,hcn1,Nat.le_refl _,AT rfl ⟨rfl,rfl,rfl,rfl,rfl,rfl,rfl,rfl,rfl,rfl,rfl,trivial⟩,hT0,LT.LI.start (fun v _=>hnl v) (fun _ _=>rfl) (fun v hv=>hlab v (hall v hv)) (fun _ _=>rfl),fun _ _ _=>rfl,rfl,rfl⟩ ?_
  rintro n e wr ⟨i,sd,lab,a,bh,bl,idom,hi1,hi2,⟨t,rfl⟩,hT,hLI,hsd,hid1,rfl⟩
  refine Ae (Ae (Ac (Ab Ad rfl (Ab (CJ rfl rfl) rfl (Af (Aa ?_))))))
  refine AI rfl rfl (fun hge=>?_) (fun hlt=>?_)
  rotate_left
  ·have hi:n=1:=by omega
   subst hi
   refine AK (AB (AD (AA ?_)))
   exact AR ⟨_,_,_,_,_,_,AT rfl ⟨rfl,rfl,rfl,rfl,rfl,rfl,rfl,rfl,rfl,rfl,trivial⟩,hT,hLI,hid1⟩
  have hge:2≤n:=by omega
  refine Aq (Aa (Ae (Ao ?_)))
  obtain ⟨hwV,hwn⟩:=hvert n hi1 hi2
  have hcv:=(hT.scr.cell (i:=n) (by omega)).2.1
  generalize hvw:vert n=wv at hwV hwn hcv
  obtain ⟨x,rfl,hx⟩:=hwV.ex
  have hxm:x+1<m:=by omega
  refine Ae (Ac (Ab Ad rfl (Ab Ad rfl (Ab (x_index1 rfl rfl (An rfl) (by omega)) rfl (Ab (Ai rfl (Ag rfl) ‹_›) rfl ?_)))))
  refine Ab Ah rfl (Af (Aa (Bj [dfb (.slice (some ⟨FB,0,none⟩) m m),dfl (.slice (some ⟨sc,0,none⟩) (7 * m) (7 * m))] [(7,seg sc m 0),(8,seg sc m 1),(9,seg sc m 2),(10,seg sc m 3),(11,seg sc m 4),(12,seg sc m 5),(13,seg sc m 6),(14,.slice (some ⟨FB,0,none⟩) m m),(17,.slice (some ⟨IB,0,none⟩) m m),(18,.int .i32 ((cn:Nat):Int)),(19,.int .i32 ((n:Nat):Int)),(20,.int .i32 ((x+1:Nat):Int))] rfl ⟨rfl,rfl,rfl,rfl,rfl,rfl,rfl,rfl,rfl,rfl,rfl,rfl,trivial⟩ fun t=>?_)))
  refine AW (fun e wr=>∃sd lab a,AtD e [dfb (.slice (some ⟨FB,0,none⟩) m m),dfl (.slice (some ⟨sc,0,none⟩) (7 * m) (7 * m))] [(7,seg sc m 0),(8,seg sc m 1),(9,seg sc m 2),(10,seg sc m 3),(11,seg sc m 4),(12,seg sc m 5),(13,seg sc m 6),(14,.slice (some ⟨FB,0,none⟩) m m),(17,.slice (some ⟨IB,0,none⟩) m m),(18,.int .i32 ((cn:Nat):Int)),(19,.int .i32 ((n:Nat):Int)),(20,.int .i32 ((x+1:Nat):Int))]∧LTS w wr L sc FB IB m sd vert lab par a bh bl idom∧LT.LW (VG g) (SG g) num par n (x+1) (fun v=>v∈(g.preds x).map (· +1)) sd a lab bh bl idom) ?_ ?_
  ·have hcf:=hT.cFB hxm
   rw[E5] at hcf
   have hgr:=hg.on hT.bel
   obtain ⟨pa,pc,hps⟩:=hgr.predsV hx
   have hcp:=hgr.bPreds hx
   rw[hps] at hcp
   have hpl:(g.preds x).length≤2 * g.nb:=by rw[hpr x hx];exact predsL_len _ fun i hi=>(hsu i hi).1
   refine Ae (Ac (Ab Ad rfl (Ab Ad rfl (Ab (x_index1 rfl rfl (An rfl) (by omega)) rfl (Ab (Ai rfl (Ag rfl) ‹_›) rfl ?_)))))
   refine Ab (Au rfl) rfl (Ab (Al rfl (Ak rfl)) rfl (Ab (Ai rfl (Ag rfl) ‹_›) rfl ?_))
   refine Ab (AN rfl (An rfl)) rfl (Ab Ad rfl (Af (Aa (Ao ?_))))
   refine EC_loop (fun n2 e wr=>∃k sd lab a,k≤(g.preds x).length∧AtD e [dfb (.slice (some ⟨FB,0,none⟩) m m),dfl (.slice (some ⟨sc,0,none⟩) (7 * m) (7 * m))] [(7,seg sc m 0),(8,seg sc m 1),(9,seg sc m 2),(10,seg sc m 3),(11,seg sc m 4),(12,seg sc m 5),(13,seg sc m 6),(14,.slice (some ⟨FB,0,none⟩) m m),(17,.slice (some ⟨IB,0,none⟩) m m),(18,.int .i32 ((cn:Nat):Int)),(19,.int .i32 ((n:Nat):Int)),(20,.int .i32 ((x+1:Nat):Int)),(141,.slice pa (g.preds x).length pc),(142,.int .i64 ((g.preds x).length:Int)),(143,.int .i64 (k:Int))]∧LTS w wr L sc FB IB m sd vert lab par a bh bl idom∧
    LT.LW (VG g) (SG g) num par n (x+1) (fun v=>v∈((g.preds x).take k).map (· +1)) sd a lab bh bl idom∧n2=(g.preds x).length - k) (g.preds x).length
    ⟨0,_,_,_,Nat.zero_le _,AT rfl ⟨rfl,rfl,rfl,rfl,rfl,rfl,rfl,rfl,rfl,rfl,rfl,rfl,rfl,rfl,rfl,trivial⟩,hT,LT.LW.start hLI hwV hwn hsd (fun v h=>by simp at h),rfl⟩ ?_
   rintro n2 e wi ⟨k,sd,lab,a,hk,⟨t,rfl⟩,hT,hLW,rfl⟩
   refine Ae (Ac (Ab (AX rfl rfl) rfl (Af (Aa (Ae ?_)))))
   refine AI rfl rfl (fun hlk=>?_) (fun hge2=>?_)
   rotate_left
   ·have hk:k=(g.preds x).length:=by omega
    subst hk
    refine AK (AB (AD (AA ?_)))
    rw[List.take_length] at hLW
    exact AR ⟨_,_,_,AT rfl ⟨rfl,rfl,rfl,rfl,rfl,rfl,rfl,rfl,rfl,rfl,rfl,rfl,trivial⟩,hT,hLW⟩
   have hlk:k<(g.preds x).length:=by omega
   refine Aq (Aa (Ae (Ao ?_)))
   obtain ⟨eb,ec,hse,_,hce,_⟩:=(hg.on hT.bel).predsE hx hlk
   rw[hps] at hse
   injection hse with e1 e2 e3
   subst e1
   have hpm:=Bq hlk
   have hpk:(g.preds x).take (k+1)=(g.preds x).take k ++ [(g.preds x).getD k 0]:=by
    rw[List.take_add_one,List.getElem?_eq_getElem hlk]
    simp [List.getD,hlk]
   generalize (g.preds x).getD k 0=y at hce hpm hpk
   have hy:y<g.nb:=by
    rw[hpr x hx] at hpm
    exact (mem_predsL.1 hpm).1
   have hyV:VG g (y+1):=⟨by omega,by omega⟩
   have hyS:x+1∈SG g (y+1):=(hprd x hx (y+1) hyV).1 (List.mem_map.2 ⟨y,hpm,rfl⟩)
   have hym:y+1<m:=by omega
   have hce':CellsAt wi eb (0+k) [L.bp y]:=fun j u hj=>by
    cases j with
    |zero=>simp at hj;subst hj;exact hce
    |succ j=>simp at hj
   refine Ae (Ac (Ab (x_index1 (i:=k) rfl rfl (An rfl) hlk) rfl (Ab (A4 (cs:=[L.bp y]) rfl (A0 rfl) hce') rfl (Ab (A9 Dz) rfl (Bc (Bb rfl rfl (A7 rfl) rfl rfl) rfl (Af (Aa ?_)))))))
   have hBle:B≤wi.heap.size:=by have:=hT.bel.size;omega
   refine ec_new (.cells #[L.bp y] 103) B (by omega) fun wj hN7 hO7 hZ7 hB7 hK7=>?_
   have hTj:=hT.bel' ⟨hB7.os,hB7.tape,hB7.output,hB7.size,fun j hj=>hO7 j hj⟩
   have hcj:wj.cell? ⟨wi.heap.size,0+0,none⟩=some (L.bp y):=Am hN7 rfl
   have hsy:=(hLW.sdle hd hwV hwn hyV).1
   have hidy:wj.cell? ⟨L.bb y,0+0,none⟩=some (.int .i32 ((y+1:Nat):Int)):=(hg.on hTj.bel).bID hy
   have hcy:=(hTj.scr.cell hym).1
   refine Ae (Ac (Ab (Al rfl (Ak rfl)) rfl (Ab (Ai rfl (Ag rfl) ‹_›) rfl ?_)))
   refine Ab Ah rfl (Af (Aa (Ae (Ae (Ac (Ab Ad rfl (Ab Ad rfl (Ab (Au rfl) rfl (Ab (Al rfl (Ak rfl)) rfl (Ab (Ai rfl (Ag rfl) ‹_›) rfl ?_))))))))))
   refine Ab (x_index1 rfl rfl (An rfl) (by omega)) rfl (Ab (Ai rfl (Ag rfl) ‹_›) rfl ?_)
   refine Ab (Bn rfl rfl) rfl (Af (Aa (Bh (congrArg Value.bool (decide_eq_false (fun h=>by have h:((sd (y+1):Nat):Int)=0:=h;omega))) rfl (Aq (Aa (Bj [dfb (.slice (some ⟨FB,0,none⟩) m m),dfl (.slice (some ⟨sc,0,none⟩) (7 * m) (7 * m))] [(7,seg sc m 0),(8,seg sc m 1),(9,seg sc m 2),(10,seg sc m 3),(11,seg sc m 4),(12,seg sc m 5),(13,seg sc m 6),(14,.slice (some ⟨FB,0,none⟩) m m),(17,.slice (some ⟨IB,0,none⟩) m m),(18,.int .i32 ((cn:Nat):Int)),(19,.int .i32 ((n:Nat):Int)),(20,.int .i32 ((x+1:Nat):Int)),(23,L.bp y),(141,.slice (some ⟨eb,0,none⟩) (g.preds x).length pc),(142,.int .i64 ((g.preds x).length:Int)),(143,.int .i64 (k:Int))] rfl ⟨rfl,rfl,rfl,rfl,rfl,rfl,rfl,rfl,rfl,rfl,rfl,rfl,rfl,rfl,rfl,rfl,trivial⟩ fun t=>(Ae (Ac (Ab Ad rfl (Ab (Au rfl) rfl (Ab (Al rfl (Ak rfl)) rfl ?_)))))))))))
   refine Ab (Ai rfl (Ag rfl) ‹_›) rfl ?_
   refine Ab Ad rfl (Ab Ad rfl (Ab Ad rfl (Be (AG Tryz.func127 rfl rfl rfl rfl) rfl (eval_ret hd hVlt hyV hTj.scr hLW.al) ?_)))
   rintro _ w8 ⟨u,a8,lab8,rfl,hs8,hal8,hO8,hu⟩
   refine Ab Ah rfl (Af (Aa ?_))
   have hT8:=hTj.on hO8 hs8
   have hLW8:=hLW.forest hal8
   have huV:VG g u:=by
    rcases hu with ⟨_,rfl⟩|⟨_,h2,_⟩
    ·exact hyV
    exact (hd.le hyV h2).1
   have hum:=(hVlt u huV).2
   have hway:=hLW8.way (D':=fun v=>v∈((g.preds x).take (k+1)).map (· +1)) hd hwV hwn hyV hyS hu (fun z hz=>by
    rw[hpk,List.map_append] at hz
    rcases List.mem_append.1 hz with h|h
    ·exact .inl h
    exact .inr (by simpa using h))
   refine Ae ?_
   have hcu:=(hT8.scr.cell hum).1
   have hcx:=(hT8.scr.cell hxm).1
   have hcd:Cells [(⟨sc,0 * m+u,none⟩,.int .i32 ((sd u:Nat):Int)),(⟨sc,0 * m+(x+1),none⟩,.int .i32 ((sd (x+1):Nat):Int))] w8.drew:=(Keep.drew w8).cells (.cons hcu (.cons hcx (.nil _)))
   refine AY mixed _ [(0,false),(1,false),(2,false),(3,false),(4,false),(5,false),(6,false),(7,false),(8,false)] (by kernel_rfl) hcd ?_
   have hT9:=hT8.bel' (w':=w8.drew) ⟨rfl,rfl,rfl,Nat.le_refl _,fun _ _=>rfl⟩
   generalize w8.drew=w9 at hcd hT9 ⊢
   have hcu:=(hT9.scr.cell hum).1
   have hcx:=(hT9.scr.cell hxm).1
   refine Aj rfl (fun _ _=>Ad) (Aj rfl (fun _ _=>Ad) (Aj rfl (fun _ _=>x_index1 rfl rfl (An rfl) (by omega)) (Aj rfl (fun _ hS=>Ai rfl (Ag rfl) (hS.get (by first|exact mm0|exact mm1|exact mm2|exact mm3|exact mm4|exact mm5|exact mm6|exact mm7))) ?_)))
   refine Aj rfl (fun _ _=>Ad) (Aj rfl (fun _ _=>Ad) (Aj rfl (fun _ _=>x_index1 rfl rfl (An rfl) (by omega)) (Aj rfl (fun _ hS=>Ai rfl (Ag rfl) (hS.get (by first|exact mm0|exact mm1|exact mm2|exact mm3|exact mm4|exact mm5|exact mm6|exact mm7))) ?_)))
   refine Aj rfl (fun _ _=>AX rfl rfl) (AP (Aa ?_))
   refine AI rfl rfl (fun hlt=>?_) (fun hnlt=>?_)
   ·have hlt:sd u<sd (x+1):=by omega
    rw[if_pos hlt] at hway
    refine Ac (Ab Ad rfl (Ab Ad rfl (Ab Ad rfl (Ab Ad rfl (Ab (x_index1 rfl rfl (An rfl) (by omega)) rfl (Ab (Ai rfl (Ag rfl) ‹_›) rfl ?_))))))
    refine Ab (x_index1 rfl rfl (An rfl) (by omega)) rfl (Bc (AU rfl rfl rfl (AH rfl) hcx hT9.scr.free) rfl (Af (Ap (Aa ?_))))
    have hTf:=hT9.on ((Only.refl _ w9).set (o:=0 * m+(x+1)) (.int .i32 ((sd u:Nat):Int)) rfl) (hT9.scr.set hxm (sd u)).1
    refine Ac (Ab (x_inc rfl rfl (by omega)) rfl (Ab Ad rfl (Af ?_)))
    refine Aw ((g.preds x).length - (k+1)) (by omega) ⟨k+1,_,_,_,by omega,AT rfl ⟨rfl,rfl,rfl,rfl,rfl,rfl,rfl,rfl,rfl,rfl,rfl,rfl,rfl,rfl,rfl,trivial⟩,hTf,hway,rfl⟩
   have hnlt:¬ sd u<sd (x+1):=by omega
   rw[if_neg hnlt] at hway
   have e9:LT.upd sd (x+1) (sd (x+1))=sd:=by
    funext z
    unfold LT.upd
    split
    ·rename_i e;rw[e]
    rfl
   rw[e9] at hway
   refine Aq (Ap (Aa (Ac (Ab (x_inc rfl rfl (by omega)) rfl (Ab Ad rfl (Af ?_))))))
   refine Aw ((g.preds x).length - (k+1)) (by omega) ⟨k+1,_,_,_,by omega,AT rfl ⟨rfl,rfl,rfl,rfl,rfl,rfl,rfl,rfl,rfl,rfl,rfl,rfl,rfl,rfl,rfl,trivial⟩,hT9,hway,rfl⟩
  rintro e wr ⟨sd,lab,a,⟨t,rfl⟩,hT,hLW⟩
  obtain ⟨sv,hsV,hsn,_⟩:=hLW.sdw
  have hsm:=(hVlt sv hsV).2
  have hx1:x+1≠1:=fun e=>by have h:=hd.one;rw[e] at hwn;omega
  have hpV:=hd.parV _ hwV hx1
  have hpm:=(hVlt _ hpV).2
  have hpS:=hDI.parE (x+1) (by omega) hx1
  have hlink:=hLW.link (D':=fun _=>False) hd h0 hwV hwn hge (fun v hv hs=>(hprd x hx v hv).2 hs) hpS hsV hsn (fun _ h=>h)
  have hsdm:sd (x+1)<m:=by have:=hnl sv;omega
  have hc0:=(hT.scr.cell hxm).1
  have hc1:=(hT.scr.cell hsdm).2.1
  rw[← hsn,hvn sv hsV,hsn] at hc1
  refine Ae (Ac (Ab Ad rfl (Ab Ad rfl (Ab Ad rfl (Ab (x_index1 rfl rfl (An rfl) (by omega)) rfl (Ab (Ai rfl (Ag rfl) ‹_›) rfl ?_))))))
  refine Ab (x_index1 rfl rfl (An rfl) (by omega)) rfl (Ab (Ai rfl (Ag rfl) ‹_›) rfl ?_)
  refine Ab Ah rfl (Af (Aa (Bj [dfb (.slice (some ⟨FB,0,none⟩) m m),dfl (.slice (some ⟨sc,0,none⟩) (7 * m) (7 * m))] [(7,seg sc m 0),(8,seg sc m 1),(9,seg sc m 2),(10,seg sc m 3),(11,seg sc m 4),(12,seg sc m 5),(13,seg sc m 6),(14,.slice (some ⟨FB,0,none⟩) m m),(17,.slice (some ⟨IB,0,none⟩) m m),(18,.int .i32 ((cn:Nat):Int)),(19,.int .i32 ((n:Nat):Int)),(20,.int .i32 ((x+1:Nat):Int)),(25,.int .i32 ((sv:Nat):Int))] rfl ⟨rfl,rfl,rfl,rfl,rfl,rfl,rfl,rfl,rfl,rfl,rfl,rfl,rfl,trivial⟩ fun t=>?_)))
  have hcb:=(hT.scr.cell hsm).2.2.2.2.2.1
  have hcl:=(hT.scr.cell hxm).2.2.2.2.2.2
  refine Ae (Ac (Ab Ad rfl (Ab Ad rfl (Ab Ad rfl (Ab Ad rfl (Ab (x_index1 rfl rfl (An rfl) (by omega)) rfl (Ab (Ai rfl (Ag rfl) ‹_›) rfl ?_)))))))
  refine Ab (x_index1 rfl rfl (An rfl) (by omega)) rfl (Bc (AU rfl rfl rfl (AH rfl) hcl hT.scr.free) rfl (Af (Aa ?_)))
  replace hT:=hT.on ((Only.refl _ wr).set (o:=6 * m+(x+1)) (.int .i32 ((bh sv:Nat):Int)) rfl) (hT.scr.set hxm (bh sv)).2.2.2.2.2.2
  change EC _ _ _ _ _ (wr.setCell ⟨sc,6 * m+(x+1),none⟩ (.int .i32 ((bh sv:Nat):Int)))
  generalize wr.setCell ⟨sc,6 * m+(x+1),none⟩ (.int .i32 ((bh sv:Nat):Int))=wr at hT ⊢
  have hcb:=(hT.scr.cell hsm).2.2.2.2.2.1
  refine Bj [dfb (.slice (some ⟨FB,0,none⟩) m m),dfl (.slice (some ⟨sc,0,none⟩) (7 * m) (7 * m))] [(7,seg sc m 0),(8,seg sc m 1),(9,seg sc m 2),(10,seg sc m 3),(11,seg sc m 4),(12,seg sc m 5),(13,seg sc m 6),(14,.slice (some ⟨FB,0,none⟩) m m),(17,.slice (some ⟨IB,0,none⟩) m m),(18,.int .i32 ((cn:Nat):Int)),(19,.int .i32 ((n:Nat):Int)),(20,.int .i32 ((x+1:Nat):Int)),(25,.int .i32 ((sv:Nat):Int))] rfl ⟨rfl,rfl,rfl,rfl,rfl,rfl,rfl,rfl,rfl,rfl,rfl,rfl,rfl,trivial⟩ fun t=>(Ae (Ac (Ab Ad rfl (Ab Ad rfl (Ab Ad rfl (Ab (x_index1 rfl rfl (An rfl) (by omega)) rfl (Bc (AU rfl rfl rfl (AH rfl) hcb hT.scr.free) rfl (Af (Aa ?_)))))))))
  replace hT:=hT.on ((Only.refl _ wr).set (o:=5 * m+sv) (.int .i32 ((x+1:Nat):Int)) rfl) (hT.scr.set hsm (x+1)).2.2.2.2.2.1
  change EC _ _ _ _ _ (wr.setCell ⟨sc,5 * m+sv,none⟩ (.int .i32 ((x+1:Nat):Int)))
  generalize wr.setCell ⟨sc,5 * m+sv,none⟩ (.int .i32 ((x+1:Nat):Int))=wr at hT ⊢
  refine Bj [dfb (.slice (some ⟨FB,0,none⟩) m m),dfl (.slice (some ⟨sc,0,none⟩) (7 * m) (7 * m))] [(7,seg sc m 0),(8,seg sc m 1),(9,seg sc m 2),(10,seg sc m 3),(11,seg sc m 4),(12,seg sc m 5),(13,seg sc m 6),(14,.slice (some ⟨FB,0,none⟩) m m),(17,.slice (some ⟨IB,0,none⟩) m m),(18,.int .i32 ((cn:Nat):Int)),(19,.int .i32 ((n:Nat):Int)),(20,.int .i32 ((x+1:Nat):Int))] rfl ⟨rfl,rfl,rfl,rfl,rfl,rfl,rfl,rfl,rfl,rfl,rfl,rfl,trivial⟩ fun t=>?_
  have hcp:=(hT.scr.cell hxm).2.2.2.1
  refine Ae (Ac (Ab Ad rfl (Ab Ad rfl (Ab (x_index1 rfl rfl (An rfl) (by omega)) rfl (Ab (Ai rfl (Ag rfl) ‹_›) rfl ?_)))))
  refine Ab Ad rfl (Ab Ad rfl (Be (AG Tryz.func128 rfl rfl rfl rfl) rfl (GC hT.scr hxm) ?_))
  rintro _ w6 ⟨hs6,hO6⟩
  refine Af (Aa ?_)
  replace hT:=hT.on hO6 hs6
  have hcp:=(hT.scr.cell hxm).2.2.2.1
  have hcb:=(hT.scr.cell hpm).2.2.2.2.2.1
  refine Ae (Ac (Ab Ad rfl (Ab Ad rfl (Ab Ad rfl (Ab (x_index1 rfl rfl (An rfl) (by omega)) rfl (Ab (Ai rfl (Ag rfl) ‹_›) rfl ?_))))))
  refine Ab (x_index1 rfl rfl (An rfl) (by omega)) rfl (Ab (Ai rfl (Ag rfl) ‹_›) rfl ?_)
  refine Ab Ah rfl (Af (Aa ?_))
  obtain ⟨Lb,hch,hLb⟩:=hlink.bkt _ hpV
  generalize LT.upd a (x+1) (par (x+1))=a at hT hlink
  generalize LT.upd bl (x+1) (bh sv)=bl at hT hlink hch
  generalize LT.upd bh sv (x+1)=bh at hT hlink hch ⊢
  refine Ao ?_
  refine EC_loop (fun n2 e wi=>∃lab a idom done rest h,Lb=done ++ rest∧LT.Chn bl h rest∧AtD e [dfb (.slice (some ⟨FB,0,none⟩) m m),dfl (.slice (some ⟨sc,0,none⟩) (7 * m) (7 * m))] [(7,seg sc m 0),(8,seg sc m 1),(9,seg sc m 2),(10,seg sc m 3),(11,seg sc m 4),(12,seg sc m 5),(13,seg sc m 6),(14,.slice (some ⟨FB,0,none⟩) m m),(17,.slice (some ⟨IB,0,none⟩) m m),(18,.int .i32 ((cn:Nat):Int)),(19,.int .i32 ((n:Nat):Int)),(20,.int .i32 ((x+1:Nat):Int)),(26,.int .i32 ((h:Nat):Int))]∧LTS w wi L sc FB IB m sd vert lab par a bh bl idom∧
   LT.LB (VG g) (SG g) num par n (x+1) (fun v=>v∈done) sd a lab bh bl idom∧idom 1=0∧n2=rest.length) Lb.length
   ⟨_,_,_,[],Lb,_,rfl,hch,AT rfl ⟨rfl,rfl,rfl,rfl,rfl,rfl,rfl,rfl,rfl,rfl,rfl,rfl,rfl,trivial⟩,hT,⟨hlink.al,hlink.sda,hlink.sdu,hlink.clo,hlink.bkt,fun v hv hl hc=>hlink.idm v hv hl (hc.elim .inl fun h=>by cases h)⟩,hid1,rfl⟩ ?_
  rintro n2 e wi ⟨lab,a,idom,done,rest,h,hLbe,hch,⟨t,rfl⟩,hT,hLB,hid1,rfl⟩
  refine Ae ?_
  cases rest with
  |nil=>
   have hh:h=0:=hch
   subst hh
   refine Ae (Ac (Ab Ad rfl (Ab (Bw rfl rfl) rfl (Af (Aa (Bh (congrArg Value.bool (decide_eq_false (fun h=>h rfl))) rfl (AK (AB (AD (AA (Ap ?_)))))))))))
   refine Aa ?_
   rw[List.append_nil] at hLbe
   subst hLbe
   have hdone:=hLB.done hd hwV hwn hge fun v hv hl hs=>(hLb v).2 ⟨hv,hl,hs⟩
   refine Ac (Ab Ad rfl (Ab (CQ (c:=((n - 1:Nat):Int)) rfl rfl (by rw[IntWalk.i32_in _ (by omega)];omega)) rfl ?_))
   refine Ab Ah rfl (Af ?_)
   exact Aw (n - 1) (by omega) ⟨n - 1,_,_,_,_,_,_,by omega,by omega,AT rfl ⟨rfl,rfl,rfl,rfl,rfl,rfl,rfl,rfl,rfl,rfl,rfl,trivial⟩,hT,hdone,fun v hv hl=>hLB.sdu v hv (by omega),hid1,rfl⟩
  |cons v rest=>
   obtain ⟨hv1,hv2,hch2⟩:=hch
   subst hv1
   obtain ⟨hvV,hvi,hvs⟩:=(hLb h).1 (by rw[hLbe];simp)
   have hvm:=(hVlt h hvV).2
   refine Ae (Ac (Ab Ad rfl (Ab (Bw rfl rfl) rfl (Af (Aa (Bm (congrArg Value.bool (decide_eq_true (fun e=>hv2 (by have e:((h:Nat):Int)=0:=e;omega)))) rfl (Aq (Aa (Ae (Ao (Ae ?_)))))))))))
   refine Ac (Ab Ad rfl (Ab Ad rfl (Ab Ad rfl (Ab Ad rfl (Be (AG Tryz.func127 rfl rfl rfl rfl) rfl (eval_ret hd hVlt hvV hT.scr hLB.al) ?_)))))
   rintro _ w8 ⟨u,a8,lab8,rfl,hs8,hal8,hO8,hu⟩
   refine Ab Ah rfl (Af (Aa ?_))
   have hu:=hu.resolve_left fun h=>by omega
   have hT8:=hT.on hO8 hs8
   have hLB8:=hLB.forest hal8
   have huV:=(hd.le hvV hu.2.1).1
   have hum:=(hVlt u huV).2
   refine Bj [dfb (.slice (some ⟨FB,0,none⟩) m m),dfl (.slice (some ⟨sc,0,none⟩) (7 * m) (7 * m))] [(7,seg sc m 0),(8,seg sc m 1),(9,seg sc m 2),(10,seg sc m 3),(11,seg sc m 4),(12,seg sc m 5),(13,seg sc m 6),(14,.slice (some ⟨FB,0,none⟩) m m),(17,.slice (some ⟨IB,0,none⟩) m m),(18,.int .i32 ((cn:Nat):Int)),(19,.int .i32 ((n:Nat):Int)),(20,.int .i32 ((x+1:Nat):Int)),(26,.int .i32 ((h:Nat):Int)),(27,.int .i32 ((u:Nat):Int))] rfl ⟨rfl,rfl,rfl,rfl,rfl,rfl,rfl,rfl,rfl,rfl,rfl,rfl,rfl,rfl,trivial⟩ fun t=>?_
   obtain ⟨hit,_⟩:=hLB8.item (D':=fun v=>v∈done ++ [h]) hd hwV hwn hge hvV hvi hvs hu.2 rfl (fun z hz=>by
    rcases List.mem_append.1 hz with k|k
    ·exact .inl k
    exact .inr (by simpa using k))
   have h1h:LT.upd idom h (if sd u<sd h then u else par (x+1)) 1=0:=by
    have h1:=hd.one
    rw[LT.upd_ne _ _ fun e=>by rw[← e] at hvi;omega];exact hid1
   refine Ae ?_
   have hcu:=(hT8.scr.cell hum).1
   have hcx:=(hT8.scr.cell hvm).1
   have hcd:Cells [(⟨sc,0 * m+u,none⟩,.int .i32 ((sd u:Nat):Int)),(⟨sc,0 * m+h,none⟩,.int .i32 ((sd h:Nat):Int))] w8.drew:=(Keep.drew w8).cells (.cons hcu (.cons hcx (.nil _)))
   refine AY mixed _ [(0,false),(1,false),(2,false),(3,false),(4,false),(5,false),(6,false),(7,false),(8,false)] (by kernel_rfl) hcd ?_
   have hT9:=hT8.bel' (w':=w8.drew) ⟨rfl,rfl,rfl,Nat.le_refl _,fun _ _=>rfl⟩
   generalize w8.drew=w9 at hcd hT9 ⊢
   have hcfu:=hT9.cFB hum
   have hcfp:=hT9.cFB hpm
   have hcib:=hT9.cIB hvm
   have hcpa:=(hT9.scr.cell hxm).2.2.2.1
   refine Aj rfl (fun _ _=>Ad) (Aj rfl (fun _ _=>Ad) (Aj rfl (fun _ _=>x_index1 rfl rfl (An rfl) (by omega)) (Aj rfl (fun _ hS=>Ai rfl (Ag rfl) (hS.get (by first|exact mm0|exact mm1|exact mm2|exact mm3|exact mm4|exact mm5|exact mm6|exact mm7))) ?_)))
   refine Aj rfl (fun _ _=>Ad) (Aj rfl (fun _ _=>Ad) (Aj rfl (fun _ _=>x_index1 rfl rfl (An rfl) (by omega)) (Aj rfl (fun _ hS=>Ai rfl (Ag rfl) (hS.get (by first|exact mm0|exact mm1|exact mm2|exact mm3|exact mm4|exact mm5|exact mm6|exact mm7))) ?_)))
   refine Aj rfl (fun _ _=>AX rfl rfl) (AP (Aa ?_))
   refine AI rfl rfl (fun hlt=>?_) (fun hnlt=>?_)
   ·have hlt:sd u<sd h:=by omega
    rw[if_pos hlt] at hit h1h
    refine Ac (Ab Ad rfl (Ab Ad rfl (Ab Ad rfl (Ab Ad rfl (Ab (x_index1 rfl rfl (An rfl) (by omega)) rfl (Ab (Ai rfl (Ag rfl) ‹_›) rfl ?_))))))
    refine Ab (x_index1 rfl rfl (An rfl) (by omega)) rfl (Bc (AU rfl rfl (DW L u) (AH rfl) hcib (AQ hT9.ib)) rfl (Af (Ap (Aa ?_))))
    have hTf:=hT9.setI (v:=h) (d:=u)
    change EC _ _ _ _ _ (w9.setCell ⟨IB,0+h,none⟩ (bpI L u))
    generalize w9.setCell ⟨IB,0+h,none⟩ (bpI L u)=wf at hTf ⊢
    have hcl:=(hTf.scr.cell hvm).2.2.2.2.2.2
    refine Ac (Ab Ad rfl (Ab Ad rfl (Ab (x_index1 rfl rfl (An rfl) (by omega)) rfl (Ab (Ai rfl (Ag rfl) ‹_›) rfl ?_))))
    refine Ab Ah rfl (Af ?_)
    exact Aw rest.length (by simp) ⟨_,_,_,done ++ [h],rest,_,by rw[hLbe];simp,hch2,AT rfl ⟨rfl,rfl,rfl,rfl,rfl,rfl,rfl,rfl,rfl,rfl,rfl,rfl,rfl,trivial⟩,hTf,hit,h1h,rfl⟩
   have hnlt:¬ sd u<sd h:=by omega
   rw[if_neg hnlt] at hit h1h
   refine Ac (Ab Ad rfl (Ab Ad rfl (Ab Ad rfl (Ab Ad rfl (Ab Ad rfl (Ab (x_index1 rfl rfl (An rfl) (by omega)) rfl (Ab (Ai rfl (Ag rfl) ‹_›) rfl ?_)))))))
   refine Ab (x_index1 rfl rfl (An rfl) (by omega)) rfl (Ab (Ai rfl (Ag rfl) ‹_›) rfl ?_)
   refine Ab (x_index1 rfl rfl (An rfl) (by omega)) rfl (Bc (AU rfl rfl (DW L (par (x+1))) (AH rfl) hcib (AQ hT9.ib)) rfl (Af (Ap (Aa ?_))))
   have hTf:=hT9.setI (v:=h) (d:=par (x+1))
   change EC _ _ _ _ _ (w9.setCell ⟨IB,0+h,none⟩ (bpI L (par (x+1))))
   generalize w9.setCell ⟨IB,0+h,none⟩ (bpI L (par (x+1)))=wf at hTf ⊢
   have hcl:=(hTf.scr.cell hvm).2.2.2.2.2.2
   refine Ac (Ab Ad rfl (Ab Ad rfl (Ab (x_index1 rfl rfl (An rfl) (by omega)) rfl (Ab (Ai rfl (Ag rfl) ‹_›) rfl ?_))))
   refine Ab Ah rfl (Af ?_)
   exact Aw rest.length (by simp) ⟨_,_,_,done ++ [h],rest,_,by rw[hLbe];simp,hch2,AT rfl ⟨rfl,rfl,rfl,rfl,rfl,rfl,rfl,rfl,rfl,rfl,rfl,rfl,rfl,trivial⟩,hTf,hit,h1h,rfl⟩
 rintro e wr ⟨sd,lab,a,bh,bl,idom,⟨t,rfl⟩,hT,hLI,hid1⟩
 obtain ⟨hsemi,hidm⟩:=hLI.semi hd
 have hsdr:∀v,VG g v→v≠1→1≤sd v∧sd v≤cn:=fun v hv hne=>by
  obtain ⟨_,_,s,h1,h2,_⟩:=hidm v hv hne
  have:=hd.pos s h1
  have:=hnl s
  omega
 refine AW (fun e wr=>∃idom,AtD e [dfb (.slice (some ⟨FB,0,none⟩) m m),dfl (.slice (some ⟨sc,0,none⟩) (7 * m) (7 * m))] [(17,.slice (some ⟨IB,0,none⟩) m m)]∧LTS w wr L sc FB IB m sd vert lab par a bh bl idom∧LT.L4 (VG g) num par sd (cn+1) idom∧idom 1=0) ?_ ?_
 ·refine Ae (Ac (Ab Ah rfl (Af (Aa (Ao ?_)))))
  refine EC_loop (fun n e wr=>∃i idom,2≤i∧i≤cn+1+1∧AtD e [dfb (.slice (some ⟨FB,0,none⟩) m m),dfl (.slice (some ⟨sc,0,none⟩) (7 * m) (7 * m))] [(7,seg sc m 0),(8,seg sc m 1),(9,seg sc m 2),(10,seg sc m 3),(11,seg sc m 4),(12,seg sc m 5),(13,seg sc m 6),(14,.slice (some ⟨FB,0,none⟩) m m),(17,.slice (some ⟨IB,0,none⟩) m m),(18,.int .i32 ((cn:Nat):Int)),(28,.int .i32 ((i:Nat):Int))]∧LTS w wr L sc FB IB m sd vert lab par a bh bl idom∧LT.L4 (VG g) num par sd i idom∧idom 1=0∧n+i=cn+2) cn
   ⟨2,idom,Nat.le_refl _,by omega,AT rfl ⟨rfl,rfl,rfl,rfl,rfl,rfl,rfl,rfl,rfl,rfl,rfl,trivial⟩,hT,⟨fun v hv hne hl=>by have:=hd.gt1 hv hne;omega,fun v hv hne _=>⟨(hidm v hv hne).1,(hidm v hv hne).2.1⟩⟩,hid1,rfl⟩ ?_
  clear hT hid1
  rintro n e wr ⟨i,idom,hi2,hi3,⟨t,rfl⟩,hT,hL4,hid1,hni⟩
  refine Ae (Ae (Ac (Ab Ad rfl (Ab Ad rfl (Ab (C7 rfl rfl) rfl (Af (Aa ?_)))))))
  refine AI rfl rfl (fun hle=>?_) (fun hgt=>?_)
  rotate_left
  ·have hi:i=cn+1∨cn+1<i:=by omega
   refine AK (AB (AD (AA ?_)))
   refine AR ⟨_,AT rfl ⟨rfl,trivial⟩,hT,⟨fun v hv hne hl=>hL4.done v hv hne (by have:=hnl v;omega),fun v hv hne hl=>by have:=hnl v;omega⟩,hid1⟩
  have hle:i≤cn:=by omega
  refine Aq (Aa (Ae (Ao ?_)))
  obtain ⟨hwV,hwn⟩:=hvert i (by omega) hle
  have hcv:=(hT.scr.cell (i:=i) (by omega)).2.1
  generalize hvw:vert i=wv at hwV hwn hcv
  have hw1:wv≠1:=fun e=>by have h:=hd.one;rw[e] at hwn;omega
  have hwm:=(hVlt wv hwV).2
  obtain ⟨hsr1,hsr2⟩:=hsdr wv hwV hw1
  obtain ⟨_,_,sv,hsV,hsn,hsA,hsne⟩:=hidm wv hwV hw1
  obtain ⟨hiV,_⟩:=hL4.left wv hwV hw1 (by omega)
  have him:=(hVlt _ hiV).2
  have hci:=hT.cIB hwm
  generalize hiw:idom wv=dv at hiV him hci
  obtain ⟨y,rfl,hy⟩:=hiV.ex
  rw[E5] at hci
  have hidy:wr.cell? ⟨L.bb y,0+0,none⟩=some (.int .i32 ((y+1:Nat):Int)):=(hg.on hT.bel).bID hy
  have hc0:=(hT.scr.cell hwm).1
  have hc1:=(hT.scr.cell (i:=sd wv) (by omega)).2.1
  rw[← hsn,hvn sv hsV,hsn] at hc1
  have hcy:=hT.cIB him
  have hnext:=fun d he=>hL4.next (d:=d) hd hwV hw1 hwn ⟨hsV,hsn,hsA,hsne⟩ he
  rw[hiw] at hnext
  refine Ae (Ac (Ab Ad rfl (Ab Ad rfl (Ab (x_index1 rfl rfl (An rfl) (by omega)) rfl (Ab (Ai rfl (Ag rfl) ‹_›) rfl ?_)))))
  refine Ab Ah rfl (Af (Aa (Bj [dfb (.slice (some ⟨FB,0,none⟩) m m),dfl (.slice (some ⟨sc,0,none⟩) (7 * m) (7 * m))] [(7,seg sc m 0),(8,seg sc m 1),(9,seg sc m 2),(10,seg sc m 3),(11,seg sc m 4),(12,seg sc m 5),(13,seg sc m 6),(14,.slice (some ⟨FB,0,none⟩) m m),(17,.slice (some ⟨IB,0,none⟩) m m),(18,.int .i32 ((cn:Nat):Int)),(28,.int .i32 ((i:Nat):Int)),(29,.int .i32 ((wv:Nat):Int))] rfl ⟨rfl,rfl,rfl,rfl,rfl,rfl,rfl,rfl,rfl,rfl,rfl,rfl,trivial⟩ fun t=>(Ae ?_))))
  have hcd:Cells [(⟨IB,0+wv,none⟩,L.bp y),(⟨L.bb y,0+0,none⟩,.int .i32 ((y+1:Nat):Int)),(⟨sc,0 * m+wv,none⟩,.int .i32 ((sd wv:Nat):Int)),(⟨sc,1 * m+sd wv,none⟩,.int .i32 ((sv:Nat):Int))] wr.drew:=
   (Keep.drew wr).cells (.cons hci (.cons hidy (.cons hc0 (.cons hc1 (.nil _)))))
  refine AY mixed _ [(0,false),(1,false),(2,false),(3,false),(4,false),(5,false),(6,false),(7,false),(8,false),(9,false),(10,false),(11,false),(12,false),(13,false),(14,false)] (by kernel_rfl) hcd ?_
  have hT9:=hT.bel' (w':=wr.drew) ⟨rfl,rfl,rfl,Nat.le_refl _,fun _ _=>rfl⟩
  replace hci:=(Keep.drew wr) _ _ hci
  replace hcy:=(Keep.drew wr) _ _ hcy
  replace hidy:=(Keep.drew wr) _ _ hidy
  generalize wr.drew=w9 at hcd hT9 hci hcy hidy ⊢
  have hsm:sd wv<m:=by omega
  refine Aj rfl (fun _ _=>Ad) (Aj rfl (fun _ _=>Ad) (Aj rfl (fun _ _=>x_index1 rfl rfl (An rfl) (by omega)) (Aj rfl (fun _ hS=>Ai rfl (Ag rfl) (hS.get (by first|exact mm0|exact mm1|exact mm2|exact mm3|exact mm4|exact mm5|exact mm6|exact mm7))) ?_)))
  refine Aj rfl (fun _ _=>Au rfl) (Aj rfl (fun _ _=>Al rfl (Ak rfl)) (Aj rfl (fun _ hS=>Ai rfl (Ag rfl) (hS.get (by first|exact mm0|exact mm1|exact mm2|exact mm3|exact mm4|exact mm5|exact mm6|exact mm7))) ?_))
  refine Aj rfl (fun _ _=>Ad) (Aj rfl (fun _ _=>Ad) (Aj rfl (fun _ _=>Ad) (Aj rfl (fun _ _=>x_index1 rfl rfl (An rfl) (by omega)) (Aj rfl (fun _ hS=>Ai rfl (Ag rfl) (hS.get (by first|exact mm0|exact mm1|exact mm2|exact mm3|exact mm4|exact mm5|exact mm6|exact mm7))) ?_))))
  refine Aj rfl (fun _ _=>x_index1 rfl rfl (An rfl) (by omega)) (Aj rfl (fun _ hS=>Ai rfl (Ag rfl) (hS.get (by first|exact mm0|exact mm1|exact mm2|exact mm3|exact mm4|exact mm5|exact mm6|exact mm7))) ?_)
  refine Aj rfl (fun _ _=>Bw rfl rfl) (AP (Aa ?_))
  refine AI rfl rfl (fun hne=>?_) (fun heq=>?_)
  rotate_left
  ·have heq:y+1=sv:=by
    refine Classical.byContradiction fun e=>heq fun h=>e (by omega)
   have hn2:=hnext (y+1) (by rw[if_pos heq])
   have e9:LT.upd idom wv (y+1)=idom:=by
    funext z
    unfold LT.upd
    split
    ·rename_i e;rw[e];exact hiw.symm
    rfl
   rw[e9] at hn2
   refine Aq (Ap (Aa (Ac (Ab Ad rfl (Ab (Cq (c:=((i+1:Nat):Int)) rfl rfl (by rw[IntWalk.i32_in _ (by omega)];omega)) rfl ?_)))))
   refine Ab Ah rfl (Af ?_)
   exact Aw (n - 1) (by omega) ⟨i+1,_,by omega,by omega,AT rfl ⟨rfl,rfl,rfl,rfl,rfl,rfl,rfl,rfl,rfl,rfl,rfl,trivial⟩,hT9,hn2,hid1,by omega⟩
  have hne:¬ y+1=sv:=fun e=>hne (by rw[e])
  have hn2:=hnext (idom (y+1)) (by rw[if_neg hne])
  have h11:LT.upd idom wv (idom (y+1)) 1=0:=by rw[LT.upd_ne _ _ fun e=>hw1 e.symm];exact hid1
  refine Ac (Ab Ad rfl (Ab Ad rfl (Ab Ad rfl (Ab Ad rfl (Ab Ad rfl (Ab (x_index1 rfl rfl (An rfl) (by omega)) rfl (Ab (Ai rfl (Ag rfl) ‹_›) rfl ?_)))))))
  refine Ab (Au rfl) rfl (Ab (Al rfl (Ak rfl)) rfl (Ab (Ai rfl (Ag rfl) ‹_›) rfl ?_))
  refine Ab (x_index1 rfl rfl (An rfl) (by omega)) rfl (Ab (Ai rfl (Ag rfl) ‹_›) rfl ?_)
  refine Ab (x_index1 rfl rfl (An rfl) (by omega)) rfl (Bc (AU rfl rfl (DW L (idom (y+1))) (AH rfl) hci (AQ hT9.ib)) rfl (Af (Ap (Aa ?_))))
  have hTf:=hT9.setI (v:=wv) (d:=idom (y+1))
  refine Ac (Ab Ad rfl (Ab (Cq (c:=((i+1:Nat):Int)) rfl rfl (by rw[IntWalk.i32_in _ (by omega)];omega)) rfl ?_))
  refine Ab Ah rfl (Af ?_)
  exact Aw (n - 1) (by omega) ⟨i+1,_,by omega,by omega,AT rfl ⟨rfl,rfl,rfl,rfl,rfl,rfl,rfl,rfl,rfl,rfl,rfl,trivial⟩,hTf,hn2,h11,by omega⟩
 clear hT hid1
 rintro e wr ⟨idom,⟨t,rfl⟩,hT,hL4,hid1⟩
 refine Ae (Ac (Ab Ad rfl (Ab Ah rfl (Af (Aa (AE (Ei rfl rfl (idle2 _ _) fun w' hb=>?_)))))))
 have hTf:=hT.bel' hb
 rw[hBd]
 refine ⟨IB,idom,rfl,hT.ne.2.1,hTf.ib,⟨hid1,fun v hv hne=>?_,num,fun v hv hne=>?_⟩,hTf.bel⟩
 ·obtain ⟨h1,h2⟩:=hL4.done v hv hne (by have:=hnl v;omega)
  exact ⟨h1,h2.dom hd hsemi hVS hv⟩
 obtain ⟨h1,h2⟩:=hL4.done v hv hne (by have:=hnl v;omega)
 exact (hd.le hv h2.anc).2.2 h2.ne
end Go.Proofs.YteepnepebilckaaGreatDoor
