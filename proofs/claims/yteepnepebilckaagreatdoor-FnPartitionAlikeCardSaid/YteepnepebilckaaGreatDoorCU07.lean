/- The law FnPartitionAlike returns true for every input in which the opcode table reads as laid, and its argument reads as it did, the table being tied to the text of the program. -/
import Derived.Test.YteepnepebilckaaGreatDoorCU06
namespace Go.Proofs.YteepnepebilckaaGreatDoor
open Go Go.Eng Go.RowKit
set_option maxHeartbeats 4000000
attribute [local irreducible] EC EL DL Ret thenQ blockQ Bd bodyQ onlyN execOp Sem.run World.cell? World.frozen? World.setCell World.alloc
end Go.Proofs.YteepnepebilckaaGreatDoor
namespace Go.Proofs.YteepnepebilckaaGreatDoor
open Go Go.Eng Go.RowKit
set_option maxHeartbeats 4000000
attribute [local irreducible] EC EL DL Ret thenQ blockQ Bd bodyQ onlyN execOp Sem.run World.cell? World.frozen? World.setCell World.alloc
theorem GRep.baseLe {w:World} {B:Nat} {L:Lay} {g:Gph} (h:GRep w B L g):B≤w.heap.size:=by
 have h1:=Bt h
 have h2:=h.tags.fbB
 omega
def Lay.fp (L:Lay):Value:=.pointer (some ⟨L.fb,0,none⟩)
end Go.Proofs.YteepnepebilckaaGreatDoor
namespace Go.Proofs.YteepnepebilckaaGreatDoor
open Go Go.Eng Go.RowKit
set_option maxHeartbeats 4000000
attribute [local irreducible] EC EL DL Ret thenQ blockQ Bd bodyQ onlyN execOp Sem.run World.cell? World.frozen? World.setCell World.alloc
theorem DX {w:World} {B:Nat} {L:Lay} {g:Gph} (h:GRep w B L g) {b:Nat} (hb:b<g.nb):
 Ret Tryz.prog 70 #[L.bp b] w fun v w'=>v=L.sl (.ctrl b)∧w'=w:=by
 have f1:=h.bCtrl hb
 refine ret_of_EC Tryz.func70 rfl rfl (Ae (Ac (Ab Ah rfl (Af (Aa (Ae (Ac (Ab Ad rfl (Ab (Ay rfl) rfl (Ab (Ak rfl (Al rfl)) rfl (Ab (Ai rfl (Ag rfl) ‹_›) rfl ?_)))))))))))
 refine Ab Ah rfl (Af (Aa (AF ?_)))
 exact Aw rfl rfl rfl ⟨rfl,rfl⟩
end Go.Proofs.YteepnepebilckaaGreatDoor
namespace Go.Proofs.YteepnepebilckaaGreatDoor
open Go Go.Eng Go.RowKit
set_option maxHeartbeats 4000000
attribute [local irreducible] EC EL DL Ret thenQ blockQ Bd bodyQ onlyN execOp Sem.run World.cell? World.frozen? World.setCell World.alloc
def ctl (l:List Nat):Int:=match l with| []=> -1|c :: _=>(c:Int)
def nats (l:List Nat):List Int:=l.map fun a=>((a:Nat):Int)
def gb (g:Gph) (i:Nat):Bk:=⟨g.kind i,ctl (g.ctrl i),nats (g.succs i),g.likely i⟩
theorem Bv {l:List Nat} {k:Nat} (hk:k<l.length):l.getD k 0∈l:=by
 rw[List.getD_eq_getElem?_getD,List.getElem?_eq_getElem hk];simp
end Go.Proofs.YteepnepebilckaaGreatDoor
namespace Go.Proofs.YteepnepebilckaaGreatDoor
open Go Go.Eng Go.RowKit
def cellsOf (R:Nat→Value) (n:Nat):Array Value:=((List.range n).map R).toArray
theorem Ba (R:Nat→Value) {n i:Nat} (h:i<n):(cellsOf R n)[i]? =some (R i):=by
 simp [cellsOf,List.getElem?_range h]
theorem Cm (R:Nat→Value) (n:Nat):(cellsOf R n).size=n:=by simp [cellsOf]
theorem cellsOf_set (R:Nat→Value) (n s:Nat) (v:Value):(cellsOf R n).setIfInBounds s v=cellsOf (fun x=>if x=s then v else R x) n:=by
 apply Array.ext_getElem?
 intro i
 rw[Array.getElem?_setIfInBounds,Cm]
 by_cases hi:i<n
 ·rw[Ba _ hi,Ba _ hi]
  by_cases e:s=i
  ·subst e;simp [hi]
  rw[if_neg e]
  have:¬ i=s:=fun h=>e h.symm
  simp [this]
 have h1:(cellsOf R n)[i]? =none:=by rw[Array.getElem?_eq_none];rw[Cm];omega
 have h2:(cellsOf (fun x=>if x=s then v else R x) n)[i]? =none:=by rw[Array.getElem?_eq_none];rw[Cm];omega
 rw[h1,h2]
 split
 ·rw[if_neg (by omega)]
 rfl
theorem CZ (z:Value) (n:Nat):madeCells #[z] n=cellsOf (fun _=>z) n:=by
 simp [madeCells,cellsOf]
 apply Array.ext
 ·simp
 intro i h1 h2
 simp [Nat.mod_one]
structure Rows (w:World) (base:Nat) (R:Nat→Value) (n:Nat) (L:Nat→List Nat):Prop where
 row:∀b,b<n→w.ownsRow base 3 1 (R b) (L b).length ((nats (L b)).map (.int .i64))
 off:∀b c,b<n→c<n→b≠c→∀k,(R b).ownBlock=some k→(R c).ownBlock≠some k
theorem Rows.stay {w w':World} {base:Nat} {R:Nat→Value} {n:Nat} {L:Nat→List Nat} (h:Rows w base R n L) (hk:∀k,base≤k→k<w.heap.size→w'.heap[k]? =w.heap[k]?):Rows w' base R n L:=
 ⟨fun b hb=>AA (h.row b hb) fun k e=>hk k (Au (h.row b hb) k e).1 (Au (h.row b hb) k e).2,h.off⟩
theorem Rows.push {w w':World} {base:Nat} {R:Nat→Value} {n:Nat} {L:Nat→List Nat} (h:Rows w base R n L) {s:Nat} (hs:s<n) {v':Value} {x:Nat} {g o:Nat} (hg:g<base)
 (hrow:w'.ownsRow base 3 1 v' ((L s).length+1) ((nats (L s)).map (.int .i64) ++ [.int .i64 (x:Int)])) (hgr:w.grownBy w' (R s).ownBlock) (hwh:v'.ownBlock=(R s).ownBlock∨v'.ownBlock=some w.heap.size):
 Rows (w'.setCell ⟨g,o,none⟩ v') base (fun b=>if b=s then v' else R b) n (fun b=>if b=s then L s ++ [x] else L b):=by
 refine ⟨fun b hb=>?_,fun b c hb hc hne k hk=>?_⟩
 ·show World.ownsRow _ _ _ _ (if b=s then v' else R b) (if b=s then L s ++ [x] else L b).length ((nats (if b=s then L s ++ [x] else L b)).map (.int .i64))
  by_cases e:b=s
  ·rw[if_pos e,if_pos e,List.length_append]
   have:nats (L s ++ [x])=nats (L s) ++ [(x:Int)]:=by simp [nats]
   rw[this,List.map_append]
   exact AA hrow fun k e2=>Below.heap_setCell _ _ _ _ (by have:=(Au hrow k e2).1;show k≠g;omega)
  rw[if_neg e,if_neg e]
  refine AA (h.row b hb) fun k e2=>?_
  have hlt:=Au (h.row b hb) k e2
  rw[Below.heap_setCell _ _ _ _ (by show k≠g;omega),hgr.block k hlt.2 (fun e3=>h.off b s hb hs e k e2 e3.symm)]
 have new:∀c,c<n→c≠s→(R c).ownBlock≠v'.ownBlock∨v'.ownBlock=none:=fun c hc hne=>by
  rcases hwh with e|e
  ·cases hv:v'.ownBlock with
   |none=>exact .inr rfl
   |some k=>
    left
    rw[hv] at e
    exact fun e2=>h.off c s hc hs hne k (e2.trans rfl) e.symm
  left
  rw[e]
  intro e2
  have:=(Au (h.row c hc) _ e2).2
  omega
 have hk:(if b=s then v' else R b).ownBlock=some k:=hk
 show (if c=s then v' else R c).ownBlock≠some k
 by_cases e:b=s
 ·rw[if_pos e] at hk
  rw[if_neg (fun e2=>hne (e.trans e2.symm))]
  rcases new c hc (fun e2=>hne (e.trans e2.symm)) with h1|h1
  ·rw[← hk];exact h1
  rw[h1] at hk;cases hk
 rw[if_neg e] at hk
 by_cases e2:c=s
 ·rw[if_pos e2]
  rcases new b hb e with h1|h1
  ·rw[← hk];exact fun e3=>h1 e3.symm
  rw[h1];simp
 rw[if_neg e2];exact h.off b c hb hc hne k hk
theorem predsTo_len' (f:Fn) (sh:Shp f) (i k b:Nat) (hi:i<f.blks.length):(predsTo f i k b).length≤2 * i+2:=by
 have h1:∀m,m≤i→((List.range m).flatMap fun x=>((f.b x).succs.filter fun s=>s == (b:Int)).map fun _=>x).length≤2 * m:=by
  intro m
  induction m with
  |zero=>intro _;simp
  |succ m ih=>
   intro hm
   rw[List.range_succ,List.flatMap_append,List.length_append]
   have h2:=ih (by omega)
   have h3:=(sh.succs m (by omega)).1
   have h4:(((f.b m).succs.filter fun s=>s == (b:Int)).map fun _=>m).length≤(f.b m).succs.length:=by
    rw[List.length_map];exact List.length_filter_le _ _
   simp only [List.flatMap_cons,List.flatMap_nil,List.append_nil]
   omega
 have h2:=h1 i (Nat.le_refl _)
 have h3:=(sh.succs i hi).1
 have h4:((((f.b i).succs.take k).filter fun s=>s == (b:Int)).map fun _=>i).length≤(f.b i).succs.length:=by
  rw[List.length_map]
  refine Nat.le_trans (List.length_filter_le _ _) ?_
  rw[List.length_take];omega
 unfold predsTo
 rw[List.length_append]
 omega
set_option maxHeartbeats 4000000
attribute [local irreducible] EC EL DL Ret thenQ blockQ Bd bodyQ onlyN execOp Sem.run World.cell? World.frozen? World.setCell World.alloc
theorem Preds_ret {w:World} {x:Value} {f:Fn} (hx:FnV w x f) (sh:Shp f):
 Ret Tryz.prog 25 #[x] w fun v w'=>∃G R,v= .slice (some ⟨G,0,none⟩) f.blks.length f.blks.length∧w'.heap[G]? =some (.cells (cellsOf R f.blks.length) 35 (0,0))∧
  (∀b,b<f.blks.length→IntsV w' (R b) (nats (predsOf f b)))∧Below w.heap.size w w':=by
 obtain ⟨xv,xb,rfl,hvals,hblks⟩:=hx
 refine ret_of_EC Tryz.func25 rfl rfl ?_
 obtain ⟨ab,cb,rfl,hbl⟩:=hblks
 obtain ⟨B,hBd⟩:∃B,B=w.heap.size:=⟨_,rfl⟩
 have hnb:=sh.nb
 have hone:=sh.one
 refine Ae (Ac (Ab (Bw (v:=.agg #[xv,.slice ab f.blks.length cb]) rfl) rfl (el_new (.cells #[xv,.slice ab f.blks.length cb] 30) B (by omega) fun wa hN1 hO1 hZ1 hB1 hK1=>(Ab Ah rfl (Af (Aa ?_))))))
 obtain ⟨b1,hb1⟩:∃b1,b1=w.heap.size:=⟨_,rfl⟩
 rw[← hb1] at hN1 ⊢
 have g1:wa.cell? ⟨b1,0+1,none⟩=some (.slice ab f.blks.length cb):=Am hN1 rfl
 refine Ae (Ac (Ab (Ak rfl (Al rfl)) rfl (Ab (Ai rfl (Ag rfl) ‹_›) rfl ?_)))
 refine Ab (AP rfl (An rfl)) rfl (Ab (CU Tryz.underlying33 FS rfl rfl rfl (by omega) (by omega)) rfl ?_)
 rw[CZ]
 have hBle:B≤wa.heap.size:=by omega
 refine el_new (.cells (cellsOf (fun _=>.slice none 0 0) f.blks.length) 35) B (by omega) fun wb hN2 hO2 hZ2 hB2 hK2=>?_
 obtain ⟨G,hG⟩:∃G,G=wa.heap.size:=⟨_,rfl⟩
 rw[← hG] at hN2 ⊢
 refine Ab Ah rfl (Af (Aa ?_))
 have hbelB:Below B w wb:=hB1.trans hB2
 have hbx:wb.heap[b1]? =some (.cells #[xv,.slice ab f.blks.length cb] 30 (0,0)):=(hO2 _ (by omega)).trans hN1
 have g2:wb.cell? ⟨b1,0+1,none⟩=some (.slice ab f.blks.length cb):=Am hbx rfl
 have hR0:Rows wb (G+1) (fun _=>.slice none 0 0) f.blks.length (predsTo f 0 0):=by
  have:predsTo f 0 0=fun _=>[]:=by funext b;simp [predsTo]
  rw[this]
  exact ⟨fun _ _=>World.ownsRow_nil _ _ _ _,fun _ _ _ _ _ k hk=>by cases hk⟩
 refine AW (fun e wr=>∃R,At e [(3,.slice (some ⟨G,0,none⟩) f.blks.length f.blks.length)]∧wr.heap[G]? =some (.cells (cellsOf R f.blks.length) 35 (0,0))∧Rows wr (G+1) R f.blks.length (predsTo f f.blks.length 0)∧Below B w wr) ?_ ?_
 ·refine Ae (Ac (Ab (Ak rfl (Al rfl)) rfl (Ab (Ai rfl (Ag rfl) ‹_›) rfl ?_)))
  refine Ab (AP rfl (An rfl)) rfl (Ab Ad rfl (Af (Aa (Ao ?_))))
  refine EC_loop (fun n e wr=>∃(i:Nat) (R:Nat→Value),i≤f.blks.length∧At e [(1,.pointer (some ⟨b1,0,none⟩)),(3,.slice (some ⟨G,0,none⟩) f.blks.length f.blks.length),(13,.slice ab f.blks.length cb),(14,.int .i64 (f.blks.length:Int)),(15,.int .i64 (i:Int))]∧wr.heap[G]? =some (.cells (cellsOf R f.blks.length) 35 (0,0))∧Rows wr (G+1) R f.blks.length (predsTo f i 0)∧G+1≤wr.heap.size∧Below B w wr∧n=f.blks.length - i) f.blks.length
   ⟨0,_,Nat.zero_le _,As rfl ⟨rfl,rfl,rfl,rfl,rfl,trivial⟩,hN2,hR0,by omega,hbelB,rfl⟩ ?_
  rintro n e wr ⟨i,R,hi,⟨t,rfl⟩,hS,hR,hsz,hb,rfl⟩
  refine Ae (Ac (Ab (AV rfl rfl) rfl (Af (Aa (Ae ?_)))))
  refine AI rfl rfl (fun hlt=>?_) (fun hge=>?_)
  rotate_left
  ·have hi:i=f.blks.length:=by omega
   subst hi
   refine AK (AB (AD (Az ?_)))
   exact AS ⟨R,As rfl ⟨rfl,trivial⟩,hS,hR,hb⟩
  have hlt:i<f.blks.length:=by omega
  obtain ⟨bb,ob,rfl,hq⟩:=hbl.resolve_left (fun e=>by rw[e] at hlt;simp at hlt)
  obtain ⟨s0,hcells0,⟨sa,sc,rfl,hints⟩⟩:=hq i hlt
  have hcells:=hcells0.keep (D6 hb (by omega))
  obtain ⟨hsl,hsm⟩:=sh.succs i hlt
  refine Ar (Aa (Ae (Ao (Ae (Ac (Ab Ad rfl (Ab (A4 (n:=4) rfl rfl (An rfl) hlt) rfl (Ab (A5 rfl (A3 rfl) hcells) rfl (Ab (A9 Eq) rfl (Ab Ah rfl (Bf (Bj rfl rfl (A7 rfl) rfl rfl) rfl ?_)))))))))))
  refine Af (Aa ?_)
  have ho:(f.blks.getD i default)=f.b i:=rfl
  simp only [ho] at hcells hints ⊢
  have hBle:B≤wr.heap.size:=by omega
  refine ec_new (.cells #[.int .i64 (f.b i).kind,.int .i64 (f.b i).ctrl,.slice sa (f.b i).succs.length sc,.int .i64 (f.b i).likely] 54) B (by omega) fun W hN3 hO3 hZ3 hB3 hK3=>?_
  have hl2:W.cell? ⟨wr.heap.size,0+2,none⟩=some (.slice sa (f.b i).succs.length sc):=Am hN3 rfl
  have hSW:=(hO3 G (by omega)).trans hS
  have hRW:=hR.stay (w':=W) fun k _ hk=>hO3 k hk
  have hbW:Below B w W:=hb.trans hB3
  refine Ae (Ac (Ab (Ak rfl (Al rfl)) rfl (Ab (Ai rfl (Ag rfl) ‹_›) rfl ?_)))
  refine Ab (AP rfl (An rfl)) rfl (Ab Ad rfl (Af (Aa (Ao ?_))))
  refine EC_loop (fun m e wi=>∃(k:Nat) (R:Nat→Value),k≤(f.b i).succs.length∧At e [(1,.pointer (some ⟨b1,0,none⟩)),(3,.slice (some ⟨G,0,none⟩) f.blks.length f.blks.length),(13,.slice (some ⟨bb,ob,none⟩) f.blks.length cb),(14,.int .i64 (f.blks.length:Int)),(15,.int .i64 (i:Int)),(4,.int .i64 (i:Int)),(21,.slice sa (f.b i).succs.length sc),(22,.int .i64 ((f.b i).succs.length:Int)),(23,.int .i64 (k:Int))]∧wi.heap[G]? =some (.cells (cellsOf R f.blks.length) 35 (0,0))∧Rows wi (G+1) R f.blks.length (predsTo f i k)∧G+1≤wi.heap.size∧Below B w wi∧m=(f.b i).succs.length - k) (f.b i).succs.length
   ⟨0,R,Nat.zero_le _,As rfl ⟨rfl,rfl,rfl,rfl,rfl,rfl,rfl,rfl,rfl,trivial⟩,hSW,hRW,by omega,hbW,rfl⟩ ?_
  rintro m e wi ⟨k,R,hk,⟨t,rfl⟩,hS,hR,hsz,hb,rfl⟩
  refine Ae (Ac (Ab (AV rfl rfl) rfl (Af (Aa (Ae ?_)))))
  refine AI rfl rfl (fun hlk=>?_) (fun hge=>?_)
  rotate_left
  ·have hk:k=(f.b i).succs.length:=by omega
   subst hk
   refine AK (AB (AD (Az (Ap (Aa ?_)))))
   rw[DE] at hR
   refine Ac (Ab (x_inc rfl rfl (by omega)) rfl (Ab Ad rfl (Af ?_)))
   exact Av (f.blks.length - (i+1)) (by omega) ⟨i+1,R,by omega,As rfl ⟨rfl,rfl,rfl,rfl,rfl,trivial⟩,hS,hR,hsz,hb,rfl⟩
  have hlk:k<(f.b i).succs.length:=by omega
  obtain ⟨_,_,e3,hintI⟩:IntsV wi (.slice sa (f.b i).succs.length sc) (f.b i).succs:=IntsV.keep ⟨sa,sc,rfl,hints⟩ (D6 hb (by omega))
  obtain ⟨bi,oi,rfl,hai⟩:=hintI.get hlk
  injection e3 with e4 e5 e6
  subst e4
  have hmem:(f.b i).succs.getD k 0∈(f.b i).succs:=by rw[List.getD_eq_getElem?_getD,List.getElem?_eq_getElem hlk];simp
  obtain ⟨hy0,hy1⟩:=hsm _ hmem
  have hstep2:=predsTo_step f i k hlk ((f.b i).succs.getD k 0).toNat (by omega)
  generalize (f.b i).succs.getD k 0=y at hai hy0 hy1 hstep2
  have hyy:y=((y.toNat:Nat):Int):=by omega
  have hyl:y.toNat<f.blks.length:=by omega
  have hcy:wi.cell? ⟨G,0+y.toNat,none⟩=some (R y.toNat):=Am hS (by rw[Nat.zero_add];exact Ba _ hyl)
  refine Ar (Aa (Ae (Ao (Ae (Ac (Ab (x_index1 rfl rfl (An rfl) (by omega)) rfl (Ab (Ai rfl (Ag rfl) ‹_›) rfl ?_)))))))
  refine Ab Ah rfl (Af (Aa (Ac (Ab Ad rfl (Ab Ad rfl (Ab Ad rfl (Ab Ad rfl (Ab (A0 rfl rfl hyy (An rfl) hyl) rfl (Ab (Ai rfl (Ag rfl) ‹_›) rfl ?_)))))))))
  refine Ab Ad rfl (Ab (Bq (v:=.int .i64 (i:Int)) rfl rfl Tryz.underlying35 (by kernel_rfl) (z:=.int .i64 0) rfl) rfl ?_)
  have hBle:B≤wi.heap.size:=by omega
  refine el_new (.cells #[.int .i64 (i:Int)] 3) B (by omega) fun w6 hN6 hO6 hZ6 hB6 hK6=>?_
  have hR6:=hR.stay (w':=w6) fun k _ hk=>hO6 k hk
  have hlen:(predsTo f i k y.toNat).length≤64:=by
   have:=predsTo_len' f sh i k y.toNat hlt
   omega
  refine Bz (hR6.row y.toNat hyl) (Am hN6 rfl) rfl (by omega) (by decide) (by omega) Tryz.underlying35 Ck rfl rfl rfl rfl ?_
  intro v7 w7 hrow7 hgr7 hwh7
  have hlow:=Au (hR6.row y.toNat hyl)
  have hS7:w7.heap[G]? =some (.cells (cellsOf R f.blks.length) 35 (0,0)):=by
   rw[hgr7.block G (by omega) (fun e=>by have:=hlow G e.symm;omega),hO6 G (by omega)];exact hS
  refine Ab (A0 rfl rfl hyy (An rfl) hyl) rfl (Bf (AX rfl rfl (Bp hrow7) (AO rfl) (Am hS7 (by rw[Nat.zero_add];exact Ba _ hyl)) (AU hS7)) rfl ?_)
  refine Af (Ap (Aa ?_))
  have hS8:=AG (o:=0+y.toNat) (u:=v7) hS7
  rw[cellsOf_set] at hS8
  have hR8:=hR6.push hyl (g:=G) (o:=0+y.toNat) (x:=i) (by omega) hrow7 hgr7 hwh7
  rw[hstep2] at hR8
  have hb8:Below B w (w7.setCell ⟨G,0+y.toNat,none⟩ v7):=((hb.trans hB6).grown hgr7 (by omega) (fun j e=>by have:=hlow j e;omega)).setCell (by show B≤G;omega) _
  refine Ac (Ab (x_inc rfl rfl (by omega)) rfl (Ab Ad rfl (Af ?_)))
  exact Av ((f.b i).succs.length - (k+1)) (by omega) ⟨k+1,_,by omega,As rfl ⟨rfl,rfl,rfl,rfl,rfl,rfl,rfl,rfl,rfl,trivial⟩,by rw[Nat.zero_add] at hS8 ⊢;exact hS8,hR8,by rw[BI];have:=hgr7.size;omega,hb8,rfl⟩
 rintro e wr ⟨R,⟨t,rfl⟩,hS,hR,hb⟩
 refine Ae (Ac (Ab Ad rfl (Ab Ah rfl (Af (Aa (AF ?_))))))
 refine Aw rfl rfl rfl ⟨G,R,rfl,hS,fun b hbn=>?_,by rw[hb1,← hBd];exact hb⟩
 have h1:=hR.row b hbn
 have h2:predsTo f f.blks.length 0 b=predsOf f b:=by simp [predsTo,predsOf]
 rw[h2] at h1
 exact Cy (l:=nats (predsOf f b)) (by simpa [nats] using h1)
end Go.Proofs.YteepnepebilckaaGreatDoor
namespace Go.Eng
open Go
theorem FM {P:Program} {l:List Oper} {e:Env} {i:Nat} {w:World} {K K':Value→World→Prop} (h:Cf P l e i w K) (hk:∀v w,K v w→K' v w):Cf P l e i w K':=by
 rcases h with ⟨h1,h2⟩|⟨h1,h2⟩
 ·exact .inl ⟨h1,hk _ _ h2⟩
 refine .inr ⟨h1,?_⟩
 rcases h2 with ⟨v,w1,h3,h4⟩|⟨w1,h3,h4⟩|⟨f,args,w1,S,h3,h4,h5⟩
 ·exact .inl ⟨v,w1,h3,hk _ _ h4⟩
 ·exact .inr (.inl ⟨w1,h3,hk _ _ h4⟩)
 exact .inr (.inr ⟨f,args,w1,S,h3,h4,fun v w2 hv=>hk _ _ (h5 v w2 hv)⟩)
theorem DL_mono {P:Program} {l:List Oper} {S:World→Prop} {Q:Env→World→Prop} (Φ:Env→World→Prop):∀{r:List (Nat×Bool)} {e:Env} {w:World},DL P l S Φ r e w→(∀e w,Φ e w→Q e w)→DL P l S Q r e w
 | [],_,_,h,hq=>hq _ _ h
 |(_,false) :: _,_,_,⟨v,h1,h2⟩,hq=>⟨v,h1,DL_mono Φ h2 hq⟩
 |(_,true) :: _,_,_,h,hq=>FM h fun _ _ hk=>⟨hk.1,DL_mono Φ hk.2 hq⟩
end Go.Eng
namespace Go.Eng
open Go Go.RowKit
def AtD (e:Env) (ds:List Deferred) (l:List (Nat×Value)):Prop:=∃t,e=Env.sets ⟨t,ds⟩ l
theorem AT {e:Env} {ds:List Deferred} {l:List (Nat×Value)} (hd:e.d=ds) (h:Holds e l):AtD e ds l:=by
 refine ⟨e.t,?_⟩
 have:(⟨e.t,ds⟩:Env)=e:=by cases e;simp_all
 rw[this,sets_self h]
section
variable {P : Program} {w : World}
theorem callsD_of_EC {u:FrameMode} {f:FuncId} {fn:Func} {c:Code} {l:List Value} {S:Value→World→Prop} (hf:P.funcs[f]? =some fn) (hb:fn.body=some c) (hl:Nat.ble l.length fn.ntmps=true)
 (h:EC P fn.ntmps c (bodyQ P fn S) ⟨env0 l 0,[]⟩ w):CallsD P f l.toArray u w fun e u' w'=>u'=u∧∃v,e= .returned v∧S v w':=by
 have hl':l.length≤fn.ntmps:=Nat.le_of_ble_eq_true hl
 refine callsD_of_wp (R:=fun e w'=>∃v,e= .returned v∧S v w') hf hb (h _ _ ⟨?_,rfl,fun k hk=>?_⟩ ?_)
 ·simp;omega
 ·show _=env0 l 0 k
  rw[env0_spec l 0 k (Nat.zero_le _),Array.getD_eq_getD_getElem?,Array.getElem?_append]
  by_cases hkl:k<l.length
  ·simp [hkl]
  rw[if_neg (by simpa using hkl)]
  simp only [List.size_toArray,Nat.sub_zero]
  rw[List.getElem?_eq_none (by omega)]
  simp [show k - l.length<fn.ntmps - l.length by omega]
 intro x e' a' w' hr' hx
 cases x with
 |normal=>obtain ⟨hd,v,hv,hS⟩:=hx;exact ⟨by rw[hr'.d,hd],v,hv a' hr',v,rfl,hS⟩
 |ret=>obtain ⟨hd,v,hv,hS⟩:=hx;exact ⟨by rw[hr'.d,hd],v,hv a' hr',v,rfl,hS⟩
 |exit i=>exact hx.elim
 |goto l=>exact hx.elim
 |panic ch=>exact hx.elim
 |outgrown=>exact hx.elim
def Idle (P:Program) (D:Deferred):Prop:=∃fv cap f args,D.target= .fn fv cap∧(∀w,(invoke D.target D.args).run P w= .ok (.enter f args) w)∧
 ∀u w,CallsD P f args u w fun e u' w'=>u'=u∧∃v,e= .returned v∧Below w.heap.size w w'
theorem leaves_idle {fn:Func} {tmps:Array Value} {R:Ending→World→Prop}:∀(ds:List Deferred),(∀D∈ds,Idle P D)→∀w,(∀w',Below w.heap.size w w'→∃v,(results fn tmps).run P w'= .ok v w'∧R (.returned v) w')→Leaves P fn tmps R ds .returning w
 | [],_,w,h=>h w (Below.refl _ _)
 |D :: ds,hd,w,h=>by
  obtain ⟨fv,cap,f,args,h1,h2,h3⟩:=hd D (.head _)
  refine ⟨by simp,fv,cap,f,args,h1,h2 w,(h3 .returning w).mono ?_⟩
  rintro e u' w' ⟨rfl,v,rfl,hb⟩
  exact leaves_idle ds (fun D hD=>hd D (.tail _ hD)) w' fun w'' hb'=>h w'' (hb.trans (hb'.mono hb.size))
def bodyQD (P:Program) (fn:Func) (S:Value→World→Prop):Exit→Env→World→Prop
 |.normal,e,w|.ret,e,w=>(∀D∈e.d,Idle P D)∧∃v,∀w',Below w.heap.size w w'→(∀a,Rep fn.ntmps e a→(results fn a.tmps).run P w'= .ok v w')∧S v w'
 |_,_,_=>False
theorem DY {f:FuncId} {fn:Func} {c:Code} {l:List Value} {S:Value→World→Prop} (hf:P.funcs[f]? =some fn) (hb:fn.body=some c) (hl:Nat.ble l.length fn.ntmps=true)
 (h:EC P fn.ntmps c (bodyQD P fn S) ⟨env0 l 0,[]⟩ w):Ret P f l.toArray w S:=by
 have hl':l.length≤fn.ntmps:=Nat.le_of_ble_eq_true hl
 refine calls_of_wp_defers hf hb (h _ _ ⟨?_,rfl,fun k hk=>?_⟩ ?_)
 ·simp;omega
 ·show _=env0 l 0 k
  rw[env0_spec l 0 k (Nat.zero_le _),Array.getD_eq_getD_getElem?,Array.getElem?_append]
  by_cases hkl:k<l.length
  ·simp [hkl]
  rw[if_neg (by simpa using hkl)]
  simp only [List.size_toArray,Nat.sub_zero]
  rw[List.getElem?_eq_none (by omega)]
  simp [show k - l.length<fn.ntmps - l.length by omega]
 intro x e' a' w' hr' hx
 cases x with
 |normal=>
  obtain ⟨hd,v,hv⟩:=hx
  show Leaves P fn a'.tmps _ a'.defers .returning w'
  rw[hr'.d]
  exact leaves_idle _ hd w' fun w'' hb'=>⟨v,(hv w'' hb').1 a' hr',v,rfl,(hv w'' hb').2⟩
 |ret=>
  obtain ⟨hd,v,hv⟩:=hx
  show Leaves P fn a'.tmps _ a'.defers .returning w'
  rw[hr'.d]
  exact leaves_idle _ hd w' fun w'' hb'=>⟨v,(hv w'' hb').1 a' hr',v,rfl,(hv w'' hb').2⟩
 |exit i=>exact hx.elim
 |goto l=>exact hx.elim
 |panic ch=>exact hx.elim
 |outgrown=>exact hx.elim
theorem D8 {fn:Func} {e:Env} {S:Value→World→Prop} {t:Tmp} (hres:fn.results=#[.tmp t]) (hlt:Nat.blt t fn.ntmps=true) (hd:∀D∈e.d,Idle P D) (h:∀w',Below w.heap.size w w'→S (e.t t) w'):bodyQD P fn S .ret e w:=
 ⟨hd,_,fun w' hb=>⟨fun a hr=>by rw[results_tmp hres,hr.t t (Ci hlt)],h w' hb⟩⟩
end
end Go.Eng
namespace Go.Proofs.YteepnepebilckaaGreatDoor
open Go Go.Eng Go.RowKit
section
variable {P : Program} {N : Nat} {c : Code} {Q : Exit → Env → World → Prop} {e : Env} {w : World}
theorem BV (l:List (Nat×Value)) (hd:e.d=[]) (h:Eng.Holds e l) (k:∀t,EC P N c Q (Env.sets ⟨t,[]⟩ l) w):EC P N c Q e w:=by
 obtain ⟨t,rfl⟩:=As hd h
 exact k t
theorem Bg (ds:List Deferred) (l:List (Nat×Value)) (hd:e.d=ds) (h:Eng.Holds e l) (k:∀t,EC P N c Q (Env.sets ⟨t,ds⟩ l) w):EC P N c Q e w:=by
 obtain ⟨t,rfl⟩:=AT hd h
 exact k t
end
section
variable {w w' : World} {base n : Nat} {el : Nat → TypeId} {R : Nat → Value} {xs : Nat → List Value}
theorem row_form {el:TypeId} {v:Value} {xs:List Value} (h:w.ownsRow base el 1 v xs.length xs) {k:Nat} (hk:k<xs.length):
 ∃g cap,v= .slice (some ⟨g,0,none⟩) xs.length cap∧base≤g∧g<w.heap.size∧xs.length≤cap∧w.cell? ⟨g,0+k,none⟩=some xs[k]:=by
 rcases h.2 with ⟨rfl,h0⟩|⟨g,cap,cur,rfl,hb,hg,h1,h2,h3,h4⟩
 ·omega
 refine ⟨g,cap,rfl,hb,(Array.getElem?_eq_some_iff.1 hg).1,h1,?_⟩
 rw[cell_of_row w g _ cur el (0,0) hg]
 have h5:(cur.toList.take (xs.length * 1))[k]? =some xs[k]:=by rw[h4];simp [hk]
 rw[List.getElem?_take] at h5
 split at h5
 ·rw[Array.getElem?_toList] at h5
  rw[Nat.zero_add];exact h5
 cases h5
theorem row_pop {el:TypeId} {g cap:Nat} {ys:List Value} {u:Value} (h:w.ownsRow base el 1 (.slice (some ⟨g,0,none⟩) (ys ++ [u]).length cap) (ys ++ [u]).length (ys ++ [u])):
 w.ownsRow base el 1 (.slice (some ⟨g,0,none⟩) ys.length cap) ys.length ys:=by
 rcases h.2 with ⟨h0,_⟩|⟨g',cap',cur,e,hb,hg,h1,h2,h3,h4⟩
 ·cases h0
 injection e with e1 e2 e3
 injection e1 with e1
 injection e1 with e1 _ _
 subst e1
 subst e3
 rw[List.length_append] at h1 h4
 refine ⟨by simp,.inr ⟨g,cap,cur,rfl,hb,hg,by have: [u].length=1:=rfl;omega,h2,h3,?_⟩⟩
 have h5:cur.toList.take (ys.length * 1)=(cur.toList.take ((ys.length+ [u].length) * 1)).take ys.length:=by
  rw[List.take_take]
  congr 1
  have: [u].length=1:=rfl
  omega
 rw[h5,h4,List.take_left]
theorem Fg {el:TypeId} {g cap:Nat} {xs:List Value} (h:w.ownsRow base el 1 (.slice (some ⟨g,0,none⟩) xs.length cap) xs.length xs) {k:Nat} (_hk:k<xs.length) (u:Value):
 (w.setCell ⟨g,0+k,none⟩ u).ownsRow base el 1 (.slice (some ⟨g,0,none⟩) xs.length cap) (xs.set k u).length (xs.set k u):=by
 rcases h.2 with ⟨h0,_⟩|⟨g',cap',cur,e,hb,hg,h1,h2,h3,h4⟩
 ·cases h0
 injection e with e1 e2 e3
 injection e1 with e1
 injection e1 with e1 _ _
 subst e1
 subst e3
 have hs:=AG (o:=0+k) (u:=u) hg
 refine ⟨by simp,.inr ⟨g,cap,cur.setIfInBounds (0+k) u,by rw[List.length_set],hb,hs,by rw[List.length_set];exact h1,h2,by simpa using h3,?_⟩⟩
 rw[List.length_set,Nat.zero_add,Array.toList_setIfInBounds,List.take_set,h4]
end
structure Only (A:Nat→Prop) (w w':World):Prop where
 os:w'.os=w.os
 tape:w'.tape=w.tape
 output:w'.output=w.output
 size:w.heap.size≤w'.heap.size
 block:∀j,j<w.heap.size→¬ A j→w'.heap[j]? =w.heap[j]?
theorem Only.of_below {A:Nat→Prop} {w w':World} (h:Below w.heap.size w w'):Only A w w':=⟨h.os,h.tape,h.output,h.size,fun j hj _=>h.block j hj⟩
theorem Only.trans {A:Nat→Prop} {a b c:World} (h:Only A a b) (k:Only A b c):Only A a c:=
 ⟨k.os.trans h.os,k.tape.trans h.tape,k.output.trans h.output,Nat.le_trans h.size k.size,fun j hj hA=>(k.block j (Nat.lt_of_lt_of_le hj h.size) hA).trans (h.block j hj hA)⟩
theorem Only.set {A:Nat→Prop} {a b:World} (h:Only A a b) {s o:Nat} (u:Value) (hs:A s):Only A a (b.setCell ⟨s,o,none⟩ u):=by
 have h1:Below 0 b (b.setCell ⟨s,o,none⟩ u):=(Below.refl 0 b).setCell (Nat.zero_le _) u
 refine h.trans ⟨h1.os,h1.tape,h1.output,h1.size,fun j _ hA=>Below.heap_setCell _ _ _ _ (fun e=>hA (e ▸ hs))⟩
theorem Only.mono {A A':Nat→Prop} {a b:World} (h:Only A a b) (hA:∀j,A j→A' j):Only A' a b:=
 ⟨h.os,h.tape,h.output,h.size,fun j hj hn=>h.block j hj fun e=>hn (hA j e)⟩
theorem Only.below {A:Nat→Prop} {E:Nat} {a b:World} (h:Only A a b) (hE:E≤a.heap.size) (hA:∀j,A j→E≤j):Below E a b:=
 ⟨h.os,h.tape,h.output,h.size,fun j hj=>h.block j (by omega) fun k=>by have:=hA j k;omega⟩
theorem Only.refl (A:Nat→Prop) (a:World):Only A a a:=⟨rfl,rfl,rfl,Nat.le_refl _,fun _ _ _=>rfl⟩
theorem Only.drew {A:Nat→Prop} {a b:World} (h:Only A a b):Only A a b.drew:=⟨h.os,h.tape,h.output,h.size,h.block⟩
theorem Only.bel {A:Nat→Prop} {B:Nat} {a b c:World} (h:Only A a b) (hB:a.heap.size≤B) (k:Below B b c):Only A a c:=
 ⟨k.os.trans h.os,k.tape.trans h.tape,k.output.trans h.output,Nat.le_trans h.size k.size,fun j hj hA=>(k.block j (by omega)).trans (h.block j hj hA)⟩
theorem Only.grow {A:Nat→Prop} {a b c:World} {row:Option Nat} (h:Only A a b) (k:b.grownBy c row) (hr:∀j,row=some j→a.heap.size≤j):Only A a c:=
 ⟨k.os.trans h.os,k.tape.trans h.tape,k.output.trans h.output,Nat.le_trans h.size k.size,fun j hj hA=>(k.block j (by have:=h.size;omega) (fun e=>by have:=hr j e.symm;omega)).trans (h.block j hj hA)⟩
theorem BA {R R':Nat→Value} {n:Nat} (h:∀i,i<n→R i=R' i):cellsOf R n=cellsOf R' n:=by
 unfold cellsOf
 congr 1
 exact List.map_congr_left fun i hi=>h i (List.mem_range.1 hi)
theorem GRep.on {w w':World} {B:Nat} {L:Lay} {g:Gph} (h:GRep w B L g) (hb:Below w.heap.size w w'):GRep w' B L g:=h.keep fun k hk=>hb.block k hk
theorem i86:((Tryz.prog.info? 77).map (·.size))=some 0:=by kernel_rfl
theorem c90:Tryz.prog.cellsOf 82=6:=by kernel_rfl
theorem b900:byteOfCell Tryz.prog Tryz.prog.depth 82 0=some 0:=by kernel_rfl
theorem b902:byteOfCell Tryz.prog Tryz.prog.depth 82 2=some 32:=by kernel_rfl
theorem Ee {w:World} {b o n:Nat} {cs:Array Value} (hb:w.heap[b]? =some (.cells cs 82 (0,0))) (ho:o<6) (hn:byteOfCell Tryz.prog Tryz.prog.depth 82 o=some n):
 (byteOf ⟨b,o,none⟩).run Tryz.prog w= .ok n w:=by
 have hsh:w.shape? b=some (82,cs.size):=by simp [World.shape?,hb]
 have ho2:o % 6=o:=Nat.mod_eq_of_lt ho
 have ho3:o / 6=0:=Nat.div_eq_of_lt ho
 simp [byteOf,program,Sem.run_bind,noView,viewAt,shape,Sem.run,hsh,c90,ho2,ho3,hn]
section
variable {w : World} {ρ : Operand → Value} {d : Option Tmp} {ty : TypeId} {pos : String} {af : Array Edge} {g : Option (Nat × Bool)} {x : Operand}
theorem B4 {b:Nat} {cs:Array Value} (hx:ρ x= .pointer (some ⟨b,0,none⟩)) (hb:w.heap[b]? =some (.cells cs 82 (0,0))):
 (execOp ρ ⟨d,.fieldAddr 82 x 2,ty,pos,af,g⟩).run Tryz.prog w= .ok (.value (.pointer (some ⟨b,2,none⟩))) w:=by
 obtain ⟨i,hi,hz⟩:=Option.map_eq_some_iff.1 i86
 have h0:=Ee (o:=0) hb (by decide) b900
 have h2:=Ee (o:=2) hb (by decide) b902
 have hp:(partAt ⟨b,0,none⟩ 2 32).run Tryz.prog w= .ok ⟨b,2,none⟩ w:=by
  unfold partAt
  simp [Sem.run_bind,h0,h2]
 simp [execOp,hx,Instr.fieldAt,run_underlying Tryz.underlying82,Instr.sureAddr,fieldPlace,Go.sizeOf,typeInfo,hi,hz,hp]
theorem B6 {a:Addr} (hx:ρ x= .pointer (some a)):(execOp ρ ⟨d,.load 77 x,ty,pos,af,g⟩).run Tryz.prog w= .ok (.value (.agg #[])) w:=by
 have key:(Instr.loadAt 77 (.pointer (some a))).run Tryz.prog w= .ok (.agg #[]) w:=by kernel_rfl
 simp [execOp,hx,key]
theorem Dg {P:Program} {f:FuncId} {xs:Array Operand} {ts:Array TypeId} {l:List Value} (hρ:ρ (.func f)= .func (.func f) #[] #[]) (ha:xs.toList.map ρ=l):
 (execOp ρ ⟨none,.defer { callee:=.value (.func f),args:=xs,argTypes:=ts },ty,pos,af,g⟩).run P w= .ok (.defer ⟨.fn (.func f) #[],l.toArray⟩) w:=by
 subst ha
 simp [execOp,resolve,Deferred.ofValue,hρ]
 cases xs
 simp
theorem x_make0 {P:Program} {t el:TypeId} {y z0:Operand} {z:Value} {bytes n:Nat} (ht:P.underlying t=some (.slice el)) (hi:(P.info? el).map (fun i=>(i.zero,i.size,i.bytes))=some (some z,1,bytes)) 
 (hx:ρ z0= .int .i64 0) (hy:ρ y= .int .i64 (n:Int)) (hb:bytes * n≤281474976710656) (h63:n≤9223372036854775807):
 (execOp ρ ⟨d,.makeSlice t z0 y,ty,pos,af,g⟩).run P w= .ok (.value (.slice (some ⟨w.heap.size,0,none⟩) 0 n)) (w.alloc (.cells (madeCells z.cells n) el)):=by
 obtain ⟨i,hi1,hi2,hi3,hi4⟩:=info_parts hi
 have:=run_make w t el i z ht hi1 hi2 .i64 .i64 0 (n:Int) (by omega) (by omega) (by rw[hi4];omega) (by omega)
 simp only [Int.toNat_natCast,hi3,Nat.mul_one,Int.toNat_zero] at this
 simp [execOp,hx,hy,this]
end
section
variable {P : Program} {w : World} {ρ : Operand → Value} {d : Option Tmp} {ty : TypeId} {pos : String} {af : Array Edge} {g : Option (Nat × Bool)}
theorem x_sliceK {t el:TypeId} {x:Operand} {b o n cap k:Nat} {z:Value} {bytes:Nat} (ht:P.underlying t=some (.slice el)) (hi:(P.info? el).map (fun i=>(i.zero,i.size,i.bytes))=some (some z,1,bytes))
 (hx:ρ x= .slice (some ⟨b,o,none⟩) n cap) {c:Operand} (hc:ρ c= .int .i64 (k:Int)) (hk:k≤cap):
 (execOp ρ ⟨d,.slice t x none (some c) none,ty,pos,af,g⟩).run P w= .ok (.value (.slice (some ⟨b,o,none⟩) k cap)) w:=by
 obtain ⟨i,hi1,_,hi3,_⟩:=info_parts hi
 have:(Instr.slice t (.slice (some ⟨b,o,none⟩) n cap) none (some (.int .i64 (k:Int))) none).run P w= .ok (.slice (some ⟨b,o,none⟩) k cap) w:=by
  unfold Instr.slice Instr.sliceBounds Instr.sliceBound
  simp only [Sem.run_bind,run_underlying ht,Result.andThen_ok,Sem.run_pure,asIntOf]
  have h1:(0:Int)≤(k:Int)∧(k:Int)≤(cap:Int):=by omega
  simp only [if_pos h1,Sem.run_pure,Result.andThen_ok,sizeOf,typeInfo,Sem.run_bind]
  simp [hi1,hi3,Addr.add]
 simp [execOp,hx,hc,Instr.sliceAt,run_underlying ht,this]
theorem x_sliceLH {t el:TypeId} {x:Operand} {b o n cap l k:Nat} {z:Value} {bytes:Nat} (ht:P.underlying t=some (.slice el)) (hi:(P.info? el).map (fun i=>(i.zero,i.size,i.bytes))=some (some z,1,bytes))
 (hx:ρ x= .slice (some ⟨b,o,none⟩) n cap) {c c2:Operand} (hc:ρ c= .int .i64 (l:Int)) (hc2:ρ c2= .int .i64 (k:Int)) (hl:l≤k) (hk:k≤cap) (hlc:l<cap):
 (execOp ρ ⟨d,.slice t x (some c) (some c2) none,ty,pos,af,g⟩).run P w= .ok (.value (.slice (some ⟨b,o+l,none⟩) (k - l) (cap - l))) w:=by
 obtain ⟨i,hi1,_,hi3,_⟩:=info_parts hi
 have:(Instr.slice t (.slice (some ⟨b,o,none⟩) n cap) (some (.int .i64 (l:Int))) (some (.int .i64 (k:Int))) none).run P w= .ok (.slice (some ⟨b,o+l,none⟩) (k - l) (cap - l)) w:=by
  unfold Instr.slice Instr.sliceBounds Instr.sliceBound
  simp only [Sem.run_bind,run_underlying ht,Result.andThen_ok,Sem.run_pure,asIntOf]
  have h1:(0:Int)≤(k:Int)∧(k:Int)≤(cap:Int):=by omega
  simp only [if_pos h1,Sem.run_pure,Result.andThen_ok,sizeOf,typeInfo,Sem.run_bind]
  simp [hi1,hi3,Addr.add,show ¬ cap=l by omega,hl]
 simp [execOp,hx,hc,hc2,Instr.sliceAt,run_underlying ht,this]
end
theorem DH {P:Program} {f:FuncId} {fn:Func} {c:Code} {l:List Value} (hf:P.funcs[f]? =some fn) (hb:fn.body=some c) (hn:(fn.name == "runtime.NumGoroutine")=false) (hl:Nat.ble l.length fn.ntmps=true)
 (h:∀w,EC P fn.ntmps c (bodyQ P fn fun _ w'=>Below w.heap.size w w') ⟨env0 l 0,[]⟩ w):Idle P ⟨.fn (.func f) #[],l.toArray⟩:=by
 refine ⟨.func f,#[],f,l.toArray,rfl,fun w=>?_,fun u w=>callsD_of_EC hf hb hl (h w)⟩
 have hn':¬ fn.name= "runtime.NumGoroutine" :=by simpa using hn
 have hb':¬ fn.body=none:=by rw[hb];simp
 simp [invoke,callFunc,hf,hb',hn']
set_option maxHeartbeats 4000000
attribute [local irreducible] EC EL DL Ret thenQ blockQ Bd bodyQ onlyN execOp Sem.run World.cell? World.frozen? World.setCell World.alloc
theorem FG (v:Value):Idle Tryz.prog ⟨.fn (.func 138) #[],#[.agg #[],v]⟩:=by
 refine DH (l:=[.agg #[],v]) Tryz.func138 rfl rfl rfl fun w=>(Ac (Ab (Bw (v:=.agg #[]) rfl) rfl (Af ?_)))
 exact BD rfl rfl ((Below.refl _ w).alloc (Nat.le_refl _) _)
theorem Gy (v:Value):Idle Tryz.prog ⟨.fn (.func 125) #[],#[.agg #[],v]⟩:=by
 refine DH (l:=[.agg #[],v]) Tryz.func125 rfl rfl rfl fun w=>(Ac (Ab (Bw (v:=.agg #[]) rfl) rfl (Af ?_)))
 exact BD rfl rfl ((Below.refl _ w).alloc (Nat.le_refl _) _)
theorem Fj (v:Value):Idle Tryz.prog ⟨.fn (.func 53) #[],#[.agg #[],v]⟩:=by
 refine DH (l:=[.agg #[],v]) Tryz.func53 rfl rfl rfl fun w=>(Ac (Ab (Bw (v:=.agg #[]) rfl) rfl (Af ?_)))
 exact BD rfl rfl ((Below.refl _ w).alloc (Nat.le_refl _) _)
theorem Gg (v:Value):Idle Tryz.prog ⟨.fn (.func 49) #[],#[.agg #[],v]⟩:=by
 refine DH (l:=[.agg #[],v]) Tryz.func49 rfl rfl rfl fun w=>(Ac (Ab (Bw (v:=.agg #[]) rfl) rfl (Af ?_)))
 exact BD rfl rfl ((Below.refl _ w).alloc (Nat.le_refl _) _)
theorem NumBlocks_ret {w:World} {B:Nat} {L:Lay} {g:Gph} (h:GRep w B L g) (hn:g.nb≤9):Ret Tryz.prog 105 #[L.fp] w fun v w'=>v= .int .i64 ((g.nb+1:Nat):Int)∧w'=w:=by
 refine ret_of_EC Tryz.func105 rfl rfl ?_
 obtain ⟨a2,cap2,ha2⟩:=h.fblocksV
 have h1:w.cell? ⟨L.fb,0+1,none⟩=some (L.sl .fblocks):=Am (h.comp .fn) rfl
 rw[ha2] at h1
 refine Ae (Ac (Ab Ah rfl (Af (Aa (Ae (Ac (Ab Ad rfl (Ab (Ay rfl) rfl (Ab (Ak rfl (Al rfl)) rfl (Ab (Ai rfl (Ag rfl) ‹_›) rfl ?_))))))))))
 refine Ab (AP rfl (An rfl)) rfl (Ab (x_inc rfl rfl (by omega)) rfl (Ab Ah rfl (Af (Aa (AF ?_)))))
 exact Aw rfl rfl rfl ⟨rfl,rfl⟩
theorem allocBool_ret {w:World} {n:Nat} (hn:n≤64):Ret Tryz.prog 137 #[.agg #[],.int .i64 (n:Int)] w fun v w'=>∃G,v= .slice (some ⟨G,0,none⟩) n n∧w.heap.size≤G∧w'.heap[G]? =some (.cells (bools (fun _=>false) n) 4 (0,0))∧Below w.heap.size w w':=by
 refine ret_of_EC Tryz.func137 rfl rfl ?_
 obtain ⟨B,hBd⟩:∃B,B=w.heap.size:=⟨_,rfl⟩
 refine Ae (Ac (Ab (Bw (v:=.agg #[]) rfl) rfl (el_new (.cells #[] 77) B (by omega) fun wa hN1 hO1 hZ1 hB1 hK1=>(Ab Ah rfl (Af (Aa (Ae (Ac (Ab Ad rfl (Ab (CU Tryz.underlying49 info4 rfl rfl rfl (by omega) (by omega)) rfl ?_))))))))))
 rw[D7]
 have hBle:B≤wa.heap.size:=by omega
 refine el_new (.cells (bools (fun _=>false) n) 4) B (by omega) fun wb hN2 hO2 hZ2 hB2 hK2=>(Ab Ah rfl (Af (Aa (AF ?_))))
 exact Aw rfl rfl rfl ⟨wa.heap.size,rfl,by omega,hN2,by rw[← hBd];exact hB1.trans hB2⟩
theorem allocID_ret {w:World} {n:Nat} (hn:n≤128):Ret Tryz.prog 52 #[.agg #[],.int .i64 (n:Int)] w fun v w'=>∃G,v= .slice (some ⟨G,0,none⟩) n n∧w.heap.size≤G∧w'.heap[G]? =some (.cells (cellsOf (fun _=>.int .i32 0) n) 88 (0,0))∧Below w.heap.size w w':=by
 refine ret_of_EC Tryz.func52 rfl rfl ?_
 obtain ⟨B,hBd⟩:∃B,B=w.heap.size:=⟨_,rfl⟩
 refine Ae (Ac (Ab (Bw (v:=.agg #[]) rfl) rfl (el_new (.cells #[] 77) B (by omega) fun wa hN1 hO1 hZ1 hB1 hK1=>(Ab Ah rfl (Af (Aa (Ae (Ac (Ab Ad rfl (Ab (CU Tryz.underlying110 FL rfl rfl rfl (by omega) (by omega)) rfl ?_))))))))))
 rw[CZ]
 have hBle:B≤wa.heap.size:=by omega
 refine el_new (.cells (cellsOf (fun _=>.int .i32 0) n) 88) B (by omega) fun wb hN2 hO2 hZ2 hB2 hK2=>(Ab Ah rfl (Af (Aa (AF ?_))))
 exact Aw rfl rfl rfl ⟨wa.heap.size,rfl,by omega,hN2,by rw[← hBd];exact hB1.trans hB2⟩
theorem allocBlock_ret {w:World} {n:Nat} (hn:n≤128):Ret Tryz.prog 124 #[.agg #[],.int .i64 (n:Int)] w fun v w'=>∃G,v= .slice (some ⟨G,0,none⟩) n n∧w.heap.size≤G∧w'.heap[G]? =some (.cells (cellsOf (fun _=>.pointer none) n) 74 (0,0))∧Below w.heap.size w w':=by
 refine ret_of_EC Tryz.func124 rfl rfl ?_
 obtain ⟨B,hBd⟩:∃B,B=w.heap.size:=⟨_,rfl⟩
 refine Ae (Ac (Ab (Bw (v:=.agg #[]) rfl) rfl (el_new (.cells #[] 77) B (by omega) fun wa hN1 hO1 hZ1 hB1 hK1=>(Ab Ah rfl (Af (Aa (Ae (Ac (Ab Ad rfl (Ab (CU Tryz.underlying75 CM rfl rfl rfl (by omega) (by omega)) rfl ?_))))))))))
 rw[CZ]
 have hBle:B≤wa.heap.size:=by omega
 refine el_new (.cells (cellsOf (fun _=>.pointer none) n) 74) B (by omega) fun wb hN2 hO2 hZ2 hB2 hK2=>(Ab Ah rfl (Af (Aa (AF ?_))))
 exact Aw rfl rfl rfl ⟨wa.heap.size,rfl,by omega,hN2,by rw[← hBd];exact hB1.trans hB2⟩
theorem CI {w:World} {n:Nat} (hn:n≤128):Ret Tryz.prog 46 #[.agg #[],.int .i64 (n:Int)] w fun v w'=>∃G,v= .slice (some ⟨G,0,none⟩) n n∧w.heap.size≤G∧w'.heap[G]? =some (.cells (cellsOf (fun _=>.pointer none) n) 97 (0,0))∧Below w.heap.size w w':=by
 refine ret_of_EC Tryz.func46 rfl rfl ?_
 obtain ⟨B,hBd⟩:∃B,B=w.heap.size:=⟨_,rfl⟩
 refine Ae (Ac (Ab (Bw (v:=.agg #[]) rfl) rfl (el_new (.cells #[] 77) B (by omega) fun wa hN1 hO1 hZ1 hB1 hK1=>(Ab Ah rfl (Af (Aa (Ae (Ac (Ab Ad rfl (Ab (CU Tryz.underlying78 CL rfl rfl rfl (by omega) (by omega)) rfl ?_))))))))))
 rw[CZ]
 have hBle:B≤wa.heap.size:=by omega
 refine el_new (.cells (cellsOf (fun _=>.pointer none) n) 97) B (by omega) fun wb hN2 hO2 hZ2 hB2 hK2=>(Ab Ah rfl (Af (Aa (AF ?_))))
 exact Aw rfl rfl rfl ⟨wa.heap.size,rfl,by omega,hN2,by rw[← hBd];exact hB1.trans hB2⟩
end Go.Proofs.YteepnepebilckaaGreatDoor
namespace Go.Proofs.YteepnepebilckaaGreatDoor.LT
inductive Anc (par:Nat→Nat) (rt:Nat):Nat→Nat→Prop where
 |refl (a:Nat):Anc par rt a a
 |step {a b:Nat}:b≠rt→Anc par rt a (par b)→Anc par rt a b
section
variable {par par' : Nat → Nat} {rt : Nat}
theorem Anc.trans {a b c:Nat} (h:Anc par rt a b) (k:Anc par rt b c):Anc par rt a c:=by
 induction k with
 |refl=>exact h
 |step h1 _ ih=>exact .step h1 ih
theorem Anc.one {b:Nat} (h:b≠rt):Anc par rt (par b) b:=.step h (.refl _)
theorem Anc.up {a b:Nat} (h:Anc par rt a b):a=b∨(b≠rt∧Anc par rt a (par b)):=by
 cases h with
 |refl=>exact .inl rfl
 |step h1 h2=>exact .inr ⟨h1,h2⟩
theorem Anc.cmp {a b c:Nat} (h:Anc par rt a c) (k:Anc par rt b c):Anc par rt a b∨Anc par rt b a:=by
 induction h with
 |refl=>exact .inr k
 |step h1 h2 ih=>
  rcases k.up with e|⟨_,k2⟩
  ·subst e;exact .inl (.step h1 h2)
  exact ih k2
theorem Anc.congr {V:Nat→Prop} (hc:∀v,V v→v≠rt→V (par v)) (he:∀v,V v→par' v=par v) {a b:Nat} (h:Anc par rt a b) (hb:V b):Anc par' rt a b:=by
 induction h with
 |refl=>exact .refl _
 |step h1 _ ih=>exact .step h1 (by rw[he _ hb];exact ih (hc _ hb h1))
end
structure Dfs (V:Nat→Prop) (S:Nat→List Nat) (rt:Nat) (num par:Nat→Nat):Prop where
 rtV:V rt
 pos:∀v,V v→1≤num v
 one:num rt=1
 inj:∀v u,V v→V u→num v=num u→v=u
 parV:∀v,V v→v≠rt→V (par v)
 parLt:∀v,V v→v≠rt→num (par v)<num v
 next:∀v u,V v→V u→v≠rt→num v=num u+1→Anc par rt (par v) u
 all:∀v,V v→1<num v→∃u,V u∧num v=num u+1
 edge:∀v w,V v→V w→w∈S v→num v<num w→Anc par rt v w
section
variable {V : Nat → Prop} {S : Nat → List Nat} {rt : Nat} {num par : Nat → Nat}
theorem Dfs.le (h:Dfs V S rt num par) {a b:Nat} (hb:V b) (k:Anc par rt a b):V a∧num a≤num b∧(a≠b→num a<num b):=by
 induction k with
 |refl=>exact ⟨hb,Nat.le_refl _,fun e=>absurd rfl e⟩
 |step h1 _ ih=>
  obtain ⟨i1,i2,_⟩:=ih (h.parV _ hb h1)
  have:=h.parLt _ hb h1
  exact ⟨i1,by omega,fun _=>by omega⟩
theorem Dfs.gt1 (h:Dfs V S rt num par) {v:Nat} (hv:V v) (hne:v≠rt):1<num v:=by
 have h1:=h.pos v hv
 have h2:=h.inj v rt hv h.rtV
 rw[h.one] at h2
 rcases Nat.lt_or_ge 1 (num v) with h3|h3
 ·exact h3
 exact absurd (h2 (by omega)) hne
theorem Dfs.mid (h:Dfs V S rt num par) {c:Nat}:∀n v,num v=n→V v→Anc par rt c v→∀u,V u→num c≤num u→num u≤num v→Anc par rt c u:=by
 intro n
 induction n using Nat.strongRecOn with
 |ind n ih=>
  intro v hn hv hc u hu h1 h2
  by_cases e:num u=num v
  ·rw[h.inj u v hu hv e];exact hc
  rcases hc.up with e2|⟨hne,hc2⟩
  ·subst e2;omega
  obtain ⟨x,hx,hxn⟩:=h.all v hv (h.gt1 hv hne)
  have h3:=h.next v x hv hx hne hxn
  exact ih (num x) (by omega) x rfl hx (hc2.trans h3) u hu h1 (by omega)
theorem Dfs.mid' (h:Dfs V S rt num par) {c v u:Nat} (hv:V v) (hc:Anc par rt c v) (hu:V u) (h1:num c≤num u) (h2:num u≤num v):Anc par rt c u:=h.mid _ v rfl hv hc u hu h1 h2
theorem Dfs.anc_of_le (h:Dfs V S rt num par) {a b c:Nat} (hc:V c) (h1:Anc par rt a c) (h2:Anc par rt b c) (hle:num a≤num b):Anc par rt a b:=by
 rcases h1.cmp h2 with k|k
 ·exact k
 have hb:=(h.le hc h2).1
 have ha:=(h.le hc h1).1
 have:=(h.le ha k).2.1
 rw[h.inj a b ha hb (by omega)];exact .refl _
structure Semi (V:Nat→Prop) (S:Nat→List Nat) (rt:Nat) (num par sd:Nat→Nat):Prop where
 low:∀v w,V v→V w→w≠rt→w∈S v→num v<num w→sd w≤num v
 high:∀v w u,V v→V w→w≠rt→w∈S v→num w<num v→Anc par rt u v→num w<num u→sd w≤sd u
inductive Gt (S:Nat→List Nat) (num:Nat→Nat) (m x:Nat):Nat→Prop where
 |base {y:Nat}:y∈S x→m<num y→Gt S num m x y
 |step {y z:Nat}:Gt S num m x y→z∈S y→m<num z→Gt S num m x z
theorem Gt.anc {sd:Nat→Nat} (h:Dfs V S rt num par) (hs:Semi V S rt num par sd) (hV:∀v,V v→∀w∈S v,V w) {m x y:Nat} (hx:V x) (hxm:num x≤m) (hg:Gt S num m x y):
 V y∧∃u,Anc par rt u y∧m<num u∧sd u≤num x:=by
 have hm:=h.pos x hx
 have hrt:∀z,m<num z→z≠rt:=fun z hz e=>by subst e;rw[h.one] at hz;omega
 induction hg with
 | @base y h1 h2=>exact ⟨hV x hx _ h1,y,.refl _,h2,hs.low x y hx (hV x hx _ h1) (hrt y h2) h1 (by omega)⟩
 | @step y z h0 h1 h2 ih=>
   obtain ⟨hy,u,hu1,hu2,hu3⟩:=ih
   have hz:=hV y hy _ h1
   refine ⟨hz,?_⟩
   rcases Nat.lt_or_ge (num y) (num z) with hlt|hge
   ·exact ⟨u,hu1.trans (h.edge y z hy hz h1 hlt),hu2,hu3⟩
   rcases Nat.lt_or_ge (num z) (num u) with h3|h3
   ·have huy:=(h.le hy hu1).2.1
    exact ⟨z,.refl _,h2,Nat.le_trans (hs.high y z u hy hz (hrt z h2) h1 (by omega) hu1 h3) hu3⟩
   exact ⟨u,h.mid' hy hu1 hz h3 hge,hu2,hu3⟩
structure Dm (V:Nat→Prop) (rt:Nat) (num par sd:Nat→Nat) (z w:Nat):Prop where
 anc:Anc par rt z w
 ne:z≠w
 all:∀u,Anc par rt u w→num z<num u→num z≤sd u
inductive Rh (S:Nat→List Nat) (rt z:Nat):Nat→Prop where
 |entry:z≠rt→Rh S rt z rt
 |step {b s:Nat}:Rh S rt z b→s∈S b→s≠z→Rh S rt z s
theorem Dm.dom {sd:Nat→Nat} (h:Dfs V S rt num par) (hs:Semi V S rt num par sd) (hV:∀v,V v→∀w∈S v,V w) {z w:Nat} (hw:V w) (hd:Dm V rt num par sd z w):¬ Rh S rt z w:=by
 intro hr
 have hz:=(h.le hw hd.anc).1
 have key:∀y,Rh S rt z y→V y∧(num y<num z∨∃x,V x∧num x<num z∧Gt S num (num z) x y):=by
  intro y hy
  induction hy with
  |entry hne=> 
   refine ⟨h.rtV,.inl ?_⟩
   rw[h.one];exact h.gt1 hz hne
  | @step b s _ h2 h3 ih=>
    obtain ⟨hb,ih⟩:=ih
    have hsV:=hV b hb s h2
    refine ⟨hsV,?_⟩
    rcases Nat.lt_trichotomy (num s) (num z) with k|k|k
    ·exact .inl k
    ·exact absurd (h.inj s z hsV hz k) h3
    rcases ih with i1|⟨x,hx,i1,i2⟩
    ·exact .inr ⟨b,hb,i1,.base h2 k⟩
    exact .inr ⟨x,hx,i1,.step i2 h2 k⟩
 have hlt:=(h.le hw hd.anc).2.2 hd.ne
 rcases (key w hr).2 with k|⟨x,hx,k1,k2⟩
 ·omega
 obtain ⟨_,u,u1,u2,u3⟩:=k2.anc h hs hV hx (by omega)
 have:=hd.all u u1 u2
 omega
def Ok3 (rt:Nat) (num par sd:Nat→Nat) (v d:Nat):Prop:=
 (num d=sd v∧∀u,Anc par rt u v→sd v<num u→sd v≤sd u)∨
 (Anc par rt d v∧sd v<num d∧sd d<sd v∧∀u,Anc par rt u v→sd v<num u→sd d≤sd u)
theorem Ok3.near {sd:Nat→Nat} {v d s:Nat} (h1:Anc par rt s v) (h2:num s=sd v) (hne:s≠v) (hds:d=s) (ho:Ok3 rt num par sd v d):Dm V rt num par sd d v:=by
 subst hds
 rcases ho with ⟨_,h4⟩|⟨_,h4,_⟩
 ·exact ⟨h1,hne,fun u hu hlt=>by rw[h2] at hlt ⊢;exact h4 u hu hlt⟩
 omega
theorem Ok3.far {sd:Nat→Nat} (h:Dfs V S rt num par) {v d s z:Nat} (hv:V v) (h1:Anc par rt s v) (h2:num s=sd v) (hds:d≠s) (hd:V d) (ho:Ok3 rt num par sd v d) (hz:Dm V rt num par sd z d):
 Anc par rt d v∧Dm V rt num par sd z v:=by
 have hsV:=(h.le hv h1).1
 rcases ho with ⟨h3,_⟩|⟨h3,h4,h5,h6⟩
 ·exact absurd (h.inj d s hd hsV (by omega)) hds
 refine ⟨h3,hz.anc.trans h3,?_,fun u hu hlt=>?_⟩
 ·intro e
  subst e
  have k1:=(h.le hd hz.anc).2.2 hz.ne
  have k2:=(h.le hv h3).2.1
  omega
 have hzd:=hz.all d (.refl _) ((h.le hd hz.anc).2.2 hz.ne)
 rcases Nat.lt_or_ge (sd v) (num u) with k|k
 ·have:=h6 u hu k;omega
 exact hz.all u (h.anc_of_le hv hu h3 (by omega)) hlt
end
end Go.Proofs.YteepnepebilckaaGreatDoor.LT
