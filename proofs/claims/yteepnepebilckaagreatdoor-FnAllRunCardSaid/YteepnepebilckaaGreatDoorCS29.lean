/- The law FnAllRun returns true for every input in which the opcode table reads as laid, and its arguments read as they did, the table being tied to the text of the program. -/
import Derived.Test.YteepnepebilckaaGreatDoorCS28
namespace Go.Proofs.YteepnepebilckaaGreatDoor
open Go Go.Eng Go.RowKit
structure Fz (N S:Nat) (w w':World):Prop where
 os:w'.os=w.os
 tape:w'.tape=w.tape
 output:w'.output=w.output
 size:w.heap.size≤w'.heap.size
 block:∀j,j<S→j≠N→w'.heap[j]? =w.heap[j]?
theorem Fz.refl (N S:Nat) (w:World):Fz N S w w:=⟨rfl,rfl,rfl,Nat.le_refl _,fun _ _ _=>rfl⟩
theorem Fz.trans {N S:Nat} {a b c:World} (h:Fz N S a b) (k:Fz N S b c):Fz N S a c:=
 ⟨k.os.trans h.os,k.tape.trans h.tape,k.output.trans h.output,Nat.le_trans h.size k.size,fun j hj hn=>(k.block j hj hn).trans (h.block j hj hn)⟩
theorem Fz.of_below {N S B:Nat} {w w':World} (h:Below B w w') (hS:S≤B):Fz N S w w':=⟨h.os,h.tape,h.output,h.size,fun j hj _=>h.block j (by omega)⟩
theorem Fz.below {N S:Nat} {w w':World} (h:Fz N S w w') (hN:N≤S):Below N w w':=⟨h.os,h.tape,h.output,h.size,fun j hj=>h.block j (by omega) (by omega)⟩
theorem Fz.set {N S:Nat} {w w':World} (h:Fz N S w w') (o:Nat) (u:Value):Fz N S w (w'.setCell ⟨N,o,none⟩ u):=by
 have h1:Below N w' (w'.setCell ⟨N,o,none⟩ u):=(Below.refl N w').setCell (Nat.le_refl N) u
 exact h.trans ⟨h1.os,h1.tape,h1.output,h1.size,fun j _ hn=>Below.heap_setCell _ _ _ _ hn⟩
def iv (st:Sta):Nat→Value:=fun i=>.int .i64 (st i)
theorem row_cells {w:World} {base:Nat} {el:TypeId} {v:Value} {l:List Int} (h:w.ownsRow base el 1 v l.length (l.map (.int .i64))) {k:Nat} (hk:k<l.length):
 ∃g c,v= .slice (some ⟨g,0,none⟩) l.length c∧base≤g∧g<w.heap.size∧w.cell? ⟨g,0+k,none⟩=some (.int .i64 (l.getD k 0)):=by
 rcases h.2 with ⟨rfl,h0⟩|⟨g,cap,cur,rfl,hb,hg,h1,h2,h3,h4⟩
 ·omega
 refine ⟨g,cap,rfl,hb,(Array.getElem?_eq_some_iff.1 hg).1,?_⟩
 rw[cell_of_row w g _ cur el (0,0) hg]
 have h5:(l.map (Value.int .i64))[k]? =some (.int .i64 (l.getD k 0)):=by
  rw[List.getElem?_map,List.getElem?_eq_getElem hk,List.getD_eq_getElem?_getD,List.getElem?_eq_getElem hk];rfl
 rw[← h4,List.getElem?_take] at h5
 split at h5
 ·rw[Array.getElem?_toList] at h5
  rw[Nat.zero_add];exact h5
 cases h5
theorem Cl {R R':Nat→Value} {n:Nat} (h:∀i,i<n→R i=R' i):cellsOf R n=cellsOf R' n:=by
 unfold cellsOf
 rw[List.map_congr_left fun i hi=>h i (List.mem_range.1 hi)]
theorem cellsOf_list (st:Sta) (n:Nat):∀(j:Nat) (u:Value),(((List.range n).map st).map (Value.int .i64))[j]? =some u→(cellsOf (iv st) n)[j]? =some u:=by
 intro j u h
 rw[List.getElem?_map,List.getElem?_map] at h
 by_cases hj:j<n
 ·rw[Bd _ hj]
  rw[List.getElem?_range hj] at h
  exact h
 rw[List.getElem?_eq_none (by simp;omega)] at h
 cases h
theorem phisN_yes {g:Gph} {b edge:Nat} {old:Sta} {k a:Nat} (h1:g.blk k=b) (h2:g.op k=13) (h3:(g.args k).getD edge 0=a) (x:Nat):
 CB g b edge old (k+1) x=if x=k then old a else CB g b edge old k x:=by
 show (if x<k+1∧g.blk x=b∧g.op x=13 then old ((g.args x).getD edge 0) else old x)=if x=k then old a else (if x<k∧g.blk x=b∧g.op x=13 then old ((g.args x).getD edge 0) else old x)
 by_cases e:x=k
 ·subst e
  rw[if_pos ⟨by omega,h1,h2⟩,if_pos rfl,h3]
 rw[if_neg e]
 by_cases h4:x<k∧g.blk x=b∧g.op x=13
 ·rw[if_pos h4,if_pos ⟨by omega,h4.2⟩]
 rw[if_neg h4,if_neg (fun h5=>h4 ⟨by omega,h5.2⟩)]
theorem phisN_no {g:Gph} {b edge:Nat} {old:Sta} {k:Nat} (h1:¬ (g.blk k=b∧g.op k=13)) (x:Nat):
 CB g b edge old (k+1) x=CB g b edge old k x:=by
 show (if x<k+1∧g.blk x=b∧g.op x=13 then old ((g.args x).getD edge 0) else old x)=(if x<k∧g.blk x=b∧g.op x=13 then old ((g.args x).getD edge 0) else old x)
 by_cases h4:x<k∧g.blk x=b∧g.op x=13
 ·rw[if_pos h4,if_pos ⟨by omega,h4.2⟩]
 rw[if_neg h4,if_neg (fun h5=>by
  by_cases e:x=k
  ·subst e;exact h1 h5.2
  exact h4 ⟨by omega,h5.2⟩)]
theorem GJ {g:Gph} {E:Int→Int→List Int→Int} {b k:Nat} {m:Sta} (h1:g.blk k=b) (h2:g.op k≠13) (x:Nat):
 valsN g E b (k+1) m x=if x=k then E (g.op k) (g.aux k) ((g.args k).map (valsN g E b k m)) else valsN g E b k m x:=by
 show (if g.blk k=b∧g.op k≠13 then upd (valsN g E b k m) k _ else valsN g E b k m) x=_
 rw[if_pos ⟨h1,h2⟩];rfl
theorem Hl {g:Gph} {E:Int→Int→List Int→Int} {b k:Nat} {m:Sta} (h1:¬ (g.blk k=b∧g.op k≠13)) (x:Nat):
 valsN g E b (k+1) m x=valsN g E b k m x:=by
 show (if g.blk k=b∧g.op k≠13 then upd (valsN g E b k m) k _ else valsN g E b k m) x=_
 rw[if_neg h1]
structure RunI (f:Fn) (ins:List Int) (tot:List Nat×Int) (t b edge:Nat) (pre:List Nat) (st:Sta):Prop where
 hb:b<f.blks.length
 hedge:b=0∨edge<(predsOf f b).length
 edge64:edge<64
 len:pre.length=t
 htot:tot=(pre ++ (runG (toG f) (doI ins) (300 - t) b edge st).1,(runG (toG f) (doI ins) (300 - t) b edge st).2)
theorem RunI.ret {f:Fn} {ins:List Int} {tot:List Nat×Int} {t b edge:Nat} {pre:List Nat} {st:Sta} (h:RunI f ins tot t b edge pre st) (ht:t<300) (hk:(f.b b).kind=2):
 tot=(pre ++ [b],exec (toG f) (doI ins) b edge st (((toG f).ctrl b).getD 0 0)):=by
 rw[h.htot]
 obtain ⟨n,hn⟩:∃n,300 - t=n+1:=⟨300 - t - 1,by omega⟩
 rw[hn]
 unfold runG
 rw[if_pos (show (toG f).kind b=2 from hk)]
theorem RunI.next {f:Fn} {ins:List Int} {tot:List Nat×Int} {t b edge:Nat} {pre:List Nat} {st:Sta} (hg:GoodP f) (h:RunI f ins tot t b edge pre st) (ht:t<300) (hk:(f.b b).kind≠2) {k to:Nat}
 (hw:Cr (toG f) b (exec (toG f) (doI ins) b edge st (((toG f).ctrl b).getD 0 0))=k) (hto:(f.b b).succs.getD k 0=(to:Int)):
 RunI f ins tot (t+1) to (Cf (toG f) b k) (pre ++ [b]) (exec (toG f) (doI ins) b edge st):=by
 have hG:=hg.good
 have hlt:=wayG_lt hG.toFrm (b:=b) h.hb (show (toG f).kind b≠2 from hk) (exec (toG f) (doI ins) b edge st (((toG f).ctrl b).getD 0 0))
 rw[hw] at hlt
 have hto2:((toG f).succs b).getD k 0=to:=by
  have:((toG f).succs b).getD k 0=((f.b b).succs.getD k 0).toNat:=CW _ _
  rw[this,hto,Int.toNat_natCast]
 have hmem:=Bh hlt
 rw[hto2] at hmem
 have hton:to<f.blks.length:=(hG.succs b h.hb to hmem).2
 obtain ⟨h1,h2⟩:=along_ok hG.toFrm (p:=b) (k:=k) h.hb hlt
 rw[hto2] at h1
 have h3:=hG.plen (b:=to) hton
 refine ⟨hton,.inr h1,by omega,by rw[List.length_append,h.len];rfl,?_⟩
 rw[h.htot]
 obtain ⟨n,hn⟩:∃n,300 - t=n+1:=⟨300 - t - 1,by omega⟩
 have hn2:300 - (t+1)=n:=by omega
 rw[hn,hn2]
 conv=>lhs;unfold runG
 rw[if_neg (show ¬ (toG f).kind b=2 from hk),hw,hto2]
 simp
set_option maxHeartbeats 4000000
attribute [local irreducible] EC EL DL Ret thenQ blockQ Bi bodyQ onlyN execOp Sem.run World.cell? World.frozen? World.setCell World.alloc
theorem Run_ret {w:World} {x vi:Value} {f:Fn} {ins:List Int} (hx:FnV w x f) (hin:IntsV w vi ins) (hg:GoodP f):
 Ret Tryz.prog 42 #[x,vi] w fun v w'=>∃wv,v= .tuple #[wv,.int .i64 (runG (toG f) (doI ins) 300 0 0 (fun _=>0)).2]∧IntsV w' wv (nats (runG (toG f) (doI ins) 300 0 0 (fun _=>0)).1)∧
  (runG (toG f) (doI ins) 300 0 0 (fun _=>0)).1.length≤300∧Below w.heap.size w w':=by
 obtain ⟨xv,xb,rfl,hvals,hblks⟩:=hx
 refine ret_of_EC Tryz.func42 rfl rfl ?_
 have hx0:FnV w (.agg #[xv,xb]) f:=⟨xv,xb,rfl,hvals,hblks⟩
 obtain ⟨ab,cb,rfl,hbl⟩:=hblks
 obtain ⟨av,cv,rfl,hvl⟩:=hvals
 obtain ⟨B,hBd⟩:∃B,B=w.heap.size:=⟨_,rfl⟩
 have hG:=hg.good
 have hwf:=hg.wf
 have hnb:=hg.shp.nb
 have hnv:=hg.shp.nv
 have sh:Shp f:=⟨hwf.one,hwf.nb,hwf.succs⟩
 refine Ae (Ac (Ab (Br (v:=.agg #[.slice av f.vals.length cv,.slice ab f.blks.length cb]) rfl) rfl (el_new (.cells #[.slice av f.vals.length cv,.slice ab f.blks.length cb] 30) B (by omega) fun wa hN1 hO1 hZ1 hB1 hK1=>(Ab Ah rfl (Ab Ah rfl (Af (Aa ?_)))))))
 obtain ⟨b1,hb1⟩:∃b1,b1=w.heap.size:=⟨_,rfl⟩
 rw[← hb1] at hN1 ⊢
 have hbw:Below b1 w wa:=by rw[hb1,← hBd];exact hB1
 refine Ae (Ac (Ab (A0 (cs:=[.slice av f.vals.length cv,.slice ab f.blks.length cb]) rfl (AU rfl) (AZ hN1)) rfl (Bc (AG Tryz.func25 rfl rfl rfl rfl) rfl (Preds_ret (hx0.keep hK1) sh) ?_)))
 rintro _ w2 ⟨G,R,rfl,hGc,hGi,hb2⟩
 refine Ab Ah rfl (Af (Aa ?_))
 have hP2:PredV w2 (.slice (some ⟨G,0,none⟩) f.blks.length f.blks.length) f:=⟨G,_,rfl,fun b hb=>by
  obtain ⟨a,c,e,h1⟩:=hGi b hb
  have h2:=Am (o:=0+b) hGc (by rw[Nat.zero_add];exact Bd R hb)
  rw[e] at h2
  have hl:(nats (predsOf f b)).length=(predsOf f b).length:=List.length_map ..
  rw[hl] at h2
  exact ⟨a,c,h2,h1⟩⟩
 have hsz2:=hb2.size
 have hbx2:w2.heap[b1]? =some (.cells #[.slice av f.vals.length cv,.slice ab f.blks.length cb] 30 (0,0)):=(hb2.block b1 (by omega)).trans hN1
 have g02:w2.cell? ⟨b1,0+0,none⟩=some (.slice av f.vals.length cv):=Am hbx2 rfl
 refine Ae (Ac (Ab (Ak rfl (Al rfl)) rfl (Ab (Ai rfl (Ag rfl) ‹_›) rfl ?_)))
 refine Ab (AM rfl (An rfl)) rfl (Ab (C9 Tryz.underlying42 Gc rfl rfl rfl (by omega) (by omega)) rfl ?_)
 rw[Dg]
 have hBle:B≤w2.heap.size:=by omega
 refine el_new (.cells (cellsOf (fun _=>.int .i64 0) f.vals.length) 2) B (by omega) fun W0 hN3 hO3 hZ3 hB3 hK3=>?_
 obtain ⟨N,hN⟩:∃N,N=w2.heap.size:=⟨_,rfl⟩
 rw[← hN] at hN3 ⊢
 refine Ab Ah rfl (Af (Aa ?_))
 have hb1N:b1<N:=by omega
 have hbw0:Below b1 w W0:=(hbw.trans (hb2.mono (by omega))).trans ⟨hB3.os,hB3.tape,hB3.output,hB3.size,fun j hj=>hO3 j (by omega)⟩
 have key0:∀{W:World} {ρ:Operand→Value} {d:Option Tmp} {ty:TypeId} {pos:String} {af:Array Edge} {g:Option (Nat×Bool)},(execOp ρ ⟨d,.buildSlice 35 0 #[],ty,pos,af,g⟩).run Tryz.prog W= .ok (.value (.slice (some ⟨W.heap.size,0,none⟩) 0 0)) (W.alloc (.cells #[] 3)):=by
  intro W ρ d ty pos af g
  have key:(Instr.buildSlice 35 0 #[]).run Tryz.prog W= .ok (.slice (some ⟨W.heap.size,0,none⟩) 0 0) (W.alloc (.cells #[] 3)):=by kernel_rfl
  simp [execOp,key]
 have key1:∀{W:World} {ρ:Operand→Value} {d:Option Tmp} {ty:TypeId} {pos:String} {af:Array Edge} {g:Option (Nat×Bool)},(execOp ρ ⟨d,.buildSlice 42 0 #[],ty,pos,af,g⟩).run Tryz.prog W= .ok (.value (.slice (some ⟨W.heap.size,0,none⟩) 0 0)) (W.alloc (.cells #[] 2)):=by
  intro W ρ d ty pos af g
  have key:(Instr.buildSlice 42 0 #[]).run Tryz.prog W= .ok (.slice (some ⟨W.heap.size,0,none⟩) 0 0) (W.alloc (.cells #[] 2)):=by kernel_rfl
  simp [execOp,key]
 refine Ae (Ac (Ab key0 rfl ?_))
 have hBle:B≤W0.heap.size:=by omega
 refine el_new (.cells #[] 3) B (by omega) fun W00 hN4 hO4 hZ4 hB4 hK4=>(Ab Ah rfl (Af (Aa ?_)))
 have hrow0:W00.ownsRow (N+1) 3 1 (.slice (some ⟨W0.heap.size,0,none⟩) 0 0) 0 []:=⟨rfl,.inr ⟨W0.heap.size,0,#[],rfl,by omega,hN4,Nat.le_refl _,by decide,rfl,rfl⟩⟩
 have hnow0:W00.heap[N]? =some (.cells (cellsOf (iv fun _=>0) f.vals.length) 2 (0,0)):=(hO4 N (by omega)).trans hN3
 have hbW00:Below N W0 W00:=⟨hB4.os,hB4.tape,hB4.output,hB4.size,fun j hj=>hO4 j (by omega)⟩
 refine Ae (Ac (Ab Ah rfl (Ab Ah rfl (Af (Aa ?_)))))
 obtain ⟨tot,htot⟩:∃tot,tot=runG (toG f) (doI ins) 300 0 0 (fun _=>0):=⟨_,rfl⟩
 rw[← htot]
 have hI0:RunI f ins tot 0 0 0 [] (fun _=>0):=⟨hwf.one,.inl rfl,by decide,rfl,by rw[htot];rfl⟩
 have hK0:Keep w W0:=(hK1.trans (Keep.of_below hb2 (Nat.le_refl _))).trans hK3
 have hP0:PredV W0 (.slice (some ⟨G,0,none⟩) f.blks.length f.blks.length) f:=hP2.keep hK3
 have hN0:N<W0.heap.size:=by omega
 have hbxN:∀{wr:World},Below N W0 wr→wr.heap[b1]? =some (.cells #[.slice av f.vals.length cv,.slice ab f.blks.length cb] 30 (0,0)):=fun {wr} hb=>(hb.block b1 hb1N).trans ((hO3 b1 (by omega)).trans hbx2)
 have hKN:∀{wr:World},Below N W0 wr→Keep w2 wr:=fun {wr} hb=>Keep.of_below ((⟨hB3.os,hB3.tape,hB3.output,hB3.size,fun j hj=>hO3 j (by omega)⟩:Below N w2 W0).trans hb) (by omega)
 have hKw:Keep w w2:=hK1.trans (Keep.of_below hb2 (Nat.le_refl _))
 have hfv:∀k,k<f.vals.length→∃bb ob,av=some ⟨bb,ob,none⟩∧Quad w2 bb (ob+k * 4) (f.v k).op (f.v k).blk (f.v k).args (f.v k).aux:=fun k hk=>by
  obtain ⟨bb,ob,e,hq⟩:=hvl.resolve_left (fun e=>by rw[e] at hk;simp at hk)
  exact ⟨bb,ob,e,(hq k hk).keep hKw⟩
 have hfb:∀k,k<f.blks.length→∃bb ob,ab=some ⟨bb,ob,none⟩∧Quad w2 bb (ob+k * 4) (f.b k).kind (f.b k).ctrl (f.b k).succs (f.b k).likely:=fun k hk=>by
  obtain ⟨bb,ob,e,hq⟩:=hbl.resolve_left (fun e=>by rw[e] at hk;simp at hk)
  exact ⟨bb,ob,e,(hq k hk).keep hKw⟩
 have hin2:IntsV w2 vi ins:=hin.keep hKw
 have hx2:FnV w2 (.agg #[.slice av f.vals.length cv,.slice ab f.blks.length cb]) f:=hx0.keep hKw
 clear hvl hbl hK0 hP0
 refine Ae (Ae (Ac (Ab Ad rfl (Af (Aa (Ap ?_))))))
 refine EC_loop (fun n e wr=>∃(t b edge:Nat) (pre:List Nat) (st:Sta) (wv:Value),t≤300∧At e [(1,vi),(2,.pointer (some ⟨b1,0,none⟩)),(6,.slice (some ⟨G,0,none⟩) f.blks.length f.blks.length),(7,.slice (some ⟨N,0,none⟩) f.vals.length f.vals.length),(8,wv),(9,.int .i64 (b:Int)),(10,.int .i64 (edge:Int)),(28,.int .i64 (t:Int))]∧
  Below N W0 wr∧wr.heap[N]? =some (.cells (cellsOf (iv st) f.vals.length) 2 (0,0))∧wr.ownsRow (N+1) 3 1 wv pre.length ((nats pre).map (.int .i64))∧N+1≤wr.heap.size∧RunI f ins tot t b edge pre st∧n=300 - t) 300
  ⟨0,0,0,[],_,_,by decide,Aq rfl ⟨rfl,rfl,rfl,rfl,rfl,rfl,rfl,rfl,trivial⟩,hbW00,hnow0,hrow0,by omega,hI0,rfl⟩ ?_
 rintro n e wr ⟨t,b,edge,pre,st,wv,ht,⟨t',rfl⟩,hb,hnow,hway,hszr,hI,rfl⟩
 refine Ae (Ac (Ab (AY rfl rfl) rfl (Af (Aa (Ae ?_)))))
 refine AF rfl rfl (fun hlt=>?_) (fun hge=>?_)
 rotate_left
 ·have ht:t=300:=by omega
  subst ht
  refine AJ (Az (AB (Ay (Aa (Ae (Ac (Ab Ad rfl (Ab Ah rfl (Ab Ah rfl (Af (Aa ?_)))))))))))
  refine AC ?_
  have htt:tot=(pre,0):=by
   rw[hI.htot]
   show (pre ++ [],_)=_
   rw[List.append_nil];rfl
  have hway:=BO (l:=nats pre) (by rw[show (nats pre).length=pre.length from List.length_map ..];exact hway)
  refine Fh rfl rfl rfl rfl ⟨wv,?_,?_,?_,?_⟩
  ·rw[htt];rfl
  ·rw[htt];exact hway
  ·rw[htt];exact Nat.le_of_eq hI.len
  exact hbw0.trans (hb.mono (by omega))
 have hlt:t<300:=by omega
 have hbn:=hI.hb
 have he64:=hI.edge64
 have hlen:=hI.len
 refine Ar (Aa (Ae (Ap (Ae (Ac (Ab Ad rfl (Ab Ad rfl (Ab (Bp (v:=.int .i64 (b:Int)) rfl rfl Tryz.underlying35 (by kernel_rfl) (z:=.int .i64 0) rfl) rfl ?_))))))))
 have hBle:B≤wr.heap.size:=by omega
 refine el_new (.cells #[.int .i64 (b:Int)] 3) B (by omega) fun w6 hN6 hO6 hZ6 hB6 hK6=>?_
 have hway6:=AA hway (w':=w6) fun k e=>hO6 k (Au hway k e).2
 have hlow:=Au hway6
 refine BC hway6 (Am hN6 rfl) rfl (by omega) (by decide) (by omega) Tryz.underlying35 Cd rfl rfl rfl rfl ?_
 intro wv7 w7 hrow7 hgr7 hwh7
 refine Ab Ah rfl (Af (Aa ?_))
 have hway7:w7.ownsRow (N+1) 3 1 wv7 (pre ++ [b]).length ((nats (pre ++ [b])).map (.int .i64)):=by
  have e1:nats (pre ++ [b])=nats pre ++ [(b:Int)]:=by simp [nats]
  rw[e1,List.map_append,List.length_append]
  exact hrow7
 have hsz7:=hgr7.size
 have hnow7:w7.heap[N]? =some (.cells (cellsOf (iv st) f.vals.length) 2 (0,0)):=by
  rw[hgr7.block N (by omega) (fun e=>by have:=hlow N e.symm;omega),hO6 N (by omega)];exact hnow
 have hb7:Below N W0 w7:=(hb.trans ⟨hB6.os,hB6.tape,hB6.output,hB6.size,fun j hj=>hO6 j (by omega)⟩).grown hgr7 (by omega) (fun j e=>by have:=hlow j e;omega)
 refine Ae (Ac (Ab key1 rfl ?_))
 have hBle:B≤w7.heap.size:=by omega
 refine el_new (.cells #[] 2) B (by omega) fun w8 hN8 hO8 hZ8 hB8 hK8=>(Ab Ad rfl ?_)
 have hrow8:w8.ownsRow w7.heap.size 2 1 (.slice (some ⟨w7.heap.size,0,none⟩) 0 0) 0 []:=⟨rfl,.inr ⟨w7.heap.size,0,#[],rfl,Nat.le_refl _,hN8,Nat.le_refl _,by decide,rfl,rfl⟩⟩
 have hnow8:w8.heap[N]? =some (.cells (cellsOf (iv st) f.vals.length) 2 (0,0)):=(hO8 N (by omega)).trans hnow7
 refine Cu (ad:=⟨N,0,none⟩) (m:=f.vals.length) (c:=f.vals.length) (news:=((List.range f.vals.length).map st).map (Value.int .i64)) hrow8 ?_ ?_ (by simp) (by omega) (by decide) (by omega) Tryz.underlying42 Gc rfl (by decide) rfl rfl rfl ?_
 ·intro j u hj
  rw[Addr.add_lit]
  exact Am (o:=0+j) hnow8 (by rw[Nat.zero_add];exact cellsOf_list st _ j u hj)
 ·intro u hu
  obtain ⟨y,_,rfl⟩:=List.mem_map.1 hu
  rfl
 intro ov W1 hrow9 hgr9 hwh9
 refine Ab Ah rfl (Af (Aa ?_))
 have hsz9:=hgr9.size
 have hrow9:W1.ownsRow w7.heap.size 2 1 ov ((List.range f.vals.length).map st).length (((List.range f.vals.length).map st).map (.int .i64)):=by
  simpa using hrow9
 have hlow9:=Au hrow8
 have hnow9:W1.heap[N]? =some (.cells (cellsOf (iv st) f.vals.length) 2 (0,0)):=by
  rw[hgr9.block N (by omega) (fun e=>by have:=hlow9 N e.symm;omega)];exact hnow8
 have hlow7:=Au hway7
 have hway9:=AA hway7 (w':=W1) fun k e=>by
  rw[hgr9.block k (by have:=hlow7 k e;omega) (fun e2=>by have:=hlow9 k e2.symm;have:=hlow7 k e;omega)]
  exact hO8 k (hlow7 k e).2
 have hb9:Below N W0 W1:=(hb7.trans ⟨hB8.os,hB8.tape,hB8.output,hB8.size,fun j hj=>hO8 j (by omega)⟩).grown hgr9 (by omega) (fun j e=>by have:=hlow9 j e;omega)
 have hsz09:N+1≤W1.heap.size:=by omega
 have hlow10:=Au hway9
 have hold:∀a,a<f.vals.length→∃go gc,ov= .slice (some ⟨go,0,none⟩) f.vals.length gc∧go≠N∧go<W1.heap.size∧W1.cell? ⟨go,0+a,none⟩=some (.int .i64 (st a)):=fun a ha=>by
  obtain ⟨go,gc,h1,h2,h3,h4⟩:=row_cells hrow9 (k:=a) (by simpa using ha)
  refine ⟨go,gc,by simpa using h1,by omega,h3,?_⟩
  rw[h4]
  congr 2
  rw[List.getD_eq_getElem?_getD,List.getElem?_map,List.getElem?_range ha];rfl
 obtain ⟨S,hS⟩:∃S,S=W1.heap.size:=⟨_,rfl⟩
 clear hway hway6 hnow hrow7 hgr7 hgr9 hwh7 hwh9 hrow8 hnow8 hrow9 hlow hlow9 hnow7 hway7 hlow7 hb7 hN6 hO6 hZ6 hB6 hK6 hN8 hO8 hB8 hK8 hb
 refine BK (fun e wr=>At e [(1,vi),(2,.pointer (some ⟨b1,0,none⟩)),(6,.slice (some ⟨G,0,none⟩) f.blks.length f.blks.length),(7,.slice (some ⟨N,0,none⟩) f.vals.length f.vals.length),(8,wv7),(9,.int .i64 (b:Int)),(10,.int .i64 (edge:Int)),(28,.int .i64 (t:Int))]∧
  Fz N S W1 wr∧wr.heap[N]? =some (.cells (cellsOf (iv (CB (toG f) b edge st f.vals.length)) f.vals.length) 2 (0,0))) ?_ ?_
 ·have g09:W1.cell? ⟨b1,0+0,none⟩=some (.slice av f.vals.length cv):=Am (hbxN hb9) rfl
  refine Ae (Ac (Ab (Ak rfl (Al rfl)) rfl (Ab (Ai rfl (Ag rfl) ‹_›) rfl ?_)))
  refine Ab (AM rfl (An rfl)) rfl (Ab Ad rfl (Af (Aa (Ap ?_))))
  refine EC_loop (fun n e wr=>∃k,k≤f.vals.length∧At e [(1,vi),(2,.pointer (some ⟨b1,0,none⟩)),(6,.slice (some ⟨G,0,none⟩) f.blks.length f.blks.length),(7,.slice (some ⟨N,0,none⟩) f.vals.length f.vals.length),(8,wv7),(9,.int .i64 (b:Int)),(10,.int .i64 (edge:Int)),(28,.int .i64 (t:Int)),(11,ov),(38,.slice av f.vals.length cv),(39,.int .i64 (f.vals.length:Int)),(40,.int .i64 (k:Int))]∧
   Fz N S W1 wr∧wr.heap[N]? =some (.cells (cellsOf (iv (CB (toG f) b edge st k)) f.vals.length) 2 (0,0))∧n=f.vals.length - k) f.vals.length
   ⟨0,Nat.zero_le _,Aq rfl ⟨rfl,rfl,rfl,rfl,rfl,rfl,rfl,rfl,rfl,rfl,rfl,rfl,trivial⟩,Fz.refl _ _ _,by
     rw[hnow9,Cl (R:=iv st) (R':=iv (CB (toG f) b edge st 0)) fun i _=>congrArg (Value.int .i64) (show st i=(if i<0∧_ then _ else st i) from (if_neg fun h=>absurd h.1 (Nat.not_lt_zero _)).symm)],rfl⟩ ?_
  clear g09
  rintro n e wr ⟨k,hk,⟨t',rfl⟩,hfz,hst,rfl⟩
  refine Ae (Ac (Ab (AY rfl rfl) rfl (Af (Aa (Ae ?_)))))
  refine AF rfl rfl (fun hlk=>?_) (fun hgk=>?_)
  rotate_left
  ·have hk:k=f.vals.length:=by omega
   subst hk
   refine AJ (Az (AB (Ay ?_)))
   exact Ch ⟨Aq rfl ⟨rfl,rfl,rfl,rfl,rfl,rfl,rfl,rfl,trivial⟩,hfz,hst⟩
  have hlk:k<f.vals.length:=by omega
  have hbr:Below N W0 wr:=hb9.trans (hfz.below (by omega))
  have hKr:=hKN hbr
  obtain ⟨bb,ob,rfl,⟨s0,hcells0,⟨sa,sc,rfl,hints⟩⟩⟩:=hfv k hlk
  have hcells:=hcells0.keep hKr
  have hszk:=hfz.size
  refine Ar (Aa (Ae (Ap (Ae (Ac (Ab Ad rfl (Ab (Ba (n:=4) rfl rfl (An rfl) hlk) rfl (Ab (A0 rfl (AU rfl) hcells) rfl (Ab (A9 CQ) rfl (Ab Ah rfl (Bb (Be rfl rfl (A7 rfl) rfl rfl) rfl ?_)))))))))))
  refine Af (Aa ?_)
  have hBle:B≤wr.heap.size:=by omega
  refine ec_new (.cells #[.int .i64 (f.v k).op,.int .i64 (f.v k).blk,.slice sa (f.v k).args.length sc,.int .i64 (f.v k).aux] 39) B (by omega) fun X hN7 hO7 hZ7 hB7 hK7=>?_
  obtain ⟨V,hV⟩:∃V,V=wr.heap.size:=⟨_,rfl⟩
  rw[← hV] at hN7 ⊢
  have hfX:Fz N S W1 X:=hfz.trans ⟨hB7.os,hB7.tape,hB7.output,hB7.size,fun j hj _=>hO7 j (by omega)⟩
  have hstX:X.heap[N]? =some (.cells (cellsOf (iv (CB (toG f) b edge st k)) f.vals.length) 2 (0,0)):=(hO7 N (by omega)).trans hst
  have v0:X.cell? ⟨V,0+0,none⟩=some (.int .i64 (f.v k).op):=Am hN7 rfl
  have v1:X.cell? ⟨V,0+1,none⟩=some (.int .i64 (f.v k).blk):=Am hN7 rfl
  have v2:X.cell? ⟨V,0+2,none⟩=some (.slice sa (f.v k).args.length sc):=Am hN7 rfl
  have hval:=hg.val hlk
  have hgb:(toG f).blk k=b↔(f.v k).blk=(b:Int):=by
   show (f.v k).blk.toNat=b↔_
   omega
  refine Ae (Ac ?_)
  refine B9 9 (fun e w'=>w'=X∧At e [(53,.bool (decide ((f.v k).blk=(b:Int)∧(f.v k).op=13))),(1,vi),(2,.pointer (some ⟨b1,0,none⟩)),(6,.slice (some ⟨G,0,none⟩) f.blks.length f.blks.length),(7,.slice (some ⟨N,0,none⟩) f.vals.length f.vals.length),(8,wv7),(9,.int .i64 (b:Int)),(10,.int .i64 (edge:Int)),(28,.int .i64 (t:Int)),(11,ov),(38,.slice (some ⟨bb,ob,none⟩) f.vals.length cv),(39,.int .i64 (f.vals.length:Int)),(40,.int .i64 (k:Int)),(12,.int .i64 (k:Int)),(13,.pointer (some ⟨V,0,none⟩))]) ?_ ?_
  ·refine Ab (Ak rfl (Al rfl)) rfl (Ab (Ai rfl (Ag rfl) ‹_›) rfl ?_)
   refine Ab Ad rfl (Ab (A6 rfl rfl) rfl (Ab Ad rfl ?_))
   by_cases h1:(f.v k).blk=(b:Int)
   ·rw[decide_eq_true h1]
    refine As rfl rfl (Ak rfl (Al rfl)) rfl (As rfl rfl (Ai rfl (Ag rfl) ‹_›) rfl ?_)
    refine As rfl rfl (A6 rfl rfl) rfl (Ab (AQ rfl) rfl (Af ?_))
    by_cases h2:(f.v k).op=13
    ·rw[decide_eq_true h2]
     exact ⟨rfl,Aq rfl ⟨congrArg Value.bool (decide_eq_true (⟨h1,h2⟩:(f.v k).blk=(b:Int)∧(f.v k).op=13)).symm,rfl,rfl,rfl,rfl,rfl,rfl,rfl,rfl,rfl,rfl,rfl,rfl,rfl,rfl,trivial⟩⟩
    rw[decide_eq_false h2]
    exact ⟨rfl,Aq rfl ⟨congrArg Value.bool (decide_eq_false (fun h=>h2 h.2:¬ ((f.v k).blk=(b:Int)∧(f.v k).op=13))).symm,rfl,rfl,rfl,rfl,rfl,rfl,rfl,rfl,rfl,rfl,rfl,rfl,rfl,rfl,trivial⟩⟩
   rw[decide_eq_false h1]
   refine AH rfl rfl (AH rfl rfl (AH rfl rfl (Ab (AN rfl) rfl (Af ?_))))
   exact ⟨rfl,Aq rfl ⟨congrArg Value.bool (decide_eq_false (fun h=>h1 h.1:¬ ((f.v k).blk=(b:Int)∧(f.v k).op=13))).symm,rfl,rfl,rfl,rfl,rfl,rfl,rfl,rfl,rfl,rfl,rfl,rfl,rfl,rfl,trivial⟩⟩
  rintro e w' ⟨rfl,t',rfl⟩
  refine Af (Aa ?_)
  refine AF rfl rfl (fun hphi=>?_) (fun hno=>?_)
  rotate_left
  ·refine Ar (Ao (Aa (Ac (Ab (x_inc rfl rfl (by omega)) rfl (Ab Ad rfl (Af ?_))))))
   refine Av (f.vals.length - (k+1)) (by omega) ⟨k+1,by omega,Aq rfl ⟨rfl,rfl,rfl,rfl,rfl,rfl,rfl,rfl,rfl,rfl,rfl,rfl,trivial⟩,hfX,?_,rfl⟩
   rw[hstX]
   congr 2
   refine Cl fun i _=>?_
   show Value.int .i64 _=Value.int .i64 _
   rw[phisN_no (g:=toG f) (fun h=>hno ⟨hgb.1 h.1,h.2⟩) i]
  obtain ⟨hp1,hp2⟩:=hphi
  have hael:edge<(f.v k).args.length:=by
   have h5:=hval.2.2.2.2
   have h6:=(hG.aux k hlk).2.2 hp2
   have hbt:(f.v k).blk.toNat=b:=by omega
   rw[hp2,hbt] at h5
   have h7:manyI 13 ((predsOf f b).length:Nat)=((predsOf f b).length:Nat):=rfl
   rcases hI.hedge with h8|h8
   ·exfalso
    have h9:0<(predsOf f b).length:=by
     have h10:((toG f).args k).length=(f.v k).args.length:=List.length_map ..
     omega
    have h11:=Bh h9
    have h12:predsOf f b=(toG f).preds b:=rfl
    rw[h12,hG.preds b hbn,mem_predsL] at h11
    have:=hG.succs _ h11.1 _ h11.2
    omega
   omega
  obtain ⟨ba,oa,rfl,hai⟩:=hints.get hael
  have hmem:=hg.args hlk _ (Du hael)
  obtain ⟨a,ha⟩:∃a:Nat,(f.v k).args.getD edge 0=(a:Int):=⟨_,(Int.toNat_of_nonneg hmem.1).symm⟩
  rw[ha] at hai hmem
  have han:a<f.vals.length:=by omega
  have hai:=hK7 _ _ (hKr _ _ hai)
  obtain ⟨go,gc,rfl,hgo1,hgo2,hgo3⟩:=hold a han
  have hgo4:w'.cell? ⟨go,0+a,none⟩=some (.int .i64 (st a)):=by
   rw[World.cell?_of_block (w:=W1) (hfX.block go (by omega) hgo1)];exact hgo3
  refine Ac (Ab Ad rfl (Ab Ad rfl (Ab Ad rfl (Ab (Ak rfl (Al rfl)) rfl (Ab (Ai rfl (Ag rfl) ‹_›) rfl ?_)))))
  refine Ab Ad rfl (Ab (x_index1 rfl rfl (An rfl) (by omega)) rfl (Ab (Ai rfl (Ag rfl) ‹_›) rfl ?_))
  refine Ab (x_index1 rfl rfl (An rfl) (by omega)) rfl (Ab (Ai rfl (Ag rfl) ‹_›) rfl ?_)
  refine Ab (x_index1 rfl rfl (An rfl) (by omega)) rfl (Bb (AV rfl rfl rfl (AK rfl) (Am hstX (by rw[Nat.zero_add];exact Bd _ hlk)) (AT hstX)) rfl ?_)
  refine Af (Ao (Aa ?_))
  have hst8:=AD (o:=0+k) (u:=.int .i64 (st a)) hstX
  rw[cellsOf_set] at hst8
  have hfX8:=hfX.set (0+k) (.int .i64 (st a))
  refine Ac ?_
  change EL _ _ _ _ _ _ (w'.setCell ⟨N,0+k,none⟩ (.int .i64 (st a)))
  generalize w'.setCell ⟨N,0+k,none⟩ (.int .i64 (st a))=w9 at hst8 hfX8 ⊢
  refine Ab (x_inc rfl rfl (by omega)) rfl (Ab Ad rfl (Af ?_))
  refine Av (f.vals.length - (k+1)) (by omega) ⟨k+1,by omega,Aq rfl ⟨rfl,rfl,rfl,rfl,rfl,rfl,rfl,rfl,rfl,rfl,rfl,rfl,trivial⟩,hfX8,?_,rfl⟩
  rw[hst8]
  congr 2
  refine Cl fun i _=>?_
  show _=Value.int .i64 (CB (toG f) b edge st (k+1) i)
  rw[phisN_yes (g:=toG f) (hgb.2 hp1) hp2 (a:=a) (by
   have:((toG f).args k).getD edge 0=((f.v k).args.getD edge 0).toNat:=CW _ _
   rw[this,ha,Int.toNat_natCast]) i]
  show (if i=0+k then Value.int .i64 (st a) else iv (CB (toG f) b edge st k) i)=_
  rw[Nat.zero_add]
  by_cases e:i=k
  ·rw[if_pos e,if_pos e]
  rw[if_neg e,if_neg e];rfl
 clear hold hnow9
 rintro e wr ⟨⟨t',rfl⟩,hfz,hst⟩
 obtain ⟨ph,hph⟩:∃ph,ph=CB (toG f) b edge st f.vals.length:=⟨_,rfl⟩
 rw[← hph] at hst
 refine BK (fun e wr=>At e [(1,vi),(2,.pointer (some ⟨b1,0,none⟩)),(6,.slice (some ⟨G,0,none⟩) f.blks.length f.blks.length),(7,.slice (some ⟨N,0,none⟩) f.vals.length f.vals.length),(8,wv7),(9,.int .i64 (b:Int)),(10,.int .i64 (edge:Int)),(28,.int .i64 (t:Int))]∧
  Fz N S W1 wr∧wr.heap[N]? =some (.cells (cellsOf (iv (valsN (toG f) (doI ins) b f.vals.length ph)) f.vals.length) 2 (0,0))) ?_ ?_
 ·have hbr:=hb9.trans (hfz.below (by omega))
  have g0r:wr.cell? ⟨b1,0+0,none⟩=some (.slice av f.vals.length cv):=Am (hbxN hbr) rfl
  refine Ae (Ac (Ab (Ak rfl (Al rfl)) rfl (Ab (Ai rfl (Ag rfl) ‹_›) rfl ?_)))
  refine Ab (AM rfl (An rfl)) rfl (Ab Ad rfl (Af (Aa (Ap ?_))))
  refine EC_loop (fun n e wr=>∃k,k≤f.vals.length∧At e [(1,vi),(2,.pointer (some ⟨b1,0,none⟩)),(6,.slice (some ⟨G,0,none⟩) f.blks.length f.blks.length),(7,.slice (some ⟨N,0,none⟩) f.vals.length f.vals.length),(8,wv7),(9,.int .i64 (b:Int)),(10,.int .i64 (edge:Int)),(28,.int .i64 (t:Int)),(67,.slice av f.vals.length cv),(68,.int .i64 (f.vals.length:Int)),(69,.int .i64 (k:Int))]∧
   Fz N S W1 wr∧wr.heap[N]? =some (.cells (cellsOf (iv (valsN (toG f) (doI ins) b k ph)) f.vals.length) 2 (0,0))∧n=f.vals.length - k) f.vals.length
   ⟨0,Nat.zero_le _,Aq rfl ⟨rfl,rfl,rfl,rfl,rfl,rfl,rfl,rfl,rfl,rfl,rfl,trivial⟩,hfz,hst,rfl⟩ ?_
  clear g0r hbr hst hfz
  rintro n e wr ⟨k,hk,⟨t',rfl⟩,hfz,hst,rfl⟩
  refine Ae (Ac (Ab (AY rfl rfl) rfl (Af (Aa (Ae ?_)))))
  refine AF rfl rfl (fun hlk=>?_) (fun hgk=>?_)
  rotate_left
  ·have hk:k=f.vals.length:=by omega
   subst hk
   refine AJ (Az (AB (Ay ?_)))
   exact Ch ⟨Aq rfl ⟨rfl,rfl,rfl,rfl,rfl,rfl,rfl,rfl,trivial⟩,hfz,hst⟩
  have hlk:k<f.vals.length:=by omega
  have hbr:Below N W0 wr:=hb9.trans (hfz.below (by omega))
  have hKr:=hKN hbr
  obtain ⟨bb,ob,rfl,⟨s0,hcells0,⟨sa,sc,rfl,hints⟩⟩⟩:=hfv k hlk
  have hcells:=hcells0.keep hKr
  have hszk:=hfz.size
  refine Ar (Aa (Ae (Ap (Ae (Ac (Ab Ad rfl (Ab (Ba (n:=4) rfl rfl (An rfl) hlk) rfl (Ab (A0 rfl (AU rfl) hcells) rfl (Ab (A9 CQ) rfl (Ab Ah rfl (Bb (Be rfl rfl (A7 rfl) rfl rfl) rfl ?_)))))))))))
  refine Af (Aa ?_)
  have hBle:B≤wr.heap.size:=by omega
  refine ec_new (.cells #[.int .i64 (f.v k).op,.int .i64 (f.v k).blk,.slice sa (f.v k).args.length sc,.int .i64 (f.v k).aux] 39) B (by omega) fun X hN7 hO7 hZ7 hB7 hK7=>?_
  obtain ⟨V,hV⟩:∃V,V=wr.heap.size:=⟨_,rfl⟩
  rw[← hV] at hN7 ⊢
  have hfX:Fz N S W1 X:=hfz.trans ⟨hB7.os,hB7.tape,hB7.output,hB7.size,fun j hj _=>hO7 j (by omega)⟩
  obtain ⟨now,hnowd⟩:∃now,now=valsN (toG f) (doI ins) b k ph:=⟨_,rfl⟩
  rw[← hnowd] at hst
  have hstX:X.heap[N]? =some (.cells (cellsOf (iv now) f.vals.length) 2 (0,0)):=(hO7 N (by omega)).trans hst
  have hval:=hg.val hlk
  have hgb:(toG f).blk k=b↔(f.v k).blk=(b:Int):=by
   show (f.v k).blk.toNat=b↔_
   omega
  have v0:X.cell? ⟨V,0+0,none⟩=some (.int .i64 (f.v k).op):=Am hN7 rfl
  have v1:X.cell? ⟨V,0+1,none⟩=some (.int .i64 (f.v k).blk):=Am hN7 rfl
  refine Ae (Ae (Ac ?_))
  refine B9 9 (fun e w'=>w'=X∧At e [(82,.bool (decide ((f.v k).blk≠(b:Int)∨(f.v k).op=13))),(1,vi),(2,.pointer (some ⟨b1,0,none⟩)),(6,.slice (some ⟨G,0,none⟩) f.blks.length f.blks.length),(7,.slice (some ⟨N,0,none⟩) f.vals.length f.vals.length),(8,wv7),(9,.int .i64 (b:Int)),(10,.int .i64 (edge:Int)),(28,.int .i64 (t:Int)),(67,.slice (some ⟨bb,ob,none⟩) f.vals.length cv),(68,.int .i64 (f.vals.length:Int)),(69,.int .i64 (k:Int)),(14,.int .i64 (k:Int)),(15,.pointer (some ⟨V,0,none⟩))]) ?_ ?_
  ·refine Ab (Ak rfl (Al rfl)) rfl (Ab (Ai rfl (Ag rfl) ‹_›) rfl ?_)
   refine Ab Ad rfl (Ab (Bx rfl rfl) rfl (Ab Ad rfl ?_))
   by_cases h1:(f.v k).blk≠(b:Int)
   ·rw[decide_eq_true h1]
    refine AH rfl rfl (AH rfl rfl (AH rfl rfl (Ab (AQ rfl) rfl (Af ?_))))
    exact ⟨rfl,Aq rfl ⟨congrArg Value.bool (decide_eq_true (.inl h1)).symm,rfl,rfl,rfl,rfl,rfl,rfl,rfl,rfl,rfl,rfl,rfl,rfl,rfl,trivial⟩⟩
   rw[decide_eq_false h1]
   refine As rfl rfl (Ak rfl (Al rfl)) rfl (As rfl rfl (Ai rfl (Ag rfl) ‹_›) rfl ?_)
   refine As rfl rfl (A6 rfl rfl) rfl (Ab (AN rfl) rfl (Af ?_))
   by_cases h2:(f.v k).op=13
   ·rw[decide_eq_true h2]
    exact ⟨rfl,Aq rfl ⟨congrArg Value.bool (decide_eq_true (.inr h2)).symm,rfl,rfl,rfl,rfl,rfl,rfl,rfl,rfl,rfl,rfl,rfl,rfl,rfl,trivial⟩⟩
   rw[decide_eq_false h2]
   exact ⟨rfl,Aq rfl ⟨congrArg Value.bool (decide_eq_false (fun h=>h.elim h1 h2)).symm,rfl,rfl,rfl,rfl,rfl,rfl,rfl,rfl,rfl,rfl,rfl,rfl,rfl,trivial⟩⟩
  rintro e w' ⟨rfl,t',rfl⟩
  refine Af (Aa ?_)
  refine AF rfl rfl (fun hskip=>?_) (fun hdo=>?_)
  ·refine AJ (Az (Ay (Aa (Ac (Ab (x_inc rfl rfl (by omega)) rfl (Ab Ad rfl (Af ?_)))))))
   refine Av (f.vals.length - (k+1)) (by omega) ⟨k+1,by omega,Aq rfl ⟨rfl,rfl,rfl,rfl,rfl,rfl,rfl,rfl,rfl,rfl,rfl,trivial⟩,hfX,?_,rfl⟩
   rw[hstX]
   congr 2
   refine Cl fun i _=>?_
   show Value.int .i64 _=Value.int .i64 _
   rw[Hl (g:=toG f) (fun h=>hskip.elim (fun h2=>h2 (hgb.1 h.1)) h.2) i,hnowd]
  refine Ar (Aa ?_)
  have hbk:(f.v k).blk=(b:Int):=Classical.byContradiction fun h=>hdo (.inl h)
  have hop:(f.v k).op≠13:=fun h=>hdo (.inr h)
  have hal:(f.v k).args.length≤64:=(hwf.args k hlk).1
  obtain ⟨S2,hS2⟩:∃S2,S2=w'.heap.size:=⟨_,rfl⟩
  refine Ae (Ac (Ab key1 rfl ?_))
  have hBle:B≤w'.heap.size:=by omega
  change EL _ _ _ _ _ _ (w'.alloc (.cells #[] 2))
  have hN8:=heap_alloc_new w' (.cells #[] 2)
  have hO8:∀zz,zz<w'.heap.size→(w'.alloc (.cells #[] 2)).heap[zz]? =w'.heap[zz]? :=fun _ hi=>Below.heap_alloc _ _ _ hi
  have hZ8:=BD w' (.cells #[] 2)
  have hB8:=(Below.refl B w').alloc (by omega) (.cells #[] 2)
  have hK8:=Keep.alloc w' (.cells #[] 2)
  generalize w'.alloc (.cells #[] 2)=w8 at hN8 hO8 hZ8 hB8 hK8 ⊢
  refine Ab Ah rfl (Af (Aa ?_))
  have hrow8:w8.ownsRow S2 2 1 (.slice (some ⟨w'.heap.size,0,none⟩) 0 0) 0 []:=⟨rfl,.inr ⟨w'.heap.size,0,#[],rfl,by omega,hN8,Nat.le_refl _,by decide,rfl,rfl⟩⟩
  have hb8:Below S2 w' w8:=⟨hB8.os,hB8.tape,hB8.output,hB8.size,fun j hj=>hO8 j (by omega)⟩
  have v2:w8.cell? ⟨V,0+2,none⟩=some (.slice sa (f.v k).args.length sc):=Am ((hO8 V (by omega)).trans hN7) rfl
  refine BK (fun e wi=>∃v',At e [(16,v'),(1,vi),(2,.pointer (some ⟨b1,0,none⟩)),(6,.slice (some ⟨G,0,none⟩) f.blks.length f.blks.length),(7,.slice (some ⟨N,0,none⟩) f.vals.length f.vals.length),(8,wv7),(9,.int .i64 (b:Int)),(10,.int .i64 (edge:Int)),(28,.int .i64 (t:Int)),(67,.slice (some ⟨bb,ob,none⟩) f.vals.length cv),(68,.int .i64 (f.vals.length:Int)),(69,.int .i64 (k:Int)),(14,.int .i64 (k:Int)),(15,.pointer (some ⟨V,0,none⟩))]∧Below S2 w' wi∧
   wi.ownsRow S2 2 1 v' (f.v k).args.length (((f.v k).args.map fun a=>now a.toNat).map (.int .i64))) ?_ ?_
  ·refine Ae (Ac (Ab (Ak rfl (Al rfl)) rfl (Ab (Ai rfl (Ag rfl) ‹_›) rfl ?_)))
   refine Ab (AM rfl (An rfl)) rfl (Ab Ad rfl (Af (Aa (Ap ?_))))
   refine EC_loop (fun n e wi=>∃(j:Nat) (v':Value),j≤(f.v k).args.length∧At e [(16,v'),(1,vi),(2,.pointer (some ⟨b1,0,none⟩)),(6,.slice (some ⟨G,0,none⟩) f.blks.length f.blks.length),(7,.slice (some ⟨N,0,none⟩) f.vals.length f.vals.length),(8,wv7),(9,.int .i64 (b:Int)),(10,.int .i64 (edge:Int)),(28,.int .i64 (t:Int)),(67,.slice (some ⟨bb,ob,none⟩) f.vals.length cv),(68,.int .i64 (f.vals.length:Int)),(69,.int .i64 (k:Int)),(14,.int .i64 (k:Int)),(15,.pointer (some ⟨V,0,none⟩)),(85,.slice sa (f.v k).args.length sc),(86,.int .i64 ((f.v k).args.length:Int)),(87,.int .i64 (j:Int))]∧Below S2 w' wi∧
    wi.ownsRow S2 2 1 v' j ((((f.v k).args.take j).map fun a=>now a.toNat).map (.int .i64))∧S2≤wi.heap.size∧n=(f.v k).args.length - j) (f.v k).args.length
    ⟨0,_,Nat.zero_le _,Aq rfl ⟨rfl,rfl,rfl,rfl,rfl,rfl,rfl,rfl,rfl,rfl,rfl,rfl,rfl,rfl,rfl,rfl,rfl,trivial⟩,hb8,hrow8,by omega,rfl⟩ ?_
   rintro n e wi ⟨j,v',hj,⟨t',rfl⟩,hbi,hrow,hszi,rfl⟩
   refine Ae (Ac (Ab (AY rfl rfl) rfl (Af (Aa (Ae ?_)))))
   refine AF rfl rfl (fun hlj=>?_) (fun hgj=>?_)
   rotate_left
   ·have hj:j=(f.v k).args.length:=by omega
    subst hj
    refine AJ (Az (AB (Ay ?_)))
    rw[List.take_length] at hrow
    exact Ch ⟨v',Aq rfl ⟨rfl,rfl,rfl,rfl,rfl,rfl,rfl,rfl,rfl,rfl,rfl,rfl,rfl,rfl,trivial⟩,hbi,hrow⟩
   have hlj:j<(f.v k).args.length:=by omega
   obtain ⟨ba,oa,rfl,hai⟩:=hints.get hlj
   have hmem:=hg.args hlk _ (Du hlj)
   obtain ⟨a,ha⟩:∃a:Nat,(f.v k).args.getD j 0=(a:Int):=⟨_,(Int.toNat_of_nonneg hmem.1).symm⟩
   have hKi:=Keep.of_below hbi (by omega)
   have hai:=hKi _ _ (hK7 _ _ (hKr _ _ hai))
   rw[ha] at hai hmem
   have han:a<f.vals.length:=by omega
   have hnowi:wi.heap[N]? =some (.cells (cellsOf (iv now) f.vals.length) 2 (0,0)):=(hbi.block N (by omega)).trans hstX
   have hna:wi.cell? ⟨N,0+a,none⟩=some (.int .i64 (now a)):=Am hnowi (by rw[Nat.zero_add];exact Bd _ han)
   refine Ar (Aa (Ae (Ap (Ae (Ac (Ab (x_index1 rfl rfl (An rfl) (by omega)) rfl (Ab (Ai rfl (Ag rfl) ‹_›) rfl ?_)))))))
   refine Ab Ah rfl (Af (Aa (Ac (Ab Ad rfl (Ab Ad rfl (Ab Ad rfl (Ab (x_index1 rfl rfl (An rfl) (by omega)) rfl (Ab (Ai rfl (Ag rfl) ‹_›) rfl ?_))))))))
   refine Ab (Bp (v:=.int .i64 (now a)) rfl rfl Tryz.underlying42 (by kernel_rfl) (z:=.int .i64 0) rfl) rfl ?_
   have hBle:B≤wi.heap.size:=by omega
   refine el_new (.cells #[.int .i64 (now a)] 2) B (by omega) fun w9 hN9 hO9 hZ9 hB9 hK9=>?_
   have hrow9:=AA hrow (w':=w9) fun q e=>hO9 q (Au hrow q e).2
   have hlow9:=Au hrow9
   refine BC hrow9 (Am hN9 rfl) rfl (by omega) (by decide) (by omega) Tryz.underlying42 Gc rfl rfl rfl rfl ?_
   intro v10 w10 hrow10 hgr10 hwh10
   refine Ab Ah rfl (Af (Ao (Aa ?_)))
   have hsz10:=hgr10.size
   have hb10:Below S2 w' w10:=(hbi.trans ⟨hB9.os,hB9.tape,hB9.output,hB9.size,fun q hq=>hO9 q (by omega)⟩).grown hgr10 (by omega) (fun q e=>by have:=hlow9 q e;omega)
   have hrow10':w10.ownsRow S2 2 1 v10 (j+1) ((((f.v k).args.take (j+1)).map fun a=>now a.toNat).map (.int .i64)):=by
    have hge:(f.v k).args[j]=(a:Int):=by
     rw[List.getD_eq_getElem?_getD,List.getElem?_eq_getElem hlj] at ha;exact ha
    rw[List.take_succ_eq_append_getElem hlj,hge,List.map_append,List.map_append]
    exact hrow10
   refine Ac (Ab (x_inc rfl rfl (by omega)) rfl (Ab Ad rfl (Af ?_)))
   exact Av ((f.v k).args.length - (j+1)) (by omega) ⟨j+1,v10,by omega,Aq rfl ⟨rfl,rfl,rfl,rfl,rfl,rfl,rfl,rfl,rfl,rfl,rfl,rfl,rfl,rfl,rfl,rfl,rfl,trivial⟩,hb10,hrow10',by omega,rfl⟩
  rintro e wi ⟨v',⟨t',rfl⟩,hbi,hrow⟩
  have hszi:=hbi.size
  have hVi:wi.heap[V]? =some (.cells #[.int .i64 (f.v k).op,.int .i64 (f.v k).blk,.slice sa (f.v k).args.length sc,.int .i64 (f.v k).aux] 39 (0,0)):=(hbi.block V (by omega)).trans hN7
  have hnowi:wi.heap[N]? =some (.cells (cellsOf (iv now) f.vals.length) 2 (0,0)):=(hbi.block N (by omega)).trans hstX
  have hfi:Fz N S W1 wi:=hfX.trans (Fz.of_below hbi (by have:=hfX.size;omega))
  have hlen2:((f.v k).args.map fun a=>now a.toNat).length=(f.v k).args.length:=List.length_map ..
  have harg:IntsV wi v' ((f.v k).args.map fun a=>now a.toNat):=BO (by rw[hlen2];exact hrow)
  have hins:IntsV wi vi ins:=hin2.keep (hKN (hb9.trans (hfi.below (by omega))))
  refine Ac (Ab Ad rfl (Ab Ad rfl (Ab (A0 (cs:=[.int .i64 (f.v k).op,.int .i64 (f.v k).blk,.slice sa (f.v k).args.length sc,.int .i64 (f.v k).aux]) rfl (AU rfl) (AZ hVi)) rfl (Ab Ad rfl (Ab Ad rfl (Bc (AG Tryz.func72 rfl rfl rfl rfl) rfl (do_ret (p:=((predsOf f (f.v k).blk.toNat).length:Nat)) harg hins ⟨hval.1,hval.2.1,hop⟩ (by rw[hlen2];exact hval.2.2.2.2) (fun h=>((hG.aux k hlk).1 h).1)) ?_))))))
  rintro vd wd ⟨hvd,hbd⟩
  obtain ⟨dv,hdv⟩:∃dv,dv=doI ins (f.v k).op (f.v k).aux ((f.v k).args.map fun a=>now a.toNat):=⟨_,rfl⟩
  rw[← hdv] at hvd
  subst hvd
  have hnowd2:wd.heap[N]? =some (.cells (cellsOf (iv now) f.vals.length) 2 (0,0)):=(hbd.block N (by omega)).trans hnowi
  have hfd:Fz N S W1 wd:=hfi.trans (Fz.of_below hbd (by have:=hfi.size;omega))
  refine Ab (x_index1 rfl rfl (An rfl) (by omega)) rfl (Bb (AV rfl rfl rfl (AK rfl) (Am hnowd2 (by rw[Nat.zero_add];exact Bd _ hlk)) (AT hnowd2)) rfl ?_)
  refine Af (Ao (Aa ?_))
  have hst8:=AD (o:=0+k) (u:=.int .i64 dv) hnowd2
  rw[cellsOf_set] at hst8
  have hfd8:=hfd.set (0+k) (.int .i64 dv)
  refine Ac ?_
  change EL _ _ _ _ _ _ (wd.setCell ⟨N,0+k,none⟩ (.int .i64 dv))
  generalize wd.setCell ⟨N,0+k,none⟩ (.int .i64 dv)=we at hst8 hfd8 ⊢
  refine Ab (x_inc rfl rfl (by omega)) rfl (Ab Ad rfl (Af ?_))
  refine Av (f.vals.length - (k+1)) (by omega) ⟨k+1,by omega,Aq rfl ⟨rfl,rfl,rfl,rfl,rfl,rfl,rfl,rfl,rfl,rfl,rfl,trivial⟩,hfd8,?_,rfl⟩
  rw[hst8]
  congr 2
  refine Cl fun i _=>?_
  show _=Value.int .i64 (valsN (toG f) (doI ins) b (k+1) ph i)
  rw[GJ (g:=toG f) (hgb.2 hbk) hop i,← hnowd]
  have hargs:((toG f).args k).map now=(f.v k).args.map fun a=>now a.toNat:=by
   show ((f.v k).args.map Int.toNat).map now=_
   rw[List.map_map];rfl
  rw[hargs]
  show (if i=0+k then Value.int .i64 dv else iv now i)=_
  rw[Nat.zero_add,hdv]
  by_cases e:i=k
  ·rw[if_pos e,if_pos e];rfl
  rw[if_neg e,if_neg e];rfl
 clear hst hfz
 rintro e wr ⟨⟨t',rfl⟩,hfz,hst⟩
 obtain ⟨fin,hfin⟩:∃fin,fin=exec (toG f) (doI ins) b edge st:=⟨_,rfl⟩
 have hfin2:valsN (toG f) (doI ins) b f.vals.length ph=fin:=by rw[hfin,hph];rfl
 rw[hfin2] at hst
 have hbr:Below N W0 wr:=hb9.trans (hfz.below (by omega))
 have hKr:=hKN hbr
 have g1r:wr.cell? ⟨b1,0+1,none⟩=some (.slice ab f.blks.length cb):=Am (hbxN hbr) rfl
 obtain ⟨bb,ob,rfl,⟨s0,hcells0,⟨sa,sc,rfl,hints⟩⟩⟩:=hfb b hbn
 have hcells:=hcells0.keep hKr
 have hszk:=hfz.size
 refine Ae (Ac (Ab (Ak rfl (Al rfl)) rfl (Ab (Ai rfl (Ag rfl) ‹_›) rfl ?_)))
 refine Ab Ad rfl (Ab (Ba (n:=4) rfl rfl (An rfl) hbn) rfl (Ab (A0 rfl (AU rfl) hcells) rfl (Ab (A9 D8) rfl (Bb (Be rfl rfl (A7 rfl) rfl rfl) rfl (Af (Aa ?_))))))
 have hBle:B≤wr.heap.size:=by omega
 refine ec_new (.cells #[.int .i64 (f.b b).kind,.int .i64 (f.b b).ctrl,.slice sa (f.b b).succs.length sc,.int .i64 (f.b b).likely] 54) B (by omega) fun X hN7 hO7 hZ7 hB7 hK7=>?_
 obtain ⟨V,hV⟩:∃V,V=wr.heap.size:=⟨_,rfl⟩
 rw[← hV] at hN7 ⊢
 have hfX:Fz N S W1 X:=hfz.trans ⟨hB7.os,hB7.tape,hB7.output,hB7.size,fun j hj _=>hO7 j (by omega)⟩
 have hstX:X.heap[N]? =some (.cells (cellsOf (iv fin) f.vals.length) 2 (0,0)):=(hO7 N (by omega)).trans hst
 have v0:X.cell? ⟨V,0+0,none⟩=some (.int .i64 (f.b b).kind):=Am hN7 rfl
 have v1:X.cell? ⟨V,0+1,none⟩=some (.int .i64 (f.b b).ctrl):=Am hN7 rfl
 have v2:X.cell? ⟨V,0+2,none⟩=some (.slice sa (f.b b).succs.length sc):=Am hN7 rfl
 have hctl:=hg.ctl2 hbn
 have hci:(f.b b).kind≠0→∃c:Nat,(f.b b).ctrl=(c:Int)∧c<f.vals.length∧((toG f).ctrl b).getD 0 0=c:=fun hk=>by
  obtain ⟨h1,h2⟩:=hctl.2 hk
  refine ⟨(f.b b).ctrl.toNat,by omega,by omega,?_⟩
  show (if 0≤(f.b b).ctrl then [(f.b b).ctrl.toNat] else []).getD 0 0=_
  rw[if_pos h1];rfl
 have hway:∀{wz:World},Fz N S W1 wz→wz.ownsRow (N+1) 3 1 wv7 (pre ++ [b]).length ((nats (pre ++ [b])).map (.int .i64)):=fun {wz} hz=>
  AA hway9 fun q e=>hz.block q (by have:=hlow10 q e;omega) (by have:=hlow10 q e;omega)
 refine Ae (Ae (Ac (Ab (Ak rfl (Al rfl)) rfl (Ab (Ai rfl (Ag rfl) ‹_›) rfl ?_))))
 refine Ab (A6 rfl rfl) rfl (Af (Aa ?_))
 refine AF rfl rfl (fun hret=>?_) (fun hnret=>?_)
 ·obtain ⟨c,hc1,hcn,hc2⟩:=hci (by omega)
  rw[hc1] at v1
  have hc:Cells [(⟨V,0+1,none⟩,.int .i64 (c:Int)),(⟨N,0+c,none⟩,.int .i64 (fin c))] X.drew:=(Keep.drew X).cells (.cons v1 (.cons (Am hstX (by rw[Nat.zero_add];exact Bd _ hcn)) (.nil _)))
  refine Ae (AX mixed _ [(0,false),(1,false),(2,false),(3,false),(4,false),(5,false),(6,false),(7,false)] (by kernel_rfl) hc ?_)
  have hfd:Fz N S W1 X.drew:=hfX.trans ⟨rfl,rfl,rfl,Nat.le_refl _,fun _ _ _=>rfl⟩
  generalize X.drew=Y at hc hfd ⊢
  refine Aj rfl (fun _ _=>Ad) (Aj rfl (fun _ _=>Ad) (Aj rfl (fun _ _=>Ak rfl (Al rfl)) (Aj rfl (fun _ hS=>Ai rfl (Ag rfl) (hS.get (by first|exact mm0|exact mm1|exact mm2|exact mm3|exact mm4|exact mm5|exact mm6|exact mm7))) ?_)))
  refine Aj rfl (fun _ _=>x_index1 rfl rfl (An rfl) (by omega)) (Aj rfl (fun _ hS=>Ai rfl (Ag rfl) (hS.get (by first|exact mm0|exact mm1|exact mm2|exact mm3|exact mm4|exact mm5|exact mm6|exact mm7))) ?_)
  refine Aj rfl (fun _ _=>Ah) (Aj rfl (fun _ _=>Ah) (AP (Aa (AC (AE (AI (AE (Bu (AI (AE ?_))))))))))
  have hr:=hI.ret hlt hret
  rw[hc2,← hfin] at hr
  have hway:=BO (l:=nats (pre ++ [b])) (by rw[show (nats (pre ++ [b])).length=(pre ++ [b]).length from List.length_map ..];exact hway hfd)
  refine Fh rfl rfl rfl rfl ⟨wv7,?_,?_,?_,?_⟩
  ·rw[hr];rfl
  ·rw[hr];exact hway
  ·rw[hr]
   show (pre ++ [b]).length≤300
   rw[List.length_append]
   have: [b].length=1:=rfl
   omega
  exact hbw0.trans ((hb9.trans (hfd.below (by omega))).mono (by omega))
 refine Ar (Aa ?_)
 obtain ⟨kw,hkw⟩:∃kw,kw=Cr (toG f) b (exec (toG f) (doI ins) b edge st (((toG f).ctrl b).getD 0 0)):=⟨_,rfl⟩
 have hkl:kw<(f.b b).succs.length:=by
  have:=wayG_lt hG.toFrm (b:=b) hbn (show (toG f).kind b≠2 from hnret) (exec (toG f) (doI ins) b edge st (((toG f).ctrl b).getD 0 0))
  rw[← hkw] at this
  have h2:((toG f).succs b).length=(f.b b).succs.length:=List.length_map ..
  omega
 refine Ae (Ac (Ab Ah rfl (Af (Aa ?_))))
 refine BK (fun e w'=>w'=X∧At e [(20,.int .i64 (kw:Int)),(19,.pointer (some ⟨V,0,none⟩)),(1,vi),(2,.pointer (some ⟨b1,0,none⟩)),(6,.slice (some ⟨G,0,none⟩) f.blks.length f.blks.length),(7,.slice (some ⟨N,0,none⟩) f.vals.length f.vals.length),(8,wv7),(9,.int .i64 (b:Int)),(10,.int .i64 (edge:Int)),(28,.int .i64 (t:Int))]) ?_ ?_
 ·refine Ae (Ac ?_)
  refine B9 11 (fun e w'=>w'=X∧At e [(131,.bool (decide (kw=1))),(20,.int .i64 0),(19,.pointer (some ⟨V,0,none⟩)),(1,vi),(2,.pointer (some ⟨b1,0,none⟩)),(6,.slice (some ⟨G,0,none⟩) f.blks.length f.blks.length),(7,.slice (some ⟨N,0,none⟩) f.vals.length f.vals.length),(8,wv7),(9,.int .i64 (b:Int)),(10,.int .i64 (edge:Int)),(28,.int .i64 (t:Int))]) ?_ ?_
  ·refine Ab (Ak rfl (Al rfl)) rfl (Ab (Ai rfl (Ag rfl) ‹_›) rfl ?_)
   refine Ab (A6 rfl rfl) rfl (Ab Ad rfl ?_)
   by_cases h1:(f.b b).kind=1
   ·rw[decide_eq_true h1]
    obtain ⟨c,hc1,hcn,hc2⟩:=hci (by omega)
    rw[hc1] at v1
    have hcv:X.cell? ⟨N,0+c,none⟩=some (.int .i64 (fin c)):=Am hstX (by rw[Nat.zero_add];exact Bd _ hcn)
    rw[hc2,← hfin] at hkw
    unfold Cr at hkw
    by_cases h2:fin c=0
    ·refine As rfl rfl Ad rfl (As rfl rfl (Ak rfl (Al rfl)) rfl (As rfl rfl (Ai rfl (Ag rfl) ‹_›) rfl ?_))
     refine As rfl rfl (x_index1 rfl rfl (An rfl) (by omega)) rfl (As rfl rfl (Ai rfl (Ag rfl) ‹_›) rfl ?_)
     refine As rfl rfl (A6 rfl rfl) rfl (Ab (AQ rfl) rfl (Af ?_))
     rw[decide_eq_true h2]
     rw[if_pos ⟨h1,h2⟩] at hkw
     exact ⟨rfl,Aq rfl ⟨congrArg Value.bool (decide_eq_true hkw).symm,rfl,rfl,rfl,rfl,rfl,rfl,rfl,rfl,rfl,rfl,trivial⟩⟩
    refine As rfl rfl Ad rfl (As rfl rfl (Ak rfl (Al rfl)) rfl (As rfl rfl (Ai rfl (Ag rfl) ‹_›) rfl ?_))
    refine As rfl rfl (x_index1 rfl rfl (An rfl) (by omega)) rfl (As rfl rfl (Ai rfl (Ag rfl) ‹_›) rfl ?_)
    refine As rfl rfl (A6 rfl rfl) rfl (Ab (AQ rfl) rfl (Af ?_))
    rw[decide_eq_false h2]
    rw[if_neg (fun h=>h2 h.2)] at hkw
    exact ⟨rfl,Aq rfl ⟨congrArg Value.bool (decide_eq_false (by omega:¬ kw=1)).symm,rfl,rfl,rfl,rfl,rfl,rfl,rfl,rfl,rfl,rfl,trivial⟩⟩
   rw[decide_eq_false h1]
   refine AH rfl rfl (AH rfl rfl (AH rfl rfl (AH rfl rfl (AH rfl rfl (AH rfl rfl (Ab (AN rfl) rfl (Af ?_)))))))
   unfold Cr at hkw
   rw[if_neg (fun h=>h1 h.1)] at hkw
   exact ⟨rfl,Aq rfl ⟨congrArg Value.bool (decide_eq_false (by omega:¬ kw=1)).symm,rfl,rfl,rfl,rfl,rfl,rfl,rfl,rfl,rfl,rfl,trivial⟩⟩
  rintro e w' ⟨rfl,t',rfl⟩
  refine Af (Aa ?_)
  have hk01:kw=0∨kw=1:=by
   rw[hkw]
   unfold Cr
   split
   ·exact .inr rfl
   exact .inl rfl
  refine AF rfl rfl (fun hone=>?_) (fun hnone=>?_)
  ·refine Ac (Ab Ah rfl (Af ?_))
   exact Ch ⟨rfl,Aq rfl ⟨by rw[hone];rfl,rfl,rfl,rfl,rfl,rfl,rfl,rfl,rfl,rfl,trivial⟩⟩
  refine Ar ?_
  have hz:kw=0:=by omega
  exact Ch ⟨rfl,Aq rfl ⟨by rw[hz];rfl,rfl,rfl,rfl,rfl,rfl,rfl,rfl,rfl,rfl,trivial⟩⟩
 rintro e w' ⟨rfl,t',rfl⟩
 obtain ⟨bi,oi,rfl,hai⟩:=hints.get hkl
 have hmem:=hg.succs b hbn _ (Du hkl)
 obtain ⟨to,hto⟩:∃to:Nat,(f.b b).succs.getD kw 0=(to:Int):=⟨_,(Int.toNat_of_nonneg hmem.1).symm⟩
 rw[hto] at hai
 have hai:=hK7 _ _ (hKr _ _ hai)
 have hbX:Below N W0 w':=hb9.trans (hfX.below (by omega))
 have hcx:=hbxN hbX
 have hc:Cells [(⟨V,0+2,none⟩,.slice (some ⟨bi,oi,none⟩) (f.b b).succs.length sc),(⟨bi,oi+kw,none⟩,.int .i64 (to:Int)),(⟨b1,0+0,none⟩,.slice av f.vals.length cv),(⟨b1,0+1,none⟩,.slice (some ⟨bb,ob,none⟩) f.blks.length cb)] w'.drew:=(Keep.drew w').cells (.cons v2 (.cons hai (.cons (Am hcx rfl) (.cons (Am hcx rfl) (.nil _)))))
 refine AX mixed _ [(0,false),(1,false),(2,false),(3,false),(4,false),(5,false),(6,false),(7,false),(8,false),(9,true),(10,false),(11,false)] (by kernel_rfl) hc ?_
 have hfd:Fz N S W1 w'.drew:=hfX.trans ⟨rfl,rfl,rfl,Nat.le_refl _,fun _ _ _=>rfl⟩
 have hstd:w'.drew.heap[N]? =some (.cells (cellsOf (iv fin) f.vals.length) 2 (0,0)):=hstX
 generalize w'.drew=Y at hc hfd hstd ⊢
 have hbY:Below N W0 Y:=hb9.trans (hfd.below (by omega))
 have hszY:=hfd.size
 refine Aj rfl (fun _ _=>Ak rfl (Al rfl)) (Aj rfl (fun _ hS=>Ai rfl (Ag rfl) (hS.get (by first|exact mm0|exact mm1|exact mm2|exact mm3|exact mm4|exact mm5|exact mm6|exact mm7))) ?_)
 refine Aj rfl (fun _ _=>Ad) (Aj rfl (fun _ _=>x_index1 rfl rfl (An rfl) (by omega)) (Aj rfl (fun _ hS=>Ai rfl (Ag rfl) (hS.get (by first|exact mm0|exact mm1|exact mm2|exact mm3|exact mm4|exact mm5|exact mm6|exact mm7))) ?_))
 refine Aj rfl (fun _ _=>Ad) ?_
 refine Aj rfl (fun _ hS=>A0 (cs:=[.slice av f.vals.length cv,.slice (some ⟨bb,ob,none⟩) f.blks.length cb]) rfl (AU rfl) (fun j u hj=>by
  rcases j with _|_|j
  ·simp at hj;subst hj;exact hS.get (.tail _ (.tail _ (.head _)))
  ·simp at hj;subst hj;exact hS.get (.tail _ (.tail _ (.tail _ (.head _))))
  simp at hj)) ?_
 refine Aj rfl (fun _ _=>Ad) (Aj rfl (fun _ _=>Ad) (BM rfl (AG Tryz.func73 rfl rfl rfl rfl) (along_ret (hP2.keep (hKN hbY)) (hx2.keep (hKN hbY)) hg hbn hkl) ?_))
 rintro _ Z ⟨rfl,hbZ⟩
 refine ⟨.inr ((Keep.of_below hbZ (Nat.le_refl _)).cells hc),?_⟩
 refine Aj rfl (fun _ _=>Ah) (Aj rfl (fun _ _=>Ah) (AP (Ao (Aa ?_))))
 have hfZ:Fz N S W1 Z:=hfd.trans (Fz.of_below hbZ (by omega))
 have hstZ:Z.heap[N]? =some (.cells (cellsOf (iv fin) f.vals.length) 2 (0,0)):=(hbZ.block N (by omega)).trans hstd
 refine Ac (Ab (x_inc rfl rfl (by omega)) rfl (Ab Ad rfl (Af ?_)))
 have hIn:=hI.next hg hlt hnret hkw.symm hto
 rw[← hfin] at hIn
 exact Av (300 - (t+1)) (by omega) ⟨t+1,to,_,_,_,wv7,by omega,Aq rfl ⟨rfl,rfl,rfl,rfl,rfl,rfl,rfl,rfl,trivial⟩,hb9.trans (hfZ.below (by omega)),hstZ,hway hfZ,by have:=hfZ.size;omega,hIn,rfl⟩
end Go.Proofs.YteepnepebilckaaGreatDoor
namespace Go.Proofs.YteepnepebilckaaGreatDoor
open Go Go.Eng Go.RowKit
section
variable {P : Program} {w : World} {ρ : Operand → Value} {d : Option Tmp} {ty : TypeId} {pos : String} {af : Array Edge} {g : Option (Nat × Bool)}
theorem EP {x:Operand} {a b:Value} (hx:ρ x= .tuple #[a,b]):(execOp ρ ⟨d,.extract x 0,ty,pos,af,g⟩).run P w= .ok (.value a) w:=by
 have key:(Instr.extract (.tuple #[a,b]) 0).run P w= .ok a w:=rfl
 simp [execOp,hx,key]
theorem EG {x:Operand} {a b:Value} (hx:ρ x= .tuple #[a,b]):(execOp ρ ⟨d,.extract x 1,ty,pos,af,g⟩).run P w= .ok (.value b) w:=by
 have key:(Instr.extract (.tuple #[a,b]) 1).run P w= .ok b w:=rfl
 simp [execOp,hx,key]
end
set_option maxHeartbeats 4000000
attribute [local irreducible] EC EL DL Ret thenQ blockQ Bi bodyQ onlyN execOp Sem.run World.cell? World.frozen? World.setCell World.alloc
theorem Same_ret {w:World} {x y vi:Value} {f h:Fn} {ins:List Int} (hx:FnV w x f) (hy:FnV w y h) (hin:IntsV w vi ins) (hg:GoodP f) (hh:GoodP h)
 (heq:runG (toG f) (doI ins) 300 0 0 (fun _=>0)=runG (toG h) (doI ins) 300 0 0 (fun _=>0)):
 Ret Tryz.prog 31 #[x,y,vi] w fun v w'=>v= .bool true∧Below w.heap.size w w':=by
 obtain ⟨xv,xb,rfl,hvals,hblks⟩:=hx
 obtain ⟨yv,yb,rfl,yvals,yblks⟩:=hy
 refine ret_of_EC Tryz.func31 rfl rfl ?_
 have hx0:FnV w (.agg #[xv,xb]) f:=⟨xv,xb,rfl,hvals,hblks⟩
 have hy0:FnV w (.agg #[yv,yb]) h:=⟨yv,yb,rfl,yvals,yblks⟩
 obtain ⟨ab,cb,rfl,hbl⟩:=hblks
 obtain ⟨av,cv,rfl,hvl⟩:=hvals
 obtain ⟨yab,ycb,rfl,ybl⟩:=yblks
 obtain ⟨yav,ycv,rfl,yvl⟩:=yvals
 obtain ⟨B,hBd⟩:∃B,B=w.heap.size:=⟨_,rfl⟩
 refine Ae (Ac (Ab (Br (v:=.agg #[.slice av f.vals.length cv,.slice ab f.blks.length cb]) rfl) rfl (el_new (.cells #[.slice av f.vals.length cv,.slice ab f.blks.length cb] 30) B (by omega) fun wa hN1 hO1 hZ1 hB1 hK1=>(Ab (Br (v:=.agg #[.slice yav h.vals.length ycv,.slice yab h.blks.length ycb]) rfl) rfl (el_new (.cells #[.slice yav h.vals.length ycv,.slice yab h.blks.length ycb] 30) B (by omega) fun wb hN2 hO2 hZ2 hB2 hK2=>(Ab Ah rfl (Af (Aa ?_))))))))
 have hN1':wb.heap[w.heap.size]? =some (.cells #[.slice av f.vals.length cv,.slice ab f.blks.length cb] 30 (0,0)):=(hO2 _ (by omega)).trans hN1
 have hbwb:Below B w wb:=hB1.trans hB2
 have hKb:Keep w wb:=hK1.trans hK2
 refine Ae (Ac (Ab (A0 (cs:=[.slice av f.vals.length cv,.slice ab f.blks.length cb]) rfl (AU rfl) (AZ hN1')) rfl (Ab Ad rfl (Bc (AG Tryz.func42 rfl rfl rfl rfl) rfl (Run_ret (hx0.keep hKb) (hin.keep hKb) hg) ?_))))
 rintro _ w1 ⟨wv1,rfl,hw1,hl1,hb1⟩
 refine Ab Ad rfl (Ab (EP rfl) rfl (Ab (EG rfl) rfl (Ab Ah rfl (Ab Ah rfl (Af (Aa ?_))))))
 have hN2':w1.heap[wa.heap.size]? =some (.cells #[.slice yav h.vals.length ycv,.slice yab h.blks.length ycb] 30 (0,0)):=(hb1.block _ (by omega)).trans hN2
 have hKb1:Keep wb w1:=Keep.of_below hb1 (Nat.le_refl _)
 refine Ae (Ac (Ab (A0 (cs:=[.slice yav h.vals.length ycv,.slice yab h.blks.length ycb]) rfl (AU rfl) (AZ hN2')) rfl (Ab Ad rfl (Bc (AG Tryz.func42 rfl rfl rfl rfl) rfl (Run_ret ((hy0.keep hKb).keep hKb1) ((hin.keep hKb).keep hKb1) hh) ?_))))
 rintro _ w2 ⟨wv2,rfl,hw2,hl2,hb2⟩
 refine Ab Ad rfl (Ab (EP rfl) rfl (Ab (EG rfl) rfl (Ab Ah rfl (Ab Ah rfl (Af (Aa ?_))))))
 have hw1':=hw1.keep (Keep.of_below hb2 (Nat.le_refl _))
 rw[← heq] at hw2 ⊢
 clear hw1
 generalize runG (toG f) (doI ins) 300 0 0 (fun _=>0)=tot at hw1' hw2 hl1 ⊢
 obtain ⟨way,rv⟩:=tot
 obtain ⟨a1,c1,rfl,hi1⟩:=hw1'
 obtain ⟨a2,c2,rfl,hi2⟩:=hw2
 have hnl:(nats way).length=way.length:=List.length_map ..
 have hl1:way.length≤300:=hl1
 have hbF:Below w.heap.size w w2:=by
  rw[← hBd]
  have:=hb1.size
  exact (hbwb.trans (hb1.mono (by omega))).trans (hb2.mono (by omega))
 dsimp only at hi1 hi2 ⊢
 refine Ae (Ae (Ac (Ab Ad rfl (Ab (AM rfl (An rfl)) rfl (Ab Ad rfl (Ab (AM rfl (An rfl)) rfl (Ab (Bx rfl rfl) rfl (Ab Ad rfl ?_))))))))
 rw[decide_eq_false (fun hh=>hh rfl:¬ (((nats way).length:Int)≠((nats way).length:Int)))]
 refine As rfl rfl Ad rfl (As rfl rfl Ad rfl (As rfl rfl (Bx rfl rfl) rfl (Ab (AN rfl) rfl (Af (Aa (Bj (congrArg Value.bool (decide_eq_false (fun hh=>hh rfl:¬ (rv≠rv)))) rfl (Ar (Aa (Ae (Ae (Ac ?_)))))))))))
 refine Ab Ad rfl (Ab (AM rfl (An rfl)) rfl (Ab Ad rfl (Af (Aa (Ap ?_)))))
 refine EC_loop (fun n e wr=>Below w2.heap.size w2 wr∧∃k,k≤way.length∧At e [(7,.slice a1 (nats way).length c1),(9,.slice a2 (nats way).length c2),(35,.int .i64 ((nats way).length:Int)),(36,.int .i64 (k:Int))]∧n=way.length - k) way.length
  ⟨Below.refl _ _,0,Nat.zero_le _,Aq rfl ⟨rfl,rfl,rfl,rfl,trivial⟩,rfl⟩ ?_
 rintro n e wr ⟨hbr,k,hk,⟨t,rfl⟩,rfl⟩
 refine Ae (Ac (Ab (AY rfl rfl) rfl (Af (Aa (Ae ?_)))))
 refine AF rfl rfl (fun hlt=>?_) (fun hge=>?_)
 rotate_left
 ·refine AJ (Az (AB (Ay (Aa (Ae (Ac (Ab Ah rfl (Af (Aa (AC ?_))))))))))
  exact Ax rfl rfl rfl ⟨rfl,hbF.trans (hbr.mono hbF.size)⟩
 have hlt:k<(nats way).length:=by omega
 obtain ⟨ba,oa,rfl,hca⟩:=hi1.get hlt
 obtain ⟨bc,oc,rfl,hcc⟩:=hi2.get hlt
 have hca:=Keep.of_below hbr (Nat.le_refl _) _ _ hca
 have hcc:=Keep.of_below hbr (Nat.le_refl _) _ _ hcc
 refine Ar (Aa (Ae (Ap (Ae (Ac (Ab Ad rfl (Ab Ah rfl (Af (Aa (Ae ?_))))))))))
 have hc:Cells [(⟨ba,oa+k,none⟩,.int .i64 ((nats way).getD k 0)),(⟨bc,oc+k,none⟩,.int .i64 ((nats way).getD k 0))] wr.drew:=(Keep.drew wr).cells (.cons hca (.cons hcc (.nil _)))
 refine AX mixed _ [(0,false),(1,false),(2,false),(3,false),(4,false),(5,false),(6,false),(7,false),(8,false)] (by kernel_rfl) hc ?_
 have hbY:=hbr.drew
 generalize wr.drew=Y at hc hbY ⊢
 refine Aj rfl (fun _ _=>Ad) (Aj rfl (fun _ _=>Ad) (Aj rfl (fun _ _=>x_index1 rfl rfl (An rfl) (by omega)) (Aj rfl (fun _ hS=>Ai rfl (Ag rfl) (hS.get (by first|exact mm0|exact mm1|exact mm2|exact mm3|exact mm4|exact mm5|exact mm6|exact mm7))) ?_)))
 refine Aj rfl (fun _ _=>Ad) (Aj rfl (fun _ _=>Ad) (Aj rfl (fun _ _=>x_index1 rfl rfl (An rfl) (by omega)) (Aj rfl (fun _ hS=>Ai rfl (Ag rfl) (hS.get (by first|exact mm0|exact mm1|exact mm2|exact mm3|exact mm4|exact mm5|exact mm6|exact mm7))) ?_)))
 refine Aj rfl (fun _ _=>Bx rfl rfl) (AP (Aa (Bj (congrArg Value.bool (decide_eq_false (fun hh=>hh rfl:¬ ((nats way).getD k 0≠(nats way).getD k 0)))) rfl (Ar (Ao (Aa (Ac (Ab (x_inc rfl rfl (by omega)) rfl (Ab Ad rfl (Af ?_))))))))))
 exact Av (way.length - (k+1)) (by omega) ⟨hbY,k+1,by omega,Aq rfl ⟨rfl,rfl,rfl,rfl,trivial⟩,rfl⟩
theorem means_ret {w:World} {x y vi:Value} {f h:Fn} {ins:List Int} (hx:FnV w x f) (hy:FnV w y h) (hin:IntsV w vi ins) (hg:GoodP f) (hh:GoodP h) (hl1:h.vals.length=f.vals.length) (hl2:h.blks.length=f.blks.length)
 (heq:runG (toG f) (doI ins) 300 0 0 (fun _=>0)=runG (toG h) (doI ins) 300 0 0 (fun _=>0)):
 Ret Tryz.prog 17 #[x,y,vi] w fun v w'=>v= .bool true∧Below w.heap.size w w':=by
 obtain ⟨xv,xb,rfl,hvals,hblks⟩:=hx
 obtain ⟨yv,yb,rfl,yvals,yblks⟩:=hy
 refine ret_of_EC Tryz.func17 rfl rfl ?_
 have hx0:FnV w (.agg #[xv,xb]) f:=⟨xv,xb,rfl,hvals,hblks⟩
 have hy0:FnV w (.agg #[yv,yb]) h:=⟨yv,yb,rfl,yvals,yblks⟩
 obtain ⟨ab,cb,rfl,hbl⟩:=hblks
 obtain ⟨av,cv,rfl,hvl⟩:=hvals
 obtain ⟨yab,ycb,rfl,ybl⟩:=yblks
 obtain ⟨yav,ycv,rfl,yvl⟩:=yvals
 obtain ⟨B,hBd⟩:∃B,B=w.heap.size:=⟨_,rfl⟩
 refine Ae (Ac (Ab (Br (v:=.agg #[.slice av f.vals.length cv,.slice ab f.blks.length cb]) rfl) rfl (el_new (.cells #[.slice av f.vals.length cv,.slice ab f.blks.length cb] 30) B (by omega) fun wa hN1 hO1 hZ1 hB1 hK1=>(Ab (Br (v:=.agg #[.slice yav h.vals.length ycv,.slice yab h.blks.length ycb]) rfl) rfl (el_new (.cells #[.slice yav h.vals.length ycv,.slice yab h.blks.length ycb] 30) B (by omega) fun wb hN2 hO2 hZ2 hB2 hK2=>(Ab Ah rfl (Af (Aa ?_))))))))
 have hN1':wb.heap[w.heap.size]? =some (.cells #[.slice av f.vals.length cv,.slice ab f.blks.length cb] 30 (0,0)):=(hO2 _ (by omega)).trans hN1
 have hbwb:Below B w wb:=hB1.trans hB2
 have hKb:Keep w wb:=hK1.trans hK2
 refine Ae (Ac (Ab (A0 (cs:=[.slice yav h.vals.length ycv,.slice yab h.blks.length ycb]) rfl (AU rfl) (AZ hN2)) rfl (Bc (AG Tryz.func10 rfl rfl rfl rfl) rfl (Good_ret (hy0.keep hKb)) ?_)))
 rintro _ w1 ⟨gb,rfl,hgb,hb1⟩
 have hgt:gb=true:=hgb.2 hh
 subst hgt
 have hN1w:w1.heap[w.heap.size]? =some (.cells #[.slice av f.vals.length cv,.slice ab f.blks.length cb] 30 (0,0)):=(hb1.block _ (by omega)).trans hN1'
 have hN2w:w1.heap[wa.heap.size]? =some (.cells #[.slice yav h.vals.length ycv,.slice yab h.blks.length ycb] 30 (0,0)):=(hb1.block _ (by omega)).trans hN2
 have f0:w1.cell? ⟨w.heap.size,0+0,none⟩=some (.slice av f.vals.length cv):=Am hN1w rfl
 have f1:w1.cell? ⟨w.heap.size,0+1,none⟩=some (.slice ab f.blks.length cb):=Am hN1w rfl
 have g0:w1.cell? ⟨wa.heap.size,0+0,none⟩=some (.slice yav h.vals.length ycv):=Am hN2w rfl
 have g1:w1.cell? ⟨wa.heap.size,0+1,none⟩=some (.slice yab h.blks.length ycb):=Am hN2w rfl
 have hKw1:Keep w w1:=hKb.trans (Keep.of_below hb1 (Nat.le_refl _))
 refine Ab Ad rfl (As rfl rfl (Ak rfl (Al rfl)) rfl (As rfl rfl (Ai rfl (Ag rfl) ‹_›) rfl ?_))
 refine As rfl rfl (AM rfl (An rfl)) rfl (As rfl rfl (Ak rfl (Al rfl)) rfl (As rfl rfl (Ai rfl (Ag rfl) ‹_›) rfl ?_))
 refine As rfl rfl (AM rfl (An rfl)) rfl (As rfl rfl (A6 rfl rfl) rfl (Ab (AQ rfl) rfl (Ab Ad rfl ?_)))
 rw[decide_eq_true (by rw[hl1]:(h.vals.length:Int)=(f.vals.length:Int))]
 refine As rfl rfl (Ak rfl (Al rfl)) rfl (As rfl rfl (Ai rfl (Ag rfl) ‹_›) rfl ?_)
 refine As rfl rfl (AM rfl (An rfl)) rfl (As rfl rfl (Ak rfl (Al rfl)) rfl (As rfl rfl (Ai rfl (Ag rfl) ‹_›) rfl ?_))
 refine As rfl rfl (AM rfl (An rfl)) rfl (As rfl rfl (A6 rfl rfl) rfl (Ab (AQ rfl) rfl (Ab Ad rfl ?_)))
 rw[decide_eq_true (by rw[hl2]:(h.blks.length:Int)=(f.blks.length:Int))]
 refine As rfl rfl (A0 (cs:=[.slice av f.vals.length cv,.slice ab f.blks.length cb]) rfl (AU rfl) (AZ hN1w)) rfl (As rfl rfl (A0 (cs:=[.slice yav h.vals.length ycv,.slice yab h.blks.length ycb]) rfl (AU rfl) (AZ hN2w)) rfl (As rfl rfl Ad rfl (Fy rfl rfl (AG Tryz.func31 rfl rfl rfl rfl) rfl (Same_ret (hx0.keep hKw1) (hy0.keep hKw1) (hin.keep hKw1) hg hh heq) ?_)))
 rintro _ w2 ⟨rfl,hb2⟩
 refine Ab (AQ rfl) rfl (Ab Ah rfl (Af (Aa (AC ?_))))
 have:=hb1.size
 exact Ax rfl rfl rfl ⟨rfl,by rw[← hBd];exact (hbwb.trans (hb1.mono (by omega))).trans (hb2.mono (by omega))⟩
end Go.Proofs.YteepnepebilckaaGreatDoor
