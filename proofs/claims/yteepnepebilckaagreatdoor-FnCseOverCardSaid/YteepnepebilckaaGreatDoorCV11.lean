/- The law FnCseOver returns true for every input in which the opcode table reads as laid, and its argument reads as it did, the table being tied to the text of the program. -/
import Derived.Test.YteepnepebilckaaGreatDoorCV10
namespace Go.Proofs.YteepnepebilckaaGreatDoor
open Go Go.Eng Go.RowKit
set_option maxHeartbeats 4000000
attribute [local irreducible] EC EL DL Ret thenQ blockQ Bi bodyQ onlyN execOp Sem.run World.cell? World.frozen? World.setCell World.alloc
theorem laws_conv_ret {w:World} {x:Value} {f:Fn} (hx:FnV w x f) (hn:f.vals.length<4294967296) (hm:f.blks.length<4294967296):
 Ret Tryz.prog 9 #[x] w fun v w'=>FnV w' v f∧Below w.heap.size w w':=by
 obtain ⟨xv,xb,rfl,hvals,hblks⟩:=hx
 refine ret_of_EC Tryz.func9 rfl rfl ?_
 obtain ⟨av,cv,rfl,hvl⟩:=hvals
 obtain ⟨ab,cb,rfl,hbl⟩:=hblks
 obtain ⟨B,hBd⟩:∃B,B=w.heap.size:=⟨_,rfl⟩
 refine Ae (Ac (Ab (Bv (v:=.agg #[.slice av f.vals.length cv,.slice ab f.blks.length cb]) rfl) rfl (el_new (.cells #[.slice av f.vals.length cv,.slice ab f.blks.length cb] 25) B (by omega) fun wa hN1 hO1 hZ1 hB1 hK1=>(Ab (A9 DC) rfl (el_new (.cells #[nilS,nilS] 30) B (by omega) fun wb hN2 hO2 hZ2 hB2 hK2=>(Af (Aa (Ae (Ac (Ab Gw rfl (Ab (A9 DC) rfl ?_)))))))))))
 refine Bc (Bb rfl rfl (A7 rfl) rfl rfl) rfl (Af (Aa (ec_new (.cells #[nilS,nilS] 30) B (by omega) fun W0 hN3 hO3 hZ3 hB3 hK3=>?_)))
 have hC0:W0.heap[wa.heap.size]? =some (.cells #[nilS,nilS] 30 (0,0)):=(hO3 _ (by omega)).trans hN2
 have hb10:W0.heap[w.heap.size]? =some (.cells #[.slice av f.vals.length cv,.slice ab f.blks.length cb] 25 (0,0)):=(hO3 _ (by omega)).trans ((hO2 _ (by omega)).trans hN1)
 have hbel0:Below w.heap.size w W0:=by rw[← hBd];exact (hB1.trans hB2).trans hB3
 obtain ⟨b1,hb1e⟩:∃b1,b1=w.heap.size:=⟨_,rfl⟩
 obtain ⟨C,hCe⟩:∃C,C=wa.heap.size:=⟨_,rfl⟩
 obtain ⟨X,hXe⟩:∃X,X=wb.heap.size:=⟨_,rfl⟩
 rw[← hCe] at hC0
 rw[← hb1e] at hb10
 have hX0:W0.heap[X]? =some (.cells #[nilS,nilS] 30 (0,0)):=by rw[hXe];exact hN3
 have hE:∀(k:Nat) (v:Value),True:=fun _ _=>trivial
 rw[← hb1e,← hCe,← hXe]
 obtain ⟨S0,hS0⟩:∃S0,S0=W0.heap.size:=⟨_,rfl⟩
 refine AW (fun e wr=>∃R,At e [(1,.pointer (some ⟨b1,0,none⟩)),(2,.pointer (some ⟨C,0,none⟩)),(3,.pointer (some ⟨X,0,none⟩))]∧QRow wr S0 39 0 X C R ((f.vals).map vq)∧wr.heap[X]? =some (.cells #[R,nilS] 30 (0,0))∧(∀j,j<S0→j≠X→wr.heap[j]? =W0.heap[j]?)∧S0≤wr.heap.size∧Below w.heap.size w wr) ?_ ?_
 ·have g1:W0.cell? ⟨b1,0+0,none⟩=some (.slice av f.vals.length cv):=Am hb10 rfl
  refine Ae (Ac (Ab (Al rfl (Ak rfl)) rfl (Ab (Ai rfl (Ag rfl) ‹_›) rfl ?_)))
  refine Ab (AN rfl (An rfl)) rfl (Ab Ad rfl (Af (Aa (Ao ?_))))
  refine EC_loop (fun n e wr=>∃(k:Nat) (R:Value),k≤f.vals.length∧At e [(1,.pointer (some ⟨b1,0,none⟩)),(2,.pointer (some ⟨C,0,none⟩)),(3,.pointer (some ⟨X,0,none⟩)),(10,.slice av f.vals.length cv),(11,.int .i64 (f.vals.length:Int)),(12,.int .i64 (k:Int))]∧QRow wr S0 39 0 X C R (((f.vals).take k).map vq)∧wr.heap[X]? =some (.cells #[R,nilS] 30 (0,0))∧(∀j,j<S0→j≠X→wr.heap[j]? =W0.heap[j]?)∧S0≤wr.heap.size∧Below w.heap.size w wr∧n=f.vals.length - k) f.vals.length
   ⟨0,nilS,Nat.zero_le _,Ar rfl ⟨rfl,rfl,rfl,rfl,rfl,rfl,trivial⟩,by simpa using QRow.nil W0 S0 39 0 X C (by omega),hX0,fun _ _ _=>rfl,Nat.le_of_eq hS0,hbel0,rfl⟩ ?_
  rintro n e wr ⟨k,R,hk,⟨t,rfl⟩,hQ,hXr,hst,hsz,hb,rfl⟩
  refine Ae (Ac (Ab (AX rfl rfl) rfl (Af (Aa (Ae ?_)))))
  refine AI rfl rfl (fun hlt=>?_) (fun hge=>?_)
  rotate_left
  ·have hk:k=f.vals.length:=by omega
   subst hk
   refine AK (AB (AD (AA ?_)))
   rw[List.take_length] at hQ
   exact AR ⟨R,Ar rfl ⟨rfl,rfl,rfl,trivial⟩,hQ,hXr,hst,hsz,hb⟩
  have hlt:k<f.vals.length:=by omega
  obtain ⟨b,o,rfl,hq⟩:=hvl.resolve_left (fun e=>by rw[e] at hlt;simp at hlt)
  obtain ⟨s,hcells0,⟨sa,sc,rfl,hints⟩⟩:=hq k hlt
  have hcells:=hcells0.keep (By hb (Nat.le_refl _))
  refine Aq (Aa (Ae (Ao (Ae (Ac (Ab (A5 (n:=4) rfl rfl (An rfl) hlt) rfl (Ab (A4 rfl (A0 rfl) hcells) rfl (Ab (A9 DV) rfl (Bc (Bb rfl rfl (A7 rfl) rfl rfl) rfl (Af (Aa ?_)))))))))))
  obtain ⟨B,hBd⟩:∃B,B=S0:=⟨_,rfl⟩
  have hBle:B≤wr.heap.size:=by omega
  refine ec_new (.cells #[.int .i64 (f.vals.getD k default).op,.int .i64 (f.vals.getD k default).blk,.slice sa (f.vals.getD k default).args.length sc,.int .i64 (f.vals.getD k default).aux] 48) B (by omega) fun W hN1 hO1 hZ1 hB1 hK1=>?_
  have hbW:Below w.heap.size wr W:=⟨hB1.os,hB1.tape,hB1.output,hB1.size,fun j hj=>hO1 j (by have:=hb.size;omega)⟩
  have hbW:=hb.trans hbW
  have hl0:W.cell? ⟨wr.heap.size,0+0,none⟩=some (.int .i64 (f.vals.getD k default).op):=Am hN1 rfl
  have hl1:W.cell? ⟨wr.heap.size,0+1,none⟩=some (.int .i64 (f.vals.getD k default).blk):=Am hN1 rfl
  have hl2:W.cell? ⟨wr.heap.size,0+2,none⟩=some (.slice sa (f.vals.getD k default).args.length sc):=Am hN1 rfl
  have hl3:W.cell? ⟨wr.heap.size,0+3,none⟩=some (.int .i64 (f.vals.getD k default).aux):=Am hN1 rfl
  have hXW:W.heap[X]? =some (.cells #[R,nilS] 30 (0,0)):=(hO1 X (by omega)).trans hXr
  have hQW:=hQ.stay (w':=W) (fun j hj _ _ _=>hO1 j hj) (by omega)
  have hstW:∀j,j<S0→j≠X→W.heap[j]? =W0.heap[j]? :=fun j hj hne=>(hO1 j (by omega)).trans (hst j hj hne)
  have hXf:W.cell? ⟨X,0+0,none⟩=some R:=Am hXW rfl
  have hints:IntsV w (.slice sa (f.vals.getD k default).args.length sc) (f.vals.getD k default).args:=⟨sa,sc,rfl,hints⟩
  have hlen:(((f.vals).take k).map vq).length=k:=by rw[List.length_map,List.length_take];omega
  have hown:∀j,R.ownBlock=some j→S0≤j∧j<wr.heap.size:=by
   obtain ⟨_,_,_,ss,hss,hrow,_⟩:=hQ
   exact As hrow
  have htk:((f.vals).take (k+1)).map vq=((f.vals).take k).map vq ++ [vq (f.vals.getD k default)]:=by
   rw[List.take_succ_eq_append_getElem hlt,List.map_append,List.getD_eq_getElem?_getD,List.getElem?_eq_getElem hlt];rfl
  refine Ac (Ab (Al rfl (Ak rfl)) rfl (Ab (Ai rfl (Ag rfl) ‹_›) rfl ?_))
  refine Ab (Al rfl (Ak rfl)) rfl (Ab (Ai rfl (Ag rfl) ‹_›) rfl ?_)
  refine Ab (Al rfl (Ak rfl)) rfl (Ab (Ai rfl (Ag rfl) ‹_›) rfl ?_)
  refine Ab (Al rfl (Ak rfl)) rfl (Ab (Ai rfl (Ag rfl) ‹_›) rfl ?_)
  refine Ab (Al rfl (Ak rfl)) rfl (Ab (Ai rfl (Ag rfl) ‹_›) rfl ?_)
  refine Ab (bld_sv rfl rfl rfl rfl) rfl (Ab (bsl_sv rfl) rfl ?_)
  obtain ⟨W7,hW7⟩:∃W7,W7=W:=⟨_,rfl⟩
  rw[← hW7] at hXW hQW hstW hbW hXf hl0 hl1 hl2 hl3 hZ1 ⊢
  have hBle:B≤W7.heap.size:=by omega
  refine el_new (.cells #[.int .i64 (f.vals.getD k default).op,.int .i64 (f.vals.getD k default).blk,.slice sa (f.vals.getD k default).args.length sc,.int .i64 (f.vals.getD k default).aux] 39) B (by omega) fun W8 hN8 hO8 hZ8 hB8 hK8=>?_
  have hcell8:∀j u,(q4 (vq (f.vals.getD k default)) (.slice sa (f.vals.getD k default).args.length sc))[j]? =some u→W8.cell? ((⟨W7.heap.size,0,none⟩:Addr).add j)=some u:=fun j u hj=>by
   rw[Addr.add_lit]
   exact Am hN8 (by simpa [q4,vq] using hj)
  have hQ8:=hQW.stay (w':=W8) (fun j hj _ _ _=>hO8 j hj) (by omega)
  have hst8:∀j,j<S0→j≠X→W8.heap[j]? =W0.heap[j]? :=fun j hj hne=>(hO8 j (by omega)).trans (hstW j hj hne)
  have hb8:Below w.heap.size w W8:=hbW.trans ⟨hB8.os,hB8.tape,hB8.output,hB8.size,fun j hj=>hO8 j (by have:=hbW.size;omega)⟩
  have hLs:Loose W8 0 X C R.ownBlock (.slice sa (f.vals.getD k default).args.length sc) (vq (f.vals.getD k default)).l:=by
   refine ⟨hints.keep (By hb8 (Nat.le_refl _)),?_⟩
   obtain ⟨a',c',e1,_,hl⟩:=hints
   rcases hl with hl|⟨b',o',e2,hc⟩
   ·exact .inl hl
   by_cases h0:(f.vals.getD k default).args=[]
   ·exact .inl h0
   refine .inr fun j hj=>?_
   injection e1 with e3
   rw[e3,e2] at hj
   have hj:b'=j:=Option.some.inj hj
   have hpos:0<(f.vals.getD k default).args.length:=List.length_pos_iff.2 h0
   have:=World.block_lt_of_cell? _ _ (hc 0 hpos)
   have:b'<w.heap.size:=this
   exact ⟨by omega,by omega,by omega,by omega,fun e=>by have:=hown j e;omega⟩
  have hown8:∀j,R.ownBlock=some j→j<W8.heap.size:=fun j hj=>by have:=hown j hj;omega
  have hXsz:X<W8.heap.size:=by omega
  obtain ⟨hlo,hXR,hYR,ss,hss,hrow8,hloose⟩:=hQ8
  refine Cz hrow8 hcell8 (by intro u hu;simp [q4] at hu;rcases hu with rfl|rfl|rfl|rfl <;> rfl) rfl (by rw[hlen];omega) (by decide) (by omega) Tryz.underlying27 info39 rfl (by decide) rfl rfl rfl ?_
  intro v9 W9 hrow9 hgr9 hwh9
  have hX9':W9.heap[X]? =some (.cells #[R,nilS] 30 (0,0)):=by
   rw[hgr9.block X hXsz (fun e=>hXR e.symm)];exact (hO8 X (by omega)).trans hXW
  refine Ab (Al rfl (Ak rfl)) rfl (Bc (AU rfl rfl (Bd hrow9) (AH rfl) (Am hX9' rfl) (AQ hX9')) rfl (Af (Ap (Aa ?_))))
  have hQ9:=QRow.push (q:=vq (f.vals.getD k default)) (s:=(.slice sa (f.vals.getD k default).args.length sc)) hlo hXR hYR hss hloose hLs hrow9 hgr9 hwh9 hXsz (by omega) 0
  rw[← htk] at hQ9
  have hX9:(W9.setCell ⟨X,0+0,none⟩ v9).heap[X]? =some (.cells #[v9,nilS] 30 (0,0)):=AC (o:=0+0) (u:=v9) hX9'
  have hst9:∀j,j<S0→j≠X→(W9.setCell ⟨X,0+0,none⟩ v9).heap[j]? =W0.heap[j]? :=fun j hj hne=>by
   rw[Below.heap_setCell _ _ _ _ hne,hgr9.block j (by omega) (fun e=>by have:=hown j e.symm;omega)]
   exact hst8 j hj hne
  have hb9:Below w.heap.size w (W9.setCell ⟨X,0+0,none⟩ v9):=(hb8.grown hgr9 (by omega) (fun j e=>by have:=hown j e;omega)).setCell (by show w.heap.size≤X;omega) v9
  have hsz9:S0≤(W9.setCell ⟨X,0+0,none⟩ v9).heap.size:=by
   rw[Bp];have:=hgr9.size;omega
  refine Ac (Ab (x_inc rfl rfl (by omega)) rfl (Ab Ad rfl (Af ?_)))
  exact Aw (f.vals.length - (k+1)) (by omega) ⟨k+1,v9,by omega,Ar rfl ⟨rfl,rfl,rfl,rfl,rfl,rfl,trivial⟩,hQ9,hX9,hst9,hsz9,hb9,rfl⟩
 rintro e W1 ⟨R1,⟨t,rfl⟩,hQ1,hX1,hst1,hsz1,hbel1⟩
 have hb11:W1.heap[b1]? =some (.cells #[.slice av f.vals.length cv,.slice ab f.blks.length cb] 25 (0,0)):=(hst1 b1 (by omega) (by omega)).trans hb10
 have hC1:W1.heap[C]? =some (.cells #[nilS,nilS] 30 (0,0)):=(hst1 C (by omega) (by omega)).trans hC0
 obtain ⟨S1,hS1⟩:∃S1,S1=W1.heap.size:=⟨_,rfl⟩
 refine AW (fun e wr=>∃R,At e [(1,.pointer (some ⟨b1,0,none⟩)),(2,.pointer (some ⟨C,0,none⟩)),(3,.pointer (some ⟨X,0,none⟩))]∧QRow wr S1 54 0 X C R ((f.blks).map bq)∧wr.heap[X]? =some (.cells #[R1,R] 30 (0,0))∧(∀j,j<S1→j≠X→wr.heap[j]? =W1.heap[j]?)∧S1≤wr.heap.size∧Below w.heap.size w wr) ?_ ?_
 ·have g1:W1.cell? ⟨b1,0+1,none⟩=some (.slice ab f.blks.length cb):=Am hb11 rfl
  refine Ae (Ac (Ab (Al rfl (Ak rfl)) rfl (Ab (Ai rfl (Ag rfl) ‹_›) rfl ?_)))
  refine Ab (AN rfl (An rfl)) rfl (Ab Ad rfl (Af (Aa (Ao ?_))))
  refine EC_loop (fun n e wr=>∃(k:Nat) (R:Value),k≤f.blks.length∧At e [(1,.pointer (some ⟨b1,0,none⟩)),(2,.pointer (some ⟨C,0,none⟩)),(3,.pointer (some ⟨X,0,none⟩)),(32,.slice ab f.blks.length cb),(33,.int .i64 (f.blks.length:Int)),(34,.int .i64 (k:Int))]∧QRow wr S1 54 0 X C R (((f.blks).take k).map bq)∧wr.heap[X]? =some (.cells #[R1,R] 30 (0,0))∧(∀j,j<S1→j≠X→wr.heap[j]? =W1.heap[j]?)∧S1≤wr.heap.size∧Below w.heap.size w wr∧n=f.blks.length - k) f.blks.length
   ⟨0,nilS,Nat.zero_le _,Ar rfl ⟨rfl,rfl,rfl,rfl,rfl,rfl,trivial⟩,by simpa using QRow.nil W1 S1 54 0 X C (by omega),hX1,fun _ _ _=>rfl,Nat.le_of_eq hS1,hbel1,rfl⟩ ?_
  rintro n e wr ⟨k,R,hk,⟨t,rfl⟩,hQ,hXr,hst,hsz,hb,rfl⟩
  refine Ae (Ac (Ab (AX rfl rfl) rfl (Af (Aa (Ae ?_)))))
  refine AI rfl rfl (fun hlt=>?_) (fun hge=>?_)
  rotate_left
  ·have hk:k=f.blks.length:=by omega
   subst hk
   refine AK (AB (AD (AA ?_)))
   rw[List.take_length] at hQ
   exact AR ⟨R,Ar rfl ⟨rfl,rfl,rfl,trivial⟩,hQ,hXr,hst,hsz,hb⟩
  have hlt:k<f.blks.length:=by omega
  obtain ⟨b,o,rfl,hq⟩:=hbl.resolve_left (fun e=>by rw[e] at hlt;simp at hlt)
  obtain ⟨s,hcells0,⟨sa,sc,rfl,hints⟩⟩:=hq k hlt
  have hcells:=hcells0.keep (By hb (Nat.le_refl _))
  refine Aq (Aa (Ae (Ao (Ae (Ac (Ab (A5 (n:=4) rfl rfl (An rfl) hlt) rfl (Ab (A4 rfl (A0 rfl) hcells) rfl (Ab (A9 Ep) rfl (Bc (Bb rfl rfl (A7 rfl) rfl rfl) rfl (Af (Aa ?_)))))))))))
  obtain ⟨B,hBd⟩:∃B,B=S1:=⟨_,rfl⟩
  have hBle:B≤wr.heap.size:=by omega
  refine ec_new (.cells #[.int .i64 (f.blks.getD k default).kind,.int .i64 (f.blks.getD k default).ctrl,.slice sa (f.blks.getD k default).succs.length sc,.int .i64 (f.blks.getD k default).likely] 53) B (by omega) fun W hN1 hO1 hZ1 hB1 hK1=>?_
  have hbW:Below w.heap.size wr W:=⟨hB1.os,hB1.tape,hB1.output,hB1.size,fun j hj=>hO1 j (by have:=hb.size;omega)⟩
  have hbW:=hb.trans hbW
  have hl0:W.cell? ⟨wr.heap.size,0+0,none⟩=some (.int .i64 (f.blks.getD k default).kind):=Am hN1 rfl
  have hl1:W.cell? ⟨wr.heap.size,0+1,none⟩=some (.int .i64 (f.blks.getD k default).ctrl):=Am hN1 rfl
  have hl2:W.cell? ⟨wr.heap.size,0+2,none⟩=some (.slice sa (f.blks.getD k default).succs.length sc):=Am hN1 rfl
  have hl3:W.cell? ⟨wr.heap.size,0+3,none⟩=some (.int .i64 (f.blks.getD k default).likely):=Am hN1 rfl
  have hXW:W.heap[X]? =some (.cells #[R1,R] 30 (0,0)):=(hO1 X (by omega)).trans hXr
  have hQW:=hQ.stay (w':=W) (fun j hj _ _ _=>hO1 j hj) (by omega)
  have hstW:∀j,j<S1→j≠X→W.heap[j]? =W1.heap[j]? :=fun j hj hne=>(hO1 j (by omega)).trans (hst j hj hne)
  have hXf:W.cell? ⟨X,0+1,none⟩=some R:=Am hXW rfl
  have hints:IntsV w (.slice sa (f.blks.getD k default).succs.length sc) (f.blks.getD k default).succs:=⟨sa,sc,rfl,hints⟩
  have hlen:(((f.blks).take k).map bq).length=k:=by rw[List.length_map,List.length_take];omega
  have hown:∀j,R.ownBlock=some j→S1≤j∧j<wr.heap.size:=by
   obtain ⟨_,_,_,ss,hss,hrow,_⟩:=hQ
   exact As hrow
  have htk:((f.blks).take (k+1)).map bq=((f.blks).take k).map bq ++ [bq (f.blks.getD k default)]:=by
   rw[List.take_succ_eq_append_getElem hlt,List.map_append,List.getD_eq_getElem?_getD,List.getElem?_eq_getElem hlt];rfl
  refine Ac (Ab (Al rfl (Ak rfl)) rfl (Ab (Ai rfl (Ag rfl) ‹_›) rfl ?_))
  refine Ab (Al rfl (Ak rfl)) rfl (Ab (Ai rfl (Ag rfl) ‹_›) rfl ?_)
  refine Ab (Al rfl (Ak rfl)) rfl (Ab (Ai rfl (Ag rfl) ‹_›) rfl ?_)
  refine Ab (Al rfl (Ak rfl)) rfl (Ab (Ai rfl (Ag rfl) ‹_›) rfl ?_)
  refine Ab (Al rfl (Ak rfl)) rfl (Ab (Ai rfl (Ag rfl) ‹_›) rfl ?_)
  refine Ab (bld_sb rfl rfl rfl rfl) rfl (Ab (bsl_sb rfl) rfl ?_)
  obtain ⟨W7,hW7⟩:∃W7,W7=W:=⟨_,rfl⟩
  rw[← hW7] at hXW hQW hstW hbW hXf hl0 hl1 hl2 hl3 hZ1 ⊢
  have hBle:B≤W7.heap.size:=by omega
  refine el_new (.cells #[.int .i64 (f.blks.getD k default).kind,.int .i64 (f.blks.getD k default).ctrl,.slice sa (f.blks.getD k default).succs.length sc,.int .i64 (f.blks.getD k default).likely] 54) B (by omega) fun W8 hN8 hO8 hZ8 hB8 hK8=>?_
  have hcell8:∀j u,(q4 (bq (f.blks.getD k default)) (.slice sa (f.blks.getD k default).succs.length sc))[j]? =some u→W8.cell? ((⟨W7.heap.size,0,none⟩:Addr).add j)=some u:=fun j u hj=>by
   rw[Addr.add_lit]
   exact Am hN8 (by simpa [q4,bq] using hj)
  have hQ8:=hQW.stay (w':=W8) (fun j hj _ _ _=>hO8 j hj) (by omega)
  have hst8:∀j,j<S1→j≠X→W8.heap[j]? =W1.heap[j]? :=fun j hj hne=>(hO8 j (by omega)).trans (hstW j hj hne)
  have hb8:Below w.heap.size w W8:=hbW.trans ⟨hB8.os,hB8.tape,hB8.output,hB8.size,fun j hj=>hO8 j (by have:=hbW.size;omega)⟩
  have hLs:Loose W8 0 X C R.ownBlock (.slice sa (f.blks.getD k default).succs.length sc) (bq (f.blks.getD k default)).l:=by
   refine ⟨hints.keep (By hb8 (Nat.le_refl _)),?_⟩
   obtain ⟨a',c',e1,_,hl⟩:=hints
   rcases hl with hl|⟨b',o',e2,hc⟩
   ·exact .inl hl
   by_cases h0:(f.blks.getD k default).succs=[]
   ·exact .inl h0
   refine .inr fun j hj=>?_
   injection e1 with e3
   rw[e3,e2] at hj
   have hj:b'=j:=Option.some.inj hj
   have hpos:0<(f.blks.getD k default).succs.length:=List.length_pos_iff.2 h0
   have:=World.block_lt_of_cell? _ _ (hc 0 hpos)
   have:b'<w.heap.size:=this
   exact ⟨by omega,by omega,by omega,by omega,fun e=>by have:=hown j e;omega⟩
  have hown8:∀j,R.ownBlock=some j→j<W8.heap.size:=fun j hj=>by have:=hown j hj;omega
  have hXsz:X<W8.heap.size:=by omega
  obtain ⟨hlo,hXR,hYR,ss,hss,hrow8,hloose⟩:=hQ8
  refine Cz hrow8 hcell8 (by intro u hu;simp [q4] at hu;rcases hu with rfl|rfl|rfl|rfl <;> rfl) rfl (by rw[hlen];omega) (by decide) (by omega) Tryz.underlying28 info54 rfl (by decide) rfl rfl rfl ?_
  intro v9 W9 hrow9 hgr9 hwh9
  have hX9':W9.heap[X]? =some (.cells #[R1,R] 30 (0,0)):=by
   rw[hgr9.block X hXsz (fun e=>hXR e.symm)];exact (hO8 X (by omega)).trans hXW
  refine Ab (Al rfl (Ak rfl)) rfl (Bc (AU rfl rfl (Bd hrow9) (AH rfl) (Am hX9' rfl) (AQ hX9')) rfl (Af (Ap (Aa ?_))))
  have hQ9:=QRow.push (q:=bq (f.blks.getD k default)) (s:=(.slice sa (f.blks.getD k default).succs.length sc)) hlo hXR hYR hss hloose hLs hrow9 hgr9 hwh9 hXsz (by omega) 1
  rw[← htk] at hQ9
  have hX9:(W9.setCell ⟨X,0+1,none⟩ v9).heap[X]? =some (.cells #[R1,v9] 30 (0,0)):=AC (o:=0+1) (u:=v9) hX9'
  have hst9:∀j,j<S1→j≠X→(W9.setCell ⟨X,0+1,none⟩ v9).heap[j]? =W1.heap[j]? :=fun j hj hne=>by
   rw[Below.heap_setCell _ _ _ _ hne,hgr9.block j (by omega) (fun e=>by have:=hown j e.symm;omega)]
   exact hst8 j hj hne
  have hb9:Below w.heap.size w (W9.setCell ⟨X,0+1,none⟩ v9):=(hb8.grown hgr9 (by omega) (fun j e=>by have:=hown j e;omega)).setCell (by show w.heap.size≤X;omega) v9
  have hsz9:S1≤(W9.setCell ⟨X,0+1,none⟩ v9).heap.size:=by
   rw[Bp];have:=hgr9.size;omega
  refine Ac (Ab (x_inc rfl rfl (by omega)) rfl (Ab Ad rfl (Af ?_)))
  exact Aw (f.blks.length - (k+1)) (by omega) ⟨k+1,v9,by omega,Ar rfl ⟨rfl,rfl,rfl,rfl,rfl,rfl,trivial⟩,hQ9,hX9,hst9,hsz9,hb9,rfl⟩
 rintro e W2 ⟨R2,⟨t,rfl⟩,hQ2,hX2,hst2,hsz2,hbel2⟩
 have hC2:W2.heap[C]? =some (.cells #[nilS,nilS] 30 (0,0)):=(hst2 C (by omega) (by omega)).trans hC1
 refine Ae (Ac (Ab (A4 (cs:=[R1,R2]) rfl (A0 rfl) (A3 hX2)) rfl ?_))
 refine Bc (Cy (cs:=#[R1,R2]) rfl rfl hC2 (A7 rfl) rfl ?_) rfl ?_
 ·obtain ⟨_,_,_,_,_,h1,_⟩:=hQ1
  obtain ⟨_,_,_,_,_,h2,_⟩:=hQ2
  simp [Bd h1,Bd h2]
 refine Af (Aa ?_)
 have hgC:(W2.setRow C #[R1,R2]).heap[C]? =some (.cells #[R1,R2] 30 (0,0)):=setRow_heap _ _ _ _ _ _ hC2
 have hoC:∀j,j≠C→(W2.setRow C #[R1,R2]).heap[j]? =W2.heap[j]? :=fun j hj=>setRow_other _ _ _ _ hj
 have hszC:W2.heap.size≤(W2.setRow C #[R1,R2]).heap.size:=by simp [World.setRow]
 have hV:=(hQ1.stay (w':=W2.setRow C #[R1,R2]) (fun j hj _ hne hnc=>(hoC j hnc).trans (hst2 j (by omega) hne)) (by omega)).vals
 have hBk:=(hQ2.stay (w':=W2.setRow C #[R1,R2]) (fun j hj _ hne hnc=>hoC j hnc) (by omega)).blks
 have hbF:Below w.heap.size w (W2.setRow C #[R1,R2]):=below_setRow' hbel2 (by omega) _
 refine AE ?_
 exact CD rfl rfl rfl rfl (BG (cs:=[R1,R2]) (A0 rfl) (A3 hgC)) ⟨⟨R1,R2,rfl,hV,hBk⟩,by rw[hb1e];exact hbF⟩
theorem impl_conv_ret {w:World} {x:Value} {f:Fn} (hx:FnV w x f) (wf:Wf f):
 Ret Tryz.prog 29 #[x] w fun v w'=>Own w.heap.size w' v f∧Below w.heap.size w w':=by
 have hn:=wf.nv
 have hm:=wf.nb
 obtain ⟨xv,xb,rfl,hvals,hblks⟩:=hx
 refine ret_of_EC Tryz.func29 rfl rfl ?_
 obtain ⟨av,cv,rfl,hvl⟩:=hvals
 obtain ⟨ab,cb,rfl,hbl⟩:=hblks
 obtain ⟨B,hBd⟩:∃B,B=w.heap.size:=⟨_,rfl⟩
 refine Ae (Ac (Ab (Bv (v:=.agg #[.slice av f.vals.length cv,.slice ab f.blks.length cb]) rfl) rfl (el_new (.cells #[.slice av f.vals.length cv,.slice ab f.blks.length cb] 25) B (by omega) fun wa hN1 hO1 hZ1 hB1 hK1=>(Ab (A9 CS) rfl (el_new (.cells #[nilS,nilS] 62) B (by omega) fun wb hN2 hO2 hZ2 hB2 hK2=>(Af (Aa (Ae (Ac (Ab GW rfl (Ab (A9 CS) rfl ?_)))))))))))
 refine Bc (Bb rfl rfl (A7 rfl) rfl rfl) rfl (Af (Aa (ec_new (.cells #[nilS,nilS] 62) B (by omega) fun W0 hN3 hO3 hZ3 hB3 hK3=>?_)))
 have hC0:W0.heap[wa.heap.size]? =some (.cells #[nilS,nilS] 62 (0,0)):=(hO3 _ (by omega)).trans hN2
 have hb10:W0.heap[w.heap.size]? =some (.cells #[.slice av f.vals.length cv,.slice ab f.blks.length cb] 25 (0,0)):=(hO3 _ (by omega)).trans ((hO2 _ (by omega)).trans hN1)
 have hbel0:Below w.heap.size w W0:=by rw[← hBd];exact (hB1.trans hB2).trans hB3
 obtain ⟨b1,hb1e⟩:∃b1,b1=w.heap.size:=⟨_,rfl⟩
 obtain ⟨C,hCe⟩:∃C,C=wa.heap.size:=⟨_,rfl⟩
 obtain ⟨X,hXe⟩:∃X,X=wb.heap.size:=⟨_,rfl⟩
 rw[← hCe] at hC0
 rw[← hb1e] at hb10
 have hX0:W0.heap[X]? =some (.cells #[nilS,nilS] 62 (0,0)):=by rw[hXe];exact hN3
 have hE:∀(k:Nat) (v:Value),True:=fun _ _=>trivial
 rw[← hb1e,← hCe,← hXe]
 obtain ⟨S0,hS0⟩:∃S0,S0=W0.heap.size:=⟨_,rfl⟩
 refine AW (fun e wr=>∃R,At e [(1,.pointer (some ⟨b1,0,none⟩)),(2,.pointer (some ⟨C,0,none⟩)),(3,.pointer (some ⟨X,0,none⟩))]∧QRow wr S0 83 b1 X C R ((f.vals).map vq)∧wr.heap[X]? =some (.cells #[R,nilS] 62 (0,0))∧(∀j,j<S0→j≠X→wr.heap[j]? =W0.heap[j]?)∧S0≤wr.heap.size∧Below w.heap.size w wr) ?_ ?_
 ·have g1:W0.cell? ⟨b1,0+0,none⟩=some (.slice av f.vals.length cv):=Am hb10 rfl
  refine Ae (Ac (Ab (Al rfl (Ak rfl)) rfl (Ab (Ai rfl (Ag rfl) ‹_›) rfl ?_)))
  refine Ab (AN rfl (An rfl)) rfl (Ab Ad rfl (Af (Aa (Ao ?_))))
  refine EC_loop (fun n e wr=>∃(k:Nat) (R:Value),k≤f.vals.length∧At e [(1,.pointer (some ⟨b1,0,none⟩)),(2,.pointer (some ⟨C,0,none⟩)),(3,.pointer (some ⟨X,0,none⟩)),(10,.slice av f.vals.length cv),(11,.int .i64 (f.vals.length:Int)),(12,.int .i64 (k:Int))]∧QRow wr S0 83 b1 X C R (((f.vals).take k).map vq)∧wr.heap[X]? =some (.cells #[R,nilS] 62 (0,0))∧(∀j,j<S0→j≠X→wr.heap[j]? =W0.heap[j]?)∧S0≤wr.heap.size∧Below w.heap.size w wr∧n=f.vals.length - k) f.vals.length
   ⟨0,nilS,Nat.zero_le _,Ar rfl ⟨rfl,rfl,rfl,rfl,rfl,rfl,trivial⟩,by simpa using QRow.nil W0 S0 83 b1 X C (by omega),hX0,fun _ _ _=>rfl,Nat.le_of_eq hS0,hbel0,rfl⟩ ?_
  rintro n e wr ⟨k,R,hk,⟨t,rfl⟩,hQ,hXr,hst,hsz,hb,rfl⟩
  refine Ae (Ac (Ab (AX rfl rfl) rfl (Af (Aa (Ae ?_)))))
  refine AI rfl rfl (fun hlt=>?_) (fun hge=>?_)
  rotate_left
  ·have hk:k=f.vals.length:=by omega
   subst hk
   refine AK (AB (AD (AA ?_)))
   rw[List.take_length] at hQ
   exact AR ⟨R,Ar rfl ⟨rfl,rfl,rfl,trivial⟩,hQ,hXr,hst,hsz,hb⟩
  have hlt:k<f.vals.length:=by omega
  obtain ⟨b,o,rfl,hq⟩:=hvl.resolve_left (fun e=>by rw[e] at hlt;simp at hlt)
  obtain ⟨s,hcells0,⟨sa,sc,rfl,hints⟩⟩:=hq k hlt
  have hcells:=hcells0.keep (By hb (Nat.le_refl _))
  refine Aq (Aa (Ae (Ao (Ae (Ac (Ab (A5 (n:=4) rfl rfl (An rfl) hlt) rfl (Ab (A4 rfl (A0 rfl) hcells) rfl (Ab (A9 DV) rfl (Bc (Bb rfl rfl (A7 rfl) rfl rfl) rfl (Af (Aa ?_)))))))))))
  obtain ⟨B,hBd⟩:∃B,B=S0:=⟨_,rfl⟩
  have hBle:B≤wr.heap.size:=by omega
  refine ec_new (.cells #[.int .i64 (f.vals.getD k default).op,.int .i64 (f.vals.getD k default).blk,.slice sa (f.vals.getD k default).args.length sc,.int .i64 (f.vals.getD k default).aux] 48) B (by omega) fun W hN1 hO1 hZ1 hB1 hK1=>?_
  have hbW:Below w.heap.size wr W:=⟨hB1.os,hB1.tape,hB1.output,hB1.size,fun j hj=>hO1 j (by have:=hb.size;omega)⟩
  have hbW:=hb.trans hbW
  have hl0:W.cell? ⟨wr.heap.size,0+0,none⟩=some (.int .i64 (f.vals.getD k default).op):=Am hN1 rfl
  have hl1:W.cell? ⟨wr.heap.size,0+1,none⟩=some (.int .i64 (f.vals.getD k default).blk):=Am hN1 rfl
  have hl2:W.cell? ⟨wr.heap.size,0+2,none⟩=some (.slice sa (f.vals.getD k default).args.length sc):=Am hN1 rfl
  have hl3:W.cell? ⟨wr.heap.size,0+3,none⟩=some (.int .i64 (f.vals.getD k default).aux):=Am hN1 rfl
  have hXW:W.heap[X]? =some (.cells #[R,nilS] 62 (0,0)):=(hO1 X (by omega)).trans hXr
  have hQW:=hQ.stay (w':=W) (fun j hj _ _ _=>hO1 j hj) (by omega)
  have hstW:∀j,j<S0→j≠X→W.heap[j]? =W0.heap[j]? :=fun j hj hne=>(hO1 j (by omega)).trans (hst j hj hne)
  have hXf:W.cell? ⟨X,0+0,none⟩=some R:=Am hXW rfl
  have hints:IntsV w (.slice sa (f.vals.getD k default).args.length sc) (f.vals.getD k default).args:=⟨sa,sc,rfl,hints⟩
  have hlen:(((f.vals).take k).map vq).length=k:=by rw[List.length_map,List.length_take];omega
  have hown:∀j,R.ownBlock=some j→S0≤j∧j<wr.heap.size:=by
   obtain ⟨_,_,_,ss,hss,hrow,_⟩:=hQ
   exact As hrow
  have htk:((f.vals).take (k+1)).map vq=((f.vals).take k).map vq ++ [vq (f.vals.getD k default)]:=by
   rw[List.take_succ_eq_append_getElem hlt,List.map_append,List.getD_eq_getElem?_getD,List.getElem?_eq_getElem hlt];rfl
  obtain ⟨V,hV⟩:∃V,V=wr.heap.size:=⟨_,rfl⟩
  rw[← hV] at hl0 hl1 hl2 hl3 ⊢
  have hc:Cells [(⟨X,0+0,none⟩,R),(⟨V,0+0,none⟩,.int .i64 (f.vals.getD k default).op),(⟨V,0+1,none⟩,.int .i64 (f.vals.getD k default).blk),(⟨V,0+2,none⟩,.slice sa (f.vals.getD k default).args.length sc),(⟨V,0+3,none⟩,.int .i64 (f.vals.getD k default).aux)] W.drew:=(Keep.drew W).cells (.cons hXf (.cons hl0 (.cons hl1 (.cons hl2 (.cons hl3 (.nil _))))))
  refine AY mixed _ [(0,false),(1,false),(2,false),(3,false),(4,false),(5,false),(7,false),(8,false),(10,false),(11,false),(6,true),(9,true),(12,false),(13,true),(14,true),(15,false),(16,true)] (by kernel_rfl) hc ?_
  have hXW:W.drew.heap[X]? =some (.cells #[R,nilS] 62 (0,0)):=hXW
  have hQW:=hQW.stay (w':=W.drew) (fun _ _ _ _ _=>rfl) (Nat.le_refl _)
  have hstW:∀j,j<S0→j≠X→W.drew.heap[j]? =W0.heap[j]? :=hstW
  have hbW:=hbW.drew
  have hZ1:W.drew.heap.size=wr.heap.size+1:=hZ1
  generalize W.drew=W4 at hc hXW hQW hstW hbW hZ1 ⊢
  have hBle:B≤W4.heap.size:=by omega
  refine Aj rfl (fun _ _=>Al rfl (Ak rfl)) (Aj rfl (fun _ hS=>Ai rfl (Ag rfl) (hS.get (by first|exact mm0|exact mm1|exact mm2|exact mm3|exact mm4|exact mm5|exact mm6|exact mm7))) ?_)
  refine Aj rfl (fun _ _=>Al rfl (Ak rfl)) (Aj rfl (fun _ hS=>Ai rfl (Ag rfl) (hS.get (by first|exact mm0|exact mm1|exact mm2|exact mm3|exact mm4|exact mm5|exact mm6|exact mm7))) ?_)
  refine Aj rfl (fun _ _=>Al rfl (Ak rfl)) (Aj rfl (fun _ hS=>Ai rfl (Ag rfl) (hS.get (by first|exact mm0|exact mm1|exact mm2|exact mm3|exact mm4|exact mm5|exact mm6|exact mm7))) ?_)
  refine Aj rfl (fun _ _=>Al rfl (Ak rfl)) (Aj rfl (fun _ hS=>Ai rfl (Ag rfl) (hS.get (by first|exact mm0|exact mm1|exact mm2|exact mm3|exact mm4|exact mm5|exact mm6|exact mm7))) ?_)
  refine Aj rfl (fun _ _=>Al rfl (Ak rfl)) (Aj rfl (fun _ hS=>Ai rfl (Ag rfl) (hS.get (by first|exact mm0|exact mm1|exact mm2|exact mm3|exact mm4|exact mm5|exact mm6|exact mm7))) ?_)
  refine BK rfl C6 (.inr (hc.alloc _)) (dl_new (.cells #[] 3) B (by omega) fun W5 hN4 hO4 hZ4 hB4 hK4=>?_)
  have hc5:Cells [(⟨X,0+0,none⟩,R),(⟨V,0+0,none⟩,.int .i64 (f.vals.getD k default).op),(⟨V,0+1,none⟩,.int .i64 (f.vals.getD k default).blk),(⟨V,0+2,none⟩,.slice sa (f.vals.getD k default).args.length sc),(⟨V,0+3,none⟩,.int .i64 (f.vals.getD k default).aux)] W5:=hK4.cells hc
  have hr5:W5.ownsRow W4.heap.size 3 1 (.slice (some ⟨W4.heap.size,0,none⟩) 0 0) 0 []:=⟨rfl,.inr ⟨W4.heap.size,0,#[],rfl,Nat.le_refl _,hN4,Nat.le_refl _,by decide,rfl,rfl⟩⟩
  have hb5:Below w.heap.size w W5:=hbW.trans ⟨hB4.os,hB4.tape,hB4.output,hB4.size,fun j hj=>hO4 j (by have:=hbW.size;omega)⟩
  obtain ⟨_,_,e1,hi5⟩:=hints.keep (By hb5 (Nat.le_refl _))
  injection e1 with e1 e2 e3
  subst e1
  subst e3
  obtain ⟨hal,ham⟩:=wf.args k hlt
  refine Cv hi5 hr5 (by have:(f.vals.getD k default).args.length≤64:=Nat.le_trans hal (by decide);omega) (by decide) (by omega) rfl Tryz.underlying35 Cb rfl rfl ?_
  intro v6 W6 hrow6 hgr6 hwh6
  have hlow6:∀j,j<W4.heap.size→W6.heap[j]? =W4.heap[j]? :=fun j hj=>(hgr6.block j (by omega) (fun e=>by have h9:j=W4.heap.size:=Option.some.inj e;omega)).trans (hO4 j hj)
  have hc6:Cells [(⟨X,0+0,none⟩,R),(⟨V,0+0,none⟩,.int .i64 (f.vals.getD k default).op),(⟨V,0+1,none⟩,.int .i64 (f.vals.getD k default).blk),(⟨V,0+2,none⟩,.slice sa (f.vals.getD k default).args.length sc),(⟨V,0+3,none⟩,.int .i64 (f.vals.getD k default).aux)] W6:=hc5.grown hgr6 (by
   have hV4:=World.block_lt_of_cell? _ _ (hc.get (.tail _ (.head _)))
   have hX4:=World.block_lt_of_cell? _ _ (hc.get (.head _))
   intro x hx
   simp only [List.mem_cons,List.not_mem_nil,or_false] at hx
   rcases hx with rfl|rfl|rfl|rfl|rfl <;> exact fun e=>by
    have:=Option.some.inj e
    simp only at this hV4 hX4
    omega)
  have hrow6:W6.ownsRow W4.heap.size 3 1 v6 (f.vals.getD k default).args.length ((f.vals.getD k default).args.map (.int .i64)):=by simpa using hrow6
  have hints6:=BY hrow6
  have hown6:=As hrow6
  obtain ⟨pa,pc,rfl⟩:=Bx hrow6
  refine ⟨.inr hc6,?_⟩
  refine Aj rfl (fun _ _=>bld_av rfl rfl rfl rfl) (BK rfl (Gb rfl) (.inr (hc6.alloc _)) ?_)
  have hsz6:=hgr6.size
  have hXW6:W6.heap[X]? =some (.cells #[R,nilS] 62 (0,0)):=(hlow6 X (by omega)).trans hXW
  have hQ6:=hQW.stay (w':=W6) (fun j hj _ _ _=>hlow6 j hj) (by omega)
  have hst6:∀j,j<S0→j≠X→W6.heap[j]? =W0.heap[j]? :=fun j hj hne=>(hlow6 j (by omega)).trans (hstW j hj hne)
  have hb6:Below w.heap.size w W6:=hb5.grown hgr6 (by have:=hbW.size;omega) (fun j e=>by have h9:W4.heap.size=j:=Option.some.inj e;have:=hbW.size;omega)
  obtain ⟨W7,hW7⟩:∃W7,W7=W6:=⟨_,rfl⟩
  rw[← hW7] at hXW6 hQ6 hst6 hb6 hc6 hsz6 hints6 hown6 ⊢
  have hBle:B≤W7.heap.size:=by omega
  refine dl_new (.cells #[.int .i64 (f.vals.getD k default).op,.int .i64 (f.vals.getD k default).blk,.slice pa (f.vals.getD k default).args.length pc,.int .i64 (f.vals.getD k default).aux] 83) B (by omega) fun W8 hN8 hO8 hZ8 hB8 hK8=>?_
  have hcell8:∀j u,(q4 (vq (f.vals.getD k default)) (.slice pa (f.vals.getD k default).args.length pc))[j]? =some u→W8.cell? ((⟨W7.heap.size,0,none⟩:Addr).add j)=some u:=fun j u hj=>by
   rw[Addr.add_lit]
   exact Am hN8 (by simpa [q4,vq] using hj)
  have hc8:Cells [(⟨X,0+0,none⟩,R),(⟨V,0+0,none⟩,.int .i64 (f.vals.getD k default).op),(⟨V,0+1,none⟩,.int .i64 (f.vals.getD k default).blk),(⟨V,0+2,none⟩,.slice sa (f.vals.getD k default).args.length sc),(⟨V,0+3,none⟩,.int .i64 (f.vals.getD k default).aux)] W8:=hK8.cells hc6
  have hQ8:=hQ6.stay (w':=W8) (fun j hj _ _ _=>hO8 j hj) (by omega)
  have hst8:∀j,j<S0→j≠X→W8.heap[j]? =W0.heap[j]? :=fun j hj hne=>(hO8 j (by omega)).trans (hst6 j hj hne)
  have hb8:Below w.heap.size w W8:=hb6.trans ⟨hB8.os,hB8.tape,hB8.output,hB8.size,fun j hj=>hO8 j (by have:=hb6.size;omega)⟩
  have hLs:Loose W8 b1 X C R.ownBlock (.slice pa (f.vals.getD k default).args.length pc) (vq (f.vals.getD k default)).l:=
   ⟨hints6.keep hK8,.inr fun j hj=>by
     have h9:=hown6 j hj
     exact ⟨by omega,by omega,by omega,by omega,fun e=>by have:=hown j e;omega⟩⟩
  have hown8:∀j,R.ownBlock=some j→j<W8.heap.size:=fun j hj=>by have:=hown j hj;omega
  have hXsz:X<W8.heap.size:=by omega
  obtain ⟨hlo,hXR,hYR,ss,hss,hrow8,hloose⟩:=hQ8
  refine CV hrow8 hcell8 (by intro u hu;simp [q4] at hu;rcases hu with rfl|rfl|rfl|rfl <;> rfl) rfl (by rw[hlen];omega) (by decide) (by omega) rfl Tryz.underlying59 FY rfl (by decide) rfl rfl ?_
  intro v9 W9 hrow9 hgr9 hwh9
  have hX9':W9.heap[X]? =some (.cells #[R,nilS] 62 (0,0)):=by
   rw[hgr9.block X hXsz (fun e=>hXR e.symm)];exact (hO8 X (by omega)).trans hXW6
  have hc9:Cells [(⟨X,0+0,none⟩,R),(⟨V,0+0,none⟩,.int .i64 (f.vals.getD k default).op),(⟨V,0+1,none⟩,.int .i64 (f.vals.getD k default).blk),(⟨V,0+2,none⟩,.slice sa (f.vals.getD k default).args.length sc),(⟨V,0+3,none⟩,.int .i64 (f.vals.getD k default).aux)] W9:=hc8.grown hgr9 (by
   intro x hx
   simp only [List.mem_cons,List.not_mem_nil,or_false] at hx
   rcases hx with rfl|rfl|rfl|rfl|rfl <;> first
    |exact fun e=>hXR e.symm
    |exact fun e=>by
      have:=hown V e.symm
      omega)
  refine ⟨.inr hc9,?_⟩
  refine Aj rfl (fun _ _=>Al rfl (Ak rfl)) (BP rfl (AU rfl rfl (Bd hrow9) (AH rfl) (Am hX9' rfl) (AQ hX9')) (.inl rfl) (AP (Ap (Aa ?_))))
  have hQ9:=QRow.push (q:=vq (f.vals.getD k default)) (s:=(.slice pa (f.vals.getD k default).args.length pc)) hlo hXR hYR hss hloose hLs hrow9 hgr9 hwh9 hXsz (by omega) 0
  rw[← htk] at hQ9
  have hX9:(W9.setCell ⟨X,0+0,none⟩ v9).heap[X]? =some (.cells #[v9,nilS] 62 (0,0)):=AC (o:=0+0) (u:=v9) hX9'
  have hst9:∀j,j<S0→j≠X→(W9.setCell ⟨X,0+0,none⟩ v9).heap[j]? =W0.heap[j]? :=fun j hj hne=>by
   rw[Below.heap_setCell _ _ _ _ hne,hgr9.block j (by omega) (fun e=>by have:=hown j e.symm;omega)]
   exact hst8 j hj hne
  have hb9:Below w.heap.size w (W9.setCell ⟨X,0+0,none⟩ v9):=(hb8.grown hgr9 (by omega) (fun j e=>by have:=hown j e;omega)).setCell (by show w.heap.size≤X;omega) v9
  have hsz9:S0≤(W9.setCell ⟨X,0+0,none⟩ v9).heap.size:=by
   rw[Bp];have:=hgr9.size;omega
  refine Ac (Ab (x_inc rfl rfl (by omega)) rfl (Ab Ad rfl (Af ?_)))
  exact Aw (f.vals.length - (k+1)) (by omega) ⟨k+1,v9,by omega,Ar rfl ⟨rfl,rfl,rfl,rfl,rfl,rfl,trivial⟩,hQ9,hX9,hst9,hsz9,hb9,rfl⟩
 rintro e W1 ⟨R1,⟨t,rfl⟩,hQ1,hX1,hst1,hsz1,hbel1⟩
 have hb11:W1.heap[b1]? =some (.cells #[.slice av f.vals.length cv,.slice ab f.blks.length cb] 25 (0,0)):=(hst1 b1 (by omega) (by omega)).trans hb10
 have hC1:W1.heap[C]? =some (.cells #[nilS,nilS] 62 (0,0)):=(hst1 C (by omega) (by omega)).trans hC0
 obtain ⟨S1,hS1⟩:∃S1,S1=W1.heap.size:=⟨_,rfl⟩
 refine AW (fun e wr=>∃R,At e [(1,.pointer (some ⟨b1,0,none⟩)),(2,.pointer (some ⟨C,0,none⟩)),(3,.pointer (some ⟨X,0,none⟩))]∧QRow wr S1 84 b1 X C R ((f.blks).map bq)∧wr.heap[X]? =some (.cells #[R1,R] 62 (0,0))∧(∀j,j<S1→j≠X→wr.heap[j]? =W1.heap[j]?)∧S1≤wr.heap.size∧Below w.heap.size w wr) ?_ ?_
 ·have g1:W1.cell? ⟨b1,0+1,none⟩=some (.slice ab f.blks.length cb):=Am hb11 rfl
  refine Ae (Ac (Ab (Al rfl (Ak rfl)) rfl (Ab (Ai rfl (Ag rfl) ‹_›) rfl ?_)))
  refine Ab (AN rfl (An rfl)) rfl (Ab Ad rfl (Af (Aa (Ao ?_))))
  refine EC_loop (fun n e wr=>∃(k:Nat) (R:Value),k≤f.blks.length∧At e [(1,.pointer (some ⟨b1,0,none⟩)),(2,.pointer (some ⟨C,0,none⟩)),(3,.pointer (some ⟨X,0,none⟩)),(34,.slice ab f.blks.length cb),(35,.int .i64 (f.blks.length:Int)),(36,.int .i64 (k:Int))]∧QRow wr S1 84 b1 X C R (((f.blks).take k).map bq)∧wr.heap[X]? =some (.cells #[R1,R] 62 (0,0))∧(∀j,j<S1→j≠X→wr.heap[j]? =W1.heap[j]?)∧S1≤wr.heap.size∧Below w.heap.size w wr∧n=f.blks.length - k) f.blks.length
   ⟨0,nilS,Nat.zero_le _,Ar rfl ⟨rfl,rfl,rfl,rfl,rfl,rfl,trivial⟩,by simpa using QRow.nil W1 S1 84 b1 X C (by omega),hX1,fun _ _ _=>rfl,Nat.le_of_eq hS1,hbel1,rfl⟩ ?_
  rintro n e wr ⟨k,R,hk,⟨t,rfl⟩,hQ,hXr,hst,hsz,hb,rfl⟩
  refine Ae (Ac (Ab (AX rfl rfl) rfl (Af (Aa (Ae ?_)))))
  refine AI rfl rfl (fun hlt=>?_) (fun hge=>?_)
  rotate_left
  ·have hk:k=f.blks.length:=by omega
   subst hk
   refine AK (AB (AD (AA ?_)))
   rw[List.take_length] at hQ
   exact AR ⟨R,Ar rfl ⟨rfl,rfl,rfl,trivial⟩,hQ,hXr,hst,hsz,hb⟩
  have hlt:k<f.blks.length:=by omega
  obtain ⟨b,o,rfl,hq⟩:=hbl.resolve_left (fun e=>by rw[e] at hlt;simp at hlt)
  obtain ⟨s,hcells0,⟨sa,sc,rfl,hints⟩⟩:=hq k hlt
  have hcells:=hcells0.keep (By hb (Nat.le_refl _))
  refine Aq (Aa (Ae (Ao (Ae (Ac (Ab (A5 (n:=4) rfl rfl (An rfl) hlt) rfl (Ab (A4 rfl (A0 rfl) hcells) rfl (Ab (A9 Ep) rfl (Bc (Bb rfl rfl (A7 rfl) rfl rfl) rfl (Af (Aa ?_)))))))))))
  obtain ⟨B,hBd⟩:∃B,B=S1:=⟨_,rfl⟩
  have hBle:B≤wr.heap.size:=by omega
  refine ec_new (.cells #[.int .i64 (f.blks.getD k default).kind,.int .i64 (f.blks.getD k default).ctrl,.slice sa (f.blks.getD k default).succs.length sc,.int .i64 (f.blks.getD k default).likely] 53) B (by omega) fun W hN1 hO1 hZ1 hB1 hK1=>?_
  have hbW:Below w.heap.size wr W:=⟨hB1.os,hB1.tape,hB1.output,hB1.size,fun j hj=>hO1 j (by have:=hb.size;omega)⟩
  have hbW:=hb.trans hbW
  have hl0:W.cell? ⟨wr.heap.size,0+0,none⟩=some (.int .i64 (f.blks.getD k default).kind):=Am hN1 rfl
  have hl1:W.cell? ⟨wr.heap.size,0+1,none⟩=some (.int .i64 (f.blks.getD k default).ctrl):=Am hN1 rfl
  have hl2:W.cell? ⟨wr.heap.size,0+2,none⟩=some (.slice sa (f.blks.getD k default).succs.length sc):=Am hN1 rfl
  have hl3:W.cell? ⟨wr.heap.size,0+3,none⟩=some (.int .i64 (f.blks.getD k default).likely):=Am hN1 rfl
  have hXW:W.heap[X]? =some (.cells #[R1,R] 62 (0,0)):=(hO1 X (by omega)).trans hXr
  have hQW:=hQ.stay (w':=W) (fun j hj _ _ _=>hO1 j hj) (by omega)
  have hstW:∀j,j<S1→j≠X→W.heap[j]? =W1.heap[j]? :=fun j hj hne=>(hO1 j (by omega)).trans (hst j hj hne)
  have hXf:W.cell? ⟨X,0+1,none⟩=some R:=Am hXW rfl
  have hints:IntsV w (.slice sa (f.blks.getD k default).succs.length sc) (f.blks.getD k default).succs:=⟨sa,sc,rfl,hints⟩
  have hlen:(((f.blks).take k).map bq).length=k:=by rw[List.length_map,List.length_take];omega
  have hown:∀j,R.ownBlock=some j→S1≤j∧j<wr.heap.size:=by
   obtain ⟨_,_,_,ss,hss,hrow,_⟩:=hQ
   exact As hrow
  have htk:((f.blks).take (k+1)).map bq=((f.blks).take k).map bq ++ [bq (f.blks.getD k default)]:=by
   rw[List.take_succ_eq_append_getElem hlt,List.map_append,List.getD_eq_getElem?_getD,List.getElem?_eq_getElem hlt];rfl
  obtain ⟨V,hV⟩:∃V,V=wr.heap.size:=⟨_,rfl⟩
  rw[← hV] at hl0 hl1 hl2 hl3 ⊢
  have hc:Cells [(⟨X,0+1,none⟩,R),(⟨V,0+0,none⟩,.int .i64 (f.blks.getD k default).kind),(⟨V,0+1,none⟩,.int .i64 (f.blks.getD k default).ctrl),(⟨V,0+2,none⟩,.slice sa (f.blks.getD k default).succs.length sc),(⟨V,0+3,none⟩,.int .i64 (f.blks.getD k default).likely)] W.drew:=(Keep.drew W).cells (.cons hXf (.cons hl0 (.cons hl1 (.cons hl2 (.cons hl3 (.nil _))))))
  refine AY mixed _ [(0,false),(1,false),(2,false),(3,false),(4,false),(5,false),(7,false),(8,false),(10,false),(11,false),(6,true),(9,true),(12,false),(13,true),(14,true),(15,false),(16,true)] (by kernel_rfl) hc ?_
  have hXW:W.drew.heap[X]? =some (.cells #[R1,R] 62 (0,0)):=hXW
  have hQW:=hQW.stay (w':=W.drew) (fun _ _ _ _ _=>rfl) (Nat.le_refl _)
  have hstW:∀j,j<S1→j≠X→W.drew.heap[j]? =W1.heap[j]? :=hstW
  have hbW:=hbW.drew
  have hZ1:W.drew.heap.size=wr.heap.size+1:=hZ1
  generalize W.drew=W4 at hc hXW hQW hstW hbW hZ1 ⊢
  have hBle:B≤W4.heap.size:=by omega
  refine Aj rfl (fun _ _=>Al rfl (Ak rfl)) (Aj rfl (fun _ hS=>Ai rfl (Ag rfl) (hS.get (by first|exact mm0|exact mm1|exact mm2|exact mm3|exact mm4|exact mm5|exact mm6|exact mm7))) ?_)
  refine Aj rfl (fun _ _=>Al rfl (Ak rfl)) (Aj rfl (fun _ hS=>Ai rfl (Ag rfl) (hS.get (by first|exact mm0|exact mm1|exact mm2|exact mm3|exact mm4|exact mm5|exact mm6|exact mm7))) ?_)
  refine Aj rfl (fun _ _=>Al rfl (Ak rfl)) (Aj rfl (fun _ hS=>Ai rfl (Ag rfl) (hS.get (by first|exact mm0|exact mm1|exact mm2|exact mm3|exact mm4|exact mm5|exact mm6|exact mm7))) ?_)
  refine Aj rfl (fun _ _=>Al rfl (Ak rfl)) (Aj rfl (fun _ hS=>Ai rfl (Ag rfl) (hS.get (by first|exact mm0|exact mm1|exact mm2|exact mm3|exact mm4|exact mm5|exact mm6|exact mm7))) ?_)
  refine Aj rfl (fun _ _=>Al rfl (Ak rfl)) (Aj rfl (fun _ hS=>Ai rfl (Ag rfl) (hS.get (by first|exact mm0|exact mm1|exact mm2|exact mm3|exact mm4|exact mm5|exact mm6|exact mm7))) ?_)
  refine BK rfl C6 (.inr (hc.alloc _)) (dl_new (.cells #[] 3) B (by omega) fun W5 hN4 hO4 hZ4 hB4 hK4=>?_)
  have hc5:Cells [(⟨X,0+1,none⟩,R),(⟨V,0+0,none⟩,.int .i64 (f.blks.getD k default).kind),(⟨V,0+1,none⟩,.int .i64 (f.blks.getD k default).ctrl),(⟨V,0+2,none⟩,.slice sa (f.blks.getD k default).succs.length sc),(⟨V,0+3,none⟩,.int .i64 (f.blks.getD k default).likely)] W5:=hK4.cells hc
  have hr5:W5.ownsRow W4.heap.size 3 1 (.slice (some ⟨W4.heap.size,0,none⟩) 0 0) 0 []:=⟨rfl,.inr ⟨W4.heap.size,0,#[],rfl,Nat.le_refl _,hN4,Nat.le_refl _,by decide,rfl,rfl⟩⟩
  have hb5:Below w.heap.size w W5:=hbW.trans ⟨hB4.os,hB4.tape,hB4.output,hB4.size,fun j hj=>hO4 j (by have:=hbW.size;omega)⟩
  obtain ⟨_,_,e1,hi5⟩:=hints.keep (By hb5 (Nat.le_refl _))
  injection e1 with e1 e2 e3
  subst e1
  subst e3
  obtain ⟨hal,ham⟩:=wf.succs k hlt
  refine Cv hi5 hr5 (by have:(f.blks.getD k default).succs.length≤64:=Nat.le_trans hal (by decide);omega) (by decide) (by omega) rfl Tryz.underlying35 Cb rfl rfl ?_
  intro v6 W6 hrow6 hgr6 hwh6
  have hlow6:∀j,j<W4.heap.size→W6.heap[j]? =W4.heap[j]? :=fun j hj=>(hgr6.block j (by omega) (fun e=>by have h9:j=W4.heap.size:=Option.some.inj e;omega)).trans (hO4 j hj)
  have hc6:Cells [(⟨X,0+1,none⟩,R),(⟨V,0+0,none⟩,.int .i64 (f.blks.getD k default).kind),(⟨V,0+1,none⟩,.int .i64 (f.blks.getD k default).ctrl),(⟨V,0+2,none⟩,.slice sa (f.blks.getD k default).succs.length sc),(⟨V,0+3,none⟩,.int .i64 (f.blks.getD k default).likely)] W6:=hc5.grown hgr6 (by
   have hV4:=World.block_lt_of_cell? _ _ (hc.get (.tail _ (.head _)))
   have hX4:=World.block_lt_of_cell? _ _ (hc.get (.head _))
   intro x hx
   simp only [List.mem_cons,List.not_mem_nil,or_false] at hx
   rcases hx with rfl|rfl|rfl|rfl|rfl <;> exact fun e=>by
    have:=Option.some.inj e
    simp only at this hV4 hX4
    omega)
  have hrow6:W6.ownsRow W4.heap.size 3 1 v6 (f.blks.getD k default).succs.length ((f.blks.getD k default).succs.map (.int .i64)):=by simpa using hrow6
  have hints6:=BY hrow6
  have hown6:=As hrow6
  obtain ⟨pa,pc,rfl⟩:=Bx hrow6
  refine ⟨.inr hc6,?_⟩
  refine Aj rfl (fun _ _=>bld_ab rfl rfl rfl rfl) (BK rfl (FN rfl) (.inr (hc6.alloc _)) ?_)
  have hsz6:=hgr6.size
  have hXW6:W6.heap[X]? =some (.cells #[R1,R] 62 (0,0)):=(hlow6 X (by omega)).trans hXW
  have hQ6:=hQW.stay (w':=W6) (fun j hj _ _ _=>hlow6 j hj) (by omega)
  have hst6:∀j,j<S1→j≠X→W6.heap[j]? =W1.heap[j]? :=fun j hj hne=>(hlow6 j (by omega)).trans (hstW j hj hne)
  have hb6:Below w.heap.size w W6:=hb5.grown hgr6 (by have:=hbW.size;omega) (fun j e=>by have h9:W4.heap.size=j:=Option.some.inj e;have:=hbW.size;omega)
  obtain ⟨W7,hW7⟩:∃W7,W7=W6:=⟨_,rfl⟩
  rw[← hW7] at hXW6 hQ6 hst6 hb6 hc6 hsz6 hints6 hown6 ⊢
  have hBle:B≤W7.heap.size:=by omega
  refine dl_new (.cells #[.int .i64 (f.blks.getD k default).kind,.int .i64 (f.blks.getD k default).ctrl,.slice pa (f.blks.getD k default).succs.length pc,.int .i64 (f.blks.getD k default).likely] 84) B (by omega) fun W8 hN8 hO8 hZ8 hB8 hK8=>?_
  have hcell8:∀j u,(q4 (bq (f.blks.getD k default)) (.slice pa (f.blks.getD k default).succs.length pc))[j]? =some u→W8.cell? ((⟨W7.heap.size,0,none⟩:Addr).add j)=some u:=fun j u hj=>by
   rw[Addr.add_lit]
   exact Am hN8 (by simpa [q4,bq] using hj)
  have hc8:Cells [(⟨X,0+1,none⟩,R),(⟨V,0+0,none⟩,.int .i64 (f.blks.getD k default).kind),(⟨V,0+1,none⟩,.int .i64 (f.blks.getD k default).ctrl),(⟨V,0+2,none⟩,.slice sa (f.blks.getD k default).succs.length sc),(⟨V,0+3,none⟩,.int .i64 (f.blks.getD k default).likely)] W8:=hK8.cells hc6
  have hQ8:=hQ6.stay (w':=W8) (fun j hj _ _ _=>hO8 j hj) (by omega)
  have hst8:∀j,j<S1→j≠X→W8.heap[j]? =W1.heap[j]? :=fun j hj hne=>(hO8 j (by omega)).trans (hst6 j hj hne)
  have hb8:Below w.heap.size w W8:=hb6.trans ⟨hB8.os,hB8.tape,hB8.output,hB8.size,fun j hj=>hO8 j (by have:=hb6.size;omega)⟩
  have hLs:Loose W8 b1 X C R.ownBlock (.slice pa (f.blks.getD k default).succs.length pc) (bq (f.blks.getD k default)).l:=
   ⟨hints6.keep hK8,.inr fun j hj=>by
     have h9:=hown6 j hj
     exact ⟨by omega,by omega,by omega,by omega,fun e=>by have:=hown j e;omega⟩⟩
  have hown8:∀j,R.ownBlock=some j→j<W8.heap.size:=fun j hj=>by have:=hown j hj;omega
  have hXsz:X<W8.heap.size:=by omega
  obtain ⟨hlo,hXR,hYR,ss,hss,hrow8,hloose⟩:=hQ8
  refine CV hrow8 hcell8 (by intro u hu;simp [q4] at hu;rcases hu with rfl|rfl|rfl|rfl <;> rfl) rfl (by rw[hlen];omega) (by decide) (by omega) rfl Tryz.underlying60 F8 rfl (by decide) rfl rfl ?_
  intro v9 W9 hrow9 hgr9 hwh9
  have hX9':W9.heap[X]? =some (.cells #[R1,R] 62 (0,0)):=by
   rw[hgr9.block X hXsz (fun e=>hXR e.symm)];exact (hO8 X (by omega)).trans hXW6
  have hc9:Cells [(⟨X,0+1,none⟩,R),(⟨V,0+0,none⟩,.int .i64 (f.blks.getD k default).kind),(⟨V,0+1,none⟩,.int .i64 (f.blks.getD k default).ctrl),(⟨V,0+2,none⟩,.slice sa (f.blks.getD k default).succs.length sc),(⟨V,0+3,none⟩,.int .i64 (f.blks.getD k default).likely)] W9:=hc8.grown hgr9 (by
   intro x hx
   simp only [List.mem_cons,List.not_mem_nil,or_false] at hx
   rcases hx with rfl|rfl|rfl|rfl|rfl <;> first
    |exact fun e=>hXR e.symm
    |exact fun e=>by
      have:=hown V e.symm
      omega)
  refine ⟨.inr hc9,?_⟩
  refine Aj rfl (fun _ _=>Al rfl (Ak rfl)) (BP rfl (AU rfl rfl (Bd hrow9) (AH rfl) (Am hX9' rfl) (AQ hX9')) (.inl rfl) (AP (Ap (Aa ?_))))
  have hQ9:=QRow.push (q:=bq (f.blks.getD k default)) (s:=(.slice pa (f.blks.getD k default).succs.length pc)) hlo hXR hYR hss hloose hLs hrow9 hgr9 hwh9 hXsz (by omega) 1
  rw[← htk] at hQ9
  have hX9:(W9.setCell ⟨X,0+1,none⟩ v9).heap[X]? =some (.cells #[R1,v9] 62 (0,0)):=AC (o:=0+1) (u:=v9) hX9'
  have hst9:∀j,j<S1→j≠X→(W9.setCell ⟨X,0+1,none⟩ v9).heap[j]? =W1.heap[j]? :=fun j hj hne=>by
   rw[Below.heap_setCell _ _ _ _ hne,hgr9.block j (by omega) (fun e=>by have:=hown j e.symm;omega)]
   exact hst8 j hj hne
  have hb9:Below w.heap.size w (W9.setCell ⟨X,0+1,none⟩ v9):=(hb8.grown hgr9 (by omega) (fun j e=>by have:=hown j e;omega)).setCell (by show w.heap.size≤X;omega) v9
  have hsz9:S1≤(W9.setCell ⟨X,0+1,none⟩ v9).heap.size:=by
   rw[Bp];have:=hgr9.size;omega
  refine Ac (Ab (x_inc rfl rfl (by omega)) rfl (Ab Ad rfl (Af ?_)))
  exact Aw (f.blks.length - (k+1)) (by omega) ⟨k+1,v9,by omega,Ar rfl ⟨rfl,rfl,rfl,rfl,rfl,rfl,trivial⟩,hQ9,hX9,hst9,hsz9,hb9,rfl⟩
 rintro e W2 ⟨R2,⟨t,rfl⟩,hQ2,hX2,hst2,hsz2,hbel2⟩
 have hC2:W2.heap[C]? =some (.cells #[nilS,nilS] 62 (0,0)):=(hst2 C (by omega) (by omega)).trans hC1
 refine Ae (Ac (Ab (A4 (cs:=[R1,R2]) rfl (A0 rfl) (A3 hX2)) rfl ?_))
 refine Bc (Cy (cs:=#[R1,R2]) rfl rfl hC2 (A7 rfl) rfl ?_) rfl ?_
 ·obtain ⟨_,_,_,_,_,h1,_⟩:=hQ1
  obtain ⟨_,_,_,_,_,h2,_⟩:=hQ2
  simp [Bd h1,Bd h2]
 refine Af (Aa ?_)
 have hgC:(W2.setRow C #[R1,R2]).heap[C]? =some (.cells #[R1,R2] 62 (0,0)):=setRow_heap _ _ _ _ _ _ hC2
 have hoC:∀j,j≠C→(W2.setRow C #[R1,R2]).heap[j]? =W2.heap[j]? :=fun j hj=>setRow_other _ _ _ _ hj
 have hszC:W2.heap.size≤(W2.setRow C #[R1,R2]).heap.size:=by simp [World.setRow]
 have hOwn:Own b1 (W2.setRow C #[R1,R2]) (.agg #[R1,R2]) f:=fun w'' hw hs=>
  ⟨R1,R2,rfl,(hQ1.stay (w':=w'') (fun j hj hlo hne hnc=>(hw j hlo (by omega)).trans ((hoC j hnc).trans (hst2 j (by omega) hne))) (by omega)).vals,
    (hQ2.stay (w':=w'') (fun j hj hlo hne hnc=>(hw j hlo (by omega)).trans (hoC j hnc)) (by omega)).blks⟩
 have hbF:Below w.heap.size w (W2.setRow C #[R1,R2]):=below_setRow' hbel2 (by omega) _
 refine AE ?_
 exact CD rfl rfl rfl rfl (BG (cs:=[R1,R2]) (A0 rfl) (A3 hgC)) ⟨by rw[hb1e] at hOwn ⊢;exact hOwn,by rw[hb1e];exact hbF⟩
theorem EP {w:World} {x:Value} {f:Fn} (hx:FnV w x f) (wf:Wf f):
 Ret Tryz.prog 32 #[x] w fun v w'=>Own w.heap.size w' v f∧Below w.heap.size w w':=by
 have hn:=wf.nv
 have hm:=wf.nb
 obtain ⟨xv,xb,rfl,hvals,hblks⟩:=hx
 refine ret_of_EC Tryz.func32 rfl rfl ?_
 obtain ⟨av,cv,rfl,hvl⟩:=hvals
 obtain ⟨ab,cb,rfl,hbl⟩:=hblks
 obtain ⟨B,hBd⟩:∃B,B=w.heap.size:=⟨_,rfl⟩
 refine Ae (Ac (Ab (Bv (v:=.agg #[.slice av f.vals.length cv,.slice ab f.blks.length cb]) rfl) rfl (el_new (.cells #[.slice av f.vals.length cv,.slice ab f.blks.length cb] 62) B (by omega) fun wa hN1 hO1 hZ1 hB1 hK1=>(Ab (A9 C9) rfl (el_new (.cells #[nilS,nilS] 25) B (by omega) fun wb hN2 hO2 hZ2 hB2 hK2=>(Af (Aa (Ae (Ac (Ab GQ rfl (Ab (A9 C9) rfl ?_)))))))))))
 refine Bc (Bb rfl rfl (A7 rfl) rfl rfl) rfl (Af (Aa (ec_new (.cells #[nilS,nilS] 25) B (by omega) fun W0 hN3 hO3 hZ3 hB3 hK3=>?_)))
 have hC0:W0.heap[wa.heap.size]? =some (.cells #[nilS,nilS] 25 (0,0)):=(hO3 _ (by omega)).trans hN2
 have hb10:W0.heap[w.heap.size]? =some (.cells #[.slice av f.vals.length cv,.slice ab f.blks.length cb] 62 (0,0)):=(hO3 _ (by omega)).trans ((hO2 _ (by omega)).trans hN1)
 have hbel0:Below w.heap.size w W0:=by rw[← hBd];exact (hB1.trans hB2).trans hB3
 obtain ⟨b1,hb1e⟩:∃b1,b1=w.heap.size:=⟨_,rfl⟩
 obtain ⟨C,hCe⟩:∃C,C=wa.heap.size:=⟨_,rfl⟩
 obtain ⟨X,hXe⟩:∃X,X=wb.heap.size:=⟨_,rfl⟩
 rw[← hCe] at hC0
 rw[← hb1e] at hb10
 have hX0:W0.heap[X]? =some (.cells #[nilS,nilS] 25 (0,0)):=by rw[hXe];exact hN3
 have hE:∀(k:Nat) (v:Value),True:=fun _ _=>trivial
 rw[← hb1e,← hCe,← hXe]
 obtain ⟨S0,hS0⟩:∃S0,S0=W0.heap.size:=⟨_,rfl⟩
 refine AW (fun e wr=>∃R,At e [(1,.pointer (some ⟨b1,0,none⟩)),(2,.pointer (some ⟨C,0,none⟩)),(3,.pointer (some ⟨X,0,none⟩))]∧QRow wr S0 48 b1 X C R ((f.vals).map vq)∧wr.heap[X]? =some (.cells #[R,nilS] 25 (0,0))∧(∀j,j<S0→j≠X→wr.heap[j]? =W0.heap[j]?)∧S0≤wr.heap.size∧Below w.heap.size w wr) ?_ ?_
 ·have g1:W0.cell? ⟨b1,0+0,none⟩=some (.slice av f.vals.length cv):=Am hb10 rfl
  refine Ae (Ac (Ab (Al rfl (Ak rfl)) rfl (Ab (Ai rfl (Ag rfl) ‹_›) rfl ?_)))
  refine Ab (AN rfl (An rfl)) rfl (Ab Ad rfl (Af (Aa (Ao ?_))))
  refine EC_loop (fun n e wr=>∃(k:Nat) (R:Value),k≤f.vals.length∧At e [(1,.pointer (some ⟨b1,0,none⟩)),(2,.pointer (some ⟨C,0,none⟩)),(3,.pointer (some ⟨X,0,none⟩)),(10,.slice av f.vals.length cv),(11,.int .i64 (f.vals.length:Int)),(12,.int .i64 (k:Int))]∧QRow wr S0 48 b1 X C R (((f.vals).take k).map vq)∧wr.heap[X]? =some (.cells #[R,nilS] 25 (0,0))∧(∀j,j<S0→j≠X→wr.heap[j]? =W0.heap[j]?)∧S0≤wr.heap.size∧Below w.heap.size w wr∧n=f.vals.length - k) f.vals.length
   ⟨0,nilS,Nat.zero_le _,Ar rfl ⟨rfl,rfl,rfl,rfl,rfl,rfl,trivial⟩,by simpa using QRow.nil W0 S0 48 b1 X C (by omega),hX0,fun _ _ _=>rfl,Nat.le_of_eq hS0,hbel0,rfl⟩ ?_
  rintro n e wr ⟨k,R,hk,⟨t,rfl⟩,hQ,hXr,hst,hsz,hb,rfl⟩
  refine Ae (Ac (Ab (AX rfl rfl) rfl (Af (Aa (Ae ?_)))))
  refine AI rfl rfl (fun hlt=>?_) (fun hge=>?_)
  rotate_left
  ·have hk:k=f.vals.length:=by omega
   subst hk
   refine AK (AB (AD (AA ?_)))
   rw[List.take_length] at hQ
   exact AR ⟨R,Ar rfl ⟨rfl,rfl,rfl,trivial⟩,hQ,hXr,hst,hsz,hb⟩
  have hlt:k<f.vals.length:=by omega
  obtain ⟨b,o,rfl,hq⟩:=hvl.resolve_left (fun e=>by rw[e] at hlt;simp at hlt)
  obtain ⟨s,hcells0,⟨sa,sc,rfl,hints⟩⟩:=hq k hlt
  have hcells:=hcells0.keep (By hb (Nat.le_refl _))
  refine Aq (Aa (Ae (Ao (Ae (Ac (Ab (A5 (n:=4) rfl rfl (An rfl) hlt) rfl (Ab (A4 rfl (A0 rfl) hcells) rfl (Ab (A9 D0) rfl (Bc (Bb rfl rfl (A7 rfl) rfl rfl) rfl (Af (Aa ?_)))))))))))
  obtain ⟨B,hBd⟩:∃B,B=S0:=⟨_,rfl⟩
  have hBle:B≤wr.heap.size:=by omega
  refine ec_new (.cells #[.int .i64 (f.vals.getD k default).op,.int .i64 (f.vals.getD k default).blk,.slice sa (f.vals.getD k default).args.length sc,.int .i64 (f.vals.getD k default).aux] 83) B (by omega) fun W hN1 hO1 hZ1 hB1 hK1=>?_
  have hbW:Below w.heap.size wr W:=⟨hB1.os,hB1.tape,hB1.output,hB1.size,fun j hj=>hO1 j (by have:=hb.size;omega)⟩
  have hbW:=hb.trans hbW
  have hl0:W.cell? ⟨wr.heap.size,0+0,none⟩=some (.int .i64 (f.vals.getD k default).op):=Am hN1 rfl
  have hl1:W.cell? ⟨wr.heap.size,0+1,none⟩=some (.int .i64 (f.vals.getD k default).blk):=Am hN1 rfl
  have hl2:W.cell? ⟨wr.heap.size,0+2,none⟩=some (.slice sa (f.vals.getD k default).args.length sc):=Am hN1 rfl
  have hl3:W.cell? ⟨wr.heap.size,0+3,none⟩=some (.int .i64 (f.vals.getD k default).aux):=Am hN1 rfl
  have hXW:W.heap[X]? =some (.cells #[R,nilS] 25 (0,0)):=(hO1 X (by omega)).trans hXr
  have hQW:=hQ.stay (w':=W) (fun j hj _ _ _=>hO1 j hj) (by omega)
  have hstW:∀j,j<S0→j≠X→W.heap[j]? =W0.heap[j]? :=fun j hj hne=>(hO1 j (by omega)).trans (hst j hj hne)
  have hXf:W.cell? ⟨X,0+0,none⟩=some R:=Am hXW rfl
  have hints:IntsV w (.slice sa (f.vals.getD k default).args.length sc) (f.vals.getD k default).args:=⟨sa,sc,rfl,hints⟩
  have hlen:(((f.vals).take k).map vq).length=k:=by rw[List.length_map,List.length_take];omega
  have hown:∀j,R.ownBlock=some j→S0≤j∧j<wr.heap.size:=by
   obtain ⟨_,_,_,ss,hss,hrow,_⟩:=hQ
   exact As hrow
  have htk:((f.vals).take (k+1)).map vq=((f.vals).take k).map vq ++ [vq (f.vals.getD k default)]:=by
   rw[List.take_succ_eq_append_getElem hlt,List.map_append,List.getD_eq_getElem?_getD,List.getElem?_eq_getElem hlt];rfl
  obtain ⟨V,hV⟩:∃V,V=wr.heap.size:=⟨_,rfl⟩
  rw[← hV] at hl0 hl1 hl2 hl3 ⊢
  have hc:Cells [(⟨X,0+0,none⟩,R),(⟨V,0+0,none⟩,.int .i64 (f.vals.getD k default).op),(⟨V,0+1,none⟩,.int .i64 (f.vals.getD k default).blk),(⟨V,0+2,none⟩,.slice sa (f.vals.getD k default).args.length sc),(⟨V,0+3,none⟩,.int .i64 (f.vals.getD k default).aux)] W.drew:=(Keep.drew W).cells (.cons hXf (.cons hl0 (.cons hl1 (.cons hl2 (.cons hl3 (.nil _))))))
  refine AY mixed _ [(0,false),(1,false),(2,false),(3,false),(4,false),(5,false),(7,false),(8,false),(10,false),(11,false),(6,true),(9,true),(12,false),(13,true),(14,true),(15,false),(16,true)] (by kernel_rfl) hc ?_
  have hXW:W.drew.heap[X]? =some (.cells #[R,nilS] 25 (0,0)):=hXW
  have hQW:=hQW.stay (w':=W.drew) (fun _ _ _ _ _=>rfl) (Nat.le_refl _)
  have hstW:∀j,j<S0→j≠X→W.drew.heap[j]? =W0.heap[j]? :=hstW
  have hbW:=hbW.drew
  have hZ1:W.drew.heap.size=wr.heap.size+1:=hZ1
  generalize W.drew=W4 at hc hXW hQW hstW hbW hZ1 ⊢
  have hBle:B≤W4.heap.size:=by omega
  refine Aj rfl (fun _ _=>Al rfl (Ak rfl)) (Aj rfl (fun _ hS=>Ai rfl (Ag rfl) (hS.get (by first|exact mm0|exact mm1|exact mm2|exact mm3|exact mm4|exact mm5|exact mm6|exact mm7))) ?_)
  refine Aj rfl (fun _ _=>Al rfl (Ak rfl)) (Aj rfl (fun _ hS=>Ai rfl (Ag rfl) (hS.get (by first|exact mm0|exact mm1|exact mm2|exact mm3|exact mm4|exact mm5|exact mm6|exact mm7))) ?_)
  refine Aj rfl (fun _ _=>Al rfl (Ak rfl)) (Aj rfl (fun _ hS=>Ai rfl (Ag rfl) (hS.get (by first|exact mm0|exact mm1|exact mm2|exact mm3|exact mm4|exact mm5|exact mm6|exact mm7))) ?_)
  refine Aj rfl (fun _ _=>Al rfl (Ak rfl)) (Aj rfl (fun _ hS=>Ai rfl (Ag rfl) (hS.get (by first|exact mm0|exact mm1|exact mm2|exact mm3|exact mm4|exact mm5|exact mm6|exact mm7))) ?_)
  refine Aj rfl (fun _ _=>Al rfl (Ak rfl)) (Aj rfl (fun _ hS=>Ai rfl (Ag rfl) (hS.get (by first|exact mm0|exact mm1|exact mm2|exact mm3|exact mm4|exact mm5|exact mm6|exact mm7))) ?_)
  refine BK rfl C6 (.inr (hc.alloc _)) (dl_new (.cells #[] 3) B (by omega) fun W5 hN4 hO4 hZ4 hB4 hK4=>?_)
  have hc5:Cells [(⟨X,0+0,none⟩,R),(⟨V,0+0,none⟩,.int .i64 (f.vals.getD k default).op),(⟨V,0+1,none⟩,.int .i64 (f.vals.getD k default).blk),(⟨V,0+2,none⟩,.slice sa (f.vals.getD k default).args.length sc),(⟨V,0+3,none⟩,.int .i64 (f.vals.getD k default).aux)] W5:=hK4.cells hc
  have hr5:W5.ownsRow W4.heap.size 3 1 (.slice (some ⟨W4.heap.size,0,none⟩) 0 0) 0 []:=⟨rfl,.inr ⟨W4.heap.size,0,#[],rfl,Nat.le_refl _,hN4,Nat.le_refl _,by decide,rfl,rfl⟩⟩
  have hb5:Below w.heap.size w W5:=hbW.trans ⟨hB4.os,hB4.tape,hB4.output,hB4.size,fun j hj=>hO4 j (by have:=hbW.size;omega)⟩
  obtain ⟨_,_,e1,hi5⟩:=hints.keep (By hb5 (Nat.le_refl _))
  injection e1 with e1 e2 e3
  subst e1
  subst e3
  obtain ⟨hal,ham⟩:=wf.args k hlt
  refine Cv hi5 hr5 (by have:(f.vals.getD k default).args.length≤64:=Nat.le_trans hal (by decide);omega) (by decide) (by omega) rfl Tryz.underlying35 Cb rfl rfl ?_
  intro v6 W6 hrow6 hgr6 hwh6
  have hlow6:∀j,j<W4.heap.size→W6.heap[j]? =W4.heap[j]? :=fun j hj=>(hgr6.block j (by omega) (fun e=>by have h9:j=W4.heap.size:=Option.some.inj e;omega)).trans (hO4 j hj)
  have hc6:Cells [(⟨X,0+0,none⟩,R),(⟨V,0+0,none⟩,.int .i64 (f.vals.getD k default).op),(⟨V,0+1,none⟩,.int .i64 (f.vals.getD k default).blk),(⟨V,0+2,none⟩,.slice sa (f.vals.getD k default).args.length sc),(⟨V,0+3,none⟩,.int .i64 (f.vals.getD k default).aux)] W6:=hc5.grown hgr6 (by
   have hV4:=World.block_lt_of_cell? _ _ (hc.get (.tail _ (.head _)))
   have hX4:=World.block_lt_of_cell? _ _ (hc.get (.head _))
   intro x hx
   simp only [List.mem_cons,List.not_mem_nil,or_false] at hx
   rcases hx with rfl|rfl|rfl|rfl|rfl <;> exact fun e=>by
    have:=Option.some.inj e
    simp only at this hV4 hX4
    omega)
  have hrow6:W6.ownsRow W4.heap.size 3 1 v6 (f.vals.getD k default).args.length ((f.vals.getD k default).args.map (.int .i64)):=by simpa using hrow6
  have hints6:=BY hrow6
  have hown6:=As hrow6
  obtain ⟨pa,pc,rfl⟩:=Bx hrow6
  refine ⟨.inr hc6,?_⟩
  refine Aj rfl (fun _ _=>bld_iv rfl rfl rfl rfl) (BK rfl (bsl_iv rfl) (.inr (hc6.alloc _)) ?_)
  have hsz6:=hgr6.size
  have hXW6:W6.heap[X]? =some (.cells #[R,nilS] 25 (0,0)):=(hlow6 X (by omega)).trans hXW
  have hQ6:=hQW.stay (w':=W6) (fun j hj _ _ _=>hlow6 j hj) (by omega)
  have hst6:∀j,j<S0→j≠X→W6.heap[j]? =W0.heap[j]? :=fun j hj hne=>(hlow6 j (by omega)).trans (hstW j hj hne)
  have hb6:Below w.heap.size w W6:=hb5.grown hgr6 (by have:=hbW.size;omega) (fun j e=>by have h9:W4.heap.size=j:=Option.some.inj e;have:=hbW.size;omega)
  obtain ⟨W7,hW7⟩:∃W7,W7=W6:=⟨_,rfl⟩
  rw[← hW7] at hXW6 hQ6 hst6 hb6 hc6 hsz6 hints6 hown6 ⊢
  have hBle:B≤W7.heap.size:=by omega
  refine dl_new (.cells #[.int .i64 (f.vals.getD k default).op,.int .i64 (f.vals.getD k default).blk,.slice pa (f.vals.getD k default).args.length pc,.int .i64 (f.vals.getD k default).aux] 48) B (by omega) fun W8 hN8 hO8 hZ8 hB8 hK8=>?_
  have hcell8:∀j u,(q4 (vq (f.vals.getD k default)) (.slice pa (f.vals.getD k default).args.length pc))[j]? =some u→W8.cell? ((⟨W7.heap.size,0,none⟩:Addr).add j)=some u:=fun j u hj=>by
   rw[Addr.add_lit]
   exact Am hN8 (by simpa [q4,vq] using hj)
  have hc8:Cells [(⟨X,0+0,none⟩,R),(⟨V,0+0,none⟩,.int .i64 (f.vals.getD k default).op),(⟨V,0+1,none⟩,.int .i64 (f.vals.getD k default).blk),(⟨V,0+2,none⟩,.slice sa (f.vals.getD k default).args.length sc),(⟨V,0+3,none⟩,.int .i64 (f.vals.getD k default).aux)] W8:=hK8.cells hc6
  have hQ8:=hQ6.stay (w':=W8) (fun j hj _ _ _=>hO8 j hj) (by omega)
  have hst8:∀j,j<S0→j≠X→W8.heap[j]? =W0.heap[j]? :=fun j hj hne=>(hO8 j (by omega)).trans (hst6 j hj hne)
  have hb8:Below w.heap.size w W8:=hb6.trans ⟨hB8.os,hB8.tape,hB8.output,hB8.size,fun j hj=>hO8 j (by have:=hb6.size;omega)⟩
  have hLs:Loose W8 b1 X C R.ownBlock (.slice pa (f.vals.getD k default).args.length pc) (vq (f.vals.getD k default)).l:=
   ⟨hints6.keep hK8,.inr fun j hj=>by
     have h9:=hown6 j hj
     exact ⟨by omega,by omega,by omega,by omega,fun e=>by have:=hown j e;omega⟩⟩
  have hown8:∀j,R.ownBlock=some j→j<W8.heap.size:=fun j hj=>by have:=hown j hj;omega
  have hXsz:X<W8.heap.size:=by omega
  obtain ⟨hlo,hXR,hYR,ss,hss,hrow8,hloose⟩:=hQ8
  refine CV hrow8 hcell8 (by intro u hu;simp [q4] at hu;rcases hu with rfl|rfl|rfl|rfl <;> rfl) rfl (by rw[hlen];omega) (by decide) (by omega) rfl Tryz.underlying22 info48 rfl (by decide) rfl rfl ?_
  intro v9 W9 hrow9 hgr9 hwh9
  have hX9':W9.heap[X]? =some (.cells #[R,nilS] 25 (0,0)):=by
   rw[hgr9.block X hXsz (fun e=>hXR e.symm)];exact (hO8 X (by omega)).trans hXW6
  have hc9:Cells [(⟨X,0+0,none⟩,R),(⟨V,0+0,none⟩,.int .i64 (f.vals.getD k default).op),(⟨V,0+1,none⟩,.int .i64 (f.vals.getD k default).blk),(⟨V,0+2,none⟩,.slice sa (f.vals.getD k default).args.length sc),(⟨V,0+3,none⟩,.int .i64 (f.vals.getD k default).aux)] W9:=hc8.grown hgr9 (by
   intro x hx
   simp only [List.mem_cons,List.not_mem_nil,or_false] at hx
   rcases hx with rfl|rfl|rfl|rfl|rfl <;> first
    |exact fun e=>hXR e.symm
    |exact fun e=>by
      have:=hown V e.symm
      omega)
  refine ⟨.inr hc9,?_⟩
  refine Aj rfl (fun _ _=>Al rfl (Ak rfl)) (BP rfl (AU rfl rfl (Bd hrow9) (AH rfl) (Am hX9' rfl) (AQ hX9')) (.inl rfl) (AP (Ap (Aa ?_))))
  have hQ9:=QRow.push (q:=vq (f.vals.getD k default)) (s:=(.slice pa (f.vals.getD k default).args.length pc)) hlo hXR hYR hss hloose hLs hrow9 hgr9 hwh9 hXsz (by omega) 0
  rw[← htk] at hQ9
  have hX9:(W9.setCell ⟨X,0+0,none⟩ v9).heap[X]? =some (.cells #[v9,nilS] 25 (0,0)):=AC (o:=0+0) (u:=v9) hX9'
  have hst9:∀j,j<S0→j≠X→(W9.setCell ⟨X,0+0,none⟩ v9).heap[j]? =W0.heap[j]? :=fun j hj hne=>by
   rw[Below.heap_setCell _ _ _ _ hne,hgr9.block j (by omega) (fun e=>by have:=hown j e.symm;omega)]
   exact hst8 j hj hne
  have hb9:Below w.heap.size w (W9.setCell ⟨X,0+0,none⟩ v9):=(hb8.grown hgr9 (by omega) (fun j e=>by have:=hown j e;omega)).setCell (by show w.heap.size≤X;omega) v9
  have hsz9:S0≤(W9.setCell ⟨X,0+0,none⟩ v9).heap.size:=by
   rw[Bp];have:=hgr9.size;omega
  refine Ac (Ab (x_inc rfl rfl (by omega)) rfl (Ab Ad rfl (Af ?_)))
  exact Aw (f.vals.length - (k+1)) (by omega) ⟨k+1,v9,by omega,Ar rfl ⟨rfl,rfl,rfl,rfl,rfl,rfl,trivial⟩,hQ9,hX9,hst9,hsz9,hb9,rfl⟩
 rintro e W1 ⟨R1,⟨t,rfl⟩,hQ1,hX1,hst1,hsz1,hbel1⟩
 have hb11:W1.heap[b1]? =some (.cells #[.slice av f.vals.length cv,.slice ab f.blks.length cb] 62 (0,0)):=(hst1 b1 (by omega) (by omega)).trans hb10
 have hC1:W1.heap[C]? =some (.cells #[nilS,nilS] 25 (0,0)):=(hst1 C (by omega) (by omega)).trans hC0
 obtain ⟨S1,hS1⟩:∃S1,S1=W1.heap.size:=⟨_,rfl⟩
 refine AW (fun e wr=>∃R,At e [(1,.pointer (some ⟨b1,0,none⟩)),(2,.pointer (some ⟨C,0,none⟩)),(3,.pointer (some ⟨X,0,none⟩))]∧QRow wr S1 53 b1 X C R ((f.blks).map bq)∧wr.heap[X]? =some (.cells #[R1,R] 25 (0,0))∧(∀j,j<S1→j≠X→wr.heap[j]? =W1.heap[j]?)∧S1≤wr.heap.size∧Below w.heap.size w wr) ?_ ?_
 ·have g1:W1.cell? ⟨b1,0+1,none⟩=some (.slice ab f.blks.length cb):=Am hb11 rfl
  refine Ae (Ac (Ab (Al rfl (Ak rfl)) rfl (Ab (Ai rfl (Ag rfl) ‹_›) rfl ?_)))
  refine Ab (AN rfl (An rfl)) rfl (Ab Ad rfl (Af (Aa (Ao ?_))))
  refine EC_loop (fun n e wr=>∃(k:Nat) (R:Value),k≤f.blks.length∧At e [(1,.pointer (some ⟨b1,0,none⟩)),(2,.pointer (some ⟨C,0,none⟩)),(3,.pointer (some ⟨X,0,none⟩)),(34,.slice ab f.blks.length cb),(35,.int .i64 (f.blks.length:Int)),(36,.int .i64 (k:Int))]∧QRow wr S1 53 b1 X C R (((f.blks).take k).map bq)∧wr.heap[X]? =some (.cells #[R1,R] 25 (0,0))∧(∀j,j<S1→j≠X→wr.heap[j]? =W1.heap[j]?)∧S1≤wr.heap.size∧Below w.heap.size w wr∧n=f.blks.length - k) f.blks.length
   ⟨0,nilS,Nat.zero_le _,Ar rfl ⟨rfl,rfl,rfl,rfl,rfl,rfl,trivial⟩,by simpa using QRow.nil W1 S1 53 b1 X C (by omega),hX1,fun _ _ _=>rfl,Nat.le_of_eq hS1,hbel1,rfl⟩ ?_
  rintro n e wr ⟨k,R,hk,⟨t,rfl⟩,hQ,hXr,hst,hsz,hb,rfl⟩
  refine Ae (Ac (Ab (AX rfl rfl) rfl (Af (Aa (Ae ?_)))))
  refine AI rfl rfl (fun hlt=>?_) (fun hge=>?_)
  rotate_left
  ·have hk:k=f.blks.length:=by omega
   subst hk
   refine AK (AB (AD (AA ?_)))
   rw[List.take_length] at hQ
   exact AR ⟨R,Ar rfl ⟨rfl,rfl,rfl,trivial⟩,hQ,hXr,hst,hsz,hb⟩
  have hlt:k<f.blks.length:=by omega
  obtain ⟨b,o,rfl,hq⟩:=hbl.resolve_left (fun e=>by rw[e] at hlt;simp at hlt)
  obtain ⟨s,hcells0,⟨sa,sc,rfl,hints⟩⟩:=hq k hlt
  have hcells:=hcells0.keep (By hb (Nat.le_refl _))
  refine Aq (Aa (Ae (Ao (Ae (Ac (Ab (A5 (n:=4) rfl rfl (An rfl) hlt) rfl (Ab (A4 rfl (A0 rfl) hcells) rfl (Ab (A9 DP) rfl (Bc (Bb rfl rfl (A7 rfl) rfl rfl) rfl (Af (Aa ?_)))))))))))
  obtain ⟨B,hBd⟩:∃B,B=S1:=⟨_,rfl⟩
  have hBle:B≤wr.heap.size:=by omega
  refine ec_new (.cells #[.int .i64 (f.blks.getD k default).kind,.int .i64 (f.blks.getD k default).ctrl,.slice sa (f.blks.getD k default).succs.length sc,.int .i64 (f.blks.getD k default).likely] 84) B (by omega) fun W hN1 hO1 hZ1 hB1 hK1=>?_
  have hbW:Below w.heap.size wr W:=⟨hB1.os,hB1.tape,hB1.output,hB1.size,fun j hj=>hO1 j (by have:=hb.size;omega)⟩
  have hbW:=hb.trans hbW
  have hl0:W.cell? ⟨wr.heap.size,0+0,none⟩=some (.int .i64 (f.blks.getD k default).kind):=Am hN1 rfl
  have hl1:W.cell? ⟨wr.heap.size,0+1,none⟩=some (.int .i64 (f.blks.getD k default).ctrl):=Am hN1 rfl
  have hl2:W.cell? ⟨wr.heap.size,0+2,none⟩=some (.slice sa (f.blks.getD k default).succs.length sc):=Am hN1 rfl
  have hl3:W.cell? ⟨wr.heap.size,0+3,none⟩=some (.int .i64 (f.blks.getD k default).likely):=Am hN1 rfl
  have hXW:W.heap[X]? =some (.cells #[R1,R] 25 (0,0)):=(hO1 X (by omega)).trans hXr
  have hQW:=hQ.stay (w':=W) (fun j hj _ _ _=>hO1 j hj) (by omega)
  have hstW:∀j,j<S1→j≠X→W.heap[j]? =W1.heap[j]? :=fun j hj hne=>(hO1 j (by omega)).trans (hst j hj hne)
  have hXf:W.cell? ⟨X,0+1,none⟩=some R:=Am hXW rfl
  have hints:IntsV w (.slice sa (f.blks.getD k default).succs.length sc) (f.blks.getD k default).succs:=⟨sa,sc,rfl,hints⟩
  have hlen:(((f.blks).take k).map bq).length=k:=by rw[List.length_map,List.length_take];omega
  have hown:∀j,R.ownBlock=some j→S1≤j∧j<wr.heap.size:=by
   obtain ⟨_,_,_,ss,hss,hrow,_⟩:=hQ
   exact As hrow
  have htk:((f.blks).take (k+1)).map bq=((f.blks).take k).map bq ++ [bq (f.blks.getD k default)]:=by
   rw[List.take_succ_eq_append_getElem hlt,List.map_append,List.getD_eq_getElem?_getD,List.getElem?_eq_getElem hlt];rfl
  obtain ⟨V,hV⟩:∃V,V=wr.heap.size:=⟨_,rfl⟩
  rw[← hV] at hl0 hl1 hl2 hl3 ⊢
  have hc:Cells [(⟨X,0+1,none⟩,R),(⟨V,0+0,none⟩,.int .i64 (f.blks.getD k default).kind),(⟨V,0+1,none⟩,.int .i64 (f.blks.getD k default).ctrl),(⟨V,0+2,none⟩,.slice sa (f.blks.getD k default).succs.length sc),(⟨V,0+3,none⟩,.int .i64 (f.blks.getD k default).likely)] W.drew:=(Keep.drew W).cells (.cons hXf (.cons hl0 (.cons hl1 (.cons hl2 (.cons hl3 (.nil _))))))
  refine AY mixed _ [(0,false),(1,false),(2,false),(3,false),(4,false),(5,false),(7,false),(8,false),(10,false),(11,false),(6,true),(9,true),(12,false),(13,true),(14,true),(15,false),(16,true)] (by kernel_rfl) hc ?_
  have hXW:W.drew.heap[X]? =some (.cells #[R1,R] 25 (0,0)):=hXW
  have hQW:=hQW.stay (w':=W.drew) (fun _ _ _ _ _=>rfl) (Nat.le_refl _)
  have hstW:∀j,j<S1→j≠X→W.drew.heap[j]? =W1.heap[j]? :=hstW
  have hbW:=hbW.drew
  have hZ1:W.drew.heap.size=wr.heap.size+1:=hZ1
  generalize W.drew=W4 at hc hXW hQW hstW hbW hZ1 ⊢
  have hBle:B≤W4.heap.size:=by omega
  refine Aj rfl (fun _ _=>Al rfl (Ak rfl)) (Aj rfl (fun _ hS=>Ai rfl (Ag rfl) (hS.get (by first|exact mm0|exact mm1|exact mm2|exact mm3|exact mm4|exact mm5|exact mm6|exact mm7))) ?_)
  refine Aj rfl (fun _ _=>Al rfl (Ak rfl)) (Aj rfl (fun _ hS=>Ai rfl (Ag rfl) (hS.get (by first|exact mm0|exact mm1|exact mm2|exact mm3|exact mm4|exact mm5|exact mm6|exact mm7))) ?_)
  refine Aj rfl (fun _ _=>Al rfl (Ak rfl)) (Aj rfl (fun _ hS=>Ai rfl (Ag rfl) (hS.get (by first|exact mm0|exact mm1|exact mm2|exact mm3|exact mm4|exact mm5|exact mm6|exact mm7))) ?_)
  refine Aj rfl (fun _ _=>Al rfl (Ak rfl)) (Aj rfl (fun _ hS=>Ai rfl (Ag rfl) (hS.get (by first|exact mm0|exact mm1|exact mm2|exact mm3|exact mm4|exact mm5|exact mm6|exact mm7))) ?_)
  refine Aj rfl (fun _ _=>Al rfl (Ak rfl)) (Aj rfl (fun _ hS=>Ai rfl (Ag rfl) (hS.get (by first|exact mm0|exact mm1|exact mm2|exact mm3|exact mm4|exact mm5|exact mm6|exact mm7))) ?_)
  refine BK rfl C6 (.inr (hc.alloc _)) (dl_new (.cells #[] 3) B (by omega) fun W5 hN4 hO4 hZ4 hB4 hK4=>?_)
  have hc5:Cells [(⟨X,0+1,none⟩,R),(⟨V,0+0,none⟩,.int .i64 (f.blks.getD k default).kind),(⟨V,0+1,none⟩,.int .i64 (f.blks.getD k default).ctrl),(⟨V,0+2,none⟩,.slice sa (f.blks.getD k default).succs.length sc),(⟨V,0+3,none⟩,.int .i64 (f.blks.getD k default).likely)] W5:=hK4.cells hc
  have hr5:W5.ownsRow W4.heap.size 3 1 (.slice (some ⟨W4.heap.size,0,none⟩) 0 0) 0 []:=⟨rfl,.inr ⟨W4.heap.size,0,#[],rfl,Nat.le_refl _,hN4,Nat.le_refl _,by decide,rfl,rfl⟩⟩
  have hb5:Below w.heap.size w W5:=hbW.trans ⟨hB4.os,hB4.tape,hB4.output,hB4.size,fun j hj=>hO4 j (by have:=hbW.size;omega)⟩
  obtain ⟨_,_,e1,hi5⟩:=hints.keep (By hb5 (Nat.le_refl _))
  injection e1 with e1 e2 e3
  subst e1
  subst e3
  obtain ⟨hal,ham⟩:=wf.succs k hlt
  refine Cv hi5 hr5 (by have:(f.blks.getD k default).succs.length≤64:=Nat.le_trans hal (by decide);omega) (by decide) (by omega) rfl Tryz.underlying35 Cb rfl rfl ?_
  intro v6 W6 hrow6 hgr6 hwh6
  have hlow6:∀j,j<W4.heap.size→W6.heap[j]? =W4.heap[j]? :=fun j hj=>(hgr6.block j (by omega) (fun e=>by have h9:j=W4.heap.size:=Option.some.inj e;omega)).trans (hO4 j hj)
  have hc6:Cells [(⟨X,0+1,none⟩,R),(⟨V,0+0,none⟩,.int .i64 (f.blks.getD k default).kind),(⟨V,0+1,none⟩,.int .i64 (f.blks.getD k default).ctrl),(⟨V,0+2,none⟩,.slice sa (f.blks.getD k default).succs.length sc),(⟨V,0+3,none⟩,.int .i64 (f.blks.getD k default).likely)] W6:=hc5.grown hgr6 (by
   have hV4:=World.block_lt_of_cell? _ _ (hc.get (.tail _ (.head _)))
   have hX4:=World.block_lt_of_cell? _ _ (hc.get (.head _))
   intro x hx
   simp only [List.mem_cons,List.not_mem_nil,or_false] at hx
   rcases hx with rfl|rfl|rfl|rfl|rfl <;> exact fun e=>by
    have:=Option.some.inj e
    simp only at this hV4 hX4
    omega)
  have hrow6:W6.ownsRow W4.heap.size 3 1 v6 (f.blks.getD k default).succs.length ((f.blks.getD k default).succs.map (.int .i64)):=by simpa using hrow6
  have hints6:=BY hrow6
  have hown6:=As hrow6
  obtain ⟨pa,pc,rfl⟩:=Bx hrow6
  refine ⟨.inr hc6,?_⟩
  refine Aj rfl (fun _ _=>bld_ib rfl rfl rfl rfl) (BK rfl (bsl_ib rfl) (.inr (hc6.alloc _)) ?_)
  have hsz6:=hgr6.size
  have hXW6:W6.heap[X]? =some (.cells #[R1,R] 25 (0,0)):=(hlow6 X (by omega)).trans hXW
  have hQ6:=hQW.stay (w':=W6) (fun j hj _ _ _=>hlow6 j hj) (by omega)
  have hst6:∀j,j<S1→j≠X→W6.heap[j]? =W1.heap[j]? :=fun j hj hne=>(hlow6 j (by omega)).trans (hstW j hj hne)
  have hb6:Below w.heap.size w W6:=hb5.grown hgr6 (by have:=hbW.size;omega) (fun j e=>by have h9:W4.heap.size=j:=Option.some.inj e;have:=hbW.size;omega)
  obtain ⟨W7,hW7⟩:∃W7,W7=W6:=⟨_,rfl⟩
  rw[← hW7] at hXW6 hQ6 hst6 hb6 hc6 hsz6 hints6 hown6 ⊢
  have hBle:B≤W7.heap.size:=by omega
  refine dl_new (.cells #[.int .i64 (f.blks.getD k default).kind,.int .i64 (f.blks.getD k default).ctrl,.slice pa (f.blks.getD k default).succs.length pc,.int .i64 (f.blks.getD k default).likely] 53) B (by omega) fun W8 hN8 hO8 hZ8 hB8 hK8=>?_
  have hcell8:∀j u,(q4 (bq (f.blks.getD k default)) (.slice pa (f.blks.getD k default).succs.length pc))[j]? =some u→W8.cell? ((⟨W7.heap.size,0,none⟩:Addr).add j)=some u:=fun j u hj=>by
   rw[Addr.add_lit]
   exact Am hN8 (by simpa [q4,bq] using hj)
  have hc8:Cells [(⟨X,0+1,none⟩,R),(⟨V,0+0,none⟩,.int .i64 (f.blks.getD k default).kind),(⟨V,0+1,none⟩,.int .i64 (f.blks.getD k default).ctrl),(⟨V,0+2,none⟩,.slice sa (f.blks.getD k default).succs.length sc),(⟨V,0+3,none⟩,.int .i64 (f.blks.getD k default).likely)] W8:=hK8.cells hc6
  have hQ8:=hQ6.stay (w':=W8) (fun j hj _ _ _=>hO8 j hj) (by omega)
  have hst8:∀j,j<S1→j≠X→W8.heap[j]? =W1.heap[j]? :=fun j hj hne=>(hO8 j (by omega)).trans (hst6 j hj hne)
  have hb8:Below w.heap.size w W8:=hb6.trans ⟨hB8.os,hB8.tape,hB8.output,hB8.size,fun j hj=>hO8 j (by have:=hb6.size;omega)⟩
  have hLs:Loose W8 b1 X C R.ownBlock (.slice pa (f.blks.getD k default).succs.length pc) (bq (f.blks.getD k default)).l:=
   ⟨hints6.keep hK8,.inr fun j hj=>by
     have h9:=hown6 j hj
     exact ⟨by omega,by omega,by omega,by omega,fun e=>by have:=hown j e;omega⟩⟩
  have hown8:∀j,R.ownBlock=some j→j<W8.heap.size:=fun j hj=>by have:=hown j hj;omega
  have hXsz:X<W8.heap.size:=by omega
  obtain ⟨hlo,hXR,hYR,ss,hss,hrow8,hloose⟩:=hQ8
  refine CV hrow8 hcell8 (by intro u hu;simp [q4] at hu;rcases hu with rfl|rfl|rfl|rfl <;> rfl) rfl (by rw[hlen];omega) (by decide) (by omega) rfl Tryz.underlying23 info53 rfl (by decide) rfl rfl ?_
  intro v9 W9 hrow9 hgr9 hwh9
  have hX9':W9.heap[X]? =some (.cells #[R1,R] 25 (0,0)):=by
   rw[hgr9.block X hXsz (fun e=>hXR e.symm)];exact (hO8 X (by omega)).trans hXW6
  have hc9:Cells [(⟨X,0+1,none⟩,R),(⟨V,0+0,none⟩,.int .i64 (f.blks.getD k default).kind),(⟨V,0+1,none⟩,.int .i64 (f.blks.getD k default).ctrl),(⟨V,0+2,none⟩,.slice sa (f.blks.getD k default).succs.length sc),(⟨V,0+3,none⟩,.int .i64 (f.blks.getD k default).likely)] W9:=hc8.grown hgr9 (by
   intro x hx
   simp only [List.mem_cons,List.not_mem_nil,or_false] at hx
   rcases hx with rfl|rfl|rfl|rfl|rfl <;> first
    |exact fun e=>hXR e.symm
    |exact fun e=>by
      have:=hown V e.symm
      omega)
  refine ⟨.inr hc9,?_⟩
  refine Aj rfl (fun _ _=>Al rfl (Ak rfl)) (BP rfl (AU rfl rfl (Bd hrow9) (AH rfl) (Am hX9' rfl) (AQ hX9')) (.inl rfl) (AP (Ap (Aa ?_))))
  have hQ9:=QRow.push (q:=bq (f.blks.getD k default)) (s:=(.slice pa (f.blks.getD k default).succs.length pc)) hlo hXR hYR hss hloose hLs hrow9 hgr9 hwh9 hXsz (by omega) 1
  rw[← htk] at hQ9
  have hX9:(W9.setCell ⟨X,0+1,none⟩ v9).heap[X]? =some (.cells #[R1,v9] 25 (0,0)):=AC (o:=0+1) (u:=v9) hX9'
  have hst9:∀j,j<S1→j≠X→(W9.setCell ⟨X,0+1,none⟩ v9).heap[j]? =W1.heap[j]? :=fun j hj hne=>by
   rw[Below.heap_setCell _ _ _ _ hne,hgr9.block j (by omega) (fun e=>by have:=hown j e.symm;omega)]
   exact hst8 j hj hne
  have hb9:Below w.heap.size w (W9.setCell ⟨X,0+1,none⟩ v9):=(hb8.grown hgr9 (by omega) (fun j e=>by have:=hown j e;omega)).setCell (by show w.heap.size≤X;omega) v9
  have hsz9:S1≤(W9.setCell ⟨X,0+1,none⟩ v9).heap.size:=by
   rw[Bp];have:=hgr9.size;omega
  refine Ac (Ab (x_inc rfl rfl (by omega)) rfl (Ab Ad rfl (Af ?_)))
  exact Aw (f.blks.length - (k+1)) (by omega) ⟨k+1,v9,by omega,Ar rfl ⟨rfl,rfl,rfl,rfl,rfl,rfl,trivial⟩,hQ9,hX9,hst9,hsz9,hb9,rfl⟩
 rintro e W2 ⟨R2,⟨t,rfl⟩,hQ2,hX2,hst2,hsz2,hbel2⟩
 have hC2:W2.heap[C]? =some (.cells #[nilS,nilS] 25 (0,0)):=(hst2 C (by omega) (by omega)).trans hC1
 refine Ae (Ac (Ab (A4 (cs:=[R1,R2]) rfl (A0 rfl) (A3 hX2)) rfl ?_))
 refine Bc (Cy (cs:=#[R1,R2]) rfl rfl hC2 (A7 rfl) rfl ?_) rfl ?_
 ·obtain ⟨_,_,_,_,_,h1,_⟩:=hQ1
  obtain ⟨_,_,_,_,_,h2,_⟩:=hQ2
  simp [Bd h1,Bd h2]
 refine Af (Aa ?_)
 have hgC:(W2.setRow C #[R1,R2]).heap[C]? =some (.cells #[R1,R2] 25 (0,0)):=setRow_heap _ _ _ _ _ _ hC2
 have hoC:∀j,j≠C→(W2.setRow C #[R1,R2]).heap[j]? =W2.heap[j]? :=fun j hj=>setRow_other _ _ _ _ hj
 have hszC:W2.heap.size≤(W2.setRow C #[R1,R2]).heap.size:=by simp [World.setRow]
 have hOwn:Own b1 (W2.setRow C #[R1,R2]) (.agg #[R1,R2]) f:=fun w'' hw hs=>
  ⟨R1,R2,rfl,(hQ1.stay (w':=w'') (fun j hj hlo hne hnc=>(hw j hlo (by omega)).trans ((hoC j hnc).trans (hst2 j (by omega) hne))) (by omega)).vals,
    (hQ2.stay (w':=w'') (fun j hj hlo hne hnc=>(hw j hlo (by omega)).trans (hoC j hnc)) (by omega)).blks⟩
 have hbF:Below w.heap.size w (W2.setRow C #[R1,R2]):=below_setRow' hbel2 (by omega) _
 refine AE ?_
 exact CD rfl rfl rfl rfl (BG (cs:=[R1,R2]) (A0 rfl) (A3 hgC)) ⟨by rw[hb1e] at hOwn ⊢;exact hOwn,by rw[hb1e];exact hbF⟩
end Go.Proofs.YteepnepebilckaaGreatDoor
