/- The law FnPartitionAlike returns true for every input in which the opcode table reads as laid, and its argument reads as it did, the table being tied to the text of the program. -/
import Derived.Test.YteepnepebilckaaGreatDoorCU28
import Derived.Test.YteepnepebilckaaGreatDoorRows
import Derived.Test.YteepnepebilckaaGreatDoorTie
import Derived.Test.YteepnepebilckaaGreatDoorCards
namespace Go.Proofs.YteepnepebilckaaGreatDoor
open Go Go.Eng Go.RowKit
def planJ:PT:=.rd 0 (.rd 1 (.rd 2 (.rd 3 (.rd 4 (.rd 5 (.rd 6 (.rd 7 (.rd 8 (.rd 9 (.rd 10 (.rd 11 (.fork 12 (.wr false 13 (.wr false 14 (.wr false 15 .nil))) 13 (.wr false 12 (.wr false 14 (.wr false 15 .nil)))))))))))))))
theorem GF {P:List (Nat×Nat)} {arr:Nat→Nat} {k:Nat} (hk:k<P.length) {g:Gph} {fw:Prop} {A:Nat→List Nat} {cls:Nat→Int} {rw:Nat→Option Nat} (h:CseR g fw A arr cls P rw) {z z':Int}
 (hz:z∈(P.map fun p=>BC (clsL arr p)).getD k []) (hz':z'∈(P.map fun p=>BC (clsL arr p)).getD k []):cls (z.toNat+1)=cls (z'.toNat+1):=by
 obtain ⟨pn,hj⟩:=h.pj
 rw[CE hk] at hz hz'
 obtain ⟨i,hi,rfl⟩:=(CA _ _ _).1 hz
 obtain ⟨j,hj2,rfl⟩:=(CA _ _ _).1 hz'
 have c1:=hj.pi.cin _ (List.getElem_mem hk) i hi
 have c2:=hj.pi.cin _ (List.getElem_mem hk) j hj2
 exact c1.trans c2.symm
set_option maxHeartbeats 4000000
attribute [local irreducible] EC EL DL Ret thenQ blockQ Bd bodyQ onlyN execOp Sem.run World.cell? World.frozen? World.setCell World.alloc
theorem FnPartitionAlike_ret {w:World} {x:Value} {f:Fn} (hx:FnV w x f) (ht:Tabl w):
 Ret Tryz.prog 3 #[x] w fun v w'=>v= .bool true∧Below w.heap.size w w':=by
 obtain ⟨xv,xb,rfl,hvals,hblks⟩:=hx
 refine ret_of_EC Tryz.func3 rfl rfl ?_
 have hx0:FnV w (.agg #[xv,xb]) f:=⟨xv,xb,rfl,hvals,hblks⟩
 obtain ⟨ab,cb,rfl,hbl⟩:=hblks
 obtain ⟨av,cv,rfl,hvl⟩:=hvals
 obtain ⟨B,hBd⟩:∃B,B=w.heap.size:=⟨_,rfl⟩
 refine Ae (Ac (Ab (Bw (v:=.agg #[.slice av f.vals.length cv,.slice ab f.blks.length cb]) rfl) rfl (el_new (.cells #[.slice av f.vals.length cv,.slice ab f.blks.length cb] 25) B (by omega) fun wa hN1 hO1 hZ1 hB1 hK1=>(Ab Ah rfl (Af (Aa ?_))))))
 obtain ⟨b1,hb1⟩:∃b1,b1=w.heap.size:=⟨_,rfl⟩
 rw[← hb1] at hN1 ⊢
 have hbw:Below b1 w wa:=by rw[hb1,← hBd];exact hB1
 refine Ae (Ae (Ac (Ab (A5 (cs:=[.slice av f.vals.length cv,.slice ab f.blks.length cb]) rfl (A3 rfl) (Bh hN1)) rfl (Be (AJ Tryz.func8 rfl rfl rfl rfl) rfl (fits1_ret (hx0.keep hK1)) ?_))))
 rintro _ w1 ⟨sb,rfl,hfit,hbs⟩
 refine Ab (BQ rfl) rfl (Af (Aa ?_))
 have hb1w:Below b1 w w1:=hbw.trans (hbs.mono (by omega))
 have hsz1:=hbs.size
 cases sb with
 |false=>
  refine Bc rfl rfl (Ae (Ac (Ab Ah rfl (Af (Aa (AF (AM ?_)))))))
  exact Aw rfl rfl rfl ⟨rfl,hb1w⟩
 |true=>
 refine A6 rfl rfl (Ar (Aa ?_))
 obtain ⟨hf1,hf2⟩:=hfit rfl
 have hbx1:w1.heap[b1]? =some (.cells #[.slice av f.vals.length cv,.slice ab f.blks.length cb] 25 (0,0)):=(hbs.block b1 (by omega)).trans hN1
 have hKe1:Keep w w1:=hK1.trans (Keep.of_below hbs (Nat.le_refl _))
 refine Ae (Ac (Ab (A5 (cs:=[.slice av f.vals.length cv,.slice ab f.blks.length cb]) rfl (A3 rfl) (Bh hbx1)) rfl (Be (AJ Tryz.func9 rfl rfl rfl rfl) rfl (laws_conv_ret (hx0.keep hKe1) hf1 hf2) ?_)))
 rintro vc w2 ⟨hvc,hbl2⟩
 have hsz2:=hbl2.size
 have hvc0:=hvc
 obtain ⟨cxv,cxb,rfl,cvals,cblks⟩:=hvc
 obtain ⟨cab,ccb,rfl,hcbl⟩:=cblks
 obtain ⟨cav,ccv,rfl,hcvl⟩:=cvals
 refine Ab (A9 Dy) rfl (Bf (Bj rfl rfl (A7 rfl) rfl rfl) rfl (Af (Aa ?_)))
 have hBle:B≤w2.heap.size:=by omega
 refine ec_new (.cells #[.slice cav f.vals.length ccv,.slice cab f.blks.length ccb] 30) B (by omega) fun w3 hN3 hO3 hZ3 hB3 hK3=>?_
 obtain ⟨b5,hb5⟩:∃b5,b5=w2.heap.size:=⟨_,rfl⟩
 rw[← hb5] at hN3 ⊢
 have hb3w:Below b1 w w3:=(hb1w.trans (hbl2.mono (by omega))).trans ⟨hB3.os,hB3.tape,hB3.output,hB3.size,fun j hj=>hO3 j (by omega)⟩
 have hKe3:Keep w w3:=(hKe1.trans (Keep.of_below hbl2 (Nat.le_refl _))).trans hK3
 have hvc3:=hvc0.keep hK3
 have hbx3:w3.heap[b1]? =some (.cells #[.slice av f.vals.length cv,.slice ab f.blks.length cb] 25 (0,0)):=(hO3 b1 (by omega)).trans ((hbl2.block b1 (by omega)).trans hbx1)
 refine Ae (Ae (Ac (Ab (A5 (cs:=[.slice cav f.vals.length ccv,.slice cab f.blks.length ccb]) rfl (A3 rfl) (Bh hN3)) rfl (Be (AJ Tryz.func10 rfl rfl rfl rfl) rfl (Good_ret hvc3) ?_))))
 rintro _ w4 ⟨gb,rfl,hgood,hbl4⟩
 refine Ab (BQ rfl) rfl (Af (Aa ?_))
 have hK4:=Keep.of_below hbl4 (Nat.le_refl _)
 have hsz4:=hbl4.size
 have hb4:Below b1 w w4:=hb3w.trans (hbl4.mono (by omega))
 cases gb with
 |false=>
  refine Bc rfl rfl (Ae (Ac (Ab Ah rfl (Af (Aa (AF (AM ?_)))))))
  exact Aw rfl rfl rfl ⟨rfl,hb4⟩
 |true=>
 refine A6 rfl rfl (Ar (Aa ?_))
 have hgd:=hgood.1 rfl
 have hKe4:Keep w w4:=hKe3.trans hK4
 have hx4:=hx0.keep hKe4
 have hv4:=hvc3.keep hK4
 have ht4:=ht.keep hKe4
 have hbx4:w4.heap[b1]? =some (.cells #[.slice av f.vals.length cv,.slice ab f.blks.length cb] 25 (0,0)):=(hbl4.block b1 (by omega)).trans hbx3
 have hsx4:w4.heap[b5]? =some (.cells #[.slice cav f.vals.length ccv,.slice cab f.blks.length ccb] 30 (0,0)):=(hbl4.block b5 (Bb hN3)).trans hN3
 have hcv4:∀k,k<f.vals.length→∃bb ob,cav=some ⟨bb,ob,none⟩∧Quad w4 bb (ob+k * 4) (f.v k).op (f.v k).blk (f.v k).args (f.v k).aux:=fun k hk=>by
  obtain ⟨bb,ob,e,hq⟩:=hcvl.resolve_left (fun e=>by rw[e] at hk;simp at hk)
  exact ⟨bb,ob,e,((hq k hk).keep hK3).keep hK4⟩
 have hn48:=hgd.wf.nv
 have hzb:b1<w4.heap.size∧b5<w4.heap.size:=⟨Bb hbx4,Bb hsx4⟩
 have har:=har_of hgd
 have g0:w4.cell? ⟨b5,0+0,none⟩=some (.slice cav f.vals.length ccv):=Am hsx4 rfl
 obtain ⟨S0,hS0⟩:∃S0,S0=w4.heap.size:=⟨_,rfl⟩
 have c1:w4.cell? ⟨b1,0+0,none⟩=some (.slice av f.vals.length cv):=Am hbx4 rfl
 refine Ae (Ac (Ab (A5 (cs:=[.slice av f.vals.length cv,.slice ab f.blks.length cb]) rfl (A3 rfl) (Bh hbx4)) rfl (Be (AJ Tryz.func11 rfl rfl rfl rfl) rfl (implPart_ret (fw:=False) hx4 hgd ht4 fun h=>h.elim) ?_)))
 rintro pv W6 ⟨⟨A,arr,cls,P,rw,us,hR,hL⟩,hb6⟩
 have hK6:Keep w4 W6:=Keep.of_below hb6 (Nat.le_refl _)
 have hz6:=hb6.size
 have c16:=hK6 _ _ c1
 have hcl:=hR.clsL hn48
 refine Ab Ah rfl (Af (Aa (Ae (Ac (Ab Ad rfl (Ab (Ak rfl (Al rfl)) rfl (Ab (Ai rfl (Ag rfl) c16) rfl (Ab (AP rfl (An rfl)) rfl (Be (AJ Tryz.func12 rfl rfl rfl rfl) rfl (classes_ret (n:=f.vals.length) hL hcl hn48) ?_)))))))))
 rintro _ W ⟨cv6,c,rfl,hI,hC,hb7⟩
 have hnum:∀x y,x<f.vals.length→y<f.vals.length→(c x=c y↔cls (x+1)=cls (y+1)):=fun x y hx hy=>hR.num hC hx hy
 have hbW:Below S0 w4 W:=by rw[hS0];exact hb6.trans (hb7.mono hz6)
 have hLW:LLs W w4.heap.size pv us (P.map fun p=>BC (clsL arr p)):=hL.on fun k _ hk=>hb7.block k hk
 have hzW:=hbW.size
 have hKW:Keep w4 W:=Keep.of_below hbW (by omega)
 have agW:CellsAt W b5 0 [.slice cav f.vals.length ccv,.slice cab f.blks.length ccb]:=fun j u hj=>hKW _ _ (Bh hsx4 j u hj)
 have g0W:=hKW _ _ g0
 refine Ab Ad rfl (Ab (x_ex0 rfl) rfl (Ab (x_ex1 rfl) rfl (Ab Ah rfl (Ab Ah rfl (Af (Aa ?_))))))
 obtain ⟨S1,hS1⟩:∃S1,S1=W.heap.size:=⟨_,rfl⟩
 have hbA:Below b1 w W:=hb4.trans (hbW.mono (by omega))
 have hrest:∀WF,Below S1 W WF→Below b1 w WF:=fun WF h=>hbA.trans (h.mono (by have:=hbA.size;omega))
 have hul:us.length=P.length:=by rw[hLW.len,List.length_map]
 refine BL (fun e wr=>At e [(3,.pointer (some ⟨b5,0,none⟩)),(4,pv),(5,cv6)]∧Below S1 W wr) ?_ ?_
 ·refine Ae (Ac ?_)
  rcases hLW.row.2 with ⟨epv,h0⟩|⟨pg,pcap,pcur,epv,_⟩
  ·refine Ab Ad rfl (Ab (BQ rfl) rfl (Ab Ad rfl (Aq rfl rfl Ad rfl (Aq rfl rfl (eqs0 epv rfl) rfl (Aq rfl rfl Ad rfl (Aq rfl rfl (A5 (cs:=[.slice cav f.vals.length ccv,.slice cab f.blks.length ccb]) rfl (A3 rfl) agW) rfl (E3 rfl rfl (AJ Tryz.func13 rfl rfl rfl rfl) rfl (clear_ret (hv4.keep hKW) hn48 har fun hnc x y hx hy hr=>hR.apart hgd (by omega) hnc hx hy hr) ?_)))))))
   rintro _ W8 ⟨rfl,hb8⟩
   refine Aq rfl rfl (AN rfl) rfl (Ab (AH rfl) rfl (Af (Aa (A6 rfl rfl (Ar ?_)))))
   exact Cj ⟨As rfl ⟨rfl,rfl,rfl,trivial⟩,by rw[hS1];exact hb8⟩
  refine Ab Ad rfl (Ab (BQ rfl) rfl (Ab Ad rfl (Aq rfl rfl Ad rfl (Aq rfl rfl (eqs1 epv rfl) rfl (Aq rfl rfl Ad rfl (Ax rfl rfl (Ax rfl rfl (Aq rfl rfl (AH rfl) rfl (Ab (AH rfl) rfl (Af (Aa ?_)))))))))))
  refine A6 rfl rfl (Ar ?_)
  exact Cj ⟨As rfl ⟨rfl,rfl,rfl,trivial⟩,Below.refl _ _⟩
 rintro e W0 ⟨⟨t,rfl⟩,hb0⟩
 obtain ⟨va,vcap,hvpv⟩:=BF hLW.row
 rw[hul] at hvpv
 refine Ae (Ae (Ac (Ab Ad rfl (Ab (AP hvpv (An rfl)) rfl (Ab Ad rfl (Af (Aa (Ao ?_))))))))
 refine EC_loop (fun n e wr=>∃k,k≤P.length∧At e [(3,.pointer (some ⟨b5,0,none⟩)),(5,cv6),(44,pv),(45,.int .i64 (P.length:Int)),(46,.int .i64 (k:Int))]∧Below S1 W wr∧n=P.length - k) P.length
  ⟨0,Nat.zero_le _,As rfl ⟨rfl,rfl,rfl,rfl,rfl,trivial⟩,hb0,rfl⟩ ?_
 rintro n e wr ⟨k,hk,⟨t,rfl⟩,hb,rfl⟩
 have hPn:P.length≤1000:=by have:=hcl.len;rw[List.length_map] at this;omega
 refine Ae (Ac (Ab (AV rfl rfl) rfl (Af (Aa (Ae ?_)))))
 refine AI rfl rfl (fun hlt=>?_) (fun hge=>?_)
 rotate_left
 ·refine AK (AB (AD (Az (Aa (Ae (Ac (Ab Ah rfl (Af (Aa (AF ?_))))))))))
  exact Aw rfl rfl rfl ⟨rfl,hrest _ hb⟩
 have hkP:k<P.length:=by omega
 have hkx:k<(P.map fun p=>BC (clsL arr p)).length:=by rw[List.length_map];exact hkP
 refine Ar (Aa ?_)
 obtain ⟨L,hLd⟩:∃L,L=(P.map fun p=>BC (clsL arr p)).getD k []:=⟨_,rfl⟩
 have hLr:∀z∈L,0≤z∧z<f.vals.length:=by rw[hLd];exact hcl.rng k hkx
 have hLe:∀z z',z∈L→z'∈L→cls (z.toNat+1)=cls (z'.toNat+1):=by rw[hLd];exact fun z z' h h'=>GF hkP hR h h'
 have hmem:∀i,i<L.length→∃z:Nat,z<f.vals.length∧L.getD i 0=(z:Int)∧L.getD i 0∈L:=fun i hi=>by
  have hm:=Bu hi
  have:=hLr _ hm
  exact ⟨(L.getD i 0).toNat,by omega,(Int.toNat_of_nonneg this.1).symm,hm⟩
 have h2L:2≤L.length∧L.length≤1000:=by
  have:=hcl.long k hkx
  rw[← hLd] at this
  exact this
 have hLI:∀{W':World},Below S1 W W'→∀i,i<L.length→∃yb yc,us.getD k nilS= .slice (some ⟨yb,0,none⟩) L.length yc∧L.length≤yc∧W'.cell? ⟨yb,0+i,none⟩=some (.int .i64 (L.getD i 0)):=fun {W'} hW' i hi=>by
  obtain ⟨yb,yc,e2,_,_,hle,hyc⟩:=row_form (w:=W) (base:=w4.heap.size) (el:=3) (v:=us.getD k nilS) (xs:=L.map (Value.int .i64)) (by rw[List.length_map,hLd];exact hLW.ints k hkx) (k:=i) (by rw[List.length_map];exact hi)
  rw[List.length_map] at e2 hle
  rw[List.getElem_map] at hyc
  refine ⟨yb,yc,e2,hle,(Keep.of_below hW' (by omega)) _ _ (hyc.trans ?_)⟩
  exact congrArg (fun z=>some (Value.int .i64 z)) (getI hi)
 obtain ⟨gb,capb,e1,_,_,_,hcell⟩:=row_form (w:=W) (base:=w4.heap.size) (el:=35) (v:=pv) (xs:=us) hLW.row (k:=k) (by omega)
 rw[hul] at e1
 have hg:us[k]'(by omega)=us.getD k nilS:=by rw[List.getD_eq_getElem?_getD,List.getElem?_eq_getElem (by omega)];rfl
 rw[hg] at hcell
 have hcellr:=(Keep.of_below hb (by omega)) _ _ hcell
 obtain ⟨yb,yc,eU,hyl,_⟩:=hLI (Below.refl _ _) 0 (by omega)
 obtain ⟨a,haN,haz,ham⟩:=hmem 0 (by omega)
 refine Ae (Ao (Ae (Ac (Ab (x_index1 (i:=k) e1 rfl (An rfl) (by omega)) rfl (Ab (Ai rfl (Ag rfl) hcellr) rfl (Ab Ah rfl (Af (Aa (Ae (Ac (Ab Ad rfl ?_)))))))))))
 refine Ab (x_sliceL (l:=1) Tryz.underlying35 Ck eU rfl (by omega) (by omega) (by omega)) rfl (Ab (AP rfl (An rfl)) rfl (Ab Ad rfl (Af (Aa (Ao ?_)))))
 refine EC_loop (fun n e wq=>∃j,j≤L.length - 1∧At e [(3,.pointer (some ⟨b5,0,none⟩)),(5,cv6),(44,pv),(45,.int .i64 (P.length:Int)),(46,.int .i64 (k:Int)),(8,us.getD k nilS),(51,.slice (some ⟨yb,0+1,none⟩) (L.length - 1) (yc - 1)),(52,.int .i64 ((L.length - 1:Nat):Int)),(53,.int .i64 (j:Int))]∧Below S1 W wq∧n=L.length - 1 - j) (L.length - 1)
  ⟨0,Nat.zero_le _,As rfl ⟨rfl,rfl,rfl,rfl,rfl,rfl,rfl,rfl,rfl,trivial⟩,hb,rfl⟩ ?_
 clear hcellr hb
 rintro n e wq ⟨j,hj,⟨t,rfl⟩,hb,rfl⟩
 refine Ae (Ac (Ab (AV rfl rfl) rfl (Af (Aa (Ae ?_)))))
 refine AI rfl rfl (fun hlt2=>?_) (fun hge2=>?_)
 rotate_left
 ·refine AK (AB (AD (Az (Ap (Aa (Ac (Ab (x_inc rfl rfl (by omega)) rfl (Ab Ad rfl (Af ?_)))))))))
  exact Av (P.length - (k+1)) (by omega) ⟨k+1,by omega,As rfl ⟨rfl,rfl,rfl,rfl,rfl,trivial⟩,hb,rfl⟩
 have hjL:j<L.length - 1:=by omega
 refine Ar (Aa ?_)
 obtain ⟨b,hbN,hbz,hbm⟩:=hmem (j+1) (by omega)
 obtain ⟨_,_,e2,_,hy2⟩:=hLI hb (j+1) (by omega)
 obtain ⟨_,_,e3,_,hy3⟩:=hLI hb 0 (by omega)
 rw[eU] at e2 e3
 cases e2
 cases e3
 rw[hbz,show 0+(j+1)=0+1+j by omega] at hy2
 rw[haz] at hy3
 have hcls:cls (a+1)=cls (b+1):=by
  have:=hLe _ _ ham hbm
  rw[haz,hbz] at this
  exact this
 obtain ⟨⟨h1,h2,h3,h4⟩,hst⟩:=hR.strT hgd hnum haN hbN hcls
 obtain ⟨bb,ob,rfl,⟨s1,hcella,⟨sa,sac,rfl,hia⟩⟩⟩:=hcv4 a haN
 obtain ⟨_,_,e,⟨s2,hcellb,⟨sb,sbc,rfl,hib⟩⟩⟩:=hcv4 b hbN
 cases e
 have hzq:=hb.size
 have hKq:∀{W':World},Below wq.heap.size wq W'→Keep w4 W':=fun h=>(hKW.trans (Keep.of_below hb (by omega))).trans (Keep.of_below h (Nat.le_refl _))
 have hKqq:∀{W':World},Below wq.heap.size wq W'→Keep wq W':=fun h=>Keep.of_below h (Nat.le_refl _)
 refine Ae (Ao (Ae (Ac (Ab (x_index1 (i:=j) rfl rfl (An rfl) (by omega)) rfl (Ab (Ai rfl (Ag rfl) hy2) rfl (Ab Ah rfl (Af (Aa ?_))))))))
 obtain ⟨S2,hS2⟩:∃S2,S2=wq.heap.size:=⟨_,rfl⟩
 have hd0:Below S2 wq wq.drew:=(Below.refl _ _).drew
 rw[← hS2] at hKq hKqq
 refine AW (fun e W5=>∃X Y,S2≤X∧S2≤Y∧X≠Y∧Below S2 wq W5∧W5.heap[X]? =some (.cells #[.int .i64 (f.v a).op,.int .i64 (f.v a).blk,.slice sa (f.v a).args.length sac,.int .i64 (f.v a).aux] 39 (0,0))∧
  W5.heap[Y]? =some (.cells #[.int .i64 (f.v b).op,.int .i64 (f.v b).blk,.slice sb (f.v b).args.length sbc,.int .i64 (f.v b).aux] 39 (0,0))∧At e [(3,.pointer (some ⟨b5,0,none⟩)),(5,cv6),(44,pv),(45,.int .i64 (P.length:Int)),(46,.int .i64 (k:Int)),(8,us.getD k nilS),(51,.slice (some ⟨yb,0+1,none⟩) (L.length - 1) (yc - 1)),(52,.int .i64 ((L.length - 1:Nat):Int)),(53,.int .i64 (j:Int)),(11,.pointer (some ⟨X,0,none⟩)),(12,.pointer (some ⟨Y,0,none⟩))]) ?_ ?_
 ·refine C6 mixed (fun W=>Below S2 wq W) planJ (by kernel_rfl) hd0 ?_
  generalize wq.drew=W0 at hd0 ⊢
  refine Bn rfl (fun _ _=>Ak rfl (Al rfl)) (Bn rfl (fun W hS=>Ai rfl (Ag rfl) (hKq hS _ _ g0)) (Bn rfl (fun _ _=>Ad) (Bn rfl (fun _ _=>x_index0 eU rfl (An rfl) (by omega)) (Bn rfl (fun W hS=>Ai rfl (Ag rfl) (hKqq hS _ _ hy3)) (Bn rfl (fun _ _=>A4 (n:=4) rfl rfl (An rfl) haN) (Bn rfl (fun W hS=>A5 rfl (A3 rfl) (hcella.keep (hKq hS))) (Bn rfl (fun _ _=>Ak rfl (Al rfl)) (Bn rfl (fun W hS=>Ai rfl (Ag rfl) (hKq hS _ _ g0)) (Bn rfl (fun _ _=>Ad) (Bn rfl (fun _ _=>A4 (n:=4) rfl rfl (An rfl) hbN) (Bn rfl (fun W hS=>A5 rfl (A3 rfl) (hcellb.keep (hKq hS))) ?_)))))))))))
  have hz0:=hd0.size
  have key:∀(W:World) (p q:Nat) (ca cb:Array Value),Below S2 wq W→S2≤p→S2≤q→p≠q→ca.size=4→cb.size=4→W.heap[p]? =some (.cells ca 39 (0,0))→W.heap[q]? =some (.cells cb 39 (0,0))→
   ∃W2,W2=(W.setRow p #[.int .i64 (f.v a).op,.int .i64 (f.v a).blk,.slice sa (f.v a).args.length sac,.int .i64 (f.v a).aux]).setRow q #[.int .i64 (f.v b).op,.int .i64 (f.v b).blk,.slice sb (f.v b).args.length sbc,.int .i64 (f.v b).aux]∧Below S2 wq W2∧
    Below S2 wq (W.setRow p #[.int .i64 (f.v a).op,.int .i64 (f.v a).blk,.slice sa (f.v a).args.length sac,.int .i64 (f.v a).aux])∧
    (W.setRow p #[.int .i64 (f.v a).op,.int .i64 (f.v a).blk,.slice sa (f.v a).args.length sac,.int .i64 (f.v a).aux]).heap[q]? =some (.cells cb 39 (0,0))∧
    W2.heap[p]? =some (.cells #[.int .i64 (f.v a).op,.int .i64 (f.v a).blk,.slice sa (f.v a).args.length sac,.int .i64 (f.v a).aux] 39 (0,0))∧
    W2.heap[q]? =some (.cells #[.int .i64 (f.v b).op,.int .i64 (f.v b).blk,.slice sb (f.v b).args.length sbc,.int .i64 (f.v b).aux] 39 (0,0)):=by
   intro W p q ca cb hW hp hq hpq h4 h4' hca hcb
   have e1:=(setRow_other W p q #[.int .i64 (f.v a).op,.int .i64 (f.v a).blk,.slice sa (f.v a).args.length sac,.int .i64 (f.v a).aux] (fun e=>hpq e.symm)).trans hcb
   have e2:=setRow_heap W p _ #[.int .i64 (f.v a).op,.int .i64 (f.v a).blk,.slice sa (f.v a).args.length sac,.int .i64 (f.v a).aux] _ _ hca
   refine ⟨_,rfl,below_setRow' (below_setRow' hW hp _) hq _,below_setRow' hW hp _,e1,(setRow_other _ _ _ _ hpq).trans e2,setRow_heap _ _ _ _ _ _ e1⟩
  have hSW:S2≤W0.heap.size:=by omega
  have a1:=heap_alloc_new W0 (.cells #[.int .i64 0,.int .i64 0,nilS,.int .i64 0] 39)
  have a2:=Bx W0 (.cells #[.int .i64 0,.int .i64 0,nilS,.int .i64 0] 39)
  have a3:=hd0.alloc hSW (.cells #[.int .i64 0,.int .i64 0,nilS,.int .i64 0] 39)
  generalize hWe:W0.alloc (.cells #[.int .i64 0,.int .i64 0,nilS,.int .i64 0] 39)=W1 at a1 a2 a3
  have c1:=heap_alloc_new W1 (.cells #[.int .i64 0,.int .i64 0,nilS,.int .i64 0] 39)
  have c3:=a3.alloc (by omega) (.cells #[.int .i64 0,.int .i64 0,nilS,.int .i64 0] 39)
  have c4:(W1.alloc (.cells #[.int .i64 0,.int .i64 0,nilS,.int .i64 0] 39)).heap[W0.heap.size]? =some (.cells #[.int .i64 0,.int .i64 0,nilS,.int .i64 0] 39 (0,0)):=(Below.heap_alloc _ _ _ (by omega)).trans a1
  generalize hWe2:W1.alloc (.cells #[.int .i64 0,.int .i64 0,nilS,.int .i64 0] 39)=W2 at c1 c3 c4
  obtain ⟨p,hp⟩:∃p,p=W0.heap.size:=⟨_,rfl⟩
  obtain ⟨q,hq⟩:∃q,q=W1.heap.size:=⟨_,rfl⟩
  rw[← hp] at c4
  rw[← hq] at c1
  refine C0 ?_ ?_
  ·obtain ⟨W4,h40,h41,h42,h43,h44,h45⟩:=key W2 p q _ _ c3 (by omega) (by omega) (by omega) rfl rfl c4 c1
   refine Ce rfl (A9 BX) ?_
   rw[hWe,← hp]
   refine ⟨.inr a3,?_⟩
   refine Ce rfl (A9 BX) ?_
   rw[hWe2,← hq]
   refine ⟨.inr c3,?_⟩
   refine Ca rfl (BY rfl rfl c4 (A7 rfl) rfl rfl) ?_
   refine ⟨.inr h42,?_⟩
   refine Ca rfl (BY rfl rfl h43 (A7 rfl) rfl rfl) ?_
   rw[← h40]
   refine ⟨.inr h41,?_⟩
   refine Cl ?_
   exact AS ⟨p,q,by omega,by omega,by omega,h41,h44,h45,As rfl ⟨rfl,rfl,rfl,rfl,rfl,rfl,rfl,rfl,rfl,rfl,rfl,trivial⟩⟩
  obtain ⟨W4,h40,h41,h42,h43,h44,h45⟩:=key W2 q p _ _ c3 (by omega) (by omega) (by omega) rfl rfl c1 c4
  refine Ce rfl (A9 BX) ?_
  rw[hWe,← hp]
  refine ⟨.inr a3,?_⟩
  refine Ce rfl (A9 BX) ?_
  rw[hWe2,← hq]
  refine ⟨.inr c3,?_⟩
  refine Ca rfl (BY rfl rfl c1 (A7 rfl) rfl rfl) ?_
  refine ⟨.inr h42,?_⟩
  refine Ca rfl (BY rfl rfl h43 (A7 rfl) rfl rfl) ?_
  rw[← h40]
  refine ⟨.inr h41,?_⟩
  refine Cl ?_
  exact AS ⟨q,p,by omega,by omega,by omega,h41,h44,h45,As rfl ⟨rfl,rfl,rfl,rfl,rfl,rfl,rfl,rfl,rfl,rfl,rfl,trivial⟩⟩
 rintro e W5 ⟨X,Y,hX,hY,hXY,hb5',hcX,hcY,⟨t,rfl⟩⟩
 have x0:W5.cell? ⟨X,0+0,none⟩=some (.int .i64 (f.v a).op):=Am hcX rfl
 have x1:W5.cell? ⟨X,0+1,none⟩=some (.int .i64 (f.v a).blk):=Am hcX rfl
 have x2:W5.cell? ⟨X,0+2,none⟩=some (.slice sa (f.v a).args.length sac):=Am hcX rfl
 have x3:W5.cell? ⟨X,0+3,none⟩=some (.int .i64 (f.v a).aux):=Am hcX rfl
 have y0:W5.cell? ⟨Y,0+0,none⟩=some (.int .i64 (f.v b).op):=Am hcY rfl
 have y1:W5.cell? ⟨Y,0+1,none⟩=some (.int .i64 (f.v b).blk):=Am hcY rfl
 have y2:W5.cell? ⟨Y,0+2,none⟩=some (.slice sb (f.v b).args.length sbc):=Am hcY rfl
 have y3:W5.cell? ⟨Y,0+3,none⟩=some (.int .i64 (f.v b).aux):=Am hcY rfl
 have hbX5:Below S1 W W5:=hb.trans (hb5'.mono (by omega))
 have hz5:=hb5'.size
 have hal:=(har a haN).1
 have hbl5:=(har b hbN).1
 refine AW (fun e W'=>W'=W5∧At e [(3,.pointer (some ⟨b5,0,none⟩)),(5,cv6),(44,pv),(45,.int .i64 (P.length:Int)),(46,.int .i64 (k:Int)),(8,us.getD k nilS),(51,.slice (some ⟨yb,0+1,none⟩) (L.length - 1) (yc - 1)),(52,.int .i64 ((L.length - 1:Nat):Int)),(53,.int .i64 (j:Int)),(11,.pointer (some ⟨X,0,none⟩)),(12,.pointer (some ⟨Y,0,none⟩))]) ?_ ?_
 ·refine Ae (Ac (Ab (Ak rfl (Al rfl)) rfl (Ab (Ai rfl (Ag rfl) ‹_›) rfl ?_)))
  refine Ab (Ak rfl (Al rfl)) rfl (Ab (Ai rfl (Ag rfl) ‹_›) rfl ?_)
  refine Ab (Bo rfl rfl) rfl (Ab Ad rfl ?_)
  rw[decide_eq_false (not_not_intro h1)]
  refine Aq rfl rfl (Ak rfl (Al rfl)) rfl (Aq rfl rfl (Ai rfl (Ag rfl) ‹_›) rfl ?_)
  refine Aq rfl rfl (Ak rfl (Al rfl)) rfl (Aq rfl rfl (Ai rfl (Ag rfl) ‹_›) rfl ?_)
  refine Aq rfl rfl (Bo rfl rfl) rfl (Ab (AH rfl) rfl (Ab Ad rfl ?_))
  rw[decide_eq_false (not_not_intro h2)]
  refine Aq rfl rfl (Ak rfl (Al rfl)) rfl (Aq rfl rfl (Ai rfl (Ag rfl) ‹_›) rfl ?_)
  refine Aq rfl rfl (AP rfl (An rfl)) rfl (Aq rfl rfl (Ak rfl (Al rfl)) rfl (Aq rfl rfl (Ai rfl (Ag rfl) ‹_›) rfl ?_))
  refine Aq rfl rfl (AP rfl (An rfl)) rfl (Aq rfl rfl (Bo rfl rfl) rfl (Ab (AH rfl) rfl (Ab Ad rfl ?_)))
  rw[decide_eq_false (not_not_intro (congrArg (fun n:Nat=>(n:Int)) h3))]
  refine Aq rfl rfl (Ak rfl (Al rfl)) rfl (Aq rfl rfl (Ai rfl (Ag rfl) ‹_›) rfl ?_)
  refine Aq rfl rfl (Bi rfl rfl) rfl (Aq rfl rfl Ad rfl ?_)
  by_cases h13:(f.v a).op=13
  ·rw[decide_eq_true h13]
   refine Aq rfl rfl (Ak rfl (Al rfl)) rfl (Aq rfl rfl (Ai rfl (Ag rfl) ‹_›) rfl ?_)
   refine Aq rfl rfl (Ak rfl (Al rfl)) rfl (Aq rfl rfl (Ai rfl (Ag rfl) ‹_›) rfl ?_)
   refine Aq rfl rfl (Bo rfl rfl) rfl (Aq rfl rfl (AN rfl) rfl (Ab (AH rfl) rfl (Af (Aa ?_))))
   rw[decide_eq_false (not_not_intro (h4 h13))]
   refine A6 rfl rfl (Ar ?_)
   exact AS ⟨rfl,As rfl ⟨rfl,rfl,rfl,rfl,rfl,rfl,rfl,rfl,rfl,rfl,rfl,trivial⟩⟩
  rw[decide_eq_false h13]
  refine Ax rfl rfl (Ax rfl rfl (Ax rfl rfl (Ax rfl rfl (Ax rfl rfl (Aq rfl rfl (AH rfl) rfl (Ab (AH rfl) rfl (Af (Aa (A6 rfl rfl (Ar ?_))))))))))
  exact AS ⟨rfl,As rfl ⟨rfl,rfl,rfl,rfl,rfl,rfl,rfl,rfl,rfl,rfl,rfl,trivial⟩⟩
 rintro e W' ⟨rfl,⟨t,rfl⟩⟩
 refine Ae (Ac (Ab (Ak rfl (Al rfl)) rfl (Ab (Ai rfl (Ag rfl) ‹_›) rfl ?_)))
 refine Be (AJ Tryz.func14 rfl rfl rfl rfl) rfl (DF _) ?_
 rintro _ wx ⟨rfl,ew⟩
 rw[ew]
 clear ew wx
 refine Ab Ah rfl (Ab Ah rfl (Af (Aa ?_)))
 obtain ⟨m,hm⟩:∃m,m=(f.v a).args.length:=⟨_,rfl⟩
 have hmb:(f.v b).args.length=m:=by omega
 rw[← hm] at x2
 rw[hmb] at y2
 obtain ⟨vb,vo,vcap',hvc⟩:∃vb vo vcap,cv6= .slice (some ⟨vb,vo,none⟩) f.vals.length vcap:=by
  obtain ⟨vb,vo,vcap,h,_⟩:=CD hI haN
  exact ⟨vb,vo,vcap,h⟩
 have hcc:∀i,i<f.vals.length→W.cell? ⟨vb,vo+i,none⟩=some (.int .i64 (c i)):=fun i hi=>by
  obtain ⟨b',o',cap',h,hcell⟩:=CD hI hi
  rw[hvc] at h
  cases h
  exact hcell
 obtain ⟨ca,hca⟩:∃ca:Nat→Int,∀k,ca k=c ((f.v a).args.getD k 0).toNat:=⟨_,fun _=>rfl⟩
 obtain ⟨cb',hcb⟩:∃cb:Nat→Int,∀k,cb k=c ((f.v b).args.getD k 0).toNat:=⟨_,fun _=>rfl⟩
 rw[← hm,hmb] at hst
 simp only [← hca,← hcb] at hst
 refine AW (fun e wr=>∃s u,At e [(3,.pointer (some ⟨b5,0,none⟩)),(5,cv6),(44,pv),(45,.int .i64 (P.length:Int)),(46,.int .i64 (k:Int)),(8,us.getD k nilS),(51,.slice (some ⟨yb,0+1,none⟩) (L.length - 1) (yc - 1)),(52,.int .i64 ((L.length - 1:Nat):Int)),(53,.int .i64 (j:Int)),(13,.bool s),(14,.bool u)]∧Below W'.heap.size W' wr∧(s=true∨u=true)) ?_ ?_
 ·refine Ae (Ac (Ab (Ak rfl (Al rfl)) rfl (Ab (Ai rfl (Ag rfl) ‹_›) rfl ?_)))
  refine Ab (AP rfl (An rfl)) rfl (Ab Ad rfl (Af (Aa (Ao ?_))))
  refine EC_loop (fun n e wr=>∃q s u,q≤m∧At e [(3,.pointer (some ⟨b5,0,none⟩)),(5,cv6),(44,pv),(45,.int .i64 (P.length:Int)),(46,.int .i64 (k:Int)),(8,us.getD k nilS),(51,.slice (some ⟨yb,0+1,none⟩) (L.length - 1) (yc - 1)),(52,.int .i64 ((L.length - 1:Nat):Int)),(53,.int .i64 (j:Int)),(11,.pointer (some ⟨X,0,none⟩)),(12,.pointer (some ⟨Y,0,none⟩)),(13,.bool s),(14,.bool u),(107,.int .i64 (m:Int)),(108,.int .i64 (q:Int))]∧Below W'.heap.size W' wr∧((∀i,i<m→ca i=cb' i)→s=true)∧(BZ (f.v a).op→(∀i,i<m→ca i=cb' (m - 1 - i))→u=true)∧n=m - q) m
   ⟨0,true,_,Nat.zero_le _,As rfl ⟨rfl,rfl,rfl,rfl,rfl,rfl,rfl,rfl,rfl,rfl,rfl,rfl,rfl,rfl,rfl,trivial⟩,Below.refl _ _,fun _=>rfl,fun h _=>decide_eq_true h,rfl⟩ ?_
  rintro n e wr ⟨q,s,u,hq,⟨t,rfl⟩,hbr,hs,hu,rfl⟩
  refine Ae (Ac (Ab (AV rfl rfl) rfl (Af (Aa (Ae ?_)))))
  refine AI rfl rfl (fun hlt3=>?_) (fun hge3=>?_)
  rotate_left
  ·refine AK (AB (AD (Az ?_)))
   exact AS ⟨s,u,As rfl ⟨rfl,rfl,rfl,rfl,rfl,rfl,rfl,rfl,rfl,rfl,rfl,trivial⟩,hbr,hst.elim (fun h=>.inl (hs h)) fun h=>.inr (hu h.1 h.2)⟩
  have hqm:q<m:=by omega
  refine Ar (Aa ?_)
  obtain ⟨b2,o2,rfl,ha2⟩:=hia.get (k:=q) (by omega)
  obtain ⟨b3,o3,rfl,hb3⟩:=hib.get (k:=q) (by omega)
  obtain ⟨_,_,e4,hb4'⟩:=hib.get (k:=m - 1 - q) (by omega)
  cases e4
  obtain ⟨i1,hi1⟩:∃i,i=((f.v a).args.getD q 0).toNat:=⟨_,rfl⟩
  obtain ⟨i2,hi2⟩:∃i,i=((f.v b).args.getD q 0).toNat:=⟨_,rfl⟩
  obtain ⟨i3,hi3⟩:∃i,i=((f.v b).args.getD (m - 1 - q) 0).toNat:=⟨_,rfl⟩
  have r1:=(har a haN).2 _ (Bu (show q<(f.v a).args.length by omega))
  have r2:=(har b hbN).2 _ (Bu (show q<(f.v b).args.length by omega))
  have r3:=(har b hbN).2 _ (Bu (show m - 1 - q<(f.v b).args.length by omega))
  have d1:=hca q
  have d2:=hcb q
  have d3:=hcb (m - 1 - q)
  rw[← hi1] at d1
  rw[← hi2] at d2
  rw[← hi3] at d3
  obtain ⟨W7,hW7⟩:∃W7,W7=wr.drew:=⟨_,rfl⟩
  have hbr7:Below W'.heap.size W' W7:=by rw[hW7];exact hbr.drew
  refine Ae (Ao (Ae (Ac (Ab Ad rfl (Ab Ah rfl (Af (Aa ?_)))))))
  refine AW (fun e wz=>∃s,At e [(3,.pointer (some ⟨b5,0,none⟩)),(5,cv6),(44,pv),(45,.int .i64 (P.length:Int)),(46,.int .i64 (k:Int)),(8,us.getD k nilS),(51,.slice (some ⟨yb,0+1,none⟩) (L.length - 1) (yc - 1)),(52,.int .i64 ((L.length - 1:Nat):Int)),(53,.int .i64 (j:Int)),(11,.pointer (some ⟨X,0,none⟩)),(12,.pointer (some ⟨Y,0,none⟩)),(13,.bool s),(14,.bool u),(107,.int .i64 (m:Int)),(108,.int .i64 (q:Int)),(15,.int .i64 (q:Int))]∧wz=W7∧((∀i,i<m→ca i=cb' i)→s=true)) ?_ ?_
  ·have hKr:Keep W' wr.drew:=(Keep.of_below hbr (Nat.le_refl _)).trans (Keep.drew wr)
   have hKw:Keep W wr.drew:=(Keep.of_below hbX5 (by omega)).trans hKr
   have f1:=hKr _ _ x2
   have f2:=hKr _ _ y2
   have f3:=(hKW.trans hKw) _ _ ha2
   have f4:=(hKW.trans hKw) _ _ hb3
   have f5:=hKw _ _ (hcc i1 (by omega))
   have f6:=hKw _ _ (hcc i2 (by omega))
   refine AZ mixed (fun w'=>w'=wr.drew) [(0,false),(1,false),(2,false),(3,false),(4,false),(5,false),(6,false),(7,false),(8,false),(9,false),(10,false),(11,false),(12,false),(13,false),(14,false),(15,false),(16,false),(17,false),(18,false),(19,false),(20,false)] (by kernel_rfl) rfl ?_
   rw[hW7]
   generalize wr.drew=Wd at *
   cases s with
   |false=>
    refine Aj rfl (fun _ _=>Ad) (Aj rfl (fun _ _=>Ad) (AE rfl rfl (AE rfl rfl (AE rfl rfl (AE rfl rfl (AE rfl rfl (AE rfl rfl (AE rfl rfl (AE rfl rfl (AE rfl rfl (AE rfl rfl ?_)))))))))))
    refine AE rfl rfl (AE rfl rfl (AE rfl rfl (AE rfl rfl (AE rfl rfl (AE rfl rfl (AE rfl rfl (Aj rfl (fun _ _=>AH rfl) (Aj rfl (fun _ _=>Ah) (AR ?_)))))))))
    exact AS ⟨false,As rfl ⟨rfl,rfl,rfl,rfl,rfl,rfl,rfl,rfl,rfl,rfl,rfl,rfl,rfl,rfl,rfl,rfl,trivial⟩,rfl,hs⟩
   |true=>
    refine Aj rfl (fun _ _=>Ad) (Aj rfl (fun _ _=>Ad) (AC rfl rfl (fun _ _=>Ad) (AC rfl rfl (fun _ _=>Ak rfl (Al rfl)) (AC rfl rfl (fun _ hS=>Ai rfl (Ag rfl) (by cases hS;exact f1)) ?_))))
    refine AC rfl rfl (fun _ _=>Ad) (AC rfl rfl (fun _ _=>x_index1 rfl rfl (An rfl) hqm) (AC rfl rfl (fun _ hS=>Ai rfl (Ag rfl) (by cases hS;exact f3)) ?_))
    refine AC rfl rfl (fun _ _=>A0 (i:=i1) hvc rfl (by omega) (An rfl) (by omega)) (AC rfl rfl (fun _ hS=>Ai rfl (Ag rfl) (by cases hS;exact f5)) ?_)
    refine AC rfl rfl (fun _ _=>Ad) (AC rfl rfl (fun _ _=>Ak rfl (Al rfl)) (AC rfl rfl (fun _ hS=>Ai rfl (Ag rfl) (by cases hS;exact f2)) ?_))
    refine AC rfl rfl (fun _ _=>Ad) (AC rfl rfl (fun _ _=>x_index1 rfl rfl (An rfl) hqm) (AC rfl rfl (fun _ hS=>Ai rfl (Ag rfl) (by cases hS;exact f4)) ?_))
    refine AC rfl rfl (fun _ _=>A0 (i:=i2) hvc rfl (by omega) (An rfl) (by omega)) (AC rfl rfl (fun _ hS=>Ai rfl (Ag rfl) (by cases hS;exact f6)) ?_)
    refine AC rfl rfl (fun _ _=>Bi rfl rfl) (Aj rfl (fun _ _=>AN rfl) (Aj rfl (fun _ _=>Ah) (AR ?_)))
    refine AS ⟨decide (c i1=c i2),As rfl ⟨rfl,rfl,rfl,rfl,rfl,rfl,rfl,rfl,rfl,rfl,rfl,rfl,rfl,rfl,rfl,rfl,trivial⟩,rfl,fun h=>decide_eq_true ?_⟩
    rw[← d1,← d2];exact h q hqm
  rintro e W8 ⟨s2,⟨t,rfl⟩,rfl,hs2⟩
  have hKr:Keep W' W8.drew:=(Keep.of_below hbr7 (Nat.le_refl _)).trans (Keep.drew W8)
  have hKw:Keep W W8.drew:=(Keep.of_below hbX5 (by omega)).trans hKr
  have f1:=hKr _ _ x2
  have f2:=hKr _ _ y2
  have f3:=(hKW.trans hKw) _ _ ha2
  have f4:=(hKW.trans hKw) _ _ hb4'
  have f5:=hKw _ _ (hcc i1 (by omega))
  have f6:=hKw _ _ (hcc i3 (by omega))
  refine AZ mixed (fun w'=>w'=W8.drew) [(0,false),(1,false),(2,false),(3,false),(4,false),(5,false),(6,false),(7,false),(8,false),(9,false),(10,false),(11,false),(12,false),(13,false),(14,false),(15,false),(16,false),(17,false),(18,false),(19,false),(20,false),(21,false),(22,false),(23,false),(24,false),(25,false)] (by kernel_rfl) rfl ?_
  have hbr8:Below W'.heap.size W' W8.drew:=hbr7.drew
  generalize W8.drew=Wd at *
  cases u with
  |false=>
   refine Aj rfl (fun _ _=>Ad) (Aj rfl (fun _ _=>Ad) (AE rfl rfl (AE rfl rfl (AE rfl rfl (AE rfl rfl (AE rfl rfl (AE rfl rfl (AE rfl rfl (AE rfl rfl (AE rfl rfl (AE rfl rfl ?_)))))))))))
   refine AE rfl rfl (AE rfl rfl (AE rfl rfl (AE rfl rfl (AE rfl rfl (AE rfl rfl (AE rfl rfl (AE rfl rfl (AE rfl rfl (AE rfl rfl (AE rfl rfl (AE rfl rfl ?_)))))))))))
   refine Aj rfl (fun _ _=>AH rfl) (Aj rfl (fun _ _=>Ah) (AR (Ap (Aa (Ac (Ab (x_inc rfl rfl (by omega)) rfl (Ab Ad rfl (Af ?_))))))))
   refine Av (m - (q+1)) (by omega) ⟨q+1,s2,false,by omega,As rfl ⟨rfl,rfl,rfl,rfl,rfl,rfl,rfl,rfl,rfl,rfl,rfl,rfl,rfl,rfl,rfl,trivial⟩,hbr8,hs2,hu,rfl⟩
  |true=>
   refine Aj rfl (fun _ _=>Ad) (Aj rfl (fun _ _=>Ad) (AC rfl rfl (fun _ _=>Ad) (AC rfl rfl (fun _ _=>Ak rfl (Al rfl)) (AC rfl rfl (fun _ hS=>Ai rfl (Ag rfl) (by cases hS;exact f1)) ?_))))
   refine AC rfl rfl (fun _ _=>Ad) (AC rfl rfl (fun _ _=>x_index1 rfl rfl (An rfl) hqm) (AC rfl rfl (fun _ hS=>Ai rfl (Ag rfl) (by cases hS;exact f3)) ?_))
   refine AC rfl rfl (fun _ _=>A0 (i:=i1) hvc rfl (by omega) (An rfl) (by omega)) (AC rfl rfl (fun _ hS=>Ai rfl (Ag rfl) (by cases hS;exact f5)) ?_)
   refine AC rfl rfl (fun _ _=>Ad) (AC rfl rfl (fun _ _=>Ak rfl (Al rfl)) (AC rfl rfl (fun _ hS=>Ai rfl (Ag rfl) (by cases hS;exact f2)) ?_))
   refine AC rfl rfl (fun _ _=>Ak rfl (Al rfl)) (AC rfl rfl (fun _ hS=>Ai rfl (Ag rfl) (by cases hS;exact f2)) ?_)
   refine AC rfl rfl (fun _ _=>AP rfl (An rfl)) (AC rfl rfl (fun _ _=>B5 rfl rfl (by omega)) (AC rfl rfl (fun _ _=>Ad) (AC rfl rfl (fun _ _=>B5 rfl rfl (by omega)) (AC rfl rfl (fun _ _=>A0 (i:=m - 1 - q) rfl rfl (by omega) (An rfl) (by omega)) (AC rfl rfl (fun _ hS=>Ai rfl (Ag rfl) (by cases hS;exact f4)) ?_)))))
   refine AC rfl rfl (fun _ _=>A0 (i:=i3) hvc rfl (by omega) (An rfl) (by omega)) (AC rfl rfl (fun _ hS=>Ai rfl (Ag rfl) (by cases hS;exact f6)) ?_)
   refine AC rfl rfl (fun _ _=>Bi rfl rfl) (Aj rfl (fun _ _=>AN rfl) (Aj rfl (fun _ _=>Ah) (AR (Ap (Aa (Ac (Ab (x_inc rfl rfl (by omega)) rfl (Ab Ad rfl (Af ?_)))))))))
   refine Av (m - (q+1)) (by omega) ⟨q+1,s2,decide (c i1=c i3),by omega,As rfl ⟨rfl,rfl,rfl,rfl,rfl,rfl,rfl,rfl,rfl,rfl,rfl,rfl,rfl,rfl,rfl,trivial⟩,hbr8,hs2,(fun _ h=>decide_eq_true ?_),rfl⟩
   rw[← d1,← d3];exact h q hqm
 rintro e wr ⟨s,u,⟨t,rfl⟩,hbr,hsu⟩
 have hbE:Below S1 W wr:=hbX5.trans (hbr.mono (by omega))
 refine Ae (Ac ?_)
 cases s with
 |true=>
  refine Ab Ad rfl (Ab (BQ rfl) rfl (Ab Ad rfl (Ax rfl rfl (Ax rfl rfl (Ab (AH rfl) rfl (Af (Aa (A6 rfl rfl (Ar (Ap (Aa ?_)))))))))))
  refine Ac (Ab (x_inc rfl rfl (by omega)) rfl (Ab Ad rfl (Af ?_)))
  exact Av (L.length - 1 - (j+1)) (by omega) ⟨j+1,by omega,As rfl ⟨rfl,rfl,rfl,rfl,rfl,rfl,rfl,rfl,rfl,trivial⟩,hbE,rfl⟩
 |false=>
  cases u with
  |false=>exact absurd hsu (fun h=>h.elim (fun h=>by cases h) (fun h=>by cases h))
  |true=>
   refine Ab Ad rfl (Ab (BQ rfl) rfl (Ab Ad rfl (Aq rfl rfl Ad rfl (Aq rfl rfl (BQ rfl) rfl (Ab (AN rfl) rfl (Af (Aa (A6 rfl rfl (Ar (Ap (Aa ?_)))))))))))
   refine Ac (Ab (x_inc rfl rfl (by omega)) rfl (Ab Ad rfl (Af ?_)))
   exact Av (L.length - 1 - (j+1)) (by omega) ⟨j+1,by omega,As rfl ⟨rfl,rfl,rfl,rfl,rfl,rfl,rfl,rfl,rfl,trivial⟩,hbE,rfl⟩
end Go.Proofs.YteepnepebilckaaGreatDoor
namespace Go.Proofs.YteepnepebilckaaGreatDoor
open Go Go.ChangeShapes Go.WideShapes Go.ChangeAt Go.RowKit Go.Deep Go.Joins
section
variable {H : Type} {enc : TypeId × Value → H} {w : World} {spare : Nat → Bool}
theorem len4 {α:Type} {l:List α} (h:l.length=4):∃a b c d,l=[a,b,c,d]:=by
 match l,h with
 | [a,b,c,d],_=>exact ⟨a,b,c,d,rfl⟩
theorem open_intsV {t e:TypeId} {fuel:Nat} {v:Value} {x:DataW H×List MemPlace} (ht:Tryz.prog.underlying t=some (.slice e)) (he:Tryz.prog.underlying e=some (.int .i64)) (hc:Tryz.prog.cellsOf e=1)
 (h:DataW.trod enc Tryz.prog w 0 (fun _=>true) true fuel t [v]=some x):∃l,IntsV w v l:=by
 rcases open_ints ht he hc h with ⟨h1,_⟩|⟨a,len,cap,zs,h1,_,hl,_,hz,_,hcell,_⟩
 ·simp only [List.cons.injEq,and_true] at h1
  subst h1
  exact ⟨[],none,0,rfl,Nat.le_refl _,.inl rfl⟩
 simp only [List.cons.injEq,and_true] at h1
 subst h1
 simp only [if_true] at hz
 have hlen:(zs.take len).length=len:=by rw[List.length_take];omega
 refine ⟨zs.take len,some a,cap,by rw[hlen],by rw[hlen];exact hl,?_⟩
 cases len with
 |zero=>exact .inl (by simp)
 |succ n=>
  right
  obtain ⟨b,o,spot⟩:=a
  have h0:=hcell 0 (by omega)
  have hs:spot=none:=by
   have:=World.cell?_spot h0
   simpa [Addr.add] using this
  subst hs
  refine ⟨b,o,rfl,fun k hk=>?_⟩
  rw[hlen] at hk
  have h1:=hcell k (by omega)
  rw[add_plain] at h1
  have hg:(zs.take (n+1)).getD k 0=zs.getD k 0:=by
   rw[List.getD_eq_getElem?_getD,List.getD_eq_getElem?_getD,List.getElem?_take,if_pos hk]
  rw[h1,hg]
theorem D0 {t:TypeId} {f0 f1 f2 f3:Field} {fuel:Nat} {b o:Nat} {cs:List Value} {x:DataW H×List MemPlace}
 (ht:Tryz.prog.underlying t=some (.struct #[f0,f1,f2,f3])) (hC:Tryz.prog.cellsOf t=4)
 (h0:f0.offset=0∧Tryz.prog.cellsOf f0.type=1∧Tryz.prog.underlying f0.type=some (.int .i64)) (h1:f1.offset=1∧Tryz.prog.cellsOf f1.type=1∧Tryz.prog.underlying f1.type=some (.int .i64))
 (h2:f2.offset=2∧Tryz.prog.cellsOf f2.type=1∧f2.type=35) (h3:f3.offset=3∧Tryz.prog.cellsOf f3.type=1∧Tryz.prog.underlying f3.type=some (.int .i64))
 (hcs:∀i,i<4→w.cell? ⟨b,o+i,none⟩=cs[i]?)
 (h:DataW.trod enc Tryz.prog w 0 (fun _=>true) true fuel t cs=some x):∃p q l z,Quad w b o p q l z:=by
 obtain ⟨xs,n,_,_,hl,hx,hf⟩:=DataW.trod_struct ht h
 rw[hC] at hl
 obtain ⟨c0,c1,c2,c3,rfl⟩:=len4 hl
 obtain ⟨y0,y1,y2,y3,rfl⟩:=len4 (hx.trans rfl)
 have k0:=hf 0 f0 rfl
 have k1:=hf 1 f1 rfl
 have k2:=hf 2 f2 rfl
 have k3:=hf 3 f3 rfl
 rw[h0.1,h0.2.1] at k0
 rw[h1.1,h1.2.1] at k1
 rw[h2.1,h2.2.1,h2.2.2] at k2
 rw[h3.1,h3.2.1] at k3
 obtain ⟨p,e0,_⟩:=DataW.trod_int h0.2.2 (show DataW.trod enc Tryz.prog w 0 (fun _=>true) true n f0.type [c0]=some y0 from k0)
 obtain ⟨q,e1,_⟩:=DataW.trod_int h1.2.2 (show DataW.trod enc Tryz.prog w 0 (fun _=>true) true n f1.type [c1]=some y1 from k1)
 obtain ⟨z,e3,_⟩:=DataW.trod_int h3.2.2 (show DataW.trod enc Tryz.prog w 0 (fun _=>true) true n f3.type [c3]=some y3 from k3)
 obtain ⟨l,hli⟩:=open_intsV Tryz.underlying35 Tryz.underlying3 (by kernel_rfl) (show DataW.trod enc Tryz.prog w 0 (fun _=>true) true n 35 [c2]=some y2 from k2)
 simp only [List.cons.injEq,and_true] at e0 e1 e3
 subst e0;subst e1;subst e3
 refine ⟨p,q,l,z,c2,fun j v hj=>?_,hli⟩
 have hlt:j<4:=by
  have:=(List.getElem?_eq_some_iff.1 hj).1
  simpa using this
 rw[hcs j hlt];exact hj
theorem open_vals {fuel:Nat} {v:Value} {x:DataW H×List MemPlace} (h:DataW.trod enc Tryz.prog w 0 (fun _=>true) true fuel 22 [v]=some x):∃l,ValsV w v l:=by
 rcases open_slice Tryz.underlying22 h with ⟨h1,_⟩|⟨a,len,cap,m,n,D,Pl,h1,_,hl,_,hm,_,hx⟩
 ·simp only [List.cons.injEq,and_true] at h1
  subst h1
  exact ⟨[],none,0,rfl,.inl rfl⟩
 simp only [List.cons.injEq,and_true] at h1
 subst h1
 simp only [if_true] at hm
 have hC:Tryz.prog.cellsOf 48=4:=by kernel_rfl
 cases len with
 |zero=>exact ⟨[],some a,cap,rfl,.inl rfl⟩
 |succ k=>
  obtain ⟨b,o,spot⟩:=a
  have hs:spot=none:=by
   obtain ⟨cs',h2,_⟩:=hx 0 (by omega)
   obtain ⟨_,h3,h4⟩:=World.cells?_some h2
   have h5:=h4 0 (by rw[hC];omega)
   rw[List.getElem?_eq_getElem (by omega)] at h5
   have:=World.cell?_spot h5
   simpa [Addr.add] using this
  subst hs
  have hq:∀i,i<k+1→∃(y:Int×Int×List Int×Int),Quad w b (o+i * 4) y.1 y.2.1 y.2.2.1 y.2.2.2:=fun i hi=>by
   obtain ⟨cs',h2,h3⟩:=hx i (by omega)
   rw[hC] at h2
   obtain ⟨_,h4,h5⟩:=World.cells?_some h2
   obtain ⟨p,q,l,z,hq⟩:=D0 (b:=b) (o:=o+i * 4) Tryz.underlying48 hC ⟨rfl,by kernel_rfl,Tryz.underlying3⟩ ⟨rfl,by kernel_rfl,Tryz.underlying3⟩ ⟨rfl,by kernel_rfl,rfl⟩ ⟨rfl,by kernel_rfl,Tryz.underlying2⟩ (fun j hj=>by
    have:=h5 j hj
    rw[add_plain,add_plain] at this
    exact this) h3
   exact ⟨(p,q,l,z),hq⟩
  obtain ⟨Y,hY⟩:=choose_lt hq
  refine ⟨(List.range (k+1)).map fun i=>⟨(Y i).1,(Y i).2.1,(Y i).2.2.1,(Y i).2.2.2⟩,some ⟨b,o,none⟩,cap,by simp,.inr ⟨b,o,rfl,fun i hi=>?_⟩⟩
  have hi':i<k+1:=by simpa using hi
  rw[List.getD_eq_getElem?_getD,List.getElem?_map,List.getElem?_range hi']
  exact hY i hi'
theorem open_blks {fuel:Nat} {v:Value} {x:DataW H×List MemPlace} (h:DataW.trod enc Tryz.prog w 0 (fun _=>true) true fuel 23 [v]=some x):∃l,BlksV w v l:=by
 rcases open_slice Tryz.underlying23 h with ⟨h1,_⟩|⟨a,len,cap,m,n,D,Pl,h1,_,hl,_,hm,_,hx⟩
 ·simp only [List.cons.injEq,and_true] at h1
  subst h1
  exact ⟨[],none,0,rfl,.inl rfl⟩
 simp only [List.cons.injEq,and_true] at h1
 subst h1
 simp only [if_true] at hm
 have hC:Tryz.prog.cellsOf 53=4:=by kernel_rfl
 cases len with
 |zero=>exact ⟨[],some a,cap,rfl,.inl rfl⟩
 |succ k=>
  obtain ⟨b,o,spot⟩:=a
  have hs:spot=none:=by
   obtain ⟨cs',h2,_⟩:=hx 0 (by omega)
   obtain ⟨_,h3,h4⟩:=World.cells?_some h2
   have h5:=h4 0 (by rw[hC];omega)
   rw[List.getElem?_eq_getElem (by omega)] at h5
   have:=World.cell?_spot h5
   simpa [Addr.add] using this
  subst hs
  have hq:∀i,i<k+1→∃(y:Int×Int×List Int×Int),Quad w b (o+i * 4) y.1 y.2.1 y.2.2.1 y.2.2.2:=fun i hi=>by
   obtain ⟨cs',h2,h3⟩:=hx i (by omega)
   rw[hC] at h2
   obtain ⟨_,h4,h5⟩:=World.cells?_some h2
   obtain ⟨p,q,l,z,hq⟩:=D0 (b:=b) (o:=o+i * 4) Tryz.underlying53 hC ⟨rfl,by kernel_rfl,Tryz.underlying3⟩ ⟨rfl,by kernel_rfl,Tryz.underlying3⟩ ⟨rfl,by kernel_rfl,rfl⟩ ⟨rfl,by kernel_rfl,Tryz.underlying3⟩ (fun j hj=>by
    have:=h5 j hj
    rw[add_plain,add_plain] at this
    exact this) h3
   exact ⟨(p,q,l,z),hq⟩
  obtain ⟨Y,hY⟩:=choose_lt hq
  refine ⟨(List.range (k+1)).map fun i=>⟨(Y i).1,(Y i).2.1,(Y i).2.2.1,(Y i).2.2.2⟩,some ⟨b,o,none⟩,cap,by simp,.inr ⟨b,o,rfl,fun i hi=>?_⟩⟩
  have hi':i<k+1:=by simpa using hi
  rw[List.getD_eq_getElem?_getD,List.getElem?_map,List.getElem?_range hi']
  exact hY i hi'
set_option maxRecDepth 100000 in
theorem GY {r:Reach} {b0:Nat} {v:Value} {d:DataW H} {p:List MemPlace} (hv:Value.okWide Tryz.prog w r b0 25 v)
 (h:DataW.Trod enc Tryz.prog w 0 (fun _=>true) true 25 v d p):∃f,FnV w v f:=by
 obtain ⟨v0,v1,y0,y1,n,rfl,_,_,h0,h1⟩:=open_agg2 Tryz.underlying25 (by kernel_rfl) (by kernel_rfl) hv h
 obtain ⟨l0,k0⟩:=open_vals h0
 obtain ⟨l1,k1⟩:=open_blks h1
 exact ⟨⟨l0,l1⟩,v0,v1,rfl,k0,k1⟩
end
theorem ownK:ownKnob Tryz.prog.godebug=none:=by kernel_rfl
theorem laidK:laidOutB Tryz.prog=true:=by kernel_rfl
end Go.Proofs.YteepnepebilckaaGreatDoor
namespace Go.Proofs.YteepnepebilckaaGreatDoor
open Go Go.ChangeShapes Go.WideShapes Go.ChangeAt Go.WideElems Go.RowKit Go.Deep Go.Joins
def Ed:String:= "loop.example/pub-passesoverblocks/pub/ssapasses.opcodeTable"
def D9:List (String×DataW Unit):=[(Ed,Rows.laid_loop_example_pub_passesoverblocks_pub_ssapasses_opcodeTable)]
theorem gOp:Tryz.prog.globalNamed Ed=some 0:=by kernel_rfl
theorem tOp:(Tryz.prog.globals[0]?).map (·.type)=some 117:=by kernel_rfl
theorem gs_one {H:Type} {enc:TypeId×Value→H} {W:World} {sp:Nat→Bool} {gs:List (DataW H)} {q:List MemPlace} (h:DataW.TrodVars enc Tryz.prog W sp [Ed] gs q):∃d,gs=[d]:=by
 obtain ⟨_,_,_,_,d,_,e,_⟩:=trodVars_one h
 exact ⟨d,e⟩
set_option maxRecDepth 100000 in
theorem Gq (os:Os) (args:Array Value):laidMetH Tryz.prog D9 ((World.doorLaid Tryz.prog 22 os).forCall (fun _ _=>0) ⟨#[],args,[]⟩).memory:=
 laidMetH_of_parts3 (fuel:=8) (laidMet_of_run' 8 (by kernel_rfl) (by kernel_rfl)) (by kernel_rfl) (by kernel_rfl)
theorem F7:∀k,k<21→ [false,false,true,false,true,true,true,true,false,false,false,true,true,false,false,false,false,false,false,false,false][k]? =some (comm k):=by decide
set_option maxRecDepth 100000 in
theorem tabl_of_laid {W:World} (h:laidMetH Tryz.prog D9 W):Tabl W:=by
 rw[MakeChecks.laidMetH_plain _ _ _ (by kernel_rfl)] at h
 obtain ⟨ps,⟨g0,t0,cs0,f0,p0,q0,hg0,ht0,hv0,hd0,_⟩,_,_⟩:=h
 obtain rfl:=Option.some.inj (gOp.symm.trans hg0)
 obtain rfl:=Option.some.inj (tOp.symm.trans ht0)
 intro k hk
 have hc:=World.var?_cell hg0 hv0 k
 obtain ⟨xs,m1,rfl,hx1,hlen,hn3,hel⟩:=DataW.trod_array Tryz.underlying117 hd0
 have c1:Tryz.prog.cellsOf 116=1:=by kernel_rfl
 have cb:Tryz.prog.cellsOf 4=1:=by kernel_rfl
 have h0:=hel k hk
 rw[c1,Nat.mul_one] at h0
 simp only [Prod.mk.injEq] at hx1
 have hxs:(xs.map (·.1))[k]? =some (.agg [.lit (.bool (comm k))]):=by
  have e:DataW.agg (xs.map (·.1))=(.agg (([false,false,true,false,true,true,true,true,false,false,false,true,true,false,false,false,false,false,false,false,false]:List Bool).map fun b=>.agg [.lit (.bool b)]):DataW Unit):=hx1.1.symm
  injection e with e
  rw[e,List.getElem?_map,F7 k hk]
  rfl
 obtain ⟨y,hy,hy2⟩:∃y,xs[k]? =some y∧y.1= .agg [.lit (.bool (comm k))]:=by
  rw[List.getElem?_map] at hxs
  obtain ⟨y,h1,h2⟩:=Option.map_eq_some_iff.1 hxs
  exact ⟨y,h1,h2⟩
 rw[hy] at h0
 obtain ⟨y0,n,e1,hl,h1⟩:=trod_struct1 Tryz.underlying116 h0
 rw[e1] at hy2
 injection hy2 with hy2
 injection hy2 with hy2 _
 rw[c1] at hl
 have hlk:k<cs0.toList.length:=by
  rw[List.length_take,List.length_drop] at hl
  omega
 have hd:(cs0.toList.drop k).take 1=[cs0.toList[k]]:=by
  rw[List.drop_eq_getElem_cons hlk];rfl
 rw[hd] at h1
 have h1:DataW.trod (fun _=>()) Tryz.prog W 0 (fun _=>true) false n 4 [cs0.toList[k]]=some y0:=by
  have:(([cs0.toList[k]].drop 0).take (Tryz.prog.cellsOf 4))=[cs0.toList[k]]:=by rw[cb];rfl
  rw[← this];exact h1
 obtain ⟨b,e2,e3⟩:=DataW.trod_bool Tryz.underlying4 h1
 rw[hc]
 have hk2:k<cs0.size:=by simpa using hlk
 rw[Array.getElem?_eq_getElem hk2]
 simp only [List.cons.injEq,and_true] at e2
 have e4:cs0[k]= .bool b:=by simpa using e2
 rw[e4]
 rw[e3] at hy2
 injection hy2 with hy2
 injection hy2 with hy2
 rw[hy2]
end Go.Proofs.YteepnepebilckaaGreatDoor
namespace Go.Proofs.YteepnepebilckaaGreatDoor
open Go Go.ChangeShapes Go.WideShapes Go.ChangeAt Go.WideElems Go.RowKit Go.Deep Go.Joins
set_option maxRecDepth 100000 in
theorem fnPartitionAlike_lifted (os:Os) (started:os.Started) (H:Type) (enc:TypeId×Value→H):
 ReturnsInHanded {} Tryz.checked os 3 .any (fun w args=>(Rows.fnPartitionAlikeSpec.pre enc Tryz.prog Tryz.f3 [] false w args∧laidMetH Tryz.prog D9 w)∧sizedMet enc Tryz.prog Tryz.f3 (OpenSpec.ofChange Rows.fnPartitionAlikeSpec) false w args) (Rows.fnPartitionAlikeSpec.post enc Tryz.prog Tryz.f3 false true false false):=by
 refine returnsInHanded_of_change_and (C:=Tryz.checked) (X:=fun w _=>laidMetH Tryz.prog D9 w) (fun _ _ _ hh h=>h.of_heap hh) ownK started (by kernel_rfl) Tryz.func3
  (ChangeSpec.witness_shaped (enc:=enc) (C:=Tryz.checked) (os:=os) (X:=fun w _=>laidMetH Tryz.prog D9 w) false (World.doorLaid Tryz.prog 22 os) #[.agg #[.slice none 0 0,.slice none 0 0]] 8 rfl (World.shaped_of_RefB (by kernel_rfl) (by kernel_rfl)) (by kernel_rfl) (by kernel_rfl) (by kernel_rfl) (Gq os _)) ?_
 intro W base args ds gs before hval0 hW _ _ hL _
 have hval:∀(j:Nat) t v,Tryz.f3.params[j]? =some t→args[j]? =some v→Value.okWide Tryz.prog W .any base t v:=hval0
 have hW':=hW
 obtain ⟨p,q,hA0,hV0,rfl,hfz,hnd⟩:=hW
 have hV:DataW.TrodVars enc Tryz.prog W (fun _=>true) [Ed] gs q:=hV0
 have hA:DataW.TrodAll enc Tryz.prog W 0 (fun _=>true) true Tryz.f3.params.toList args.toList ds p:=hA0
 rw[Tryz.params3] at hA hval
 obtain ⟨v0,d0,rfl,rfl,h0⟩:=trodAll_one hA
 obtain ⟨gd,rfl⟩:=gs_one hV
 obtain ⟨f,hf⟩:=GY (hval 0 25 v0 rfl rfl) h0
 have hlt:∀x∈p,x.block<W.heap.size:=fun x hx=>hW'.lt x (List.mem_append_left _ hx)
 have ht:=tabl_of_laid hL
 clear hA0 hval0
 refine Calls.mono (FnPartitionAlike_ret hf ht) fun e W' ⟨v,he,hv,hb⟩=>?_
 subst he;subst hv
 refine ⟨_,rfl,_,_,_,[],p,q,hW',trodAll_mk1 (shut_bool Tryz.underlying4 true),trodAll_mk1 ?_,Below.trodVars laidK hb (by kernel_rfl) hV,hb.frame _,fun h=>by cases h⟩
 exact WideElems.Trod_stays laidK (by kernel_rfl) (of_decide_eq_true (by kernel_rfl)) h0 (fun x hx=>hb.same (hlt x hx)) (fun x hx=>by simpa using hlt x hx)
theorem fnPartitionAlike_holds:Rows.FnPartitionAlikeSaid:=
 OpenClaim.holds_of_wide 3 Tryz.f3 rfl rfl rfl rfl rfl rfl rfl ⟨rfl,rfl,rfl,rfl,rfl⟩ rfl rfl rfl rfl rfl (by kernel_rfl) Tryz.func3 (by kernel_rfl)
  (of_decide_eq_true (by kernel_rfl)) (by unfold Func.isWrapper;first|(rw [if_pos (by decide +kernel)];kernel_rfl)|(rw [if_neg (by decide +kernel)];exact ⟨rfl,rfl⟩))
  (fun os started H enc _=>fnPartitionAlike_lifted os started H enc)
theorem fnPartitionAlike_card:Rows.FnPartitionAlikeCardSaid:=
 Claim7.holds_tied_plain_at .later [] [.data] true (true,"4ef5ec6ea8e1c4f87708987f2a68e2b2e34fd6bc534d37cce04b16d691dee687") false
  fnPartitionAlike_holds (fun _ h=>by cases h) (by kernel_rfl) (fun _ h=>by cases h) fnPartitionAlike_row_tie rfl ⟨rfl,rfl⟩ (by kernel_rfl) rfl
  (fun f fn hf hfn=>by
    obtain rfl:f=3:=Option.some.inj ((show Tryz.prog.funcNamed "loop.example/pub-passesoverblocks/laws.FnPartitionAlike" =some 3 by kernel_rfl).symm.trans hf) |>.symm
    obtain rfl:fn=Tryz.f3:=(Option.some.inj (Tryz.func3.symm.trans hfn)).symm
    exact ⟨by kernel_rfl,fun j t ht=>by
     rw[Tryz.params3] at ht
     have h3:t=25:=by
      rcases j with _|_|j
      ·simp at ht;simp [ht]
      ·simp at ht;try simp [ht]
      simp at ht
     exact h3 ▸ (show Tryz.prog.wantsStandIn 25=false by kernel_rfl)⟩)
  (by kernel_rfl)
end Go.Proofs.YteepnepebilckaaGreatDoor
