/- The law FnPartitionAlike returns true for every input in which the opcode table reads as laid, and its argument reads as it did, the table being tied to the text of the program. -/
import Derived.Test.YteepnepebilckaaGreatDoorCU26
namespace Go.Proofs.YteepnepebilckaaGreatDoor
open Go Go.Eng Go.RowKit
def BZ (o:Int):Prop:=o=2∨o=4∨(5≤o∧o≤7)∨o=11∨o=12
instance (o:Int):Decidable (BZ o):=inferInstanceAs (Decidable (_∨_))
theorem comm_I {o:Int} (h0:0≤o):comm o.toNat=true↔BZ o:=by
 obtain ⟨k,rfl⟩:∃k:Nat,o=(k:Int):=⟨_,(Int.toNat_of_nonneg h0).symm⟩
 unfold BZ comm
 simp
 omega
def AlkC (f:Fn) (c:Nat→Int) (a b:Nat):Prop:=((f.v a).op=(f.v b).op∧(f.v a).aux=(f.v b).aux∧(f.v a).args.length=(f.v b).args.length∧((f.v a).op=13→(f.v a).blk=(f.v b).blk))∧
 ∀k,k<(f.v a).args.length→c ((f.v a).args.getD k 0).toNat=c ((f.v b).args.getD k 0).toNat
theorem CD {w:World} {v:Value} {c:Nat→Int} {n:Nat} (h:IntsV w v ((List.range n).map c)) {k:Nat} (hk:k<n):∃b o cap,v= .slice (some ⟨b,o,none⟩) n cap∧w.cell? ⟨b,o+k,none⟩=some (.int .i64 (c k)):=by
 obtain ⟨a,cap,rfl,hc⟩:=h
 obtain ⟨b,o,rfl,h1⟩:=hc.get (k:=k) (by simpa using hk)
 refine ⟨b,o,cap,by simp,?_⟩
 rw[h1,List.getD_eq_getElem?_getD,List.getElem?_map,List.getElem?_range hk];rfl
def planK:PT:=.rd 0 (.rd 1 (.rd 2 (.rd 3 (.rd 4 (.rd 5 (.rd 6 (.rd 7 (.rd 8 (.rd 9 (.fork 10 (.wr false 11 (.wr false 12 (.wr false 13 .nil))) 11 (.wr false 10 (.wr false 12 (.wr false 13 .nil)))))))))))))
set_option maxHeartbeats 4000000
attribute [local irreducible] EC EL DL Ret thenQ blockQ Bd bodyQ onlyN execOp Sem.run World.cell? World.frozen? World.setCell World.alloc
theorem DF {w:World} (o:Int):Ret Tryz.prog 14 #[.int .i64 o] w fun v w'=>v= .bool (decide (BZ o))∧w'=w:=by
 refine ret_of_EC Tryz.func14 rfl rfl (Ae (Ac (Ab Ah rfl (Af (Aa (Ae (Ac (Ab Ad rfl (Ab (Bi rfl rfl) rfl (Ab Ad rfl ?_))))))))))
 have yes:BZ o→Value.bool true=Value.bool (decide (BZ o)):=fun h=>congrArg Value.bool (decide_eq_true h).symm
 by_cases h2:o=2
 ·rw[decide_eq_true h2]
  refine Ax rfl rfl (Ax rfl rfl (Ab (AN rfl) rfl (Ab Ad rfl (Ax rfl rfl (Ax rfl rfl (Ax rfl rfl (Bm rfl rfl (Bm rfl rfl (Ax rfl rfl (Ab (AN rfl) rfl (Ab Ad rfl ?_)))))))))))
  refine Ax rfl rfl (Ax rfl rfl (Ab (AN rfl) rfl (Ab Ad rfl (Ax rfl rfl (Ax rfl rfl (Ab (AN rfl) rfl (Ab Ah rfl (Af (Aa (AF ?_))))))))))
  exact Aw rfl rfl rfl ⟨yes (.inl h2),rfl⟩
 rw[decide_eq_false h2]
 refine Aq rfl rfl Ad rfl (Aq rfl rfl (Bi rfl rfl) rfl (Ab (AH rfl) rfl (Ab Ad rfl ?_)))
 by_cases h4:o=4
 ·rw[decide_eq_true h4]
  refine Ax rfl rfl (Ax rfl rfl (Ax rfl rfl (Bm rfl rfl (Bm rfl rfl (Ax rfl rfl (Ab (AN rfl) rfl (Ab Ad rfl (Ax rfl rfl (Ax rfl rfl (Ab (AN rfl) rfl (Ab Ad rfl ?_)))))))))))
  refine Ax rfl rfl (Ax rfl rfl (Ab (AN rfl) rfl (Ab Ah rfl (Af (Aa (AF ?_))))))
  exact Aw rfl rfl rfl ⟨yes (.inr (.inl h4)),rfl⟩
 rw[decide_eq_false h4]
 refine Aq rfl rfl Ad rfl (Aq rfl rfl (CT rfl rfl) rfl (Aq rfl rfl Ad rfl ?_))
 have fin:¬ (5≤o∧o≤7)→(o=11→Value.bool true=Value.bool (decide (BZ o)))∧(o=12→Value.bool true=Value.bool (decide (BZ o)))∧(¬ o=11→¬ o=12→Value.bool false=Value.bool (decide (BZ o))):=fun h5=>
  ⟨fun h=>yes (.inr (.inr (.inr (.inl h)))),fun h=>yes (.inr (.inr (.inr (.inr h)))),fun h11 h12=>congrArg Value.bool (decide_eq_false fun h=>h.elim h2 fun h=>h.elim h4 fun h=>h.elim h5 fun h=>h.elim h11 h12).symm⟩
 by_cases h5:5≤o
 ·rw[decide_eq_true h5]
  refine Aq rfl rfl Ad rfl (Aq rfl rfl (Da rfl rfl) rfl (Aq rfl rfl (AN rfl) rfl (Ab (AH rfl) rfl (Ab Ad rfl ?_))))
  by_cases h7:o≤7
  ·rw[decide_eq_true h7]
   refine Ax rfl rfl (Ax rfl rfl (Ab (AN rfl) rfl (Ab Ad rfl (Ax rfl rfl (Ax rfl rfl (Ab (AN rfl) rfl (Ab Ah rfl (Af (Aa (AF ?_))))))))))
   exact Aw rfl rfl rfl ⟨yes (.inr (.inr (.inl ⟨h5,h7⟩))),rfl⟩
  rw[decide_eq_false h7]
  have fin:=fin fun h=>h7 h.2
  refine Aq rfl rfl Ad rfl (Aq rfl rfl (Bi rfl rfl) rfl (Ab (AH rfl) rfl (Ab Ad rfl ?_)))
  by_cases h11:o=11
  ·rw[decide_eq_true h11]
   refine Ax rfl rfl (Ax rfl rfl (Ab (AN rfl) rfl (Ab Ah rfl (Af (Aa (AF ?_))))))
   exact Aw rfl rfl rfl ⟨fin.1 h11,rfl⟩
  rw[decide_eq_false h11]
  refine Aq rfl rfl Ad rfl (Aq rfl rfl (Bi rfl rfl) rfl (Ab (AH rfl) rfl (Ab Ah rfl (Af (Aa ?_)))))
  by_cases h12:o=12
  ·rw[decide_eq_true h12]
   refine AF ?_
   exact Aw rfl rfl rfl ⟨fin.2.1 h12,rfl⟩
  rw[decide_eq_false h12]
  refine AF ?_
  exact Aw rfl rfl rfl ⟨fin.2.2 h11 h12,rfl⟩
 rw[decide_eq_false h5]
 have fin:=fin fun h=>h5 h.1
 refine Ax rfl rfl (Ax rfl rfl (Aq rfl rfl (AH rfl) rfl (Ab (AH rfl) rfl (Ab Ad rfl (Aq rfl rfl Ad rfl (Aq rfl rfl (Bi rfl rfl) rfl (Ab (AH rfl) rfl (Ab Ad rfl ?_))))))))
 by_cases h11:o=11
 ·rw[decide_eq_true h11]
  refine Ax rfl rfl (Ax rfl rfl (Ab (AN rfl) rfl (Ab Ah rfl (Af (Aa (AF ?_))))))
  exact Aw rfl rfl rfl ⟨fin.1 h11,rfl⟩
 rw[decide_eq_false h11]
 refine Aq rfl rfl Ad rfl (Aq rfl rfl (Bi rfl rfl) rfl (Ab (AH rfl) rfl (Ab Ah rfl (Af (Aa ?_)))))
 by_cases h12:o=12
 ·rw[decide_eq_true h12]
  refine AF ?_
  exact Aw rfl rfl rfl ⟨fin.2.1 h12,rfl⟩
 rw[decide_eq_false h12]
 refine AF ?_
 exact Aw rfl rfl rfl ⟨fin.2.2 h11 h12,rfl⟩
theorem alike_ret {w:World} {x vc:Value} {f:Fn} {c:Nat→Int} {a b:Nat} (hx:FnV w x f) (hc:IntsV w vc ((List.range f.vals.length).map c)) (ha:a<f.vals.length) (hb:b<f.vals.length) (har:∀i,i<f.vals.length→(f.v i).args.length≤100∧∀z∈(f.v i).args,0≤z∧z<f.vals.length):
 Ret Tryz.prog 30 #[x,vc,.int .i64 (a:Int),.int .i64 (b:Int)] w fun v w'=>∃r,v= .bool r∧(r=true↔AlkC f c a b)∧Below w.heap.size w w':=by
 obtain ⟨xv,xb,rfl,hvals,hblks⟩:=hx
 obtain ⟨av,cv,rfl,hvl⟩:=hvals
 refine ret_of_EC Tryz.func30 rfl rfl ?_
 obtain ⟨B,hBd⟩:∃B,B=w.heap.size:=⟨_,rfl⟩
 refine Ae (Ac (Ab (Bw (v:=.agg #[.slice av f.vals.length cv,xb]) rfl) rfl (el_new (.cells #[.slice av f.vals.length cv,xb] 30) B (by omega) fun wa hN1 hO1 hZ1 hB1 hK1=>?_)))
 obtain ⟨b1,hb1⟩:∃b1,b1=w.heap.size:=⟨_,rfl⟩
 rw[← hb1] at hN1 ⊢
 refine Ab Ah rfl (Af (Aa ?_))
 have hbw:Below b1 w wa:=by rw[hb1,← hBd];exact hB1
 have hfv:∀k,k<f.vals.length→∃bb ob,av=some ⟨bb,ob,none⟩∧Quad wa bb (ob+k * 4) (f.v k).op (f.v k).blk (f.v k).args (f.v k).aux:=fun k hk=>by
  obtain ⟨bb,ob,e,hq⟩:=hvl.resolve_left (fun e=>by rw[e] at hk;simp at hk)
  exact ⟨bb,ob,e,(hq k hk).keep hK1⟩
 obtain ⟨bb,ob,rfl,⟨s1,hcella,⟨sa,sac,rfl,hia⟩⟩⟩:=hfv a ha
 obtain ⟨_,_,e,⟨s2,hcellb,⟨sb,sbc,rfl,hib⟩⟩⟩:=hfv b hb
 cases e
 have g1:wa.cell? ⟨b1,0+0,none⟩=some (.slice (some ⟨bb,ob,none⟩) f.vals.length cv):=Am hN1 rfl
 obtain ⟨S0,hS0⟩:∃S0,S0=wa.heap.size:=⟨_,rfl⟩
 have hsz1:=hbw.size
 have hS0b:b1<S0:=by rw[hS0];exact Bb hN1
 have hKd:∀W,Below S0 wa W→Keep wa W:=fun W hb=>Keep.of_below hb (by omega)
 have hd0:Below S0 wa wa.drew:=(Below.refl _ _).drew
 refine AW (fun e W=>∃X Y,S0≤X∧S0≤Y∧X≠Y∧Below S0 wa W∧W.heap[X]? =some (.cells #[.int .i64 (f.v a).op,.int .i64 (f.v a).blk,.slice sa (f.v a).args.length sac,.int .i64 (f.v a).aux] 39 (0,0))∧
  W.heap[Y]? =some (.cells #[.int .i64 (f.v b).op,.int .i64 (f.v b).blk,.slice sb (f.v b).args.length sbc,.int .i64 (f.v b).aux] 39 (0,0))∧At e [(1,vc),(9,.pointer (some ⟨X,0,none⟩)),(10,.pointer (some ⟨Y,0,none⟩))]) ?_ ?_
 ·refine C6 mixed (fun W=>Below S0 wa W) planK (by kernel_rfl) hd0 ?_
  generalize wa.drew=W0 at hd0 ⊢
  refine Bn rfl (fun _ _=>Ak rfl (Al rfl)) (Bn rfl (fun W hS=>Ai rfl (Ag rfl) (hKd W hS _ _ g1)) (Bn rfl (fun _ _=>Ad) (Bn rfl (fun _ _=>A4 (n:=4) rfl rfl (An rfl) ha) (Bn rfl (fun W hS=>A5 rfl (A3 rfl) (hcella.keep (hKd W hS))) (Bn rfl (fun _ _=>Ak rfl (Al rfl)) (Bn rfl (fun W hS=>Ai rfl (Ag rfl) (hKd W hS _ _ g1)) (Bn rfl (fun _ _=>Ad) (Bn rfl (fun _ _=>A4 (n:=4) rfl rfl (An rfl) hb) (Bn rfl (fun W hS=>A5 rfl (A3 rfl) (hcellb.keep (hKd W hS))) ?_)))))))))
  have hz0:=hd0.size
  have key:∀(W:World) (p q:Nat) (ca cb:Array Value),Below S0 wa W→S0≤p→S0≤q→p≠q→ca.size=4→cb.size=4→W.heap[p]? =some (.cells ca 39 (0,0))→W.heap[q]? =some (.cells cb 39 (0,0))→
   ∃W2,W2=(W.setRow p #[.int .i64 (f.v a).op,.int .i64 (f.v a).blk,.slice sa (f.v a).args.length sac,.int .i64 (f.v a).aux]).setRow q #[.int .i64 (f.v b).op,.int .i64 (f.v b).blk,.slice sb (f.v b).args.length sbc,.int .i64 (f.v b).aux]∧Below S0 wa W2∧
    Below S0 wa (W.setRow p #[.int .i64 (f.v a).op,.int .i64 (f.v a).blk,.slice sa (f.v a).args.length sac,.int .i64 (f.v a).aux])∧
    (W.setRow p #[.int .i64 (f.v a).op,.int .i64 (f.v a).blk,.slice sa (f.v a).args.length sac,.int .i64 (f.v a).aux]).heap[q]? =some (.cells cb 39 (0,0))∧
    W2.heap[p]? =some (.cells #[.int .i64 (f.v a).op,.int .i64 (f.v a).blk,.slice sa (f.v a).args.length sac,.int .i64 (f.v a).aux] 39 (0,0))∧
    W2.heap[q]? =some (.cells #[.int .i64 (f.v b).op,.int .i64 (f.v b).blk,.slice sb (f.v b).args.length sbc,.int .i64 (f.v b).aux] 39 (0,0)):=by
   intro W p q ca cb hW hp hq hpq h4 h4' hca hcb
   have e1:=(setRow_other W p q #[.int .i64 (f.v a).op,.int .i64 (f.v a).blk,.slice sa (f.v a).args.length sac,.int .i64 (f.v a).aux] (fun e=>hpq e.symm)).trans hcb
   have e2:=setRow_heap W p _ #[.int .i64 (f.v a).op,.int .i64 (f.v a).blk,.slice sa (f.v a).args.length sac,.int .i64 (f.v a).aux] _ _ hca
   refine ⟨_,rfl,below_setRow' (below_setRow' hW hp _) hq _,below_setRow' hW hp _,e1,(setRow_other _ _ _ _ hpq).trans e2,setRow_heap _ _ _ _ _ _ e1⟩
  have hSW:S0≤W0.heap.size:=by omega
  have a1:=heap_alloc_new W0 (.cells #[.int .i64 0,.int .i64 0,nilS,.int .i64 0] 39)
  have a2:=Bx W0 (.cells #[.int .i64 0,.int .i64 0,nilS,.int .i64 0] 39)
  have a3:=hd0.alloc hSW (.cells #[.int .i64 0,.int .i64 0,nilS,.int .i64 0] 39)
  have hW1:∀z,z<W0.heap.size→(W0.alloc (.cells #[.int .i64 0,.int .i64 0,nilS,.int .i64 0] 39)).heap[z]? =W0.heap[z]? :=fun _ hi=>Below.heap_alloc _ _ _ hi
  generalize hWe:W0.alloc (.cells #[.int .i64 0,.int .i64 0,nilS,.int .i64 0] 39)=W1 at a1 a2 a3 hW1
  have c1:=heap_alloc_new W1 (.cells #[.int .i64 0,.int .i64 0,nilS,.int .i64 0] 39)
  have c3:=a3.alloc (by omega) (.cells #[.int .i64 0,.int .i64 0,nilS,.int .i64 0] 39)
  have c4:(W1.alloc (.cells #[.int .i64 0,.int .i64 0,nilS,.int .i64 0] 39)).heap[W0.heap.size]? =some (.cells #[.int .i64 0,.int .i64 0,nilS,.int .i64 0] 39 (0,0)):=(Below.heap_alloc _ _ _ (by omega)).trans a1
  generalize hWe2:W1.alloc (.cells #[.int .i64 0,.int .i64 0,nilS,.int .i64 0] 39)=W2 at c1 c3 c4
  obtain ⟨p,hp⟩:∃p,p=W0.heap.size:=⟨_,rfl⟩
  obtain ⟨q,hq⟩:∃q,q=W1.heap.size:=⟨_,rfl⟩
  rw[← hp] at c4
  rw[← hq] at c1
  refine C0 ?_ ?_
  ·obtain ⟨W4,h40,h41,h42,h43,h44,h45⟩:=key W2 p q _ _ c3 (by omega) (by omega) (by omega) rfl rfl c4 c1
   refine Ce rfl (A9 BX) ?_
   rw[hWe,← hp]
   refine ⟨.inr a3,?_⟩
   refine Ce rfl (A9 BX) ?_
   rw[hWe2,← hq]
   refine ⟨.inr c3,?_⟩
   refine Ca rfl (BY rfl rfl c4 (A7 rfl) rfl rfl) ?_
   refine ⟨.inr h42,?_⟩
   refine Ca rfl (BY rfl rfl h43 (A7 rfl) rfl rfl) ?_
   rw[← h40]
   refine ⟨.inr h41,?_⟩
   refine Cl ?_
   exact AS ⟨p,q,by omega,by omega,by omega,h41,h44,h45,As rfl ⟨rfl,rfl,rfl,trivial⟩⟩
  obtain ⟨W4,h40,h41,h42,h43,h44,h45⟩:=key W2 q p _ _ c3 (by omega) (by omega) (by omega) rfl rfl c1 c4
  refine Ce rfl (A9 BX) ?_
  rw[hWe,← hp]
  refine ⟨.inr a3,?_⟩
  refine Ce rfl (A9 BX) ?_
  rw[hWe2,← hq]
  refine ⟨.inr c3,?_⟩
  refine Ca rfl (BY rfl rfl c1 (A7 rfl) rfl rfl) ?_
  refine ⟨.inr h42,?_⟩
  refine Ca rfl (BY rfl rfl h43 (A7 rfl) rfl rfl) ?_
  rw[← h40]
  refine ⟨.inr h41,?_⟩
  refine Cl ?_
  exact AS ⟨q,p,by omega,by omega,by omega,h41,h44,h45,As rfl ⟨rfl,rfl,rfl,trivial⟩⟩
 rintro e W ⟨X,Y,hX,hY,hXY,hbW,hcX,hcY,⟨t,rfl⟩⟩
 have x0:W.cell? ⟨X,0+0,none⟩=some (.int .i64 (f.v a).op):=Am hcX rfl
 have x1:W.cell? ⟨X,0+1,none⟩=some (.int .i64 (f.v a).blk):=Am hcX rfl
 have x2:W.cell? ⟨X,0+2,none⟩=some (.slice sa (f.v a).args.length sac):=Am hcX rfl
 have x3:W.cell? ⟨X,0+3,none⟩=some (.int .i64 (f.v a).aux):=Am hcX rfl
 have y0:W.cell? ⟨Y,0+0,none⟩=some (.int .i64 (f.v b).op):=Am hcY rfl
 have y1:W.cell? ⟨Y,0+1,none⟩=some (.int .i64 (f.v b).blk):=Am hcY rfl
 have y2:W.cell? ⟨Y,0+2,none⟩=some (.slice sb (f.v b).args.length sbc):=Am hcY rfl
 have y3:W.cell? ⟨Y,0+3,none⟩=some (.int .i64 (f.v b).aux):=Am hcY rfl
 have hbG:Below b1 w W:=hbw.trans (hbW.mono (by omega))
 have hbF:Below w.heap.size w W:=by rw[← hb1];exact hbG
 refine BL (fun e W'=>W'=W∧((f.v a).op=(f.v b).op∧(f.v a).aux=(f.v b).aux∧(f.v a).args.length=(f.v b).args.length∧((f.v a).op=13→(f.v a).blk=(f.v b).blk))∧At e [(1,vc),(9,.pointer (some ⟨X,0,none⟩)),(10,.pointer (some ⟨Y,0,none⟩))]) ?_ ?_
 ·refine Ae (Ac (Ab (Ak rfl (Al rfl)) rfl (Ab (Ai rfl (Ag rfl) ‹_›) rfl ?_)))
  refine Ab (Ak rfl (Al rfl)) rfl (Ab (Ai rfl (Ag rfl) ‹_›) rfl ?_)
  refine Ab (Bo rfl rfl) rfl (Ab Ad rfl ?_)
  by_cases h1:(f.v a).op=(f.v b).op
  rotate_left
  ·rw[decide_eq_true h1]
   refine Ax rfl rfl (Ax rfl rfl (Ax rfl rfl (Ax rfl rfl (Ax rfl rfl (Ab (AN rfl) rfl (Ab Ad rfl (Ax rfl rfl (Ax rfl rfl (Ax rfl rfl (Ax rfl rfl (Ax rfl rfl ?_)))))))))))
   refine Ax rfl rfl (Ax rfl rfl (Ab (AN rfl) rfl (Ab Ad rfl (Ax rfl rfl (Ax rfl rfl (Ax rfl rfl (Ax rfl rfl (Bm rfl rfl (Bm rfl rfl (Bm rfl rfl (Bm rfl rfl ?_)))))))))))
   refine Bm rfl rfl (Ax rfl rfl (Ab (AN rfl) rfl (Af (Aa (Bc rfl rfl (Ae (Ac (Ab Ah rfl (Af (Aa (AF ?_)))))))))))
   refine BO ?_
   exact Aw rfl rfl rfl ⟨false,rfl,⟨(fun h=>by cases h),fun h=>absurd h (fun h=>h1 h.1.1)⟩,hbG⟩
  rw[decide_eq_false (not_not_intro h1)]
  refine Aq rfl rfl (Ak rfl (Al rfl)) rfl (Aq rfl rfl (Ai rfl (Ag rfl) ‹_›) rfl ?_)
  refine Aq rfl rfl (Ak rfl (Al rfl)) rfl (Aq rfl rfl (Ai rfl (Ag rfl) ‹_›) rfl ?_)
  refine Aq rfl rfl (Bo rfl rfl) rfl (Ab (AH rfl) rfl (Ab Ad rfl ?_))
  by_cases h2:(f.v a).aux=(f.v b).aux
  rotate_left
  ·rw[decide_eq_true h2]
   refine Ax rfl rfl (Ax rfl rfl (Ax rfl rfl (Ax rfl rfl (Ax rfl rfl (Ax rfl rfl (Ax rfl rfl (Ab (AN rfl) rfl (Ab Ad rfl (Ax rfl rfl (Ax rfl rfl (Ax rfl rfl ?_)))))))))))
   refine Ax rfl rfl (Bm rfl rfl (Bm rfl rfl (Bm rfl rfl (Bm rfl rfl (Bm rfl rfl (Ax rfl rfl (Ab (AN rfl) rfl (Af (Aa (Bc rfl rfl (Ae ?_)))))))))))
   refine Ac (Ab Ah rfl (Af (Aa (AF (BO ?_)))))
   exact Aw rfl rfl rfl ⟨false,rfl,⟨(fun h=>by cases h),fun h=>absurd h (fun h=>h2 h.1.2.1)⟩,hbG⟩
  rw[decide_eq_false (not_not_intro h2)]
  refine Aq rfl rfl (Ak rfl (Al rfl)) rfl (Aq rfl rfl (Ai rfl (Ag rfl) ‹_›) rfl ?_)
  refine Aq rfl rfl (AP rfl (An rfl)) rfl (Aq rfl rfl (Ak rfl (Al rfl)) rfl (Aq rfl rfl (Ai rfl (Ag rfl) ‹_›) rfl ?_))
  refine Aq rfl rfl (AP rfl (An rfl)) rfl (Aq rfl rfl (Bo rfl rfl) rfl (Ab (AH rfl) rfl (Ab Ad rfl ?_)))
  by_cases h3:((f.v a).args.length:Int)=((f.v b).args.length:Int)
  rotate_left
  ·rw[decide_eq_true h3]
   refine Ax rfl rfl (Ax rfl rfl (Ax rfl rfl (Ax rfl rfl (Bm rfl rfl (Bm rfl rfl (Bm rfl rfl (Bm rfl rfl (Bm rfl rfl (Ax rfl rfl (Ab (AN rfl) rfl (Af ?_)))))))))))
   refine Aa (Bc rfl rfl (Ae (Ac (Ab Ah rfl (Af (Aa (AF (BO ?_))))))))
   exact Aw rfl rfl rfl ⟨false,rfl,⟨(fun h=>by cases h),fun h=>absurd h (fun h=>h3 (congrArg Int.ofNat h.1.2.2.1))⟩,hbG⟩
  rw[decide_eq_false (not_not_intro h3)]
  refine Aq rfl rfl (Ak rfl (Al rfl)) rfl (Aq rfl rfl (Ai rfl (Ag rfl) ‹_›) rfl ?_)
  refine Aq rfl rfl (Bi rfl rfl) rfl (Aq rfl rfl Ad rfl ?_)
  by_cases h13:(f.v a).op=13
  ·rw[decide_eq_true h13]
   refine Aq rfl rfl (Ak rfl (Al rfl)) rfl (Aq rfl rfl (Ai rfl (Ag rfl) ‹_›) rfl ?_)
   refine Aq rfl rfl (Ak rfl (Al rfl)) rfl (Aq rfl rfl (Ai rfl (Ag rfl) ‹_›) rfl ?_)
   refine Aq rfl rfl (Bo rfl rfl) rfl (Aq rfl rfl (AN rfl) rfl (Ab (AH rfl) rfl (Af (Aa ?_))))
   by_cases h4:(f.v a).blk=(f.v b).blk
   rotate_left
   ·rw[decide_eq_true h4]
    refine Bc rfl rfl (Ae (Ac (Ab Ah rfl (Af (Aa (AF (BO ?_)))))))
    exact Aw rfl rfl rfl ⟨false,rfl,⟨(fun h=>by cases h),fun h=>absurd h (fun h=>h4 (h.1.2.2.2 h13))⟩,hbG⟩
   rw[decide_eq_false (not_not_intro h4)]
   refine A6 rfl rfl (Ar ?_)
   exact Cj ⟨rfl,⟨h1,h2,by omega,fun _=>h4⟩,As rfl ⟨rfl,rfl,rfl,trivial⟩⟩
  rw[decide_eq_false h13]
  refine Ax rfl rfl (Ax rfl rfl (Ax rfl rfl (Ax rfl rfl (Ax rfl rfl (Aq rfl rfl (AH rfl) rfl (Ab (AH rfl) rfl (Af (Aa (A6 rfl rfl (Ar ?_))))))))))
  exact Cj ⟨rfl,⟨h1,h2,by omega,fun h=>absurd h h13⟩,As rfl ⟨rfl,rfl,rfl,trivial⟩⟩
 rintro e W' ⟨rfl,hs,⟨t,rfl⟩⟩
 obtain ⟨vb,vo,vcap,hvc⟩:∃vb vo vcap,vc= .slice (some ⟨vb,vo,none⟩) f.vals.length vcap:=by
  obtain ⟨vb,vo,vcap,h,_⟩:=CD hc ha
  exact ⟨vb,vo,vcap,h⟩
 have hcc:∀i,i<f.vals.length→w.cell? ⟨vb,vo+i,none⟩=some (.int .i64 (c i)):=fun i hi=>by
  obtain ⟨b',o',cap',h,hcell⟩:=CD hc hi
  rw[hvc] at h
  cases h
  exact hcell
 subst hvc
 have hal:=(har a ha).1
 have hlab:=hs.2.2.1
 refine Ae (Ae (Ac (Ab (Ak rfl (Al rfl)) rfl (Ab (Ai rfl (Ag rfl) ‹_›) rfl ?_))))
 refine Ab (AP rfl (An rfl)) rfl (Ab Ad rfl (Af (Aa (Ao ?_))))
 refine EC_loop (fun n e wr=>∃k,k≤(f.v a).args.length∧At e [(1,.slice (some ⟨vb,vo,none⟩) f.vals.length vcap),(9,.pointer (some ⟨X,0,none⟩)),(10,.pointer (some ⟨Y,0,none⟩)),(57,.int .i64 ((f.v a).args.length:Int)),(58,.int .i64 (k:Int))]∧Below W'.heap.size W' wr∧(∀j,j<k→c ((f.v a).args.getD j 0).toNat=c ((f.v b).args.getD j 0).toNat)∧n=(f.v a).args.length - k) (f.v a).args.length
  ⟨0,Nat.zero_le _,As rfl ⟨rfl,rfl,rfl,rfl,rfl,trivial⟩,Below.refl _ _,fun j hj=>absurd hj (Nat.not_lt_zero _),rfl⟩ ?_
 rintro n e wr ⟨k,hk,⟨t,rfl⟩,hbr,heq,rfl⟩
 refine Ae (Ac (Ab (AV rfl rfl) rfl (Af (Aa (Ae ?_)))))
 refine AI rfl rfl (fun hlt=>?_) (fun hge=>?_)
 rotate_left
 ·have hk:k=(f.v a).args.length:=by omega
  subst hk
  refine AK (AB (AD (Az (Aa (Ae (Ac (Ab Ah rfl (Af (Aa (AF ?_))))))))))
  exact Aw rfl rfl rfl ⟨true,rfl,⟨fun _=>⟨hs,heq⟩,fun _=>rfl⟩,hbG.trans (hbr.mono (by have:=hbF.size;omega))⟩
 have hlt:k<(f.v a).args.length:=by omega
 refine Ar (Aa ?_)
 obtain ⟨b2,o2,rfl,ha2⟩:=hia.get (k:=k) hlt
 obtain ⟨b3,o3,rfl,hb3⟩:=hib.get (k:=k) (by omega)
 obtain ⟨i,hi⟩:∃i,i=((f.v a).args.getD k 0).toNat:=⟨_,rfl⟩
 obtain ⟨j,hj⟩:∃j,j=((f.v b).args.getD k 0).toNat:=⟨_,rfl⟩
 have hi2:=(har a ha).2 _ (Bu hlt)
 have hj2:=(har b hb).2 _ (Bu (show k<(f.v b).args.length by omega))
 have hKr:Keep W' wr.drew:=(Keep.of_below hbr (Nat.le_refl _)).trans (Keep.drew wr)
 have hKw:Keep w wr.drew:=(Keep.of_below hbF (Nat.le_refl _)).trans hKr
 have hKa:Keep wa wr.drew:=(Keep.of_below hbW (by omega)).trans hKr
 have f1:=hKr _ _ x2
 have f2:=hKr _ _ y2
 have f3:=hKa _ _ ha2
 have f4:=hKa _ _ hb3
 have f5:=hKw _ _ (hcc i (by omega))
 have f6:=hKw _ _ (hcc j (by omega))
 refine Ae (Ao (Ae (Ac (Ab Ad rfl (Ab Ah rfl (Af (Aa (Ae (AZ mixed (fun w'=>w'=wr.drew) [(0,false),(1,false),(2,false),(3,false),(4,false),(5,false),(6,false),(7,false),(8,false),(9,false),(10,false),(11,false),(12,false),(13,false),(14,false),(15,false),(16,false)] (by kernel_rfl) rfl ?_)))))))))
 have hbr2:Below W'.heap.size W' wr.drew:=hbr.drew
 generalize wr.drew=Wd at *
 refine Aj rfl (fun _ _=>Ad) (Aj rfl (fun _ _=>Ak rfl (Al rfl)) (Aj rfl (fun _ hS=>Ai rfl (Ag rfl) (by cases hS;exact f1)) ?_))
 refine Aj rfl (fun _ _=>Ad) (Aj rfl (fun _ _=>x_index1 rfl rfl (An rfl) hlt) (Aj rfl (fun _ hS=>Ai rfl (Ag rfl) (by cases hS;exact f3)) ?_))
 refine Aj rfl (fun _ _=>A0 (i:=i) rfl rfl (by omega) (An rfl) (by omega)) (Aj rfl (fun _ hS=>Ai rfl (Ag rfl) (by cases hS;exact f5)) ?_)
 refine Aj rfl (fun _ _=>Ad) (Aj rfl (fun _ _=>Ak rfl (Al rfl)) (Aj rfl (fun _ hS=>Ai rfl (Ag rfl) (by cases hS;exact f2)) ?_))
 refine Aj rfl (fun _ _=>Ad) (Aj rfl (fun _ _=>x_index1 rfl rfl (An rfl) (by omega)) (Aj rfl (fun _ hS=>Ai rfl (Ag rfl) (by cases hS;exact f4)) ?_))
 refine Aj rfl (fun _ _=>A0 (i:=j) rfl rfl (by omega) (An rfl) (by omega)) (Aj rfl (fun _ hS=>Ai rfl (Ag rfl) (by cases hS;exact f6)) ?_)
 refine Aj rfl (fun _ _=>Bo rfl rfl) (AR (Aa ?_))
 refine AI rfl rfl (fun hne=>?_) (fun he=>?_)
 ·refine Ae (Ac (Ab Ah rfl (Af (Aa (AF (AQ (AM (Br (AQ (AM ?_))))))))))
  exact Aw rfl rfl rfl ⟨false,rfl,⟨(fun h=>by cases h),fun h=>absurd (h.2 k hlt) (by rw[← hi,← hj];exact hne)⟩,hbG.trans (hbr2.mono (by have:=hbF.size;omega))⟩
 refine Ar (Ap (Aa (Ac (Ab (x_inc rfl rfl (by omega)) rfl (Ab Ad rfl (Af ?_))))))
 refine Av ((f.v a).args.length - (k+1)) (by omega) ⟨k+1,by omega,As rfl ⟨rfl,rfl,rfl,rfl,rfl,trivial⟩,hbr2,fun q hq=>?_,rfl⟩
 by_cases e:q=k
 ·subst e;rw[← hi,← hj];exact Classical.byContradiction he
 exact heq q (by omega)
end Go.Proofs.YteepnepebilckaaGreatDoor
namespace Go.Proofs.YteepnepebilckaaGreatDoor
open Go Go.Eng Go.RowKit
def Ea (f:Fn) (a b:Nat):Prop:=(f.v a).op=(f.v b).op∧(f.v a).aux=(f.v b).aux∧(f.v a).args.length=(f.v b).args.length∧((f.v a).op=13→(f.v a).blk=(f.v b).blk)
def RT (f:Fn):Nat→Nat→Nat→Prop
 |0,_,_=>True
 |t+1,i,j=>RT f t i j∧Ea f i j∧∀k,k<(f.v i).args.length→RT f t ((f.v i).args.getD k 0).toNat ((f.v j).args.getD k 0).toNat
theorem RT.refl (f:Fn):∀t i,RT f t i i
 |0,_=>trivial
 |t+1,i=>⟨RT.refl f t i,⟨rfl,rfl,rfl,fun _=>rfl⟩,fun _ _=>RT.refl f t _⟩
theorem RT.symm {f:Fn}:∀{t i j},RT f t i j→RT f t j i
 |0,_,_,_=>trivial
 |_+1,_,_,⟨h1,⟨a,b,c,d⟩,h3⟩=>⟨h1.symm,⟨a.symm,b.symm,c.symm,fun h=>(d (a.trans h)).symm⟩,fun k hk=>(h3 k (by omega)).symm⟩
theorem RT.trans {f:Fn}:∀{t i j l},RT f t i j→RT f t j l→RT f t i l
 |0,_,_,_,_,_=>trivial
 |_+1,_,_,_,⟨h1,⟨a,b,c,d⟩,h3⟩,⟨k1,⟨a',b',c',d'⟩,k3⟩=>
  ⟨h1.trans k1,⟨a.trans a',b.trans b',c.trans c',fun h=>(d h).trans (d' (a.symm.trans h))⟩,fun k hk=>(h3 k hk).trans (k3 k (by omega))⟩
def IsMin (f:Fn) (t:Nat) (C:Nat→Nat) (n:Nat):Prop:=∀i,i<n→C i≤i∧RT f t (C i) i∧∀k,RT f t k i→C i≤k
theorem IsMin.iff {f:Fn} {t:Nat} {C:Nat→Nat} {n:Nat} (h:IsMin f t C n) {i j:Nat} (hi:i<n) (hj:j<n):C i=C j↔RT f t i j:=by
 obtain ⟨a1,a2,a3⟩:=h i hi
 obtain ⟨b1,b2,b3⟩:=h j hj
 constructor
 ·intro e
  rw[← e] at b2
  exact a2.symm.trans b2
 intro e
 have h1:=a3 (C j) (b2.trans e.symm)
 have h2:=b3 (C i) (a2.trans e)
 omega
section
variable {f : Fn}
def Ld (f:Fn) (t i:Nat):Prop:=∀k,k<i→¬ RT f t k i
theorem ex_min {p:Nat→Prop} (n:Nat) (h:p n):∃m,m≤n∧p m∧∀k,k<m→¬ p k:=by
 induction n using Nat.strongRecOn with
 |ind n ih=>
  by_cases e:∃k,k<n∧p k
  ·obtain ⟨k,hk,hp⟩:=e
   obtain ⟨m,h1,h2,h3⟩:=ih k hk hp
   exact ⟨m,by omega,h2,h3⟩
  exact ⟨n,Nat.le_refl _,h,fun k hk hp=>e ⟨k,hk,hp⟩⟩
open Classical in
theorem RT.grow {n t:Nat} (hs:¬ ∀i j,i<n→j<n→RT f t i j→RT f (t+1) i j):(List.range n).countP (fun i=>decide (Ld f t i))<(List.range n).countP (fun i=>decide (Ld f (t+1) i)):=by
 have h0:∃i j,i<n∧j<n∧RT f t i j∧¬ RT f (t+1) i j:=by
  refine Classical.byContradiction fun hno=>hs fun i j hi hj h=>Classical.byContradiction fun h1=>hno ⟨i,j,hi,hj,h,h1⟩
 obtain ⟨i,j,hi,hj,h1,h2⟩:=h0
 obtain ⟨l,hl,hr,hm⟩:=ex_min (p:=fun k=>RT f t k i) i (RT.refl f t i)
 have key:∃x,x<n∧RT f t l x∧¬ RT f (t+1) l x:=by
  by_cases e:RT f (t+1) l i
  ·exact ⟨j,hj,hr.trans h1,fun h=>h2 (e.symm.trans h)⟩
  exact ⟨i,hi,hr,e⟩
 obtain ⟨x,hx,hx1,hx2⟩:=key
 obtain ⟨m,hm1,hm2,hm3⟩:=ex_min (p:=fun k=>RT f (t+1) k x) x (RT.refl f (t+1) x)
 have hlm:RT f t l m:=hx1.trans hm2.1.symm
 have hne:l≠m:=fun e=>hx2 (e ▸ hm2)
 have hlt:l<m:=by
  refine Classical.byContradiction fun h=>hm m (by omega) (hlm.symm.trans hr)
 refine countP_lt (fun y _ hy=>decide_eq_true fun k hk h=>(of_decide_eq_true hy) k hk h.1) ⟨m,List.mem_range.2 (by omega),decide_eq_true fun k hk h=>hm3 k hk (h.trans hm2),decide_eq_false fun h=>h l hlt hlm⟩
theorem RT.stable (n:Nat) (hv:∀i,i<n→∀z∈(f.v i).args,z.toNat<n):∀i j,i<n→j<n→RT f (n+1) i j→RT f (n+2) i j:=by
 classical
 have hst:∃t,t≤n∧∀i j,i<n→j<n→RT f t i j→RT f (t+1) i j:=by
  refine Classical.byContradiction fun hno=>?_
  have h:∀t,t≤n+1→t≤(List.range n).countP (fun i=>decide (Ld f t i)):=fun t=>by
   induction t with
   |zero=>exact fun _=>Nat.zero_le _
   |succ t ih=>
    intro ht
    have h1:=ih (by omega)
    have h2:=RT.grow (f:=f) (n:=n) (t:=t) fun hs=>hno ⟨t,by omega,hs⟩
    omega
  have h1:=h (n+1) (Nat.le_refl _)
  have h2:(List.range n).countP (fun i=>decide (Ld f (n+1) i))≤(List.range n).length:=List.countP_le_length
  rw[List.length_range] at h2
  omega
 obtain ⟨t,ht,hs⟩:=hst
 have up:∀d i j,i<n→j<n→RT f (t+d) i j→RT f (t+d+1) i j:=fun d=>by
  induction d with
  |zero=>exact hs
  |succ d ih=>
   rintro i j hi hj ⟨h1,h2,h3⟩
   refine ⟨⟨h1,h2,h3⟩,h2,fun k hk=>ih _ _ ?_ ?_ (h3 k hk)⟩
   ·exact hv i hi _ (Bu hk)
   exact hv j hj _ (Bu (by have:=h2.2.2.1;omega))
 intro i j hi hj h
 have:=up (n+1 - t) i j hi hj (by rw[show t+(n+1 - t)=n+1 by omega];exact h)
 rw[show t+(n+1 - t)+1=n+2 by omega] at this
 exact this
end
theorem alkC_RT {f:Fn} {r:Nat} {C:Nat→Nat} {n:Nat} (hM:IsMin f r C n) (har:∀i,i<n→(f.v i).args.length≤100∧∀z∈(f.v i).args,0≤z∧z<n) {a b:Nat} (ha:a<n) (hb:b<n):
 AlkC f (fun i=>((C i:Nat):Int)) a b↔Ea f a b∧∀k,k<(f.v a).args.length→RT f r ((f.v a).args.getD k 0).toNat ((f.v b).args.getD k 0).toNat:=by
 unfold AlkC Ea
 refine and_congr_right fun h=>forall_congr' fun k=>forall_congr' fun hk=>?_
 have h1:=(har a ha).2 _ (Bu hk)
 have h2:=(har b hb).2 _ (Bu (show k<(f.v b).args.length by have:=h.2.2.1;omega))
 rw[← hM.iff (by omega) (by omega)]
 exact Int.ofNat_inj
theorem natsR {n:Nat} (C:Nat→Nat):((List.range n).map fun i=>((C i:Nat):Int)).map (Value.int .i64)=(List.range n).map fun i=>.int .i64 ((C i:Nat):Int):=by rw[List.map_map];rfl
set_option maxHeartbeats 4000000
attribute [local irreducible] EC EL DL Ret thenQ blockQ Bd bodyQ onlyN execOp Sem.run World.cell? World.frozen? World.setCell World.alloc
theorem Classes_ret {w:World} {x:Value} {f:Fn} (hx:FnV w x f) (hn:f.vals.length≤48) (har:∀i,i<f.vals.length→(f.v i).args.length≤100∧∀z∈(f.v i).args,0≤z∧z<f.vals.length):
 Ret Tryz.prog 15 #[x] w fun v w'=>∃C,IntsV w' v ((List.range f.vals.length).map fun i=>((C i:Nat):Int))∧IsMin f (f.vals.length+1) C f.vals.length∧Below w.heap.size w w':=by
 obtain ⟨xv,xb,rfl,hvals,hblks⟩:=hx
 have hx0:FnV w (.agg #[xv,xb]) f:=⟨xv,xb,rfl,hvals,hblks⟩
 obtain ⟨av,cv,rfl,hvl⟩:=hvals
 refine ret_of_EC Tryz.func15 rfl rfl ?_
 obtain ⟨B,hBd⟩:∃B,B=w.heap.size:=⟨_,rfl⟩
 refine Ae (Ac (Ab (Bw (v:=.agg #[.slice av f.vals.length cv,xb]) rfl) rfl (el_new (.cells #[.slice av f.vals.length cv,xb] 30) B (by omega) fun wa hN1 hO1 hZ1 hB1 hK1=>?_)))
 obtain ⟨b1,hb1⟩:∃b1,b1=w.heap.size:=⟨_,rfl⟩
 rw[← hb1] at hN1 ⊢
 refine Ab Ah rfl (Af (Aa ?_))
 have g1:wa.cell? ⟨b1,0+0,none⟩=some (.slice av f.vals.length cv):=Am hN1 rfl
 refine Ae (Ac (Ab (Ak rfl (Al rfl)) rfl (Ab (Ai rfl (Ag rfl) ‹_›) rfl ?_)))
 refine Ab (AP rfl (An rfl)) rfl (Ab (CU Tryz.underlying35 Ck rfl rfl rfl (by omega) (by omega)) rfl ?_)
 rw[CZ]
 have hBle:B≤wa.heap.size:=by omega
 refine el_new (.cells (cellsOf (fun _=>.int .i64 0) f.vals.length) 3) B (by omega) fun wb hN2 hO2 hZ2 hB2 hK2=>(Ab Ah rfl (Af (Aa ?_)))
 have hz1:b1<wa.heap.size:=Bb hN1
 obtain ⟨S0,hS0⟩:∃S0,S0=wb.heap.size:=⟨_,rfl⟩
 have hbw:Below b1 w wb:=by rw[hb1,← hBd];exact hB1.trans hB2
 have hx1:=(hx0.keep hK1).keep hK2
 have hbx:wb.heap[b1]? =some (.cells #[.slice av f.vals.length cv,xb] 30 (0,0)):=(hO2 b1 hz1).trans hN1
 have hI0:IntsV wb (.slice (some ⟨wa.heap.size,0,none⟩) f.vals.length f.vals.length) ((List.range f.vals.length).map fun i=>(((fun _=>0) i:Nat):Int)):=
  ⟨some ⟨wa.heap.size,0,none⟩,f.vals.length,by simp,by simp,.inr ⟨_,_,rfl,fun k hk=>by
    have hk:k<f.vals.length:=by simpa using hk
    rw[List.getD_eq_getElem?_getD,List.getElem?_map,List.getElem?_range hk,Nat.zero_add]
    exact Am hN2 (Ba _ hk)⟩⟩
 generalize hvc0:Value.slice (some ⟨wa.heap.size,0,none⟩) f.vals.length f.vals.length=vc0 at hI0 ⊢
 have key0:∀{W:World} {ρ:Operand→Value} {d:Option Tmp} {ty:TypeId} {pos:String} {af:Array Edge} {g:Option (Nat×Bool)},(execOp ρ ⟨d,.buildSlice 35 0 #[],ty,pos,af,g⟩).run Tryz.prog W= .ok (.value (.slice (some ⟨W.heap.size,0,none⟩) 0 0)) (W.alloc (.cells #[] 3)):=by
  intro W ρ d ty pos af g
  have key:(Instr.buildSlice 35 0 #[]).run Tryz.prog W= .ok (.slice (some ⟨W.heap.size,0,none⟩) 0 0) (W.alloc (.cells #[] 3)):=by kernel_rfl
  simp [execOp,key]
 have g2:wb.cell? ⟨b1,0+0,none⟩=some (.slice av f.vals.length cv):=Am hbx rfl
 refine Ae (Ae (Ac (Ab (Ak rfl (Al rfl)) rfl (Ab (Ai rfl (Ag rfl) ‹_›) rfl ?_))))
 refine Ab (AP rfl (An rfl)) rfl (Ab (x_inc rfl rfl (by omega)) rfl (Ab Ad rfl (Af (Aa (Ao ?_)))))
 refine EC_loop (fun n e wr=>∃r vc C,r≤f.vals.length+1∧At e [(1,.pointer (some ⟨b1,0,none⟩)),(3,vc),(15,.int .i64 ((f.vals.length+1:Nat):Int)),(16,.int .i64 (r:Int))]∧Below S0 wb wr∧IntsV wr vc ((List.range f.vals.length).map fun i=>((C i:Nat):Int))∧IsMin f r C f.vals.length∧n=f.vals.length+1 - r) (f.vals.length+1)
  ⟨0,vc0,fun _=>0,Nat.zero_le _,As rfl ⟨rfl,rfl,rfl,rfl,trivial⟩,Below.refl _ _,hI0,fun i _=>⟨Nat.zero_le _,trivial,fun _ _=>Nat.zero_le _⟩,rfl⟩ ?_
 clear hI0 hvc0
 rintro n e wr ⟨r,vc,C,hr,⟨t,rfl⟩,hb,hI,hM,rfl⟩
 have hzr:=hb.size
 refine Ae (Ac (Ab (AV rfl rfl) rfl (Af (Aa (Ae ?_)))))
 refine AI rfl rfl (fun hlt=>?_) (fun hge=>?_)
 rotate_left
 ·have hr:r=f.vals.length+1:=by omega
  subst hr
  refine AK (AB (AD (Az (Aa (Ae (Ac (Ab Ad rfl (Ab Ah rfl (Af (Aa (AF ?_)))))))))))
  exact Aw rfl rfl rfl ⟨C,hI,hM,hbw.trans (hb.mono (by omega))⟩
 have hlt:r<f.vals.length+1:=by omega
 refine Ar (Aa (Ae (Ao (Ae (Ac (Ab key0 rfl ?_))))))
 have hBle:B≤wr.heap.size:=by omega
 refine el_new (.cells #[] 3) B (by omega) fun w2 hN4 hO4 hZ4 hB4 hK4=>(Ab Ah rfl (Af (Aa ?_)))
 obtain ⟨B2,hB2d⟩:∃B2,B2=wr.heap.size:=⟨_,rfl⟩
 have hrow0:w2.ownsRow B2 3 1 (.slice (some ⟨wr.heap.size,0,none⟩) 0 0) 0 []:=⟨rfl,.inr ⟨wr.heap.size,0,#[],rfl,by omega,hN4,Nat.le_refl _,by decide,rfl,rfl⟩⟩
 have hb2:Below B2 wr w2:=⟨hB4.os,hB4.tape,hB4.output,hB4.size,fun j hj=>hO4 j (by omega)⟩
 have hKb:∀{W:World},Below B2 wr W→Keep wr W:=fun h=>Keep.of_below h (by omega)
 have hKw:Keep wb wr:=Keep.of_below hb (by omega)
 have gb:∀{W:World},Below B2 wr W→W.cell? ⟨b1,0+0,none⟩=some (.slice av f.vals.length cv):=fun h=>hKb h _ _ (hKw _ _ g2)
 have hbb:∀{W:World},Below B2 wr W→CellsAt W b1 0 [.slice av f.vals.length cv,xb]:=fun {W} h j u hj=>hKb h _ _ (hKw _ _ (Bh hbx j u hj))
 have hxx:∀{W:World},Below B2 wr W→FnV W (.agg #[.slice av f.vals.length cv,xb]) f:=fun h=>(hx1.keep hKw).keep (hKb h)
 have hII:∀{W:World},Below B2 wr W→IntsV W vc ((List.range f.vals.length).map fun i=>((C i:Nat):Int)):=fun h=>hI.keep (hKb h)
 have gw2:=gb hb2
 refine AW (fun e W=>∃vn N,At e [(1,.pointer (some ⟨b1,0,none⟩)),(4,vn),(15,.int .i64 ((f.vals.length+1:Nat):Int)),(16,.int .i64 (r:Int))]∧Below B2 wr W∧IntsV W vn ((List.range f.vals.length).map fun i=>((N i:Nat):Int))∧IsMin f (r+1) N f.vals.length) ?_ ?_
 ·refine Ae (Ac (Ab (Ak rfl (Al rfl)) rfl (Ab (Ai rfl (Ag rfl) ‹_›) rfl ?_)))
  refine Ab (AP rfl (An rfl)) rfl (Ab Ad rfl (Af (Aa (Ao ?_))))
  refine EC_loop (fun n e W=>∃i vn N,i≤f.vals.length∧At e [(1,.pointer (some ⟨b1,0,none⟩)),(3,vc),(15,.int .i64 ((f.vals.length+1:Nat):Int)),(16,.int .i64 (r:Int)),(4,vn),(21,.int .i64 (f.vals.length:Int)),(22,.int .i64 (i:Int))]∧Below B2 wr W∧W.ownsRow B2 3 1 vn i ((List.range i).map fun j=>.int .i64 ((N j:Nat):Int))∧IsMin f (r+1) N i∧n=f.vals.length - i) f.vals.length
   ⟨0,_,fun _=>0,Nat.zero_le _,As rfl ⟨rfl,rfl,rfl,rfl,rfl,rfl,rfl,trivial⟩,hb2,hrow0,fun i hi=>absurd hi (Nat.not_lt_zero _),rfl⟩ ?_
  clear hrow0 hN4 gw2 hb2
  rintro n e W ⟨i,vn,N,hi,⟨t,rfl⟩,hbW,hrow,hMN,rfl⟩
  refine Ae (Ac (Ab (AV rfl rfl) rfl (Af (Aa (Ae ?_)))))
  refine AI rfl rfl (fun hlt2=>?_) (fun hge2=>?_)
  rotate_left
  ·have hin:i=f.vals.length:=by omega
   subst hin
   refine AK (AB (AD (Az ?_)))
   refine AS ⟨vn,N,As rfl ⟨rfl,rfl,rfl,rfl,trivial⟩,hbW,?_,hMN⟩
   refine Cy (base:=B2) (el:=3) ?_
   rw[natsR,List.length_map,List.length_range]
   exact hrow
  have hin:i<f.vals.length:=by omega
  refine Ar (Aa (Ae (Ao (Ae (Ac (Ab Ad rfl (Ab Ah rfl (Af (Aa (Ae (Ac ?_)))))))))))
  refine Ab Ad rfl (Ab Ah rfl (Af (Aa ?_)))
  refine AW (fun e W3=>∃at_:Nat,At e [(1,.pointer (some ⟨b1,0,none⟩)),(3,vc),(15,.int .i64 ((f.vals.length+1:Nat):Int)),(16,.int .i64 (r:Int)),(4,vn),(21,.int .i64 (f.vals.length:Int)),(22,.int .i64 (i:Int)),(5,.int .i64 (i:Int)),(6,.int .i64 (at_:Int))]∧Below B2 wr W3∧W3.ownsRow B2 3 1 vn i ((List.range i).map fun j=>.int .i64 ((N j:Nat):Int))∧at_≤i∧RT f (r+1) at_ i∧∀k,RT f (r+1) k i→at_≤k) ?_ ?_
  ·refine Ae (Ac (Ab Ad rfl (Ab Ad rfl (Af (Aa (Ao ?_))))))
   refine EC_loop (fun n e W2=>∃k,k≤i∧At e [(1,.pointer (some ⟨b1,0,none⟩)),(3,vc),(15,.int .i64 ((f.vals.length+1:Nat):Int)),(16,.int .i64 (r:Int)),(4,vn),(21,.int .i64 (f.vals.length:Int)),(22,.int .i64 (i:Int)),(5,.int .i64 (i:Int)),(6,.int .i64 (i:Int)),(26,.int .i64 (i:Int)),(27,.int .i64 (k:Int))]∧Below B2 wr W2∧W2.ownsRow B2 3 1 vn i ((List.range i).map fun j=>.int .i64 ((N j:Nat):Int))∧(∀q,q<k→¬ (RT f (r+1) q i∧N q=q))∧n=i - k) i
    ⟨0,Nat.zero_le _,As rfl ⟨rfl,rfl,rfl,rfl,rfl,rfl,rfl,rfl,rfl,rfl,rfl,trivial⟩,hbW,hrow,fun q hq=>absurd hq (Nat.not_lt_zero _),rfl⟩ ?_
   clear hbW hrow
   rintro n e W2 ⟨k,hk,⟨t,rfl⟩,hbW,hrow,hno,rfl⟩
   have noMin:∀q,(∀p,p<q→p<i→¬ (RT f (r+1) p i∧N p=p))→q≤i→∀p,RT f (r+1) p i→q≤p:=fun q hq hqi p hp=>by
    refine Classical.byContradiction fun hlt=>?_
    obtain ⟨a1,a2,a3⟩:=hMN p (by omega)
    have b1':RT f (r+1) (N p) i:=a2.trans hp
    obtain ⟨c1,c2,c3⟩:=hMN (N p) (by omega)
    have d1:=c3 (N p) (RT.refl f _ _)
    have d2:=a3 (N (N p)) (c2.trans a2)
    exact hq (N p) (by omega) (by omega) ⟨b1',by omega⟩
   refine Ae (Ac (Ab (AV rfl rfl) rfl (Af (Aa (Ae ?_)))))
   refine AI rfl rfl (fun hlt3=>?_) (fun hge3=>?_)
   rotate_left
   ·have hki:k=i:=by omega
    subst hki
    refine AK (AB (AD (Az ?_)))
    exact AS ⟨k,As rfl ⟨rfl,rfl,rfl,rfl,rfl,rfl,rfl,rfl,rfl,trivial⟩,hbW,hrow,Nat.le_refl _,RT.refl f _ _,noMin k (fun p hp _=>hno p hp) (Nat.le_refl _)⟩
   have hki:k<i:=by omega
   refine Ar (Aa ?_)
   obtain ⟨vb,vo,vcap,hvc,hck⟩:=CD (hII hbW) (k:=k) (by omega)
   obtain ⟨vb',vo',vcap',hvc',hci⟩:=CD (hII hbW) (k:=i) hin
   rw[hvc] at hvc'
   cases hvc'
   obtain ⟨nb,nc,en,_,_,_,hnk⟩:=row_form (w:=W2) (base:=B2) (el:=3) (v:=vn) (xs:=(List.range i).map fun j=>.int .i64 ((N j:Nat):Int)) (by rw[List.length_map,List.length_range];exact hrow) (k:=k) (by rw[List.length_map,List.length_range];exact hki)
   rw[List.length_map,List.length_range] at en
   rw[List.getElem_map,List.getElem_range] at hnk
   have hCiff:=hM.iff (i:=k) (j:=i) (by omega) hin
   have hd:Below W2.heap.size W2 W2.drew:=(Below.refl _ _).drew
   have hz2:=hbW.size
   have hwW:∀{W:World},Below W2.heap.size W2 W→Below B2 wr W∧W.ownsRow B2 3 1 vn i ((List.range i).map fun j=>.int .i64 ((N j:Nat):Int)):=fun h=>
    ⟨hbW.trans (h.mono (by omega)),AA hrow fun q e=>h.block q (Au hrow q e).2⟩
   refine Ae (Ao (Ae (Ac (Ab Ad rfl (Ab Ah rfl (Af (Aa (Ae (AZ mixed (fun w'=>Below W2.heap.size W2 w') [(0,false),(1,false),(2,false),(3,false),(4,false),(5,false),(6,false),(7,false),(8,false),(9,false),(10,false),(11,false),(12,false),(13,false),(14,false),(15,false),(16,false),(17,false),(18,false),(19,false),(20,false),(21,false),(22,true),(23,false)] (by kernel_rfl) hd ?_)))))))))
   generalize W2.drew=Wd at hd ⊢
   refine Aj rfl (fun _ _=>Ad) (Aj rfl (fun _ _=>Ad) (Aj rfl (fun _ _=>x_index1 (i:=k) hvc rfl (An rfl) (by omega)) (Aj rfl (fun _ hS=>Ai rfl (Ag rfl) (Keep.of_below hS (Nat.le_refl _) _ _ hck)) (Aj rfl (fun _ _=>Ad) (Aj rfl (fun _ _=>Ad) (Aj rfl (fun _ _=>x_index1 (i:=i) hvc rfl (An rfl) (by omega)) (Aj rfl (fun _ hS=>Ai rfl (Ag rfl) (Keep.of_below hS (Nat.le_refl _) _ _ hci)) (Aj rfl (fun _ _=>Bi rfl rfl) (Aj rfl (fun _ _=>Ad) ?_)))))))))
   have nx:¬ (RT f (r+1) k i∧N k=k)→∀q,q<k+1→¬ (RT f (r+1) q i∧N q=q):=fun h3 q hq=>by
    by_cases e:q=k
    ·subst e;exact h3
    exact hno q (by omega)
   by_cases h1:((C k:Nat):Int)=((C i:Nat):Int)
   rotate_left
   ·rw[decide_eq_false h1]
    refine AE rfl rfl (AE rfl rfl (AE rfl rfl (AE rfl rfl (AE rfl rfl (AE rfl rfl (Aj rfl (fun _ _=>AH rfl) (Aj rfl (fun _ _=>Ad) (AE rfl rfl (AE rfl rfl (AE rfl rfl (AE rfl rfl ?_)))))))))))
    refine Ef rfl rfl (.inr hd) (Aj rfl (fun _ _=>AH rfl) (AR (Aa ?_)))
    have hnn:¬ (RT f (r+1) k i∧N k=k):=fun h=>h1 (congrArg Int.ofNat (hCiff.2 h.1.1))
    refine A6 rfl rfl (Ar (Ap (Aa (Ac (Ab (x_inc rfl rfl (by omega)) rfl (Ab Ad rfl (Af ?_)))))))
    exact Av (i - (k+1)) (by omega) ⟨k+1,by omega,As rfl ⟨rfl,rfl,rfl,rfl,rfl,rfl,rfl,rfl,rfl,rfl,rfl,trivial⟩,(hwW hd).1,(hwW hd).2,nx hnn,rfl⟩
   rw[decide_eq_true h1]
   have hRk:RT f r k i:=hCiff.1 (by omega)
   refine AC rfl rfl (fun _ _=>Ad) (AC rfl rfl (fun _ _=>Ad) (AC rfl rfl (fun _ _=>x_index1 (i:=k) en rfl (An rfl) (by omega)) (AC rfl rfl (fun _ hS=>Ai rfl (Ag rfl) (Keep.of_below hS (Nat.le_refl _) _ _ hnk)) (AC rfl rfl (fun _ _=>Ad) (AC rfl rfl (fun _ _=>Bi rfl rfl) (Aj rfl (fun _ _=>AN rfl) (Aj rfl (fun _ _=>Ad) ?_)))))))
   by_cases h2:((N k:Nat):Int)=(k:Int)
   rotate_left
   ·rw[decide_eq_false h2]
    refine AE rfl rfl (AE rfl rfl (AE rfl rfl (AE rfl rfl (Ef rfl rfl (.inr hd) (Aj rfl (fun _ _=>AH rfl) (AR (Aa ?_)))))))
    have hnn:¬ (RT f (r+1) k i∧N k=k):=fun h=>h2 (congrArg Int.ofNat h.2)
    refine A6 rfl rfl (Ar (Ap (Aa (Ac (Ab (x_inc rfl rfl (by omega)) rfl (Ab Ad rfl (Af ?_)))))))
    exact Av (i - (k+1)) (by omega) ⟨k+1,by omega,As rfl ⟨rfl,rfl,rfl,rfl,rfl,rfl,rfl,rfl,rfl,rfl,rfl,trivial⟩,(hwW hd).1,(hwW hd).2,nx hnn,rfl⟩
   rw[decide_eq_true h2]
   refine AC rfl rfl (fun _ hS=>A5 (cs:=[.slice av f.vals.length cv,xb]) rfl (A3 rfl) (hbb (hwW hS).1)) (AC rfl rfl (fun _ _=>Ad) (AC rfl rfl (fun _ _=>Ad) (AC rfl rfl (fun _ _=>Ad) (ET rfl rfl (AJ Tryz.func30 rfl rfl rfl rfl) (alike_ret (hxx (hwW hd).1) (hII (hwW hd).1) (show k<f.vals.length by omega) hin har) ?_))))
   rintro _ W4 ⟨rb,rfl,hiff,hb4⟩
   have hd4:Below W2.heap.size W2 W4:=hd.trans (hb4.mono hd.size)
   refine ⟨.inr hd4,?_⟩
   have hA:=alkC_RT hM har (show k<f.vals.length by omega) hin
   clear hd
   refine Aj rfl (fun _ _=>AN rfl) (AR (Aa ?_))
   cases rb with
   |false=>
    have hd:=hd4
    have hnn:¬ (RT f (r+1) k i∧N k=k):=fun h=>by
     have:=hiff.2 (hA.2 h.1.2)
     cases this
    generalize W4=Wd at hd ⊢
    refine A6 rfl rfl (Ar (Ap (Aa (Ac (Ab (x_inc rfl rfl (by omega)) rfl (Ab Ad rfl (Af ?_)))))))
    exact Av (i - (k+1)) (by omega) ⟨k+1,by omega,As rfl ⟨rfl,rfl,rfl,rfl,rfl,rfl,rfl,rfl,rfl,rfl,rfl,trivial⟩,(hwW hd).1,(hwW hd).2,nx hnn,rfl⟩
   |true=>
    refine Bc rfl rfl (Ae (Ac (Ab Ad rfl (Ab Ah rfl (Af (Aa (AK (Cw rfl (AB (AD (Az ?_)))))))))))
    exact AS ⟨k,As rfl ⟨rfl,rfl,rfl,rfl,rfl,rfl,rfl,rfl,rfl,trivial⟩,(hwW hd4).1,(hwW hd4).2,by omega,⟨hRk,hA.1 (hiff.1 rfl)⟩,noMin k (fun p hp _=>hno p hp) (by omega)⟩
  clear hbW hrow
  rintro e W3 ⟨at_,⟨t,rfl⟩,hbW,hrow,hat,hat2,hat3⟩
  refine Ac (Ab Ad rfl (Ab Ad rfl (Ab (Bq (v:=.int .i64 ((at_:Nat):Int)) rfl rfl Tryz.underlying35 (by kernel_rfl) (z:=.int .i64 0) rfl) rfl ?_)))
  have hz3:=hbW.size
  have hBle:B≤W3.heap.size:=by omega
  refine el_new (.cells #[.int .i64 ((at_:Nat):Int)] 3) B (by omega) fun W5 hN6 hO6 hZ6 hB6 hK6=>?_
  have hrow6:=AA hrow (w':=W5) fun k e=>hO6 k (Au hrow k e).2
  have hlow:=Au hrow6
  refine Bz hrow6 (Am hN6 rfl) rfl (by omega) (by decide) (by omega) Tryz.underlying35 Ck rfl rfl rfl rfl ?_
  intro v7 w7 hrow7 hgr7 hwh7
  refine Ab Ah rfl (Af (Ap (Aa ?_)))
  have hb7:Below B2 wr w7:=(hbW.trans ⟨hB6.os,hB6.tape,hB6.output,hB6.size,fun j hj=>hO6 j (by omega)⟩).grown hgr7 (by omega) (fun j e=>(hlow j e).1)
  refine Ac (Ab (x_inc rfl rfl (by omega)) rfl (Ab Ad rfl (Af ?_)))
  refine Av (f.vals.length - (i+1)) (by omega) ⟨i+1,v7,fun j=>if j=i then at_ else N j,by omega,As rfl ⟨rfl,rfl,rfl,rfl,rfl,rfl,rfl,trivial⟩,hb7,?_,fun j hj=>?_,rfl⟩
  ·have e1:((List.range (i+1)).map fun j=>Value.int .i64 (((if j=i then at_ else N j):Nat):Int))=((List.range i).map fun j=>.int .i64 ((N j:Nat):Int)) ++ [.int .i64 ((at_:Nat):Int)]:=by
    rw[List.range_succ,List.map_append,List.map_cons,List.map_nil,if_pos rfl]
    congr 1
    refine List.map_congr_left fun j hj=>?_
    rw[if_neg (by have:=List.mem_range.1 hj;omega)]
   rw[e1]
   exact hrow7
  show (if j=i then at_ else N j)≤j∧RT f (r+1) (if j=i then at_ else N j) j∧∀k,RT f (r+1) k j→(if j=i then at_ else N j)≤k
  by_cases e:j=i
  ·subst e
   rw[if_pos rfl]
   exact ⟨hat,hat2,hat3⟩
  rw[if_neg e]
  exact hMN j (by omega)
 clear hN4
 rintro e W ⟨vn,N,⟨t,rfl⟩,hbW,hIN,hMN⟩
 refine Ac (Ab Ad rfl (Ab Ah rfl (Af (Ap (Aa (Ac (Ab (x_inc rfl rfl (by omega)) rfl (Ab Ad rfl (Af ?_)))))))))
 exact Av (f.vals.length+1 - (r+1)) (by omega) ⟨r+1,vn,N,by omega,As rfl ⟨rfl,rfl,rfl,rfl,trivial⟩,hb.trans (hbW.mono (by omega)),hIN,hMN,rfl⟩
end Go.Proofs.YteepnepebilckaaGreatDoor
