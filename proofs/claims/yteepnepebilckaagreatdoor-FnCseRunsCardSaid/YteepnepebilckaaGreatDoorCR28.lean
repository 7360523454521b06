/- The law FnCseRuns returns true for every input in which the opcode table reads as laid, and its arguments read as they did, the table being tied to the text of the program. -/
import Derived.Test.YteepnepebilckaaGreatDoorCR27
import Derived.Test.YteepnepebilckaaGreatDoorRows
import Derived.Test.YteepnepebilckaaGreatDoorTie
import Derived.Test.YteepnepebilckaaGreatDoorCards
namespace Go.Proofs.YteepnepebilckaaGreatDoor
open Go Go.Eng Go.RowKit
section
variable {P : Program} {w : World} {ρ : Operand → Value} {d : Option Tmp} {ty : TypeId} {pos : String} {af : Array Edge} {g : Option (Nat × Bool)}
theorem Eq {x:Operand} {a b:Value} (hx:ρ x= .tuple #[a,b]):(execOp ρ ⟨d,.extract x 0,ty,pos,af,g⟩).run P w= .ok (.value a) w:=by
 have key:(Instr.extract (.tuple #[a,b]) 0).run P w= .ok a w:=rfl
 simp [execOp,hx,key]
theorem Eu {x:Operand} {a b:Value} (hx:ρ x= .tuple #[a,b]):(execOp ρ ⟨d,.extract x 1,ty,pos,af,g⟩).run P w= .ok (.value b) w:=by
 have key:(Instr.extract (.tuple #[a,b]) 1).run P w= .ok b w:=rfl
 simp [execOp,hx,key]
end
set_option maxHeartbeats 4000000
attribute [local irreducible] EC EL DL Ret thenQ blockQ Bf bodyQ onlyN execOp Sem.run World.cell? World.frozen? World.setCell World.alloc
theorem Same_ret {w:World} {x y vi:Value} {f h:Fn} {ins:List Int} (hx:FnV w x f) (hy:FnV w y h) (hin:IntsV w vi ins) (hg:GoodP f) (hh:GoodP h)
 (heq:runG (toG f) (doI ins) 300 0 0 (fun _=>0)=runG (toG h) (doI ins) 300 0 0 (fun _=>0)):
 Ret Tryz.prog 31 #[x,y,vi] w fun v w'=>v= .bool true∧Below w.heap.size w w':=by
 obtain ⟨xv,xb,rfl,hvals,hblks⟩:=hx
 obtain ⟨yv,yb,rfl,yvals,yblks⟩:=hy
 refine ret_of_EC Tryz.func31 rfl rfl ?_
 have hx0:FnV w (.agg #[xv,xb]) f:=⟨xv,xb,rfl,hvals,hblks⟩
 have hy0:FnV w (.agg #[yv,yb]) h:=⟨yv,yb,rfl,yvals,yblks⟩
 obtain ⟨ab,cb,rfl,hbl⟩:=hblks
 obtain ⟨av,cv,rfl,hvl⟩:=hvals
 obtain ⟨yab,ycb,rfl,ybl⟩:=yblks
 obtain ⟨yav,ycv,rfl,yvl⟩:=yvals
 obtain ⟨B,hBd⟩:∃B,B=w.heap.size:=⟨_,rfl⟩
 refine Ae (Ac (Ab (Bt (v:=.agg #[.slice av f.vals.length cv,.slice ab f.blks.length cb]) rfl) rfl (el_new (.cells #[.slice av f.vals.length cv,.slice ab f.blks.length cb] 30) B (by omega) fun wa hN1 hO1 hZ1 hB1 hK1=>(Ab (Bt (v:=.agg #[.slice yav h.vals.length ycv,.slice yab h.blks.length ycb]) rfl) rfl (el_new (.cells #[.slice yav h.vals.length ycv,.slice yab h.blks.length ycb] 30) B (by omega) fun wb hN2 hO2 hZ2 hB2 hK2=>(Ab Ah rfl (Af (Aa ?_))))))))
 have hN1':wb.heap[w.heap.size]? =some (.cells #[.slice av f.vals.length cv,.slice ab f.blks.length cb] 30 (0,0)):=(hO2 _ (by omega)).trans hN1
 have hbwb:Below B w wb:=hB1.trans hB2
 have hKb:Keep w wb:=hK1.trans hK2
 refine Ae (Ac (Ab (AZ (cs:=[.slice av f.vals.length cv,.slice ab f.blks.length cb]) rfl (AX rfl) (A5 hN1')) rfl (Ab Ad rfl (Bg (AI Tryz.func42 rfl rfl rfl rfl) rfl (Run_ret (hx0.keep hKb) (hin.keep hKb) hg) ?_))))
 rintro _ w1 ⟨wv1,rfl,hw1,hl1,hb1⟩
 refine Ab Ad rfl (Ab (Eq rfl) rfl (Ab (Eu rfl) rfl (Ab Ah rfl (Ab Ah rfl (Af (Aa ?_))))))
 have hN2':w1.heap[wa.heap.size]? =some (.cells #[.slice yav h.vals.length ycv,.slice yab h.blks.length ycb] 30 (0,0)):=(hb1.block _ (by omega)).trans hN2
 have hKb1:Keep wb w1:=Keep.of_below hb1 (Nat.le_refl _)
 refine Ae (Ac (Ab (AZ (cs:=[.slice yav h.vals.length ycv,.slice yab h.blks.length ycb]) rfl (AX rfl) (A5 hN2')) rfl (Ab Ad rfl (Bg (AI Tryz.func42 rfl rfl rfl rfl) rfl (Run_ret ((hy0.keep hKb).keep hKb1) ((hin.keep hKb).keep hKb1) hh) ?_))))
 rintro _ w2 ⟨wv2,rfl,hw2,hl2,hb2⟩
 refine Ab Ad rfl (Ab (Eq rfl) rfl (Ab (Eu rfl) rfl (Ab Ah rfl (Ab Ah rfl (Af (Aa ?_))))))
 have hw1':=hw1.keep (Keep.of_below hb2 (Nat.le_refl _))
 rw[← heq] at hw2 ⊢
 clear hw1
 generalize runG (toG f) (doI ins) 300 0 0 (fun _=>0)=tot at hw1' hw2 hl1 ⊢
 obtain ⟨way,rv⟩:=tot
 obtain ⟨a1,c1,rfl,hi1⟩:=hw1'
 obtain ⟨a2,c2,rfl,hi2⟩:=hw2
 have hnl:(nats way).length=way.length:=List.length_map ..
 have hl1:way.length≤300:=hl1
 have hbF:Below w.heap.size w w2:=by
  rw[← hBd]
  have:=hb1.size
  exact (hbwb.trans (hb1.mono (by omega))).trans (hb2.mono (by omega))
 dsimp only at hi1 hi2 ⊢
 refine Ae (Ae (Ac (Ab Ad rfl (Ab (AP rfl (An rfl)) rfl (Ab Ad rfl (Ab (AP rfl (An rfl)) rfl (Ab (Bu rfl rfl) rfl (Ab Ad rfl ?_))))))))
 rw[decide_eq_false (fun hh=>hh rfl:¬ (((nats way).length:Int)≠((nats way).length:Int)))]
 refine Ao rfl rfl Ad rfl (Ao rfl rfl Ad rfl (Ao rfl rfl (Bu rfl rfl) rfl (Ab (AN rfl) rfl (Af (Aa (Bj (congrArg Value.bool (decide_eq_false (fun hh=>hh rfl:¬ (rv≠rv)))) rfl (As (Aa (Ae (Ae (Ac ?_)))))))))))
 refine Ab Ad rfl (Ab (AP rfl (An rfl)) rfl (Ab Ad rfl (Af (Aa (Aq ?_)))))
 refine EC_loop (fun n e wr=>Below w2.heap.size w2 wr∧∃k,k≤way.length∧At e [(7,.slice a1 (nats way).length c1),(9,.slice a2 (nats way).length c2),(35,.int .i64 ((nats way).length:Int)),(36,.int .i64 (k:Int))]∧n=way.length - k) way.length
  ⟨Below.refl _ _,0,Nat.zero_le _,Ap rfl ⟨rfl,rfl,rfl,rfl,trivial⟩,rfl⟩ ?_
 rintro n e wr ⟨hbr,k,hk,⟨t,rfl⟩,rfl⟩
 refine Ae (Ac (Ab (AY rfl rfl) rfl (Af (Aa (Ae ?_)))))
 refine AG rfl rfl (fun hlt=>?_) (fun hge=>?_)
 rotate_left
 ·refine AK (AA (AD (Az (Aa (Ae (Ac (Ab Ah rfl (Af (Aa (AC ?_))))))))))
  exact Aw rfl rfl rfl ⟨rfl,hbF.trans (hbr.mono hbF.size)⟩
 have hlt:k<(nats way).length:=by omega
 obtain ⟨ba,oa,rfl,hca⟩:=hi1.get hlt
 obtain ⟨bc,oc,rfl,hcc⟩:=hi2.get hlt
 have hca:=Keep.of_below hbr (Nat.le_refl _) _ _ hca
 have hcc:=Keep.of_below hbr (Nat.le_refl _) _ _ hcc
 refine As (Aa (Ae (Aq (Ae (Ac (Ab Ad rfl (Ab Ah rfl (Af (Aa (Ae ?_))))))))))
 have hc:Cells [(⟨ba,oa+k,none⟩,.int .i64 ((nats way).getD k 0)),(⟨bc,oc+k,none⟩,.int .i64 ((nats way).getD k 0))] wr.drew:=(Keep.drew wr).cells (.cons hca (.cons hcc (.nil _)))
 refine AW mixed _ [(0,false),(1,false),(2,false),(3,false),(4,false),(5,false),(6,false),(7,false),(8,false)] (by kernel_rfl) hc ?_
 have hbY:=hbr.drew
 generalize wr.drew=Y at hc hbY ⊢
 refine Aj rfl (fun _ _=>Ad) (Aj rfl (fun _ _=>Ad) (Aj rfl (fun _ _=>x_index1 rfl rfl (An rfl) (by omega)) (Aj rfl (fun _ hS=>Ai rfl (Ag rfl) (hS.get (by first|exact mm0|exact mm1|exact mm2|exact mm3|exact mm4|exact mm5|exact mm6|exact mm7))) ?_)))
 refine Aj rfl (fun _ _=>Ad) (Aj rfl (fun _ _=>Ad) (Aj rfl (fun _ _=>x_index1 rfl rfl (An rfl) (by omega)) (Aj rfl (fun _ hS=>Ai rfl (Ag rfl) (hS.get (by first|exact mm0|exact mm1|exact mm2|exact mm3|exact mm4|exact mm5|exact mm6|exact mm7))) ?_)))
 refine Aj rfl (fun _ _=>Bu rfl rfl) (AO (Aa (Bj (congrArg Value.bool (decide_eq_false (fun hh=>hh rfl:¬ ((nats way).getD k 0≠(nats way).getD k 0)))) rfl (As (Ar (Aa (Ac (Ab (x_inc rfl rfl (by omega)) rfl (Ab Ad rfl (Af ?_))))))))))
 exact Av (way.length - (k+1)) (by omega) ⟨hbY,k+1,by omega,Ap rfl ⟨rfl,rfl,rfl,rfl,trivial⟩,rfl⟩
theorem means_ret {w:World} {x y vi:Value} {f h:Fn} {ins:List Int} (hx:FnV w x f) (hy:FnV w y h) (hin:IntsV w vi ins) (hg:GoodP f) (hh:GoodP h) (hl1:h.vals.length=f.vals.length) (hl2:h.blks.length=f.blks.length)
 (heq:runG (toG f) (doI ins) 300 0 0 (fun _=>0)=runG (toG h) (doI ins) 300 0 0 (fun _=>0)):
 Ret Tryz.prog 17 #[x,y,vi] w fun v w'=>v= .bool true∧Below w.heap.size w w':=by
 obtain ⟨xv,xb,rfl,hvals,hblks⟩:=hx
 obtain ⟨yv,yb,rfl,yvals,yblks⟩:=hy
 refine ret_of_EC Tryz.func17 rfl rfl ?_
 have hx0:FnV w (.agg #[xv,xb]) f:=⟨xv,xb,rfl,hvals,hblks⟩
 have hy0:FnV w (.agg #[yv,yb]) h:=⟨yv,yb,rfl,yvals,yblks⟩
 obtain ⟨ab,cb,rfl,hbl⟩:=hblks
 obtain ⟨av,cv,rfl,hvl⟩:=hvals
 obtain ⟨yab,ycb,rfl,ybl⟩:=yblks
 obtain ⟨yav,ycv,rfl,yvl⟩:=yvals
 obtain ⟨B,hBd⟩:∃B,B=w.heap.size:=⟨_,rfl⟩
 refine Ae (Ac (Ab (Bt (v:=.agg #[.slice av f.vals.length cv,.slice ab f.blks.length cb]) rfl) rfl (el_new (.cells #[.slice av f.vals.length cv,.slice ab f.blks.length cb] 30) B (by omega) fun wa hN1 hO1 hZ1 hB1 hK1=>(Ab (Bt (v:=.agg #[.slice yav h.vals.length ycv,.slice yab h.blks.length ycb]) rfl) rfl (el_new (.cells #[.slice yav h.vals.length ycv,.slice yab h.blks.length ycb] 30) B (by omega) fun wb hN2 hO2 hZ2 hB2 hK2=>(Ab Ah rfl (Af (Aa ?_))))))))
 have hN1':wb.heap[w.heap.size]? =some (.cells #[.slice av f.vals.length cv,.slice ab f.blks.length cb] 30 (0,0)):=(hO2 _ (by omega)).trans hN1
 have hbwb:Below B w wb:=hB1.trans hB2
 have hKb:Keep w wb:=hK1.trans hK2
 refine Ae (Ac (Ab (AZ (cs:=[.slice yav h.vals.length ycv,.slice yab h.blks.length ycb]) rfl (AX rfl) (A5 hN2)) rfl (Bg (AI Tryz.func10 rfl rfl rfl rfl) rfl (Good_ret (hy0.keep hKb)) ?_)))
 rintro _ w1 ⟨gb,rfl,hgb,hb1⟩
 have hgt:gb=true:=hgb.2 hh
 subst hgt
 have hN1w:w1.heap[w.heap.size]? =some (.cells #[.slice av f.vals.length cv,.slice ab f.blks.length cb] 30 (0,0)):=(hb1.block _ (by omega)).trans hN1'
 have hN2w:w1.heap[wa.heap.size]? =some (.cells #[.slice yav h.vals.length ycv,.slice yab h.blks.length ycb] 30 (0,0)):=(hb1.block _ (by omega)).trans hN2
 have f0:w1.cell? ⟨w.heap.size,0+0,none⟩=some (.slice av f.vals.length cv):=Am hN1w rfl
 have f1:w1.cell? ⟨w.heap.size,0+1,none⟩=some (.slice ab f.blks.length cb):=Am hN1w rfl
 have g0:w1.cell? ⟨wa.heap.size,0+0,none⟩=some (.slice yav h.vals.length ycv):=Am hN2w rfl
 have g1:w1.cell? ⟨wa.heap.size,0+1,none⟩=some (.slice yab h.blks.length ycb):=Am hN2w rfl
 have hKw1:Keep w w1:=hKb.trans (Keep.of_below hb1 (Nat.le_refl _))
 refine Ab Ad rfl (Ao rfl rfl (Ak rfl (Al rfl)) rfl (Ao rfl rfl (Ai rfl (Ag rfl) ‹_›) rfl ?_))
 refine Ao rfl rfl (AP rfl (An rfl)) rfl (Ao rfl rfl (Ak rfl (Al rfl)) rfl (Ao rfl rfl (Ai rfl (Ag rfl) ‹_›) rfl ?_))
 refine Ao rfl rfl (AP rfl (An rfl)) rfl (Ao rfl rfl (A4 rfl rfl) rfl (Ab (AQ rfl) rfl (Ab Ad rfl ?_)))
 rw[decide_eq_true (by rw[hl1]:(h.vals.length:Int)=(f.vals.length:Int))]
 refine Ao rfl rfl (Ak rfl (Al rfl)) rfl (Ao rfl rfl (Ai rfl (Ag rfl) ‹_›) rfl ?_)
 refine Ao rfl rfl (AP rfl (An rfl)) rfl (Ao rfl rfl (Ak rfl (Al rfl)) rfl (Ao rfl rfl (Ai rfl (Ag rfl) ‹_›) rfl ?_))
 refine Ao rfl rfl (AP rfl (An rfl)) rfl (Ao rfl rfl (A4 rfl rfl) rfl (Ab (AQ rfl) rfl (Ab Ad rfl ?_)))
 rw[decide_eq_true (by rw[hl2]:(h.blks.length:Int)=(f.blks.length:Int))]
 refine Ao rfl rfl (AZ (cs:=[.slice av f.vals.length cv,.slice ab f.blks.length cb]) rfl (AX rfl) (A5 hN1w)) rfl (Ao rfl rfl (AZ (cs:=[.slice yav h.vals.length ycv,.slice yab h.blks.length ycb]) rfl (AX rfl) (A5 hN2w)) rfl (Ao rfl rfl Ad rfl (Fa rfl rfl (AI Tryz.func31 rfl rfl rfl rfl) rfl (Same_ret (hx0.keep hKw1) (hy0.keep hKw1) (hin.keep hKw1) hg hh heq) ?_)))
 rintro _ w2 ⟨rfl,hb2⟩
 refine Ab (AQ rfl) rfl (Ab Ah rfl (Af (Aa (AC ?_))))
 have:=hb1.size
 exact Aw rfl rfl rfl ⟨rfl,by rw[← hBd];exact (hbwb.trans (hb1.mono (by omega))).trans (hb2.mono (by omega))⟩
end Go.Proofs.YteepnepebilckaaGreatDoor
namespace Go.Proofs.YteepnepebilckaaGreatDoor
open Go Go.Eng Go.RowKit
set_option maxHeartbeats 4000000
attribute [local irreducible] EC EL DL Ret thenQ blockQ Bf bodyQ onlyN execOp Sem.run World.cell? World.frozen? World.setCell World.alloc
theorem fits3_ret {w:World} {x y z:Int} {a:Option Addr} {n c:Nat}:
 Ret Tryz.prog 37 #[.agg #[.int .i64 x,.int .i64 y,.slice a n c,.int .i64 z]] w fun v w'=>(∃b,v= .bool b)∧Below w.heap.size w w':=by
 refine ret_of_EC Tryz.func37 rfl rfl ?_
 obtain ⟨B,hBd⟩:∃B,B=w.heap.size:=⟨_,rfl⟩
 refine Ae (Ac (Ab (Bt (v:=.agg #[.int .i64 x,.int .i64 y,.slice a n c,.int .i64 z]) rfl) rfl (el_new (.cells #[.int .i64 x,.int .i64 y,.slice a n c,.int .i64 z] 48) B (by omega) fun wa hN1 hO1 hZ1 hB1 hK1=>(Ab Ah rfl (Af (Aa ?_))))))
 have g2:wa.cell? ⟨w.heap.size,0+2,none⟩=some (.slice a n c):=Am hN1 rfl
 rw[← hBd] at g2 ⊢
 refine Ae (Ae (Ac (Ab (Ak rfl (Al rfl)) rfl (Ab (Ai rfl (Ag rfl) ‹_›) rfl ?_))))
 refine Ab (AP rfl (An rfl)) rfl (Ab (BB rfl rfl) rfl (Af (Aa ?_)))
 refine AG rfl rfl (fun h=>?_) (fun h=>?_)
 ·refine Ae (Ac (Ab Ah rfl (Af (Aa (AC (AE ?_))))))
  exact Aw rfl rfl rfl ⟨⟨_,rfl⟩,hB1⟩
 refine As (Aa (Ae (Ac (Ab Ah rfl (Af (Aa (AC ?_)))))))
 exact Aw rfl rfl rfl ⟨⟨_,rfl⟩,hB1⟩
theorem FS {w:World} {x y z:Int} {a:Option Addr} {n c:Nat}:
 Ret Tryz.prog 38 #[.agg #[.int .i64 x,.int .i64 y,.slice a n c,.int .i64 z]] w fun v w'=>(∃b,v= .bool b)∧Below w.heap.size w w':=by
 refine ret_of_EC Tryz.func38 rfl rfl ?_
 obtain ⟨B,hBd⟩:∃B,B=w.heap.size:=⟨_,rfl⟩
 refine Ae (Ac (Ab (Bt (v:=.agg #[.int .i64 x,.int .i64 y,.slice a n c,.int .i64 z]) rfl) rfl (el_new (.cells #[.int .i64 x,.int .i64 y,.slice a n c,.int .i64 z] 53) B (by omega) fun wa hN1 hO1 hZ1 hB1 hK1=>(Ab Ah rfl (Af (Aa ?_))))))
 have g2:wa.cell? ⟨w.heap.size,0+2,none⟩=some (.slice a n c):=Am hN1 rfl
 rw[← hBd] at g2 ⊢
 refine Ae (Ae (Ac (Ab (Ak rfl (Al rfl)) rfl (Ab (Ai rfl (Ag rfl) ‹_›) rfl ?_))))
 refine Ab (AP rfl (An rfl)) rfl (Ab (BB rfl rfl) rfl (Af (Aa ?_)))
 refine AG rfl rfl (fun h=>?_) (fun h=>?_)
 ·refine Ae (Ac (Ab Ah rfl (Af (Aa (AC (AE ?_))))))
  exact Aw rfl rfl rfl ⟨⟨_,rfl⟩,hB1⟩
 refine As (Aa (Ae (Ac (Ab Ah rfl (Af (Aa (AC ?_)))))))
 exact Aw rfl rfl rfl ⟨⟨_,rfl⟩,hB1⟩
theorem fits2_ret {w:World} {x:Value} {l:List Vl} (hx:ValsV w x l):
 Ret Tryz.prog 22 #[x] w fun v w'=>∃b,v= .bool b∧(b=true→l.length≤2147483647)∧Below w.heap.size w w':=by
 obtain ⟨av,cv,rfl,hvl⟩:=hx
 refine ret_of_EC Tryz.func22 rfl rfl ?_
 obtain ⟨B,hBd⟩:∃B,B=w.heap.size:=⟨_,rfl⟩
 refine Ae (Ac (Ab Ah rfl (Af (Aa (Ae (Ae (Ac (Ab Ad rfl (Ab (AP rfl (An rfl)) rfl (Ab (BB rfl rfl) rfl (Af ?_)))))))))))
 refine Aa ?_
 refine AG rfl rfl (fun h=>?_) (fun h=>?_)
 ·refine Ae (Ac (Ab Ah rfl (Af (Aa (AC (AE ?_))))))
  exact Aw rfl rfl rfl ⟨false,rfl,fun h=>(by cases h),Below.refl _ _⟩
 refine As (Aa ?_)
 have hlen:l.length≤2147483647:=by omega
 refine Ae (Ae (Ac (Ab Ad rfl (Ab (AP rfl (An rfl)) rfl (Ab Ad rfl (Af (Aa (Aq ?_))))))))
 refine EC_loop (fun n e wr=>∃k,k≤l.length∧At e [(8,.slice av l.length cv),(9,.int .i64 (l.length:Int)),(10,.int .i64 (k:Int))]∧Below B w wr∧n=l.length - k) l.length
  ⟨0,Nat.zero_le _,Ap rfl ⟨rfl,rfl,rfl,trivial⟩,Below.refl _ _,rfl⟩ ?_
 rintro n e wr ⟨k,hk,⟨t,rfl⟩,hb,rfl⟩
 refine Ae (Ac (Ab (AY rfl rfl) rfl (Af (Aa (Ae ?_)))))
 refine AG rfl rfl (fun hlt=>?_) (fun hge=>?_)
 rotate_left
 ·have hk:k=l.length:=by omega
  subst hk
  refine AK (AA (AD (Az (Aa (Ae (Ac (Ab Ah rfl (Af (Aa (AC ?_))))))))))
  exact Aw rfl rfl rfl ⟨true,rfl,fun _=>hlen,by rw[← hBd];exact hb⟩
 have hlt:k<l.length:=by omega
 obtain ⟨bb,ob,rfl,hq⟩:=hvl.resolve_left (fun e=>by rw[e] at hlt;simp at hlt)
 obtain ⟨s0,hcells0,⟨sa,sc,rfl,hints⟩⟩:=hq k hlt
 have hcells:=hcells0.keep (Keep.of_below hb (by omega))
 have hszr:=hb.size
 refine As (Aa (Ae (Aq (Ae (Ac (Ab (A6 (n:=4) rfl rfl (An rfl) hlt) rfl (Ab (AZ rfl (AX rfl) hcells) rfl (Ab (Ba EO) rfl (Bc (Bb rfl rfl (A7 rfl) rfl rfl) rfl (Af (Aa ?_)))))))))))
 have hBle:B≤wr.heap.size:=by omega
 refine ec_new (.cells #[.int .i64 (l.getD k default).op,.int .i64 (l.getD k default).blk,.slice sa (l.getD k default).args.length sc,.int .i64 (l.getD k default).aux] 48) B (by omega) fun X hN3 hO3 hZ3 hB3 hK3=>?_
 obtain ⟨V,hV⟩:∃V,V=wr.heap.size:=⟨_,rfl⟩
 rw[← hV] at hN3 ⊢
 have hbX:Below B w X:=hb.trans hB3
 refine Ae (Ac (Ab (AZ (cs:=[.int .i64 (l.getD k default).op,.int .i64 (l.getD k default).blk,.slice sa (l.getD k default).args.length sc,.int .i64 (l.getD k default).aux]) rfl (AX rfl) (A5 hN3)) rfl (Bg (AI Tryz.func37 rfl rfl rfl rfl) rfl fits3_ret ?_)))
 rintro _ Y ⟨⟨b,rfl⟩,hbY⟩
 have hbY:Below B w Y:=hbX.trans (hbY.mono (by omega))
 refine Ab (BX rfl) rfl (Af (Aa ?_))
 cases b with
 |false=>
  refine Bm rfl rfl (Ae (Ac (Ab Ah rfl (Af (Aa (AC (AH (AE (Br (AH (AE ?_)))))))))))
  exact Aw rfl rfl rfl ⟨false,rfl,fun h=>(by cases h),by rw[← hBd];exact hbY⟩
 |true=>
  refine Bj rfl rfl (As (Ar (Aa (Ac (Ab (x_inc rfl rfl (by omega)) rfl (Ab Ad rfl (Af ?_)))))))
  exact Av (l.length - (k+1)) (by omega) ⟨k+1,by omega,Ap rfl ⟨rfl,rfl,rfl,trivial⟩,hbY,rfl⟩
theorem fits4_ret {w:World} {x:Value} {l:List Bk} (hx:BlksV w x l):
 Ret Tryz.prog 23 #[x] w fun v w'=>∃b,v= .bool b∧(b=true→l.length≤2147483647)∧Below w.heap.size w w':=by
 obtain ⟨av,cv,rfl,hvl⟩:=hx
 refine ret_of_EC Tryz.func23 rfl rfl ?_
 obtain ⟨B,hBd⟩:∃B,B=w.heap.size:=⟨_,rfl⟩
 refine Ae (Ac (Ab Ah rfl (Af (Aa (Ae (Ae (Ac (Ab Ad rfl (Ab (AP rfl (An rfl)) rfl (Ab (BB rfl rfl) rfl (Af ?_)))))))))))
 refine Aa ?_
 refine AG rfl rfl (fun h=>?_) (fun h=>?_)
 ·refine Ae (Ac (Ab Ah rfl (Af (Aa (AC (AE ?_))))))
  exact Aw rfl rfl rfl ⟨false,rfl,fun h=>(by cases h),Below.refl _ _⟩
 refine As (Aa ?_)
 have hlen:l.length≤2147483647:=by omega
 refine Ae (Ae (Ac (Ab Ad rfl (Ab (AP rfl (An rfl)) rfl (Ab Ad rfl (Af (Aa (Aq ?_))))))))
 refine EC_loop (fun n e wr=>∃k,k≤l.length∧At e [(8,.slice av l.length cv),(9,.int .i64 (l.length:Int)),(10,.int .i64 (k:Int))]∧Below B w wr∧n=l.length - k) l.length
  ⟨0,Nat.zero_le _,Ap rfl ⟨rfl,rfl,rfl,trivial⟩,Below.refl _ _,rfl⟩ ?_
 rintro n e wr ⟨k,hk,⟨t,rfl⟩,hb,rfl⟩
 refine Ae (Ac (Ab (AY rfl rfl) rfl (Af (Aa (Ae ?_)))))
 refine AG rfl rfl (fun hlt=>?_) (fun hge=>?_)
 rotate_left
 ·have hk:k=l.length:=by omega
  subst hk
  refine AK (AA (AD (Az (Aa (Ae (Ac (Ab Ah rfl (Af (Aa (AC ?_))))))))))
  exact Aw rfl rfl rfl ⟨true,rfl,fun _=>hlen,by rw[← hBd];exact hb⟩
 have hlt:k<l.length:=by omega
 obtain ⟨bb,ob,rfl,hq⟩:=hvl.resolve_left (fun e=>by rw[e] at hlt;simp at hlt)
 obtain ⟨s0,hcells0,⟨sa,sc,rfl,hints⟩⟩:=hq k hlt
 have hcells:=hcells0.keep (Keep.of_below hb (by omega))
 have hszr:=hb.size
 refine As (Aa (Ae (Aq (Ae (Ac (Ab (A6 (n:=4) rfl rfl (An rfl) hlt) rfl (Ab (AZ rfl (AX rfl) hcells) rfl (Ab (Ba EA) rfl (Bc (Bb rfl rfl (A7 rfl) rfl rfl) rfl (Af (Aa ?_)))))))))))
 have hBle:B≤wr.heap.size:=by omega
 refine ec_new (.cells #[.int .i64 (l.getD k default).kind,.int .i64 (l.getD k default).ctrl,.slice sa (l.getD k default).succs.length sc,.int .i64 (l.getD k default).likely] 53) B (by omega) fun X hN3 hO3 hZ3 hB3 hK3=>?_
 obtain ⟨V,hV⟩:∃V,V=wr.heap.size:=⟨_,rfl⟩
 rw[← hV] at hN3 ⊢
 have hbX:Below B w X:=hb.trans hB3
 refine Ae (Ac (Ab (AZ (cs:=[.int .i64 (l.getD k default).kind,.int .i64 (l.getD k default).ctrl,.slice sa (l.getD k default).succs.length sc,.int .i64 (l.getD k default).likely]) rfl (AX rfl) (A5 hN3)) rfl (Bg (AI Tryz.func38 rfl rfl rfl rfl) rfl FS ?_)))
 rintro _ Y ⟨⟨b,rfl⟩,hbY⟩
 have hbY:Below B w Y:=hbX.trans (hbY.mono (by omega))
 refine Ab (BX rfl) rfl (Af (Aa ?_))
 cases b with
 |false=>
  refine Bm rfl rfl (Ae (Ac (Ab Ah rfl (Af (Aa (AC (AH (AE (Br (AH (AE ?_)))))))))))
  exact Aw rfl rfl rfl ⟨false,rfl,fun h=>(by cases h),by rw[← hBd];exact hbY⟩
 |true=>
  refine Bj rfl rfl (As (Ar (Aa (Ac (Ab (x_inc rfl rfl (by omega)) rfl (Ab Ad rfl (Af ?_)))))))
  exact Av (l.length - (k+1)) (by omega) ⟨k+1,by omega,Ap rfl ⟨rfl,rfl,rfl,trivial⟩,hbY,rfl⟩
theorem fits1_ret {w:World} {x:Value} {f:Fn} (hx:FnV w x f):
 Ret Tryz.prog 8 #[x] w fun v w'=>∃b,v= .bool b∧(b=true→f.vals.length<4294967296∧f.blks.length<4294967296)∧Below w.heap.size w w':=by
 obtain ⟨xv,xb,rfl,hvals,hblks⟩:=hx
 refine ret_of_EC Tryz.func8 rfl rfl ?_
 have hx0:FnV w (.agg #[xv,xb]) f:=⟨xv,xb,rfl,hvals,hblks⟩
 have hvals0:=hvals
 have hblks0:=hblks
 obtain ⟨ab,cb,rfl,hbl⟩:=hblks
 obtain ⟨av,cv,rfl,hvl⟩:=hvals
 obtain ⟨B,hBd⟩:∃B,B=w.heap.size:=⟨_,rfl⟩
 refine Ae (Ac (Ab (Bt (v:=.agg #[.slice av f.vals.length cv,.slice ab f.blks.length cb]) rfl) rfl (el_new (.cells #[.slice av f.vals.length cv,.slice ab f.blks.length cb] 25) B (by omega) fun wa hN1 hO1 hZ1 hB1 hK1=>(Ab Ah rfl (Af (Aa ?_))))))
 have g0:wa.cell? ⟨w.heap.size,0+0,none⟩=some (.slice av f.vals.length cv):=Am hN1 rfl
 have g1:wa.cell? ⟨w.heap.size,0+1,none⟩=some (.slice ab f.blks.length cb):=Am hN1 rfl
 refine Ae (Ae (Ac (Ab (Ak rfl (Al rfl)) rfl (Ab (Ai rfl (Ag rfl) ‹_›) rfl ?_))))
 refine Bg (AI Tryz.func22 rfl rfl rfl rfl) rfl (fits2_ret (hvals0.keep hK1)) ?_
 rintro _ w1 ⟨b,rfl,hb,hbl1⟩
 refine Ab (BX rfl) rfl (Af (Aa ?_))
 have hK2:Keep wa w1:=Keep.of_below hbl1 (Nat.le_refl _)
 have g1':=hK2 _ _ g1
 cases b with
 |false=>
  refine Bm rfl rfl (Ae (Ac (Ab Ah rfl (Af (Aa (AC (AE ?_)))))))
  exact Aw rfl rfl rfl ⟨false,rfl,fun h=>(by cases h),by rw[← hBd];exact hB1.trans (hbl1.mono (by omega))⟩
 |true=>
 refine Bj rfl rfl (As (Aa (Ae (Ae (Ac (Ab (Ak rfl (Al rfl)) rfl (Ab (Ai rfl (Ag rfl) ‹_›) rfl ?_)))))))
 refine Bg (AI Tryz.func23 rfl rfl rfl rfl) rfl (fits4_ret ((hblks0.keep hK1).keep hK2)) ?_
 rintro _ w2 ⟨b2,rfl,hb2,hbl2⟩
 refine Ab (BX rfl) rfl (Af (Aa ?_))
 have hsz1:=hbl1.size
 have hbF:Below w.heap.size w w2:=by rw[← hBd];exact (hB1.trans (hbl1.mono (by omega))).trans (hbl2.mono (by omega))
 cases b2 with
 |false=>
  refine Bm rfl rfl (Ae (Ac (Ab Ah rfl (Af (Aa (AC (AE ?_)))))))
  exact Aw rfl rfl rfl ⟨false,rfl,fun h=>(by cases h),hbF⟩
 |true=>
  refine Bj rfl rfl (As (Aa (Ae (Ac (Ab Ah rfl (Af (Aa (AC ?_))))))))
  exact Aw rfl rfl rfl ⟨true,rfl,fun _=>⟨by have:=hb rfl;omega,by have:=hb2 rfl;omega⟩,hbF⟩
end Go.Proofs.YteepnepebilckaaGreatDoor
namespace Go.Proofs.YteepnepebilckaaGreatDoor
open Go Go.Eng Go.RowKit
theorem doI_comm (ins:List Int) (o a x y:Int) (h0:0≤o) (hc:comm o.toNat=true):doI ins o a [x,y]=doI ins o a [y,x]:=by
 obtain ⟨k,rfl⟩:∃k:Nat,o=(k:Int):=⟨_,(Int.toNat_of_nonneg h0).symm⟩
 have h2:k=2∨k=4∨k=5∨k=6∨k=7∨k=11∨k=12:=by
  simp [comm] at hc
  omega
 rcases h2 with rfl|rfl|rfl|rfl|rfl|rfl|rfl
 ·show IntKind.i64.wrap (x+y)=IntKind.i64.wrap (y+x)
  rw[Int.add_comm]
 ·show IntKind.i64.wrap (x * y)=IntKind.i64.wrap (y * x)
  rw[Int.mul_comm]
 ·show IntKind.i64.wrap (((BitVec.ofInt IntKind.i64.bits x &&& BitVec.ofInt IntKind.i64.bits y).toNat:Nat):Int)=IntKind.i64.wrap (((BitVec.ofInt IntKind.i64.bits y &&& BitVec.ofInt IntKind.i64.bits x).toNat:Nat):Int)
  rw[BitVec.and_comm]
 ·show IntKind.i64.wrap (((BitVec.ofInt IntKind.i64.bits x ||| BitVec.ofInt IntKind.i64.bits y).toNat:Nat):Int)=IntKind.i64.wrap (((BitVec.ofInt IntKind.i64.bits y ||| BitVec.ofInt IntKind.i64.bits x).toNat:Nat):Int)
  rw[BitVec.or_comm]
 ·show IntKind.i64.wrap (((BitVec.ofInt IntKind.i64.bits x ^^^ BitVec.ofInt IntKind.i64.bits y).toNat:Nat):Int)=IntKind.i64.wrap (((BitVec.ofInt IntKind.i64.bits y ^^^ BitVec.ofInt IntKind.i64.bits x).toNat:Nat):Int)
  rw[BitVec.xor_comm]
 ·show (if x=y then (1:Int) else 0)=if y=x then 1 else 0
  by_cases h:x=y
  ·rw[if_pos h,if_pos h.symm]
  rw[if_neg h,if_neg fun e=>h e.symm]
 show (if x≠y then (1:Int) else 0)=if y≠x then 1 else 0
 by_cases h:x≠y
 ·rw[if_pos h,if_pos h.symm]
 rw[if_neg h,if_neg fun e=>h e.symm]
theorem GK {f:Fn} (hg:GoodP f) (ins:List Int) {A:Nat→List Nat} {arr:Nat→Nat} {cls:Nat→Int} {P:List (Nat×Nat)} {rw:Nat→Option Nat} (hof:CseR (toG f) True A arr cls P rw):
 GoodP (toF (((toG f).wa A).mv (fR rw)))∧(toF (((toG f).wa A).mv (fR rw))).vals.length=f.vals.length∧(toF (((toG f).wa A).mv (fR rw))).blks.length=f.blks.length∧
  runG (toG f) (doI ins) 300 0 0 (fun _=>0)=runG (toG (toF (((toG f).wa A).mv (fR rw)))) (doI ins) 300 0 0 (fun _=>0):=by
 have h0:=hg.good
 have h1:=h0.swo hof.sw
 have h2:=h1.moved hof.clsC hof.mv
 exact ⟨h2.goodP,Ev _,DH _,((run_swo h0 hof.sw (doI_comm ins) 300 _).trans (FU h1 hof.clsC hof.mv 300 _)).trans (GL h2 h2.goodP.good (like_toF h2) 300 _)⟩
set_option maxHeartbeats 4000000
attribute [local irreducible] EC EL DL Ret thenQ blockQ Bf bodyQ onlyN execOp Sem.run World.cell? World.frozen? World.setCell World.alloc
theorem FnCseRuns_ret {w:World} {x vi:Value} {f:Fn} {ins:List Int} (hx:FnV w x f) (hin:IntsV w vi ins) (ht:Tabl w):
 Ret Tryz.prog 5 #[x,vi] w fun v w'=>v= .bool true∧Below w.heap.size w w':=by
 obtain ⟨xv,xb,rfl,hvals,hblks⟩:=hx
 refine ret_of_EC Tryz.func5 rfl rfl ?_
 have hx0:FnV w (.agg #[xv,xb]) f:=⟨xv,xb,rfl,hvals,hblks⟩
 have hin0:=hin
 obtain ⟨ia,ic,rfl,hil⟩:=hin
 obtain ⟨ab,cb,rfl,hbl⟩:=hblks
 obtain ⟨av,cv,rfl,hvl⟩:=hvals
 obtain ⟨B,hBd⟩:∃B,B=w.heap.size:=⟨_,rfl⟩
 refine Ae (Ac (Ab (Bt (v:=.agg #[.slice av f.vals.length cv,.slice ab f.blks.length cb]) rfl) rfl (el_new (.cells #[.slice av f.vals.length cv,.slice ab f.blks.length cb] 25) B (by omega) fun wa hN1 hO1 hZ1 hB1 hK1=>(Ab Ah rfl (Af (Aa ?_))))))
 obtain ⟨b1,hb1⟩:∃b1,b1=w.heap.size:=⟨_,rfl⟩
 rw[← hb1] at hN1 ⊢
 have hbw:Below b1 w wa:=by rw[hb1,← hBd];exact hB1
 refine Ae (Ae (Ac (Ab (AZ (cs:=[.slice av f.vals.length cv,.slice ab f.blks.length cb]) rfl (AX rfl) (A5 hN1)) rfl (Bg (AI Tryz.func8 rfl rfl rfl rfl) rfl (fits1_ret (hx0.keep hK1)) ?_))))
 rintro _ w1 ⟨sb,rfl,hfit,hbs⟩
 refine Ab (BX rfl) rfl ?_
 have hb1w:Below b1 w w1:=hbw.trans (hbs.mono (by omega))
 have hsz1:=hbs.size
 cases sb with
 |false=>
  refine Ab Ad rfl (AF rfl rfl (AF rfl rfl (AF rfl rfl (Ab (AQ rfl) rfl (Af (Aa (Bm rfl rfl (Ae (Ac (Ab Ah rfl (Af ?_)))))))))))
  refine Aa (AC (AE ?_))
  exact Aw rfl rfl rfl ⟨rfl,hb1w⟩
 |true=>
 refine Ab Ad rfl (Ao rfl rfl Ad rfl (Ao rfl rfl (AP rfl (An rfl)) rfl (Ao rfl rfl (BB rfl rfl) rfl (Ab (AN rfl) rfl (Af (Aa ?_))))))
 refine AG rfl rfl (fun hlong=>?_) (fun hshort=>?_)
 ·refine Ae (Ac (Ab Ah rfl (Af (Aa (AC (AE ?_))))))
  exact Aw rfl rfl rfl ⟨rfl,hb1w⟩
 refine As (Aa ?_)
 obtain ⟨hf1,hf2⟩:=hfit rfl
 have hbx1:w1.heap[b1]? =some (.cells #[.slice av f.vals.length cv,.slice ab f.blks.length cb] 25 (0,0)):=(hbs.block b1 (by omega)).trans hN1
 have hKe1:Keep w w1:=hK1.trans (Keep.of_below hbs (Nat.le_refl _))
 refine Ae (Ac (Ab (AZ (cs:=[.slice av f.vals.length cv,.slice ab f.blks.length cb]) rfl (AX rfl) (A5 hbx1)) rfl (Bg (AI Tryz.func9 rfl rfl rfl rfl) rfl (laws_conv_ret (hx0.keep hKe1) hf1 hf2) ?_)))
 rintro vc w2 ⟨hvc,hbl2⟩
 have hsz2:=hbl2.size
 have hvc0:=hvc
 obtain ⟨cxv,cxb,rfl,cvals,cblks⟩:=hvc
 obtain ⟨cab,ccb,rfl,_⟩:=cblks
 obtain ⟨cav,ccv,rfl,_⟩:=cvals
 refine Ab (Ba DO) rfl (Bc (Bb rfl rfl (A7 rfl) rfl rfl) rfl (Af (Aa ?_)))
 have hBle:B≤w2.heap.size:=by omega
 refine ec_new (.cells #[.slice cav f.vals.length ccv,.slice cab f.blks.length ccb] 30) B (by omega) fun w3 hN3 hO3 hZ3 hB3 hK3=>?_
 obtain ⟨b5,hb5⟩:∃b5,b5=w2.heap.size:=⟨_,rfl⟩
 rw[← hb5] at hN3 ⊢
 have hb3w:Below b1 w w3:=(hb1w.trans (hbl2.mono (by omega))).trans ⟨hB3.os,hB3.tape,hB3.output,hB3.size,fun j hj=>hO3 j (by omega)⟩
 have hKe3:Keep w w3:=(hKe1.trans (Keep.of_below hbl2 (Nat.le_refl _))).trans hK3
 have hvc3:=hvc0.keep hK3
 have hbx3:w3.heap[b1]? =some (.cells #[.slice av f.vals.length cv,.slice ab f.blks.length cb] 25 (0,0)):=(hO3 b1 (by omega)).trans ((hbl2.block b1 (by omega)).trans hbx1)
 refine Ae ?_
 have hc:Cells [(⟨b5,0+0,none⟩,.slice cav f.vals.length ccv),(⟨b5,0+1,none⟩,.slice cab f.blks.length ccb),(⟨b1,0+0,none⟩,.slice av f.vals.length cv),(⟨b1,0+1,none⟩,.slice ab f.blks.length cb)] w3.drew:=
  (Keep.drew w3).cells (.cons (Am hN3 rfl) (.cons (Am hN3 rfl) (.cons (Am hbx3 rfl) (.cons (Am hbx3 rfl) (.nil _)))))
 refine AW mixed _ [(0,false),(1,true),(2,false),(3,false),(4,false),(5,true),(6,false),(7,false),(8,false),(9,false),(10,false),(11,false),(12,false),(13,false),(14,false),(15,false),(18,false),(16,true),(17,true),(19,true),(20,false),(21,false)] (by kernel_rfl) hc ?_
 have hbd:Below b1 w w3.drew:=hb3w.drew
 have hKd:Keep w w3.drew:=hKe3.trans (Keep.drew w3)
 have hvd:=hvc3.keep (Keep.drew w3)
 have hszd:b1+1≤w3.drew.heap.size:=by show b1+1≤w3.heap.size;omega
 generalize w3.drew=Wd at hc hbd hKd hvd hszd ⊢
 refine Aj rfl (fun _ hS=>AZ (cs:=[.slice cav f.vals.length ccv,.slice cab f.blks.length ccb]) rfl (AX rfl) (fun j u hj=>by
  rcases j with _|_|j
  ·simp at hj;subst hj;exact hS.get (.head _)
  ·simp at hj;subst hj;exact hS.get (.tail _ (.head _))
  simp at hj)) ?_
 refine BJ rfl (AI Tryz.func10 rfl rfl rfl rfl) (Good_ret hvd) ?_
 rintro _ w4 ⟨gb,rfl,hgood,hbl4⟩
 have hK4:=Keep.of_below hbl4 (Nat.le_refl _)
 have hsz4:=hbl4.size
 have hc4:=hK4.cells hc
 refine ⟨.inr hc4,?_⟩
 have hb4:Below b1 w w4:=hbd.trans (hbl4.mono (by omega))
 cases gb with
 |false=>
  refine Aj rfl (fun _ _=>BX rfl) (Aj rfl (fun _ _=>Ad) (AR rfl rfl (Cj rfl rfl (.inr hc4) (AR rfl rfl (Aj rfl (fun _ _=>AQ rfl) (Aj rfl (fun _ _=>Ad) (AR rfl rfl (AR rfl rfl (AR rfl rfl (Aj rfl (fun _ _=>AQ rfl) (Aj rfl (fun _ _=>Ad) ?_)))))))))))
  refine AR rfl rfl (AR rfl rfl (AR rfl rfl (Cj rfl rfl (.inr hc4) (Cj rfl rfl (.inr hc4) (Cj rfl rfl (.inr hc4) (Aj rfl (fun _ _=>AQ rfl) (Aj rfl (fun _ _=>Ah) (AO (Aa (AC ?_))))))))))
  exact Aw rfl rfl rfl ⟨rfl,hb4⟩
 |true=>
 refine Aj rfl (fun _ _=>BX rfl) (Aj rfl (fun _ _=>Ad) ?_)
 have hgd:=hgood.1 rfl
 refine AM rfl rfl (fun _ hS=>AZ (cs:=[.slice cav f.vals.length ccv,.slice cab f.blks.length ccb]) rfl (AX rfl) (fun j u hj=>by
  rcases j with _|_|j
  ·simp at hj;subst hj;exact hS.get (.head _)
  ·simp at hj;subst hj;exact hS.get (.tail _ (.head _))
  simp at hj)) ?_
 refine Dp rfl rfl (AI Tryz.func16 rfl rfl rfl rfl) (Few_ret (hvd.keep hK4) hgd.wf.nv) ?_
 rintro _ wf ⟨fb,rfl,hfew,hblf⟩
 have hKf:=Keep.of_below hblf (Nat.le_refl _)
 have hszf:=hblf.size
 have hcf:=hKf.cells hc4
 refine ⟨.inr hcf,?_⟩
 have hbf:Below b1 w wf:=hb4.trans (hblf.mono (by omega))
 cases fb with
 |false=>
  refine AM rfl rfl (fun _ _=>BX rfl) (Aj rfl (fun _ _=>AN rfl) (Aj rfl (fun _ _=>Ad) (AR rfl rfl (AR rfl rfl (AR rfl rfl (Aj rfl (fun _ _=>AQ rfl) (Aj rfl (fun _ _=>Ad) (AR rfl rfl (AR rfl rfl (AR rfl rfl (Cj rfl rfl (.inr hcf) ?_)))))))))))
  refine Cj rfl rfl (.inr hcf) (Cj rfl rfl (.inr hcf) (Aj rfl (fun _ _=>AQ rfl) (Aj rfl (fun _ _=>Ah) (AO (Aa (AC ?_))))))
  exact Aw rfl rfl rfl ⟨rfl,hbf⟩
 |true=>
 refine AM rfl rfl (fun _ _=>BX rfl) (Aj rfl (fun _ _=>AN rfl) (Aj rfl (fun _ _=>Ad) (AM rfl rfl (fun _ _=>Ad) (AM rfl rfl (fun _ _=>AP rfl (An rfl)) (AM rfl rfl (fun _ _=>BB rfl rfl) (Aj rfl (fun _ _=>AN rfl) (Aj rfl (fun _ _=>Ad) ?_)))))))
 have hfw:=hfew rfl
 by_cases h8:(8:Int)<(ins.length:Int)
 ·rw[decide_eq_true h8]
  refine AR rfl rfl (AR rfl rfl (AR rfl rfl (Cj rfl rfl (.inr hcf) (Cj rfl rfl (.inr hcf) (Cj rfl rfl (.inr hcf) (Aj rfl (fun _ _=>AQ rfl) (Aj rfl (fun _ _=>Ah) (AO (Aa (AC ?_))))))))))
  exact Aw rfl rfl rfl ⟨rfl,hbf⟩
 rw[decide_eq_false h8]
 refine AM rfl rfl (fun _ hS=>AZ (cs:=[.slice cav f.vals.length ccv,.slice cab f.blks.length ccb]) rfl (AX rfl) (fun j u hj=>by
  rcases j with _|_|j
  ·simp at hj;subst hj;exact hS.get (.head _)
  ·simp at hj;subst hj;exact hS.get (.tail _ (.head _))
  simp at hj)) ?_
 refine AM rfl rfl (fun _ hS=>AZ (cs:=[.slice av f.vals.length cv,.slice ab f.blks.length cb]) rfl (AX rfl) (fun j u hj=>by
  rcases j with _|_|j
  ·simp at hj;subst hj;exact hS.get (.tail _ (.tail _ (.head _)))
  ·simp at hj;subst hj;exact hS.get (.tail _ (.tail _ (.tail _ (.head _))))
  simp at hj)) ?_
 refine AM rfl rfl (fun _ _=>Ad) (Dp rfl rfl (AI Tryz.func18 rfl rfl rfl rfl) (implCse_ret (fw:=True) (((hx0.keep hKd).keep hK4).keep hKf) hgd (((ht.keep hKd).keep hK4).keep hKf) fun _=>hfw.fewG) ?_)
 rintro vg w5 ⟨⟨A,arr,cls,P,rw,hof,hvg⟩,hbl5⟩
 have hK5:=Keep.of_below hbl5 (Nat.le_refl _)
 have hsz5:=hbl5.size
 have hc5:=hK5.cells hcf
 refine ⟨.inr hc5,?_⟩
 obtain ⟨hgp,hl1,hl2,hrun⟩:=GK hgd ins hof
 generalize toF (((toG f).wa A).mv (fR rw))=F' at hvg hgp hl1 hl2 hrun
 refine Dp rfl rfl (AI Tryz.func9 rfl rfl rfl rfl) (laws_conv_ret hvg (by omega) (by omega)) ?_
 rintro vh w6 ⟨hvh,hbl6⟩
 have hK6:=Keep.of_below hbl6 (Nat.le_refl _)
 have hsz6:=hbl6.size
 have hc6:=hK6.cells hc5
 refine ⟨.inr hc6,?_⟩
 refine Dp rfl rfl (AI Tryz.func17 rfl rfl rfl rfl) (means_ret ((((hvd.keep hK4).keep hKf).keep hK5).keep hK6) hvh (((((hin0.keep hKd).keep hK4).keep hKf).keep hK5).keep hK6) hgd hgp hl1 hl2 hrun) ?_
 rintro _ w7 ⟨rfl,hbl7⟩
 refine ⟨.inr ((Keep.of_below hbl7 (Nat.le_refl _)).cells hc6),?_⟩
 refine Aj rfl (fun _ _=>AN rfl) (Aj rfl (fun _ _=>Ah) (AO (Aa (AC ?_))))
 exact Aw rfl rfl rfl ⟨rfl,((hbf.trans (hbl5.mono (by omega))).trans (hbl6.mono (by omega))).trans (hbl7.mono (by omega))⟩
end Go.Proofs.YteepnepebilckaaGreatDoor
namespace Go.Proofs.YteepnepebilckaaGreatDoor
open Go Go.ChangeShapes Go.WideShapes Go.ChangeAt Go.RowKit Go.Deep Go.Joins
section
variable {H : Type} {enc : TypeId × Value → H} {w : World} {spare : Nat → Bool}
theorem len4 {α:Type} {l:List α} (h:l.length=4):∃a b c d,l=[a,b,c,d]:=by
 match l,h with
 | [a,b,c,d],_=>exact ⟨a,b,c,d,rfl⟩
theorem open_intsV {t e:TypeId} {fuel:Nat} {v:Value} {x:DataW H×List MemPlace} (ht:Tryz.prog.underlying t=some (.slice e)) (he:Tryz.prog.underlying e=some (.int .i64)) (hc:Tryz.prog.cellsOf e=1)
 (h:DataW.trod enc Tryz.prog w 0 (fun _=>true) true fuel t [v]=some x):∃l,IntsV w v l:=by
 rcases open_ints ht he hc h with ⟨h1,_⟩|⟨a,len,cap,zs,h1,_,hl,_,hz,_,hcell,_⟩
 ·simp only [List.cons.injEq,and_true] at h1
  subst h1
  exact ⟨[],none,0,rfl,Nat.le_refl _,.inl rfl⟩
 simp only [List.cons.injEq,and_true] at h1
 subst h1
 simp only [if_true] at hz
 have hlen:(zs.take len).length=len:=by rw[List.length_take];omega
 refine ⟨zs.take len,some a,cap,by rw[hlen],by rw[hlen];exact hl,?_⟩
 cases len with
 |zero=>exact .inl (by simp)
 |succ n=>
  right
  obtain ⟨b,o,spot⟩:=a
  have h0:=hcell 0 (by omega)
  have hs:spot=none:=by
   have:=World.cell?_spot h0
   simpa [Addr.add] using this
  subst hs
  refine ⟨b,o,rfl,fun k hk=>?_⟩
  rw[hlen] at hk
  have h1:=hcell k (by omega)
  rw[add_plain] at h1
  have hg:(zs.take (n+1)).getD k 0=zs.getD k 0:=by
   rw[List.getD_eq_getElem?_getD,List.getD_eq_getElem?_getD,List.getElem?_take,if_pos hk]
  rw[h1,hg]
theorem Ee {t:TypeId} {f0 f1 f2 f3:Field} {fuel:Nat} {b o:Nat} {cs:List Value} {x:DataW H×List MemPlace}
 (ht:Tryz.prog.underlying t=some (.struct #[f0,f1,f2,f3])) (hC:Tryz.prog.cellsOf t=4)
 (h0:f0.offset=0∧Tryz.prog.cellsOf f0.type=1∧Tryz.prog.underlying f0.type=some (.int .i64)) (h1:f1.offset=1∧Tryz.prog.cellsOf f1.type=1∧Tryz.prog.underlying f1.type=some (.int .i64))
 (h2:f2.offset=2∧Tryz.prog.cellsOf f2.type=1∧f2.type=35) (h3:f3.offset=3∧Tryz.prog.cellsOf f3.type=1∧Tryz.prog.underlying f3.type=some (.int .i64))
 (hcs:∀i,i<4→w.cell? ⟨b,o+i,none⟩=cs[i]?)
 (h:DataW.trod enc Tryz.prog w 0 (fun _=>true) true fuel t cs=some x):∃p q l z,Quad w b o p q l z:=by
 obtain ⟨xs,n,_,_,hl,hx,hf⟩:=DataW.trod_struct ht h
 rw[hC] at hl
 obtain ⟨c0,c1,c2,c3,rfl⟩:=len4 hl
 obtain ⟨y0,y1,y2,y3,rfl⟩:=len4 (hx.trans rfl)
 have k0:=hf 0 f0 rfl
 have k1:=hf 1 f1 rfl
 have k2:=hf 2 f2 rfl
 have k3:=hf 3 f3 rfl
 rw[h0.1,h0.2.1] at k0
 rw[h1.1,h1.2.1] at k1
 rw[h2.1,h2.2.1,h2.2.2] at k2
 rw[h3.1,h3.2.1] at k3
 obtain ⟨p,e0,_⟩:=DataW.trod_int h0.2.2 (show DataW.trod enc Tryz.prog w 0 (fun _=>true) true n f0.type [c0]=some y0 from k0)
 obtain ⟨q,e1,_⟩:=DataW.trod_int h1.2.2 (show DataW.trod enc Tryz.prog w 0 (fun _=>true) true n f1.type [c1]=some y1 from k1)
 obtain ⟨z,e3,_⟩:=DataW.trod_int h3.2.2 (show DataW.trod enc Tryz.prog w 0 (fun _=>true) true n f3.type [c3]=some y3 from k3)
 obtain ⟨l,hli⟩:=open_intsV Tryz.underlying35 Tryz.underlying3 (by kernel_rfl) (show DataW.trod enc Tryz.prog w 0 (fun _=>true) true n 35 [c2]=some y2 from k2)
 simp only [List.cons.injEq,and_true] at e0 e1 e3
 subst e0;subst e1;subst e3
 refine ⟨p,q,l,z,c2,fun j v hj=>?_,hli⟩
 have hlt:j<4:=by
  have:=(List.getElem?_eq_some_iff.1 hj).1
  simpa using this
 rw[hcs j hlt];exact hj
theorem open_vals {fuel:Nat} {v:Value} {x:DataW H×List MemPlace} (h:DataW.trod enc Tryz.prog w 0 (fun _=>true) true fuel 22 [v]=some x):∃l,ValsV w v l:=by
 rcases open_slice Tryz.underlying22 h with ⟨h1,_⟩|⟨a,len,cap,m,n,D,Pl,h1,_,hl,_,hm,_,hx⟩
 ·simp only [List.cons.injEq,and_true] at h1
  subst h1
  exact ⟨[],none,0,rfl,.inl rfl⟩
 simp only [List.cons.injEq,and_true] at h1
 subst h1
 simp only [if_true] at hm
 have hC:Tryz.prog.cellsOf 48=4:=by kernel_rfl
 cases len with
 |zero=>exact ⟨[],some a,cap,rfl,.inl rfl⟩
 |succ k=>
  obtain ⟨b,o,spot⟩:=a
  have hs:spot=none:=by
   obtain ⟨cs',h2,_⟩:=hx 0 (by omega)
   obtain ⟨_,h3,h4⟩:=World.cells?_some h2
   have h5:=h4 0 (by rw[hC];omega)
   rw[List.getElem?_eq_getElem (by omega)] at h5
   have:=World.cell?_spot h5
   simpa [Addr.add] using this
  subst hs
  have hq:∀i,i<k+1→∃(y:Int×Int×List Int×Int),Quad w b (o+i * 4) y.1 y.2.1 y.2.2.1 y.2.2.2:=fun i hi=>by
   obtain ⟨cs',h2,h3⟩:=hx i (by omega)
   rw[hC] at h2
   obtain ⟨_,h4,h5⟩:=World.cells?_some h2
   obtain ⟨p,q,l,z,hq⟩:=Ee (b:=b) (o:=o+i * 4) Tryz.underlying48 hC ⟨rfl,by kernel_rfl,Tryz.underlying3⟩ ⟨rfl,by kernel_rfl,Tryz.underlying3⟩ ⟨rfl,by kernel_rfl,rfl⟩ ⟨rfl,by kernel_rfl,Tryz.underlying2⟩ (fun j hj=>by
    have:=h5 j hj
    rw[add_plain,add_plain] at this
    exact this) h3
   exact ⟨(p,q,l,z),hq⟩
  obtain ⟨Y,hY⟩:=choose_lt hq
  refine ⟨(List.range (k+1)).map fun i=>⟨(Y i).1,(Y i).2.1,(Y i).2.2.1,(Y i).2.2.2⟩,some ⟨b,o,none⟩,cap,by simp,.inr ⟨b,o,rfl,fun i hi=>?_⟩⟩
  have hi':i<k+1:=by simpa using hi
  rw[List.getD_eq_getElem?_getD,List.getElem?_map,List.getElem?_range hi']
  exact hY i hi'
theorem open_blks {fuel:Nat} {v:Value} {x:DataW H×List MemPlace} (h:DataW.trod enc Tryz.prog w 0 (fun _=>true) true fuel 23 [v]=some x):∃l,BlksV w v l:=by
 rcases open_slice Tryz.underlying23 h with ⟨h1,_⟩|⟨a,len,cap,m,n,D,Pl,h1,_,hl,_,hm,_,hx⟩
 ·simp only [List.cons.injEq,and_true] at h1
  subst h1
  exact ⟨[],none,0,rfl,.inl rfl⟩
 simp only [List.cons.injEq,and_true] at h1
 subst h1
 simp only [if_true] at hm
 have hC:Tryz.prog.cellsOf 53=4:=by kernel_rfl
 cases len with
 |zero=>exact ⟨[],some a,cap,rfl,.inl rfl⟩
 |succ k=>
  obtain ⟨b,o,spot⟩:=a
  have hs:spot=none:=by
   obtain ⟨cs',h2,_⟩:=hx 0 (by omega)
   obtain ⟨_,h3,h4⟩:=World.cells?_some h2
   have h5:=h4 0 (by rw[hC];omega)
   rw[List.getElem?_eq_getElem (by omega)] at h5
   have:=World.cell?_spot h5
   simpa [Addr.add] using this
  subst hs
  have hq:∀i,i<k+1→∃(y:Int×Int×List Int×Int),Quad w b (o+i * 4) y.1 y.2.1 y.2.2.1 y.2.2.2:=fun i hi=>by
   obtain ⟨cs',h2,h3⟩:=hx i (by omega)
   rw[hC] at h2
   obtain ⟨_,h4,h5⟩:=World.cells?_some h2
   obtain ⟨p,q,l,z,hq⟩:=Ee (b:=b) (o:=o+i * 4) Tryz.underlying53 hC ⟨rfl,by kernel_rfl,Tryz.underlying3⟩ ⟨rfl,by kernel_rfl,Tryz.underlying3⟩ ⟨rfl,by kernel_rfl,rfl⟩ ⟨rfl,by kernel_rfl,Tryz.underlying3⟩ (fun j hj=>by
    have:=h5 j hj
    rw[add_plain,add_plain] at this
    exact this) h3
   exact ⟨(p,q,l,z),hq⟩
  obtain ⟨Y,hY⟩:=choose_lt hq
  refine ⟨(List.range (k+1)).map fun i=>⟨(Y i).1,(Y i).2.1,(Y i).2.2.1,(Y i).2.2.2⟩,some ⟨b,o,none⟩,cap,by simp,.inr ⟨b,o,rfl,fun i hi=>?_⟩⟩
  have hi':i<k+1:=by simpa using hi
  rw[List.getD_eq_getElem?_getD,List.getElem?_map,List.getElem?_range hi']
  exact hY i hi'
set_option maxRecDepth 100000 in
theorem Hh {r:Reach} {b0:Nat} {v:Value} {d:DataW H} {p:List MemPlace} (hv:Value.okWide Tryz.prog w r b0 25 v)
 (h:DataW.Trod enc Tryz.prog w 0 (fun _=>true) true 25 v d p):∃f,FnV w v f:=by
 obtain ⟨v0,v1,y0,y1,n,rfl,_,_,h0,h1⟩:=open_agg2 Tryz.underlying25 (by kernel_rfl) (by kernel_rfl) hv h
 obtain ⟨l0,k0⟩:=open_vals h0
 obtain ⟨l1,k1⟩:=open_blks h1
 exact ⟨⟨l0,l1⟩,v0,v1,rfl,k0,k1⟩
set_option maxRecDepth 100000 in
theorem G5 {r:Reach} {b0:Nat} {v:Value} {d:DataW H} {p:List MemPlace} (hv:Value.okWide Tryz.prog w r b0 42 v)
 (h:DataW.Trod enc Tryz.prog w 0 (fun _=>true) true 42 v d p):∃l,IntsV w v l:=by
 obtain ⟨a,n,c,rfl⟩:=okWide_slice Tryz.underlying42 hv
 obtain ⟨fuel,hf⟩:=h
 exact open_intsV Tryz.underlying42 Tryz.underlying2 (by kernel_rfl) (show DataW.trod enc Tryz.prog w 0 (fun _=>true) true fuel 42 [.slice a n c]=some (d,p) from hf)
end
theorem ownK:ownKnob Tryz.prog.godebug=none:=by kernel_rfl
theorem FP:laidOutB Tryz.prog=true:=by kernel_rfl
end Go.Proofs.YteepnepebilckaaGreatDoor
namespace Go.Proofs.YteepnepebilckaaGreatDoor
open Go Go.ChangeShapes Go.WideShapes Go.ChangeAt Go.WideElems Go.RowKit Go.Deep Go.Joins
def Er:String:= "loop.example/pub-passesoverblocks/pub/ssapasses.opcodeTable"
def Ex:List (String×DataW Unit):=[(Er,Rows.laid_loop_example_pub_passesoverblocks_pub_ssapasses_opcodeTable)]
theorem gOp:Tryz.prog.globalNamed Er=some 0:=by kernel_rfl
theorem tOp:(Tryz.prog.globals[0]?).map (·.type)=some 117:=by kernel_rfl
theorem gs_one {H:Type} {enc:TypeId×Value→H} {W:World} {sp:Nat→Bool} {gs:List (DataW H)} {q:List MemPlace} (h:DataW.TrodVars enc Tryz.prog W sp [Er] gs q):∃d,gs=[d]:=by
 obtain ⟨_,_,_,_,d,_,e,_⟩:=trodVars_one h
 exact ⟨d,e⟩
set_option maxRecDepth 100000 in
theorem GZ (os:Os) (args:Array Value):laidMetH Tryz.prog Ex ((World.doorLaid Tryz.prog 22 os).forCall (fun _ _=>0) ⟨#[],args,[]⟩).memory:=
 laidMetH_of_parts3 (fuel:=8) (laidMet_of_run' 8 (by kernel_rfl) (by kernel_rfl)) (by kernel_rfl) (by kernel_rfl)
theorem F3:∀k,k<21→ [false,false,true,false,true,true,true,true,false,false,false,true,true,false,false,false,false,false,false,false,false][k]? =some (comm k):=by decide
set_option maxRecDepth 100000 in
theorem tabl_of_laid {W:World} (h:laidMetH Tryz.prog Ex W):Tabl W:=by
 rw[MakeChecks.laidMetH_plain _ _ _ (by kernel_rfl)] at h
 obtain ⟨ps,⟨g0,t0,cs0,f0,p0,q0,hg0,ht0,hv0,hd0,_⟩,_,_⟩:=h
 obtain rfl:=Option.some.inj (gOp.symm.trans hg0)
 obtain rfl:=Option.some.inj (tOp.symm.trans ht0)
 intro k hk
 have hc:=World.var?_cell hg0 hv0 k
 obtain ⟨xs,m1,rfl,hx1,hlen,hn3,hel⟩:=DataW.trod_array Tryz.underlying117 hd0
 have c1:Tryz.prog.cellsOf 116=1:=by kernel_rfl
 have cb:Tryz.prog.cellsOf 4=1:=by kernel_rfl
 have h0:=hel k hk
 rw[c1,Nat.mul_one] at h0
 simp only [Prod.mk.injEq] at hx1
 have hxs:(xs.map (·.1))[k]? =some (.agg [.lit (.bool (comm k))]):=by
  have e:DataW.agg (xs.map (·.1))=(.agg (([false,false,true,false,true,true,true,true,false,false,false,true,true,false,false,false,false,false,false,false,false]:List Bool).map fun b=>.agg [.lit (.bool b)]):DataW Unit):=hx1.1.symm
  injection e with e
  rw[e,List.getElem?_map,F3 k hk]
  rfl
 obtain ⟨y,hy,hy2⟩:∃y,xs[k]? =some y∧y.1= .agg [.lit (.bool (comm k))]:=by
  rw[List.getElem?_map] at hxs
  obtain ⟨y,h1,h2⟩:=Option.map_eq_some_iff.1 hxs
  exact ⟨y,h1,h2⟩
 rw[hy] at h0
 obtain ⟨y0,n,e1,hl,h1⟩:=trod_struct1 Tryz.underlying116 h0
 rw[e1] at hy2
 injection hy2 with hy2
 injection hy2 with hy2 _
 rw[c1] at hl
 have hlk:k<cs0.toList.length:=by
  rw[List.length_take,List.length_drop] at hl
  omega
 have hd:(cs0.toList.drop k).take 1=[cs0.toList[k]]:=by
  rw[List.drop_eq_getElem_cons hlk];rfl
 rw[hd] at h1
 have h1:DataW.trod (fun _=>()) Tryz.prog W 0 (fun _=>true) false n 4 [cs0.toList[k]]=some y0:=by
  have:(([cs0.toList[k]].drop 0).take (Tryz.prog.cellsOf 4))=[cs0.toList[k]]:=by rw[cb];rfl
  rw[← this];exact h1
 obtain ⟨b,e2,e3⟩:=DataW.trod_bool Tryz.underlying4 h1
 rw[hc]
 have hk2:k<cs0.size:=by simpa using hlk
 rw[Array.getElem?_eq_getElem hk2]
 simp only [List.cons.injEq,and_true] at e2
 have e4:cs0[k]= .bool b:=by simpa using e2
 rw[e4]
 rw[e3] at hy2
 injection hy2 with hy2
 injection hy2 with hy2
 rw[hy2]
end Go.Proofs.YteepnepebilckaaGreatDoor
namespace Go.Proofs.YteepnepebilckaaGreatDoor
open Go Go.ChangeShapes Go.WideShapes Go.ChangeAt Go.WideElems Go.RowKit Go.Deep Go.Joins
set_option maxRecDepth 100000 in
theorem fnCseRuns_lifted (os:Os) (started:os.Started) (H:Type) (enc:TypeId×Value→H):
 ReturnsInHanded {} Tryz.checked os 5 .any (fun w args=>(Rows.fnCseRunsSpec.pre enc Tryz.prog Tryz.f5 [] false w args∧laidMetH Tryz.prog Ex w)∧sizedMet enc Tryz.prog Tryz.f5 (OpenSpec.ofChange Rows.fnCseRunsSpec) false w args) (Rows.fnCseRunsSpec.post enc Tryz.prog Tryz.f5 false true false false):=by
 refine returnsInHanded_of_change_and (C:=Tryz.checked) (X:=fun w _=>laidMetH Tryz.prog Ex w) (fun _ _ _ hh h=>h.of_heap hh) ownK started (by kernel_rfl) Tryz.func5
  (ChangeSpec.witness_shaped (enc:=enc) (C:=Tryz.checked) (os:=os) (X:=fun w _=>laidMetH Tryz.prog Ex w) false (World.doorLaid Tryz.prog 22 os) #[.agg #[.slice none 0 0,.slice none 0 0],.slice none 0 0] 8 rfl (World.shaped_of_RefB (by kernel_rfl) (by kernel_rfl)) (by kernel_rfl) (by kernel_rfl) (by kernel_rfl) (GZ os _)) ?_
 intro W base args ds gs before hval0 hW _ _ hL _
 have hval:∀(j:Nat) t v,Tryz.f5.params[j]? =some t→args[j]? =some v→Value.okWide Tryz.prog W .any base t v:=hval0
 have hW':=hW
 obtain ⟨p,q,hA0,hV0,rfl,hfz,hnd⟩:=hW
 have hV:DataW.TrodVars enc Tryz.prog W (fun _=>true) [Er] gs q:=hV0
 have hA:DataW.TrodAll enc Tryz.prog W 0 (fun _=>true) true Tryz.f5.params.toList args.toList ds p:=hA0
 rw[Tryz.params5] at hA hval
 obtain ⟨v0,v1,d0,d1,p0,p1,rfl,rfl,rfl,h0,h1⟩:=trodAll_two hA
 obtain ⟨gd,rfl⟩:=gs_one hV
 obtain ⟨f,hf⟩:=Hh (hval 0 25 v0 rfl rfl) h0
 obtain ⟨ins,hin⟩:=G5 (hval 1 42 v1 rfl rfl) h1
 have hlt:∀x∈p0 ++ p1,x.block<W.heap.size:=fun x hx=>hW'.lt x (List.mem_append_left _ hx)
 have ht:=tabl_of_laid hL
 clear hA0 hval0
 refine Calls.mono (FnCseRuns_ret hf hin ht) fun e W' ⟨v,he,hv,hb⟩=>?_
 subst he;subst hv
 refine ⟨_,rfl,_,_,_,[],p0 ++ p1,q,hW',trodAll_mk1 (shut_bool Tryz.underlying4 true),trodAll_mk2 ?_ ?_,Below.trodVars FP hb (by kernel_rfl) hV,hb.frame _,fun h=>by cases h⟩
 ·exact WideElems.Trod_stays FP (by kernel_rfl) (of_decide_eq_true (by kernel_rfl)) h0 (fun x hx=>hb.same (hlt x (List.mem_append.2 (.inl hx)))) (fun x hx=>by simpa using hlt x (List.mem_append.2 (.inl hx)))
 exact WideElems.Trod_stays FP (by kernel_rfl) (of_decide_eq_true (by kernel_rfl)) h1 (fun x hx=>hb.same (hlt x (List.mem_append.2 (.inr hx)))) (fun x hx=>by simpa using hlt x (List.mem_append.2 (.inr hx)))
theorem fnCseRuns_holds:Rows.FnCseRunsSaid:=
 OpenClaim.holds_of_wide 5 Tryz.f5 rfl rfl rfl rfl rfl rfl rfl ⟨rfl,rfl,rfl,rfl,rfl⟩ rfl rfl rfl rfl rfl (by kernel_rfl) Tryz.func5 (by kernel_rfl)
  (of_decide_eq_true (by kernel_rfl)) (by unfold Func.isWrapper;first|(rw [if_pos (by decide +kernel)];kernel_rfl)|(rw [if_neg (by decide +kernel)];exact ⟨rfl,rfl⟩))
  (fun os started H enc _=>fnCseRuns_lifted os started H enc)
theorem fnCseRuns_card:Rows.FnCseRunsCardSaid:=
 Claim7.holds_tied_plain_at .later [] [.data] true (true,"4ef5ec6ea8e1c4f87708987f2a68e2b2e34fd6bc534d37cce04b16d691dee687") false
  fnCseRuns_holds (fun _ h=>by cases h) (by kernel_rfl) (fun _ h=>by cases h) fnCseRuns_row_tie rfl ⟨rfl,rfl⟩ (by kernel_rfl) rfl
  (fun f fn hf hfn=>by
    obtain rfl:f=5:=Option.some.inj ((show Tryz.prog.funcNamed "loop.example/pub-passesoverblocks/laws.FnCseRuns" =some 5 by kernel_rfl).symm.trans hf) |>.symm
    obtain rfl:fn=Tryz.f5:=(Option.some.inj (Tryz.func5.symm.trans hfn)).symm
    exact ⟨by kernel_rfl,fun j t ht=>by
     rw[Tryz.params5] at ht
     have h3:t=25∨t=42:=by
      rcases j with _|_|j
      ·simp at ht;simp [ht]
      ·simp at ht;try simp [ht]
      simp at ht
     exact h3.elim (fun e=>e ▸ (show Tryz.prog.wantsStandIn 25=false by kernel_rfl)) (fun e=>e ▸ (show Tryz.prog.wantsStandIn 42=false by kernel_rfl))⟩)
  (by kernel_rfl)
end Go.Proofs.YteepnepebilckaaGreatDoor
