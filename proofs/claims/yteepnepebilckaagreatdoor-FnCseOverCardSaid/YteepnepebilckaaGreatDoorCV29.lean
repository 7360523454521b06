/- The law FnCseOver returns true for every input in which the opcode table reads as laid, and its argument reads as it did, the table being tied to the text of the program. -/
import Derived.Test.YteepnepebilckaaGreatDoorCV28
import Derived.Test.YteepnepebilckaaGreatDoorRows
import Derived.Test.YteepnepebilckaaGreatDoorTie
import Derived.Test.YteepnepebilckaaGreatDoorCards
namespace Go.Proofs.YteepnepebilckaaGreatDoor
open Go Go.Eng Go.RowKit
theorem CseR.over {f:Fn} {fw:Prop} {A:Nat→List Nat} {arr:Nat→Nat} {cls:Nat→Int} {P:List (Nat×Nat)} {rw:Nat→Option Nat} (hP:GoodP f) (h:CseR (toG f) fw A arr cls P rw) {i k:Nat} (hi:i<f.vals.length) (hk:k<(f.v i).args.length) (hc:¬ CI (f.v i).op):
 ∃b,b<f.vals.length∧(nats ((A i).map (fR rw))).getD k 0=((b:Nat):Int)∧(b≠((f.v i).args.getD k 0).toNat→cls (b+1)=cls (((f.v i).args.getD k 0).toNat+1)∧Dom (toG f).succs ((toG f).blk b) ((toG f).blk ((f.v i).args.getD k 0).toNat)):=by
 have hlt:((f.v i).args.getD k 0).toNat<f.vals.length:=by
  have:=hP.args hi _ (CR hk);omega
 have hA:A i=(toG f).args i:=by
  rcases h.sw.args i with h1|⟨h1,_⟩
  ·exact h1
  exact absurd ((comm_I (hP.val hi).1).1 h1) hc
 have hkA:k<(A i).length:=by rw[hA];show k<((f.v i).args.map Int.toNat).length;rw[List.length_map];exact hk
 have e:(A i).getD k 0=((f.v i).args.getD k 0).toNat:=by rw[hA];exact Dl _ _
 refine ⟨fR rw ((f.v i).args.getD k 0).toNat,h.lt hlt,by rw[FU,GM _ hkA,e],fun hne=>?_⟩
 unfold fR at hne ⊢
 cases e2:rw (((f.v i).args.getD k 0).toNat+1) with
 |none=>rw[e2] at hne;exact absurd rfl hne
 |some y=>
  have:=h.rw _ y hlt e2
  exact ⟨this.2.1,this.2.2.1⟩
theorem CseR.over_any {f:Fn} {fw:Prop} {A:Nat→List Nat} {arr:Nat→Nat} {cls:Nat→Int} {P:List (Nat×Nat)} {rw:Nat→Option Nat} (h:CseR (toG f) fw A arr cls P rw) {i:Nat}:(nats ((A i).map (fR rw))).length=(f.v i).args.length:=by
 unfold nats
 rw[List.length_map,List.length_map]
 exact (show (A i).length=((toG f).args i).length from (h.sw.mem i).1).trans (List.length_map ..)
section
variable {P : Program} {w : World} {ρ : Operand → Value} {d : Option Tmp} {ty : TypeId} {pos : String} {af : Array Edge} {g : Option (Nat × Bool)}
theorem DH {t u:TypeId} {x y:Operand} {k:IntKind} {a b:Int} (hx:ρ x= .int k a) (hy:ρ y= .int k b) (h:a=b):(execOp ρ ⟨d,.binOp .neq t x y u,ty,pos,af,g⟩).run P w= .ok (.value (.bool false)) w:=by
 rw[Bw hx hy,decide_eq_false (not_not_intro h)]
theorem x_neqT {t u:TypeId} {x y:Operand} {k:IntKind} {a b:Int} (hx:ρ x= .int k a) (hy:ρ y= .int k b) (h:a≠b):(execOp ρ ⟨d,.binOp .neq t x y u,ty,pos,af,g⟩).run P w= .ok (.value (.bool true)) w:=by
 rw[Bw hx hy,decide_eq_true h]
theorem x_lssF {t u:TypeId} {x y:Operand} {k:IntKind} {a b:Int} (hx:ρ x= .int k a) (hy:ρ y= .int k b) (h:¬ a<b):(execOp ρ ⟨d,.binOp .lss t x y u,ty,pos,af,g⟩).run P w= .ok (.value (.bool false)) w:=by
 rw[AX hx hy,decide_eq_false h]
theorem x_geqF {t u:TypeId} {x y:Operand} {k:IntKind} {a b:Int} (hx:ρ x= .int k a) (hy:ρ y= .int k b) (h:¬ b≤a):(execOp ρ ⟨d,.binOp .geq t x y u,ty,pos,af,g⟩).run P w= .ok (.value (.bool false)) w:=by
 rw[CJ hx hy,decide_eq_false h]
end
set_option maxHeartbeats 4000000
attribute [local irreducible] EC EL DL Ret thenQ blockQ Bi bodyQ onlyN execOp Sem.run World.cell? World.frozen? World.setCell World.alloc
theorem FnCseOver_ret {w:World} {x:Value} {f:Fn} (hx:FnV w x f) (ht:Tabl w):
 Ret Tryz.prog 6 #[x] w fun v w'=>v= .bool true∧Below w.heap.size w w':=by
 obtain ⟨xv,xb,rfl,hvals,hblks⟩:=hx
 refine ret_of_EC Tryz.func6 rfl rfl ?_
 have hx0:FnV w (.agg #[xv,xb]) f:=⟨xv,xb,rfl,hvals,hblks⟩
 obtain ⟨ab,cb,rfl,hbl⟩:=hblks
 obtain ⟨av,cv,rfl,hvl⟩:=hvals
 obtain ⟨B,hBd⟩:∃B,B=w.heap.size:=⟨_,rfl⟩
 refine Ae (Ac (Ab (Bv (v:=.agg #[.slice av f.vals.length cv,.slice ab f.blks.length cb]) rfl) rfl (el_new (.cells #[.slice av f.vals.length cv,.slice ab f.blks.length cb] 25) B (by omega) fun wa hN1 hO1 hZ1 hB1 hK1=>(Ab Ah rfl (Af (Aa ?_))))))
 obtain ⟨b1,hb1⟩:∃b1,b1=w.heap.size:=⟨_,rfl⟩
 rw[← hb1] at hN1 ⊢
 have hbw:Below b1 w wa:=by rw[hb1,← hBd];exact hB1
 refine Ae (Ae (Ac (Ab (A4 (cs:=[.slice av f.vals.length cv,.slice ab f.blks.length cb]) rfl (A0 rfl) (A3 hN1)) rfl (Be (AG Tryz.func8 rfl rfl rfl rfl) rfl (fits1_ret (hx0.keep hK1)) ?_))))
 rintro _ w1 ⟨sb,rfl,hfit,hbs⟩
 refine Ab (BS rfl) rfl (Af (Aa ?_))
 have hb1w:Below b1 w w1:=hbw.trans (hbs.mono (by omega))
 have hsz1:=hbs.size
 cases sb with
 |false=>
  refine Bm rfl rfl (Ae (Ac (Ab Ah rfl (Af (Aa (AE (AO ?_)))))))
  exact Az rfl rfl rfl ⟨rfl,hb1w⟩
 |true=>
 refine Bh rfl rfl (Aq (Aa ?_))
 obtain ⟨hf1,hf2⟩:=hfit rfl
 have hbx1:w1.heap[b1]? =some (.cells #[.slice av f.vals.length cv,.slice ab f.blks.length cb] 25 (0,0)):=(hbs.block b1 (by omega)).trans hN1
 have hKe1:Keep w w1:=hK1.trans (Keep.of_below hbs (Nat.le_refl _))
 refine Ae (Ac (Ab (A4 (cs:=[.slice av f.vals.length cv,.slice ab f.blks.length cb]) rfl (A0 rfl) (A3 hbx1)) rfl (Be (AG Tryz.func9 rfl rfl rfl rfl) rfl (laws_conv_ret (hx0.keep hKe1) hf1 hf2) ?_)))
 rintro vc w2 ⟨hvc,hbl2⟩
 have hsz2:=hbl2.size
 have hvc0:=hvc
 obtain ⟨cxv,cxb,rfl,cvals,cblks⟩:=hvc
 obtain ⟨cab,ccb,rfl,hcbl⟩:=cblks
 obtain ⟨cav,ccv,rfl,hcvl⟩:=cvals
 refine Ab (A9 DC) rfl (Bc (Bb rfl rfl (A7 rfl) rfl rfl) rfl (Af (Aa ?_)))
 have hBle:B≤w2.heap.size:=by omega
 refine ec_new (.cells #[.slice cav f.vals.length ccv,.slice cab f.blks.length ccb] 30) B (by omega) fun w3 hN3 hO3 hZ3 hB3 hK3=>?_
 obtain ⟨b5,hb5⟩:∃b5,b5=w2.heap.size:=⟨_,rfl⟩
 rw[← hb5] at hN3 ⊢
 have hb3w:Below b1 w w3:=(hb1w.trans (hbl2.mono (by omega))).trans ⟨hB3.os,hB3.tape,hB3.output,hB3.size,fun j hj=>hO3 j (by omega)⟩
 have hKe3:Keep w w3:=(hKe1.trans (Keep.of_below hbl2 (Nat.le_refl _))).trans hK3
 have hvc3:=hvc0.keep hK3
 have hbx3:w3.heap[b1]? =some (.cells #[.slice av f.vals.length cv,.slice ab f.blks.length cb] 25 (0,0)):=(hO3 b1 (by omega)).trans ((hbl2.block b1 (by omega)).trans hbx1)
 refine Ae (Ae (Ac (Ab (A4 (cs:=[.slice cav f.vals.length ccv,.slice cab f.blks.length ccb]) rfl (A0 rfl) (A3 hN3)) rfl (Be (AG Tryz.func10 rfl rfl rfl rfl) rfl (Good_ret hvc3) ?_))))
 rintro _ w4 ⟨gb,rfl,hgood,hbl4⟩
 refine Ab (BS rfl) rfl (Af (Aa ?_))
 have hK4:=Keep.of_below hbl4 (Nat.le_refl _)
 have hsz4:=hbl4.size
 have hb4:Below b1 w w4:=hb3w.trans (hbl4.mono (by omega))
 cases gb with
 |false=>
  refine Bm rfl rfl (Ae (Ac (Ab Ah rfl (Af (Aa (AE (AO ?_)))))))
  exact Az rfl rfl rfl ⟨rfl,hb4⟩
 |true=>
 refine Bh rfl rfl (Aq (Aa ?_))
 have hgd:=hgood.1 rfl
 have hKe4:Keep w w4:=hKe3.trans hK4
 have hx4:=hx0.keep hKe4
 have hv4:=hvc3.keep hK4
 have ht4:=ht.keep hKe4
 have hbx4:w4.heap[b1]? =some (.cells #[.slice av f.vals.length cv,.slice ab f.blks.length cb] 25 (0,0)):=(hbl4.block b1 (by omega)).trans hbx3
 have hsx4:w4.heap[b5]? =some (.cells #[.slice cav f.vals.length ccv,.slice cab f.blks.length ccb] 30 (0,0)):=(hbl4.block b5 (Bg hN3)).trans hN3
 have hcv4:∀k,k<f.vals.length→∃bb ob,cav=some ⟨bb,ob,none⟩∧Quad w4 bb (ob+k * 4) (f.v k).op (f.v k).blk (f.v k).args (f.v k).aux:=fun k hk=>by
  obtain ⟨bb,ob,e,hq⟩:=hcvl.resolve_left (fun e=>by rw[e] at hk;simp at hk)
  exact ⟨bb,ob,e,((hq k hk).keep hK3).keep hK4⟩
 have hn48:=hgd.wf.nv
 have hzb:b1<w4.heap.size∧b5<w4.heap.size:=⟨Bg hbx4,Bg hsx4⟩
 have har:=har_of hgd
 have g0:w4.cell? ⟨b5,0+0,none⟩=some (.slice cav f.vals.length ccv):=Am hsx4 rfl
 obtain ⟨S0,hS0⟩:∃S0,S0=w4.heap.size:=⟨_,rfl⟩
 have hshp:=hgd.shp
 have sh:Shp f:=⟨hshp.one,hshp.nb,fun b hb=>⟨by
  have:=hgd.kind hb
  have h2:=this.1.2.2
  unfold Ct at h2
  split at h2
  ·omega
  split at h2 <;> omega,hgd.succs b hb⟩⟩
 have hpre:(elems (fun i=>(preK (toG f) (toG f).nb).getD i 0) (toG f).nv).Perm (List.range (toG f).nv):=by
  have h:=EI hgd.good.toFrm
  have hl:(preK (toG f) (toG f).nb).length=(toG f).nv:=by rw[h.length_eq,List.length_range]
  rw[elems_of hl fun j hj=>rfl]
  exact h
 have hK4b:Keep w w4:=hKe4
 refine Ae (Ac (Ab (A4 (cs:=[.slice av f.vals.length cv,.slice ab f.blks.length cb]) rfl (A0 rfl) (A3 hbx4)) rfl (Be (AG Tryz.func18 rfl rfl rfl rfl) rfl (implCse_ret (fw:=False) hx4 hgd ht4 fun h=>h.elim) ?_)))
 rintro gvv W6 ⟨⟨A,arr,cls,P,rw,hR,hgV⟩,hb6⟩
 generalize hF':toF (((toG f).wa A).mv (fR rw))=F' at hgV
 have hnF':F'.vals.length=f.vals.length:=by rw[← hF',Ge];rfl
 have hF'v:∀i,i<f.vals.length→F'.v i=⟨(f.v i).op,(((f.v i).blk.toNat:Nat):Int),nats ((A i).map (fR rw)),(f.v i).aux⟩:=fun i hi=>by
  rw[← hF',Fu (show i<(((toG f).wa A).mv (fR rw)).nv from hi)];rfl
 obtain ⟨gxv,gxb,rfl,gvals,gblks⟩:=hgV
 obtain ⟨gab,gcb,rfl,_⟩:=gblks
 obtain ⟨gav,gcv,rfl,hgvl⟩:=gvals
 rw[hnF']
 have hz6:=hb6.size
 refine Ab (A9 C9) rfl (Bc (Bb rfl rfl (A7 rfl) rfl rfl) rfl (Af (Aa ?_)))
 have hBle:B≤W6.heap.size:=by omega
 refine ec_new (.cells #[.slice gav f.vals.length gcv,.slice gab F'.blks.length gcb] 25) B (by omega) fun w5 hN6 hO6 hZ6 hB6 hK6=>?_
 obtain ⟨bg,hbg⟩:∃bg,bg=W6.heap.size:=⟨_,rfl⟩
 rw[← hbg] at hN6 ⊢
 have hb5':Below S0 w4 w5:=by
  rw[hS0]
  exact hb6.trans ⟨hB6.os,hB6.tape,hB6.output,hB6.size,fun j hj=>hO6 j (by omega)⟩
 have hK5:Keep w4 w5:=Keep.of_below hb5' (by omega)
 have hz5:=hb5'.size
 have hgq5:∀k,k<f.vals.length→∃bb ob,gav=some ⟨bb,ob,none⟩∧Quad w5 bb (ob+k * 4) (f.v k).op (((f.v k).blk.toNat:Nat):Int) (nats ((A k).map (fR rw))) (f.v k).aux:=fun k hk=>by
  obtain ⟨bb,ob,e,hq⟩:=hgvl.resolve_left (fun e=>by rw[e] at hnF';simp at hnF';omega)
  have:=(hq k (by omega)).keep hK6
  rw[show F'.vals.getD k default=F'.v k from rfl,hF'v k hk] at this
  exact ⟨bb,ob,e,this⟩
 have c1:=hK5 _ _ (Am (o:=0+0) (v:=.slice av f.vals.length cv) hbx4 rfl)
 have c2:=hK5 _ _ (Am (o:=0+1) (v:=.slice ab f.blks.length cb) hbx4 rfl)
 have hd5:Below w5.heap.size w5 w5.drew:=(Below.refl _ _).drew
 have ag5:∀{W:World},Below w5.heap.size w5 W→CellsAt W b1 0 [.slice av f.vals.length cv,.slice ab f.blks.length cb]:=fun {W} h j u hj=>Keep.of_below h (Nat.le_refl _) _ _ (hK5 _ _ (A3 hbx4 j u hj))
 refine AW (fun e W=>∃cv6 c,At e [(1,.pointer (some ⟨b1,0,none⟩)),(3,.pointer (some ⟨b5,0,none⟩)),(4,.pointer (some ⟨bg,0,none⟩)),(5,cv6),(6,.bool true)]∧Below w5.heap.size w5 W∧IntsV W cv6 ((List.range f.vals.length).map c)∧∀x y,x<f.vals.length→y<f.vals.length→(c x=c y↔cls (x+1)=cls (y+1))) ?_ ?_
 ·refine AY mixed (fun W=>Below w5.heap.size w5 W) [(0,false),(2,false),(3,false),(4,false),(1,true),(5,true),(6,false),(7,false),(8,false),(9,false),(10,false)] (by kernel_rfl) hd5 ?_
  generalize w5.drew=Wd at hd5 ⊢
  refine Aj rfl (fun _ hS=>A4 (cs:=[.slice av f.vals.length cv,.slice ab f.blks.length cb]) rfl (A0 rfl) (ag5 hS)) (Aj rfl (fun _ _=>Al rfl (Ak rfl)) (Aj rfl (fun _ hS=>Ai rfl (Ag rfl) (Keep.of_below hS (Nat.le_refl _) _ _ c1)) (Aj rfl (fun _ _=>AN rfl (An rfl)) ?_)))
  have hKd:Keep w4 Wd:=hK5.trans (Keep.of_below hd5 (Nat.le_refl _))
  refine BO rfl (AG Tryz.func11 rfl rfl rfl rfl) (implPart_ret (fw:=False) (hx4.keep hKd) hgd (ht4.keep hKd) fun h=>h.elim) ?_
  rintro pv W6' ⟨⟨A',arr',cls',P',rw',us,hR',hL⟩,hb6'⟩
  have hz6':=hd5.size
  have hb56:=hd5.trans (hb6'.mono hz6')
  refine ⟨.inr hb56,?_⟩
  refine BO rfl (AG Tryz.func12 rfl rfl rfl rfl) (classes_ret (n:=f.vals.length) hL (hR'.clsL hn48) hn48) ?_
  rintro _ W7 ⟨cv6,c,rfl,hI,hC,hb7⟩
  have hb57:=hb56.trans (hb7.mono hb56.size)
  refine ⟨.inr hb57,?_⟩
  refine Aj rfl (fun _ _=>Ad) (Aj rfl (fun _ _=>x_ex0 rfl) (Aj rfl (fun _ _=>x_ex1 rfl) (Aj rfl (fun _ _=>Ah) (Aj rfl (fun _ _=>Ah) (AP ?_)))))
  have hcl:cls=cls':=CseR.same hpre hR hR'
  exact AR ⟨cv6,c,Ar rfl ⟨rfl,rfl,rfl,rfl,rfl,trivial⟩,hb57,hI,fun x y hx hy=>hcl ▸ hR'.num hC hx hy⟩
 rintro e W ⟨cv6,c,⟨t,rfl⟩,hbW,hI,hnum⟩
 have hK5W:Keep w5 W:=Keep.of_below hbW (Nat.le_refl _)
 have hKW:Keep w4 W:=hK5.trans hK5W
 have agW:CellsAt W b5 0 [.slice cav f.vals.length ccv,.slice cab f.blks.length ccb]:=fun j u hj=>hKW _ _ (A3 hsx4 j u hj)
 have f0:W.cell? ⟨b1,0+0,none⟩=some (.slice av f.vals.length cv):=hK5W _ _ c1
 have g0:W.cell? ⟨bg,0+0,none⟩=some (.slice gav f.vals.length gcv):=hK5W _ _ (Am (o:=0+0) hN6 rfl)
 have hb1W:Below b1 w W:=(hb4.trans (hb5'.mono (by omega))).trans (hbW.mono (by omega))
 refine Ae (Ae (Ac (Ab Ad rfl (Ab (BS rfl) rfl (Ab Ad rfl (Av rfl rfl (Al rfl (Ak rfl)) rfl (Av rfl rfl (Ai rfl (Ag rfl) ‹_›) rfl ?_)))))))
 refine Av rfl rfl (AN rfl (An rfl)) rfl (Av rfl rfl (Al rfl (Ak rfl)) rfl (Av rfl rfl (Ai rfl (Ag rfl) ‹_›) rfl ?_))
 refine Av rfl rfl (AN rfl (An rfl)) rfl (Av rfl rfl (Bw rfl rfl) rfl (Ab (AM rfl) rfl (Af (Aa ?_))))
 rw[decide_eq_false (not_not_intro (rfl:((f.vals.length:Nat):Int)=((f.vals.length:Nat):Int)))]
 refine Bh rfl rfl (Aq (Aa (Ae (Ac (Ab (A4 (cs:=[.slice cav f.vals.length ccv,.slice cab f.blks.length ccb]) rfl (A0 rfl) agW) rfl (Be (AG Tryz.func19 rfl rfl rfl rfl) rfl (Over_ret (hv4.keep hKW) sh) ?_))))))
 rintro ov W9 ⟨og,ocap,R2,hov,hgR,hgrid,hb9⟩
 refine Ab Ah rfl (Af (Aa ?_))
 have hK9:Keep W W9:=Keep.of_below hb9 (Nat.le_refl _)
 have hKw9:Keep w W9:=(hKe4.trans hKW).trans hK9
 have hb19:Below b1 w W9:=hb1W.trans (hb9.mono (by have:=hb1W.size;omega))
 have hI9:=hI.keep hK9
 have f9:=hK9 _ _ f0
 have g9:=hK9 _ _ g0
 obtain ⟨S9,hS9⟩:∃S9,S9=W9.heap.size:=⟨_,rfl⟩
 have hb1S:b1≤S9:=by have:=hb19.size;omega
 refine Ae (Ae (Ac (Ab (Al rfl (Ak rfl)) rfl (Ab (Ai rfl (Ag rfl) ‹_›) rfl ?_))))
 refine Ab (AN rfl (An rfl)) rfl (Ab Ad rfl (Af (Aa (Ao ?_))))
 refine EC_loop (fun n e wr=>∃i,i≤f.vals.length∧At e [(1,.pointer (some ⟨b1,0,none⟩)),(4,.pointer (some ⟨bg,0,none⟩)),(5,cv6),(7,ov),(46,.slice av f.vals.length cv),(47,.int .i64 (f.vals.length:Int)),(48,.int .i64 (i:Int))]∧Below S9 W9 wr∧n=f.vals.length - i) f.vals.length
  ⟨0,Nat.zero_le _,Ar rfl ⟨rfl,rfl,rfl,rfl,rfl,rfl,rfl,trivial⟩,Below.refl _ _,rfl⟩ ?_
 rintro n e wr ⟨i,hi,⟨t,rfl⟩,hb,rfl⟩
 refine Ae (Ac (Ab (AX rfl rfl) rfl (Af (Aa (Ae ?_)))))
 refine AI rfl rfl (fun hlt=>?_) (fun hge=>?_)
 rotate_left
 ·refine AK (AB (AD (AA (Aa (Ae (Ac (Ab Ah rfl (Af (Aa (AE ?_))))))))))
  exact Az rfl rfl rfl ⟨rfl,hb19.trans (hb.mono (by omega))⟩
 have hin:i<f.vals.length:=by omega
 have hzr:=hb.size
 have hK9r:Keep W9 wr:=Keep.of_below hb (by omega)
 refine Aq (Aa ?_)
 obtain ⟨fb,fo,rfl,hfq⟩:∃bb ob,av=some ⟨bb,ob,none⟩∧∀k,k<f.vals.length→Quad W9 bb (ob+k * 4) (f.v k).op (f.v k).blk (f.v k).args (f.v k).aux:=by
  obtain ⟨bb,ob,e,hq⟩:=hvl.resolve_left (fun e=>by rw[e] at hin;simp at hin)
  exact ⟨bb,ob,e,fun k hk=>(hq k hk).keep hKw9⟩
 obtain ⟨gb2,go2,rfl,⟨s2,hgcells,⟨ga,gac,rfl,hga⟩⟩⟩:=hgq5 i hin
 obtain ⟨s0,hcells0,⟨sa,sac,rfl,hia⟩⟩:=hfq i hin
 have hcells:=hcells0.keep hK9r
 refine Ae (Ao (Ae (Ac (Ab Ad rfl (Ab (A5 (n:=4) rfl rfl (An rfl) hin) rfl (Ab (A4 rfl (A0 rfl) hcells) rfl (Ab (A9 DV) rfl (Ab Ah rfl (Bc (Bb rfl rfl (A7 rfl) rfl rfl) rfl (Af (Aa ?_)))))))))))
 have hBle:B≤wr.heap.size:=by omega
 refine ec_new (.cells #[.int .i64 (f.v i).op,.int .i64 (f.v i).blk,.slice sa (f.v i).args.length sac,.int .i64 (f.v i).aux] 48) B (by omega) fun X hN7 hO7 hZ7 hB7 hK7=>?_
 obtain ⟨V,hV⟩:∃V,V=wr.heap.size:=⟨_,rfl⟩
 rw[← hV] at hN7 ⊢
 have hbX:Below S9 W9 X:=hb.trans ⟨hB7.os,hB7.tape,hB7.output,hB7.size,fun j hj=>hO7 j (by omega)⟩
 have hXsz:=hbX.size
 have hKX:Keep W9 X.drew:=(Keep.of_below hbX (by omega)).trans (Keep.drew X)
 have v0:X.drew.cell? ⟨V,0+0,none⟩=some (.int .i64 (f.v i).op):=(Keep.drew X) _ _ (Am hN7 rfl)
 have v1:X.drew.cell? ⟨V,0+1,none⟩=some (.int .i64 (f.v i).blk):=(Keep.drew X) _ _ (Am hN7 rfl)
 have v2:X.drew.cell? ⟨V,0+2,none⟩=some (.slice sa (f.v i).args.length sac):=(Keep.drew X) _ _ (Am hN7 rfl)
 have hK5r:Keep w5 X.drew:=(hK5W.trans hK9).trans hKX
 have hbl0:=(hgd.val hin).2.2.1
 have gc0:=hK5r _ _ (hgcells 0 _ rfl)
 have gc1:=hK5r _ _ (hgcells 1 _ rfl)
 have gc2:=hK5r _ _ (hgcells 2 _ rfl)
 rw[show (((f.v i).blk.toNat:Nat):Int)=(f.v i).blk by omega] at gc1
 have hll:((nats ((A i).map (fR rw))).length:Int)=((f.v i).args.length:Int):=congrArg (fun n:Nat=>(n:Int)) hR.over_any
 have hnF:=hin
 have hal:=(har i hin).1
 refine AW (fun e W'=>W'=X.drew∧At e [(1,.pointer (some ⟨b1,0,none⟩)),(4,.pointer (some ⟨bg,0,none⟩)),(5,cv6),(7,ov),(46,.slice (some ⟨fb,fo,none⟩) f.vals.length cv),(47,.int .i64 (f.vals.length:Int)),(48,.int .i64 (i:Int)),(8,.int .i64 (i:Int)),(9,.pointer (some ⟨V,0,none⟩))]) ?_ ?_
 ·refine Ae (AY mixed (fun w'=>w'=X.drew) [(0,false),(1,false),(2,false),(3,false),(4,false),(5,false),(6,false),(7,false),(8,false),(9,false),(10,false),(11,false),(12,false),(13,false),(14,false),(15,false),(16,false),(17,false),(18,false),(19,false),(20,false),(21,false),(22,false),(23,false),(24,false),(25,false),(26,false),(27,false),(28,false),(29,false),(30,false),(31,false),(32,false)] (by kernel_rfl) rfl ?_)
  have g0:=hKX _ _ g9
  generalize X.drew=Wd at *
  refine Aj rfl (fun _ _=>Al rfl (Ak rfl)) (Aj rfl (fun _ hS=>Ai rfl (Ag rfl) (by cases hS;exact g0)) ?_)
  refine Aj rfl (fun _ _=>Ad) (Aj rfl (fun _ _=>A5 (n:=4) rfl rfl (An rfl) hnF) (Aj rfl (fun _ _=>Al rfl (Ak rfl)) (Aj rfl (fun _ hS=>Ai rfl (Ag rfl) (by cases hS;exact gc2)) ?_)))
  refine Aj rfl (fun _ _=>AN rfl (An rfl)) (Aj rfl (fun _ _=>Al rfl (Ak rfl)) (Aj rfl (fun _ hS=>Ai rfl (Ag rfl) (by cases hS;exact v2)) ?_))
  refine Aj rfl (fun _ _=>AN rfl (An rfl)) (Aj rfl (fun _ _=>DH rfl rfl hll) (Aj rfl (fun _ _=>Ad) (Ay rfl rfl (fun _ _=>Al rfl (Ak rfl)) (Ay rfl rfl (fun _ hS=>Ai rfl (Ag rfl) (by cases hS;exact g0)) ?_))))
  refine Ay rfl rfl (fun _ _=>Ad) (Ay rfl rfl (fun _ _=>A5 (n:=4) rfl rfl (An rfl) hnF) (Ay rfl rfl (fun _ _=>Al rfl (Ak rfl)) (Ay rfl rfl (fun _ hS=>Ai rfl (Ag rfl) (by cases hS;exact gc0)) ?_)))
  refine Ay rfl rfl (fun _ _=>Al rfl (Ak rfl)) (Ay rfl rfl (fun _ hS=>Ai rfl (Ag rfl) (by cases hS;exact v0)) ?_)
  refine Ay rfl rfl (fun _ _=>DH rfl rfl rfl) (Aj rfl (fun _ _=>AM rfl) (Aj rfl (fun _ _=>Ad) (Ay rfl rfl (fun _ _=>Al rfl (Ak rfl)) (Ay rfl rfl (fun _ hS=>Ai rfl (Ag rfl) (by cases hS;exact g0)) ?_))))
  refine Ay rfl rfl (fun _ _=>Ad) (Ay rfl rfl (fun _ _=>A5 (n:=4) rfl rfl (An rfl) hnF) (Ay rfl rfl (fun _ _=>Al rfl (Ak rfl)) (Ay rfl rfl (fun _ hS=>Ai rfl (Ag rfl) (by cases hS;exact gc1)) ?_)))
  refine Ay rfl rfl (fun _ _=>Al rfl (Ak rfl)) (Ay rfl rfl (fun _ hS=>Ai rfl (Ag rfl) (by cases hS;exact v1)) ?_)
  refine Ay rfl rfl (fun _ _=>DH rfl rfl rfl) (Aj rfl (fun _ _=>AM rfl) (AP (Aa (Bh rfl rfl (Aq ?_)))))
  exact AR ⟨rfl,Ar rfl ⟨rfl,rfl,rfl,rfl,rfl,rfl,rfl,rfl,rfl,trivial⟩⟩
 rintro e W' ⟨hW',⟨t,rfl⟩⟩
 have hbX':Below S9 W9 W':=by rw[hW'];exact hbX.drew
 rw[← hW'] at v0 v2 hKX hK5r
 clear v1 gc0 gc1 gc2
 have hz':=hbX'.size
 refine Ae (Ac (Ab (Al rfl (Ak rfl)) rfl (Ab (Ai rfl (Ag rfl) ‹_›) rfl ?_)))
 refine Ab (AN rfl (An rfl)) rfl (Ab Ad rfl (Af (Aa (Ao ?_))))
 refine EC_loop (fun n e wq=>∃k,k≤(f.v i).args.length∧At e [(1,.pointer (some ⟨b1,0,none⟩)),(4,.pointer (some ⟨bg,0,none⟩)),(5,cv6),(7,ov),(46,.slice (some ⟨fb,fo,none⟩) f.vals.length cv),(47,.int .i64 (f.vals.length:Int)),(48,.int .i64 (i:Int)),(8,.int .i64 (i:Int)),(9,.pointer (some ⟨V,0,none⟩)),(87,.slice sa (f.v i).args.length sac),(88,.int .i64 ((f.v i).args.length:Int)),(89,.int .i64 (k:Int))]∧Below W'.heap.size W' wq∧n=(f.v i).args.length - k) (f.v i).args.length
  ⟨0,Nat.zero_le _,Ar rfl ⟨rfl,rfl,rfl,rfl,rfl,rfl,rfl,rfl,rfl,rfl,rfl,rfl,trivial⟩,Below.refl _ _,rfl⟩ ?_
 rintro n e wq ⟨k,hk,⟨t,rfl⟩,hbq,rfl⟩
 refine Ae (Ac (Ab (AX rfl rfl) rfl (Af (Aa (Ae ?_)))))
 refine AI rfl rfl (fun hlt2=>?_) (fun hge2=>?_)
 rotate_left
 ·refine AK (AB (AD (AA (Ap (Aa (Ac (Ab (x_inc rfl rfl (by omega)) rfl (Ab Ad rfl (Af ?_)))))))))
  exact Aw (f.vals.length - (i+1)) (by omega) ⟨i+1,by omega,Ar rfl ⟨rfl,rfl,rfl,rfl,rfl,rfl,rfl,trivial⟩,hbX'.trans (hbq.mono (by omega)),rfl⟩
 have hkn:k<(f.v i).args.length:=by omega
 refine Aq (Aa ?_)
 obtain ⟨b2,o2,rfl,ha2⟩:=hia.get (k:=k) hkn
 obtain ⟨b3,o3,rfl,hb3⟩:=hga.get (k:=k) (by rw[hR.over_any];exact hkn)
 obtain ⟨z,hz⟩:∃z,z=(nats ((A i).map (fR rw))).getD k 0:=⟨_,rfl⟩
 rw[← hz] at hb3
 obtain ⟨y,hy⟩:∃y,y=(f.v i).args.getD k 0:=⟨_,rfl⟩
 have hyr:=(har i hin).2 _ (CR hkn)
 rw[← hy] at ha2 hyr
 obtain ⟨a,ha⟩:∃a,a=y.toNat:=⟨_,rfl⟩
 have haN:a<f.vals.length:=by omega
 have hKq:Keep W' wq:=Keep.of_below hbq (Nat.le_refl _)
 have hKq9:Keep W9 wq:=hKX.trans hKq
 have p1:=hKq9 _ _ ha2
 have p2:=(hK5r.trans hKq) _ _ hb3
 have p3:=(hK5r.trans hKq) _ _ (hgcells 2 _ rfl)
 have p4:=hKq9 _ _ g9
 have p5:=hKq _ _ v0
 have hzq:=hbq.size
 refine Ae (Ao (Ae (Ac (Ab Ad rfl (Ab (x_index1 rfl rfl (An rfl) hkn) rfl (Ab (Ai rfl (Ag rfl) p1) rfl (Ab Ah rfl (Ab Ah rfl (Af (Aa (Ae ?_)))))))))))
 refine Ac (Ab (Al rfl (Ak rfl)) rfl (Ab (Ai rfl (Ag rfl) p4) rfl (Ab Ad rfl (Ab (A5 (n:=4) rfl rfl (An rfl) hin) rfl (Ab (Al rfl (Ak rfl)) rfl (Ab (Ai rfl (Ag rfl) p3) rfl (Ab Ad rfl (Ab (x_index1 rfl rfl (An rfl) (by rw[hR.over_any];exact hkn)) rfl ?_))))))))
 refine Ab (Ai rfl (Ag rfl) p2) rfl (Ab Ah rfl (Af (Aa ?_)))
 refine AW (fun e wz=>wz=wq.drew∧At e [(1,.pointer (some ⟨b1,0,none⟩)),(4,.pointer (some ⟨bg,0,none⟩)),(5,cv6),(7,ov),(46,.slice (some ⟨fb,fo,none⟩) f.vals.length cv),(47,.int .i64 (f.vals.length:Int)),(48,.int .i64 (i:Int)),(8,.int .i64 (i:Int)),(9,.pointer (some ⟨V,0,none⟩)),(87,.slice (some ⟨b2,o2,none⟩) (f.v i).args.length sac),(88,.int .i64 ((f.v i).args.length:Int)),(89,.int .i64 (k:Int)),(153,.bool false)]) ?_ ?_
 ·refine AY mixed (fun w'=>w'=wq.drew) [(0,false),(1,false),(2,true),(3,false),(4,false),(5,false),(6,false),(7,false),(8,false),(9,false),(10,false),(11,false),(12,false),(13,false),(14,false),(15,false),(16,false),(17,false),(18,false),(19,false),(20,false),(21,false),(22,false),(23,false),(24,false),(25,false),(26,false),(27,false),(28,false),(29,false),(30,false),(31,false),(32,false),(33,false),(34,false),(35,false),(36,false),(37,false),(38,false),(39,false),(40,false),(41,false),(42,false),(43,false),(44,false),(45,false),(46,false),(47,false),(48,false),(49,false),(50,false)] (by kernel_rfl) rfl ?_
  have q0:=(Keep.drew wq) _ _ p5
  have hKd:Keep W9 wq.drew:=hKq9.trans (Keep.drew wq)
  have f0:=hKd _ _ f9
  generalize wq.drew=Wd at *
  refine Aj rfl (fun _ _=>Al rfl (Ak rfl)) (Aj rfl (fun _ hS=>Ai rfl (Ag rfl) (by cases hS;exact q0)) ?_)
  refine BO rfl (AG Tryz.func14 rfl rfl rfl rfl) (EY _) ?_
  rintro _ wx ⟨rfl,rfl⟩
  refine ⟨.inr rfl,?_⟩
  by_cases hcm:CI (f.v i).op
  ·rw[decide_eq_true hcm]
   refine Aj rfl (fun _ _=>BS rfl) (Aj rfl (fun _ _=>Ad) (AJ rfl rfl (AJ rfl rfl (AJ rfl rfl (Aj rfl (fun _ _=>AM rfl) (Aj rfl (fun _ _=>Ad) (AJ rfl rfl (AJ rfl rfl (AJ rfl rfl (A6 rfl rfl (A6 rfl rfl ?_)))))))))))
   refine A6 rfl rfl (A6 rfl rfl (A6 rfl rfl (AJ rfl rfl (AJ rfl rfl (A6 rfl rfl (A6 rfl rfl (A6 rfl rfl (A6 rfl rfl (A6 rfl rfl (A6 rfl rfl (A6 rfl rfl ?_)))))))))))
   refine A6 rfl rfl (A6 rfl rfl (AJ rfl rfl (AJ rfl rfl (A6 rfl rfl (A6 rfl rfl (A6 rfl rfl (A6 rfl rfl (A6 rfl rfl (A6 rfl rfl (A6 rfl rfl (A6 rfl rfl ?_)))))))))))
   refine A6 rfl rfl (A6 rfl rfl (A6 rfl rfl (A6 rfl rfl (A6 rfl rfl (A6 rfl rfl (A6 rfl rfl (A6 rfl rfl (A6 rfl rfl (A6 rfl rfl (AJ rfl rfl (Aj rfl (fun _ _=>AM rfl) ?_)))))))))))
   refine AP ?_
   exact AR ⟨rfl,Ar rfl ⟨rfl,rfl,rfl,rfl,rfl,rfl,rfl,rfl,rfl,rfl,rfl,rfl,rfl,trivial⟩⟩
  rw[decide_eq_false hcm]
  obtain ⟨b,hbN,hbz,hbo⟩:=hR.over hgd hin hkn hcm
  rw[← hz] at hbz
  rw[← hy,← ha] at hbo
  by_cases hne:z=y
  ·skip
   refine Aj rfl (fun _ _=>BS rfl) (Aj rfl (fun _ _=>Ad) (Ay rfl rfl (fun _ _=>Ad) (Ay rfl rfl (fun _ _=>Ad) (Ay rfl rfl (fun _ _=>DH rfl rfl hne) (Aj rfl (fun _ _=>AV rfl) (Aj rfl (fun _ _=>Ad) (AJ rfl rfl (AJ rfl rfl (AJ rfl rfl (A6 rfl rfl (A6 rfl rfl ?_)))))))))))
   refine A6 rfl rfl (A6 rfl rfl (A6 rfl rfl (AJ rfl rfl (AJ rfl rfl (A6 rfl rfl (A6 rfl rfl (A6 rfl rfl (A6 rfl rfl (A6 rfl rfl (A6 rfl rfl (A6 rfl rfl ?_)))))))))))
   refine A6 rfl rfl (A6 rfl rfl (AJ rfl rfl (AJ rfl rfl (A6 rfl rfl (A6 rfl rfl (A6 rfl rfl (A6 rfl rfl (A6 rfl rfl (A6 rfl rfl (A6 rfl rfl (A6 rfl rfl ?_)))))))))))
   refine A6 rfl rfl (A6 rfl rfl (A6 rfl rfl (A6 rfl rfl (A6 rfl rfl (A6 rfl rfl (A6 rfl rfl (A6 rfl rfl (A6 rfl rfl (A6 rfl rfl (AJ rfl rfl (Aj rfl (fun _ _=>AM rfl) ?_)))))))))))
   refine AP ?_
   exact AR ⟨rfl,Ar rfl ⟨rfl,rfl,rfl,rfl,rfl,rfl,rfl,rfl,rfl,rfl,rfl,rfl,rfl,trivial⟩⟩
  subst hbz
  obtain ⟨h1,h2⟩:=hbo (by omega)
  obtain ⟨vb,vo,vcap,hvc,k1⟩:=EX (hI9.keep hKd) hbN
  obtain ⟨_,_,_,hvc',k2⟩:=EX (hI9.keep hKd) haN
  rw[hvc] at hvc'
  cases hvc'
  have hcc2:c b=c a:=(hnum b a hbN haN).2 h1
  obtain ⟨s3,hq3,_⟩:=hfq b hbN
  obtain ⟨s4,hq4,_⟩:=hfq a haN
  have k3:=hKd _ _ (hq3 1 _ rfl)
  have k5:=hKd _ _ (hq4 1 _ rfl)
  have r3:=(hgd.val hbN).2.2
  have r5:=(hgd.val haN).2.2
  have k4:=hKd _ _ (hgR (f.v b).blk.toNat (by omega))
  obtain ⟨D,hD1,hD2⟩:=hgrid (f.v b).blk.toNat (by omega)
  have hDt:D (f.v a).blk.toNat=true:=(hD2 _ (by omega)).2 fun hr=>h2 ((rch_iff hgd.nn).1 hr)
  have k6:=hKd _ _ (Am (w:=W9) (o:=0+(f.v a).blk.toNat) hD1 (by rw[Nat.zero_add];exact BM D (by omega)))
  rw[hDt] at k6
  refine Aj rfl (fun _ _=>BS rfl) (Aj rfl (fun _ _=>Ad) (Ay rfl rfl (fun _ _=>Ad) (Ay rfl rfl (fun _ _=>Ad) (Ay rfl rfl (fun _ _=>x_neqT rfl rfl hne) (Aj rfl (fun _ _=>AV rfl) (Aj rfl (fun _ _=>Ad) (Ay rfl rfl (fun _ _=>Ad) (Ay rfl rfl (fun _ _=>x_lssF rfl rfl (by omega)) (Ay rfl rfl (fun _ _=>Ad) (Ay rfl rfl (fun _ _=>Ad) (Ay rfl rfl (fun _ _=>Al rfl (Ak rfl)) ?_)))))))))))
  refine Ay rfl rfl (fun _ hS=>Ai rfl (Ag rfl) (by cases hS;exact f0)) ?_
  refine Ay rfl rfl (fun _ _=>AN rfl (An rfl)) (Ay rfl rfl (fun _ _=>x_geqF rfl rfl (by omega)) (Ay rfl rfl (fun _ _=>AM rfl) (Ay rfl rfl (fun _ _=>Ad) (Ay rfl rfl (fun _ _=>Ad) (Ay rfl rfl (fun _ _=>Ad) (Ay rfl rfl (fun _ _=>x_index1 (i:=b) hvc rfl (An rfl) hbN) (Ay rfl rfl (fun _ hS=>Ai rfl (Ag rfl) (by cases hS;exact k1)) ?_)))))))
  refine Ay rfl rfl (fun _ _=>Ad) (Ay rfl rfl (fun _ _=>Ad) (Ay rfl rfl (fun _ _=>Ba (i:=a) hvc rfl (by omega) (An rfl) haN) (Ay rfl rfl (fun _ hS=>Ai rfl (Ag rfl) (by cases hS;exact k2)) ?_)))
  refine Ay rfl rfl (fun _ _=>DH rfl rfl hcc2) (Ay rfl rfl (fun _ _=>AM rfl) (Ay rfl rfl (fun _ _=>Ad) (Ay rfl rfl (fun _ _=>Ad) (Ay rfl rfl (fun _ _=>Al rfl (Ak rfl)) (Ay rfl rfl (fun _ hS=>Ai rfl (Ag rfl) (by cases hS;exact f0)) ?_)))))
  refine Ay rfl rfl (fun _ _=>Ad) (Ay rfl rfl (fun _ _=>A5 (n:=4) rfl rfl (An rfl) hbN) (Ay rfl rfl (fun _ _=>Al rfl (Ak rfl)) (Ay rfl rfl (fun _ hS=>Ai rfl (Ag rfl) (by cases hS;exact k3)) ?_)))
  refine Ay rfl rfl (fun _ _=>Ba (i:=(f.v b).blk.toNat) hov rfl (by omega) (An rfl) (by omega)) (Ay rfl rfl (fun _ hS=>Ai rfl (Ag rfl) (by cases hS;exact k4)) ?_)
  refine Ay rfl rfl (fun _ _=>Al rfl (Ak rfl)) (Ay rfl rfl (fun _ hS=>Ai rfl (Ag rfl) (by cases hS;exact f0)) ?_)
  refine Ay rfl rfl (fun _ _=>Ad) (Ay rfl rfl (fun _ _=>EZ (i:=a) (n:=4) rfl rfl (by omega) (An rfl) haN) (Ay rfl rfl (fun _ _=>Al rfl (Ak rfl)) (Ay rfl rfl (fun _ hS=>Ai rfl (Ag rfl) (by cases hS;exact k5)) ?_)))
  refine Ay rfl rfl (fun _ _=>Ba (i:=(f.v a).blk.toNat) rfl rfl (by omega) (An rfl) (by omega)) (Ay rfl rfl (fun _ hS=>Ai rfl (Ag rfl) (by cases hS;exact k6)) ?_)
  refine Ay rfl rfl (fun _ _=>BS rfl) (Ay rfl rfl (fun _ _=>AM rfl) (Aj rfl (fun _ _=>AV rfl) (AP ?_)))
  exact AR ⟨rfl,Ar rfl ⟨rfl,rfl,rfl,rfl,rfl,rfl,rfl,rfl,rfl,rfl,rfl,rfl,rfl,trivial⟩⟩
 rintro e wz ⟨rfl,⟨t,rfl⟩⟩
 refine Bh rfl rfl (Aq (Ap (Aa (Ac (Ab (x_inc rfl rfl (by omega)) rfl (Ab Ad rfl (Af ?_)))))))
 exact Aw ((f.v i).args.length - (k+1)) (by omega) ⟨k+1,by omega,Ar rfl ⟨rfl,rfl,rfl,rfl,rfl,rfl,rfl,rfl,rfl,rfl,rfl,rfl,trivial⟩,hbq.drew,rfl⟩
end Go.Proofs.YteepnepebilckaaGreatDoor
namespace Go.Proofs.YteepnepebilckaaGreatDoor
open Go Go.ChangeShapes Go.WideShapes Go.ChangeAt Go.RowKit Go.Deep Go.Joins
section
variable {H : Type} {enc : TypeId × Value → H} {w : World} {spare : Nat → Bool}
theorem len4 {α:Type} {l:List α} (h:l.length=4):∃a b c d,l=[a,b,c,d]:=by
 match l,h with
 | [a,b,c,d],_=>exact ⟨a,b,c,d,rfl⟩
theorem open_intsV {t e:TypeId} {fuel:Nat} {v:Value} {x:DataW H×List MemPlace} (ht:Tryz.prog.underlying t=some (.slice e)) (he:Tryz.prog.underlying e=some (.int .i64)) (hc:Tryz.prog.cellsOf e=1)
 (h:DataW.trod enc Tryz.prog w 0 (fun _=>true) true fuel t [v]=some x):∃l,IntsV w v l:=by
 rcases open_ints ht he hc h with ⟨h1,_⟩|⟨a,len,cap,zs,h1,_,hl,_,hz,_,hcell,_⟩
 ·simp only [List.cons.injEq,and_true] at h1
  subst h1
  exact ⟨[],none,0,rfl,Nat.le_refl _,.inl rfl⟩
 simp only [List.cons.injEq,and_true] at h1
 subst h1
 simp only [if_true] at hz
 have hlen:(zs.take len).length=len:=by rw[List.length_take];omega
 refine ⟨zs.take len,some a,cap,by rw[hlen],by rw[hlen];exact hl,?_⟩
 cases len with
 |zero=>exact .inl (by simp)
 |succ n=>
  right
  obtain ⟨b,o,spot⟩:=a
  have h0:=hcell 0 (by omega)
  have hs:spot=none:=by
   have:=World.cell?_spot h0
   simpa [Addr.add] using this
  subst hs
  refine ⟨b,o,rfl,fun k hk=>?_⟩
  rw[hlen] at hk
  have h1:=hcell k (by omega)
  rw[add_plain] at h1
  have hg:(zs.take (n+1)).getD k 0=zs.getD k 0:=by
   rw[List.getD_eq_getElem?_getD,List.getD_eq_getElem?_getD,List.getElem?_take,if_pos hk]
  rw[h1,hg]
theorem D6 {t:TypeId} {f0 f1 f2 f3:Field} {fuel:Nat} {b o:Nat} {cs:List Value} {x:DataW H×List MemPlace}
 (ht:Tryz.prog.underlying t=some (.struct #[f0,f1,f2,f3])) (hC:Tryz.prog.cellsOf t=4)
 (h0:f0.offset=0∧Tryz.prog.cellsOf f0.type=1∧Tryz.prog.underlying f0.type=some (.int .i64)) (h1:f1.offset=1∧Tryz.prog.cellsOf f1.type=1∧Tryz.prog.underlying f1.type=some (.int .i64))
 (h2:f2.offset=2∧Tryz.prog.cellsOf f2.type=1∧f2.type=35) (h3:f3.offset=3∧Tryz.prog.cellsOf f3.type=1∧Tryz.prog.underlying f3.type=some (.int .i64))
 (hcs:∀i,i<4→w.cell? ⟨b,o+i,none⟩=cs[i]?)
 (h:DataW.trod enc Tryz.prog w 0 (fun _=>true) true fuel t cs=some x):∃p q l z,Quad w b o p q l z:=by
 obtain ⟨xs,n,_,_,hl,hx,hf⟩:=DataW.trod_struct ht h
 rw[hC] at hl
 obtain ⟨c0,c1,c2,c3,rfl⟩:=len4 hl
 obtain ⟨y0,y1,y2,y3,rfl⟩:=len4 (hx.trans rfl)
 have k0:=hf 0 f0 rfl
 have k1:=hf 1 f1 rfl
 have k2:=hf 2 f2 rfl
 have k3:=hf 3 f3 rfl
 rw[h0.1,h0.2.1] at k0
 rw[h1.1,h1.2.1] at k1
 rw[h2.1,h2.2.1,h2.2.2] at k2
 rw[h3.1,h3.2.1] at k3
 obtain ⟨p,e0,_⟩:=DataW.trod_int h0.2.2 (show DataW.trod enc Tryz.prog w 0 (fun _=>true) true n f0.type [c0]=some y0 from k0)
 obtain ⟨q,e1,_⟩:=DataW.trod_int h1.2.2 (show DataW.trod enc Tryz.prog w 0 (fun _=>true) true n f1.type [c1]=some y1 from k1)
 obtain ⟨z,e3,_⟩:=DataW.trod_int h3.2.2 (show DataW.trod enc Tryz.prog w 0 (fun _=>true) true n f3.type [c3]=some y3 from k3)
 obtain ⟨l,hli⟩:=open_intsV Tryz.underlying35 Tryz.underlying3 (by kernel_rfl) (show DataW.trod enc Tryz.prog w 0 (fun _=>true) true n 35 [c2]=some y2 from k2)
 simp only [List.cons.injEq,and_true] at e0 e1 e3
 subst e0;subst e1;subst e3
 refine ⟨p,q,l,z,c2,fun j v hj=>?_,hli⟩
 have hlt:j<4:=by
  have:=(List.getElem?_eq_some_iff.1 hj).1
  simpa using this
 rw[hcs j hlt];exact hj
theorem open_vals {fuel:Nat} {v:Value} {x:DataW H×List MemPlace} (h:DataW.trod enc Tryz.prog w 0 (fun _=>true) true fuel 22 [v]=some x):∃l,ValsV w v l:=by
 rcases open_slice Tryz.underlying22 h with ⟨h1,_⟩|⟨a,len,cap,m,n,D,Pl,h1,_,hl,_,hm,_,hx⟩
 ·simp only [List.cons.injEq,and_true] at h1
  subst h1
  exact ⟨[],none,0,rfl,.inl rfl⟩
 simp only [List.cons.injEq,and_true] at h1
 subst h1
 simp only [if_true] at hm
 have hC:Tryz.prog.cellsOf 48=4:=by kernel_rfl
 cases len with
 |zero=>exact ⟨[],some a,cap,rfl,.inl rfl⟩
 |succ k=>
  obtain ⟨b,o,spot⟩:=a
  have hs:spot=none:=by
   obtain ⟨cs',h2,_⟩:=hx 0 (by omega)
   obtain ⟨_,h3,h4⟩:=World.cells?_some h2
   have h5:=h4 0 (by rw[hC];omega)
   rw[List.getElem?_eq_getElem (by omega)] at h5
   have:=World.cell?_spot h5
   simpa [Addr.add] using this
  subst hs
  have hq:∀i,i<k+1→∃(y:Int×Int×List Int×Int),Quad w b (o+i * 4) y.1 y.2.1 y.2.2.1 y.2.2.2:=fun i hi=>by
   obtain ⟨cs',h2,h3⟩:=hx i (by omega)
   rw[hC] at h2
   obtain ⟨_,h4,h5⟩:=World.cells?_some h2
   obtain ⟨p,q,l,z,hq⟩:=D6 (b:=b) (o:=o+i * 4) Tryz.underlying48 hC ⟨rfl,by kernel_rfl,Tryz.underlying3⟩ ⟨rfl,by kernel_rfl,Tryz.underlying3⟩ ⟨rfl,by kernel_rfl,rfl⟩ ⟨rfl,by kernel_rfl,Tryz.underlying2⟩ (fun j hj=>by
    have:=h5 j hj
    rw[add_plain,add_plain] at this
    exact this) h3
   exact ⟨(p,q,l,z),hq⟩
  obtain ⟨Y,hY⟩:=choose_lt hq
  refine ⟨(List.range (k+1)).map fun i=>⟨(Y i).1,(Y i).2.1,(Y i).2.2.1,(Y i).2.2.2⟩,some ⟨b,o,none⟩,cap,by simp,.inr ⟨b,o,rfl,fun i hi=>?_⟩⟩
  have hi':i<k+1:=by simpa using hi
  rw[List.getD_eq_getElem?_getD,List.getElem?_map,List.getElem?_range hi']
  exact hY i hi'
theorem open_blks {fuel:Nat} {v:Value} {x:DataW H×List MemPlace} (h:DataW.trod enc Tryz.prog w 0 (fun _=>true) true fuel 23 [v]=some x):∃l,BlksV w v l:=by
 rcases open_slice Tryz.underlying23 h with ⟨h1,_⟩|⟨a,len,cap,m,n,D,Pl,h1,_,hl,_,hm,_,hx⟩
 ·simp only [List.cons.injEq,and_true] at h1
  subst h1
  exact ⟨[],none,0,rfl,.inl rfl⟩
 simp only [List.cons.injEq,and_true] at h1
 subst h1
 simp only [if_true] at hm
 have hC:Tryz.prog.cellsOf 53=4:=by kernel_rfl
 cases len with
 |zero=>exact ⟨[],some a,cap,rfl,.inl rfl⟩
 |succ k=>
  obtain ⟨b,o,spot⟩:=a
  have hs:spot=none:=by
   obtain ⟨cs',h2,_⟩:=hx 0 (by omega)
   obtain ⟨_,h3,h4⟩:=World.cells?_some h2
   have h5:=h4 0 (by rw[hC];omega)
   rw[List.getElem?_eq_getElem (by omega)] at h5
   have:=World.cell?_spot h5
   simpa [Addr.add] using this
  subst hs
  have hq:∀i,i<k+1→∃(y:Int×Int×List Int×Int),Quad w b (o+i * 4) y.1 y.2.1 y.2.2.1 y.2.2.2:=fun i hi=>by
   obtain ⟨cs',h2,h3⟩:=hx i (by omega)
   rw[hC] at h2
   obtain ⟨_,h4,h5⟩:=World.cells?_some h2
   obtain ⟨p,q,l,z,hq⟩:=D6 (b:=b) (o:=o+i * 4) Tryz.underlying53 hC ⟨rfl,by kernel_rfl,Tryz.underlying3⟩ ⟨rfl,by kernel_rfl,Tryz.underlying3⟩ ⟨rfl,by kernel_rfl,rfl⟩ ⟨rfl,by kernel_rfl,Tryz.underlying3⟩ (fun j hj=>by
    have:=h5 j hj
    rw[add_plain,add_plain] at this
    exact this) h3
   exact ⟨(p,q,l,z),hq⟩
  obtain ⟨Y,hY⟩:=choose_lt hq
  refine ⟨(List.range (k+1)).map fun i=>⟨(Y i).1,(Y i).2.1,(Y i).2.2.1,(Y i).2.2.2⟩,some ⟨b,o,none⟩,cap,by simp,.inr ⟨b,o,rfl,fun i hi=>?_⟩⟩
  have hi':i<k+1:=by simpa using hi
  rw[List.getD_eq_getElem?_getD,List.getElem?_map,List.getElem?_range hi']
  exact hY i hi'
set_option maxRecDepth 100000 in
theorem G3 {r:Reach} {b0:Nat} {v:Value} {d:DataW H} {p:List MemPlace} (hv:Value.okWide Tryz.prog w r b0 25 v)
 (h:DataW.Trod enc Tryz.prog w 0 (fun _=>true) true 25 v d p):∃f,FnV w v f:=by
 obtain ⟨v0,v1,y0,y1,n,rfl,_,_,h0,h1⟩:=open_agg2 Tryz.underlying25 (by kernel_rfl) (by kernel_rfl) hv h
 obtain ⟨l0,k0⟩:=open_vals h0
 obtain ⟨l1,k1⟩:=open_blks h1
 exact ⟨⟨l0,l1⟩,v0,v1,rfl,k0,k1⟩
end
theorem ownK:ownKnob Tryz.prog.godebug=none:=by kernel_rfl
theorem laidK:laidOutB Tryz.prog=true:=by kernel_rfl
end Go.Proofs.YteepnepebilckaaGreatDoor
namespace Go.Proofs.YteepnepebilckaaGreatDoor
open Go Go.ChangeShapes Go.WideShapes Go.ChangeAt Go.WideElems Go.RowKit Go.Deep Go.Joins
def Ej:String:= "loop.example/pub-passesoverblocks/pub/ssapasses.opcodeTable"
def Em:List (String×DataW Unit):=[(Ej,Rows.laid_loop_example_pub_passesoverblocks_pub_ssapasses_opcodeTable)]
theorem gOp:Tryz.prog.globalNamed Ej=some 0:=by kernel_rfl
theorem tOp:(Tryz.prog.globals[0]?).map (·.type)=some 117:=by kernel_rfl
theorem gs_one {H:Type} {enc:TypeId×Value→H} {W:World} {sp:Nat→Bool} {gs:List (DataW H)} {q:List MemPlace} (h:DataW.TrodVars enc Tryz.prog W sp [Ej] gs q):∃d,gs=[d]:=by
 obtain ⟨_,_,_,_,d,_,e,_⟩:=trodVars_one h
 exact ⟨d,e⟩
set_option maxRecDepth 100000 in
theorem GH (os:Os) (args:Array Value):laidMetH Tryz.prog Em ((World.doorLaid Tryz.prog 22 os).forCall (fun _ _=>0) ⟨#[],args,[]⟩).memory:=
 laidMetH_of_parts3 (fuel:=8) (laidMet_of_run' 8 (by kernel_rfl) (by kernel_rfl)) (by kernel_rfl) (by kernel_rfl)
theorem FM:∀k,k<21→ [false,false,true,false,true,true,true,true,false,false,false,true,true,false,false,false,false,false,false,false,false][k]? =some (comm k):=by decide
set_option maxRecDepth 100000 in
theorem tabl_of_laid {W:World} (h:laidMetH Tryz.prog Em W):Tabl W:=by
 rw[MakeChecks.laidMetH_plain _ _ _ (by kernel_rfl)] at h
 obtain ⟨ps,⟨g0,t0,cs0,f0,p0,q0,hg0,ht0,hv0,hd0,_⟩,_,_⟩:=h
 obtain rfl:=Option.some.inj (gOp.symm.trans hg0)
 obtain rfl:=Option.some.inj (tOp.symm.trans ht0)
 intro k hk
 have hc:=World.var?_cell hg0 hv0 k
 obtain ⟨xs,m1,rfl,hx1,hlen,hn3,hel⟩:=DataW.trod_array Tryz.underlying117 hd0
 have c1:Tryz.prog.cellsOf 116=1:=by kernel_rfl
 have cb:Tryz.prog.cellsOf 4=1:=by kernel_rfl
 have h0:=hel k hk
 rw[c1,Nat.mul_one] at h0
 simp only [Prod.mk.injEq] at hx1
 have hxs:(xs.map (·.1))[k]? =some (.agg [.lit (.bool (comm k))]):=by
  have e:DataW.agg (xs.map (·.1))=(.agg (([false,false,true,false,true,true,true,true,false,false,false,true,true,false,false,false,false,false,false,false,false]:List Bool).map fun b=>.agg [.lit (.bool b)]):DataW Unit):=hx1.1.symm
  injection e with e
  rw[e,List.getElem?_map,FM k hk]
  rfl
 obtain ⟨y,hy,hy2⟩:∃y,xs[k]? =some y∧y.1= .agg [.lit (.bool (comm k))]:=by
  rw[List.getElem?_map] at hxs
  obtain ⟨y,h1,h2⟩:=Option.map_eq_some_iff.1 hxs
  exact ⟨y,h1,h2⟩
 rw[hy] at h0
 obtain ⟨y0,n,e1,hl,h1⟩:=trod_struct1 Tryz.underlying116 h0
 rw[e1] at hy2
 injection hy2 with hy2
 injection hy2 with hy2 _
 rw[c1] at hl
 have hlk:k<cs0.toList.length:=by
  rw[List.length_take,List.length_drop] at hl
  omega
 have hd:(cs0.toList.drop k).take 1=[cs0.toList[k]]:=by
  rw[List.drop_eq_getElem_cons hlk];rfl
 rw[hd] at h1
 have h1:DataW.trod (fun _=>()) Tryz.prog W 0 (fun _=>true) false n 4 [cs0.toList[k]]=some y0:=by
  have:(([cs0.toList[k]].drop 0).take (Tryz.prog.cellsOf 4))=[cs0.toList[k]]:=by rw[cb];rfl
  rw[← this];exact h1
 obtain ⟨b,e2,e3⟩:=DataW.trod_bool Tryz.underlying4 h1
 rw[hc]
 have hk2:k<cs0.size:=by simpa using hlk
 rw[Array.getElem?_eq_getElem hk2]
 simp only [List.cons.injEq,and_true] at e2
 have e4:cs0[k]= .bool b:=by simpa using e2
 rw[e4]
 rw[e3] at hy2
 injection hy2 with hy2
 injection hy2 with hy2
 rw[hy2]
end Go.Proofs.YteepnepebilckaaGreatDoor
namespace Go.Proofs.YteepnepebilckaaGreatDoor
open Go Go.ChangeShapes Go.WideShapes Go.ChangeAt Go.WideElems Go.RowKit Go.Deep Go.Joins
set_option maxRecDepth 100000 in
theorem fnCseOver_lifted (os:Os) (started:os.Started) (H:Type) (enc:TypeId×Value→H):
 ReturnsInHanded {} Tryz.checked os 6 .any (fun w args=>(Rows.fnCseOverSpec.pre enc Tryz.prog Tryz.f6 [] false w args∧laidMetH Tryz.prog Em w)∧sizedMet enc Tryz.prog Tryz.f6 (OpenSpec.ofChange Rows.fnCseOverSpec) false w args) (Rows.fnCseOverSpec.post enc Tryz.prog Tryz.f6 false true false false):=by
 refine returnsInHanded_of_change_and (C:=Tryz.checked) (X:=fun w _=>laidMetH Tryz.prog Em w) (fun _ _ _ hh h=>h.of_heap hh) ownK started (by kernel_rfl) Tryz.func6
  (ChangeSpec.witness_shaped (enc:=enc) (C:=Tryz.checked) (os:=os) (X:=fun w _=>laidMetH Tryz.prog Em w) false (World.doorLaid Tryz.prog 22 os) #[.agg #[.slice none 0 0,.slice none 0 0]] 8 rfl (World.shaped_of_RefB (by kernel_rfl) (by kernel_rfl)) (by kernel_rfl) (by kernel_rfl) (by kernel_rfl) (GH os _)) ?_
 intro W base args ds gs before hval0 hW _ _ hL _
 have hval:∀(j:Nat) t v,Tryz.f6.params[j]? =some t→args[j]? =some v→Value.okWide Tryz.prog W .any base t v:=hval0
 have hW':=hW
 obtain ⟨p,q,hA0,hV0,rfl,hfz,hnd⟩:=hW
 have hV:DataW.TrodVars enc Tryz.prog W (fun _=>true) [Ej] gs q:=hV0
 have hA:DataW.TrodAll enc Tryz.prog W 0 (fun _=>true) true Tryz.f6.params.toList args.toList ds p:=hA0
 rw[Tryz.params6] at hA hval
 obtain ⟨v0,d0,rfl,rfl,h0⟩:=trodAll_one hA
 obtain ⟨gd,rfl⟩:=gs_one hV
 obtain ⟨f,hf⟩:=G3 (hval 0 25 v0 rfl rfl) h0
 have hlt:∀x∈p,x.block<W.heap.size:=fun x hx=>hW'.lt x (List.mem_append_left _ hx)
 have ht:=tabl_of_laid hL
 clear hA0 hval0
 refine Calls.mono (FnCseOver_ret hf ht) fun e W' ⟨v,he,hv,hb⟩=>?_
 subst he;subst hv
 refine ⟨_,rfl,_,_,_,[],p,q,hW',trodAll_mk1 (shut_bool Tryz.underlying4 true),trodAll_mk1 ?_,Below.trodVars laidK hb (by kernel_rfl) hV,hb.frame _,fun h=>by cases h⟩
 exact WideElems.Trod_stays laidK (by kernel_rfl) (of_decide_eq_true (by kernel_rfl)) h0 (fun x hx=>hb.same (hlt x hx)) (fun x hx=>by simpa using hlt x hx)
theorem fnCseOver_holds:Rows.FnCseOverSaid:=
 OpenClaim.holds_of_wide 6 Tryz.f6 rfl rfl rfl rfl rfl rfl rfl ⟨rfl,rfl,rfl,rfl,rfl⟩ rfl rfl rfl rfl rfl (by kernel_rfl) Tryz.func6 (by kernel_rfl)
  (of_decide_eq_true (by kernel_rfl)) (by unfold Func.isWrapper;first|(rw [if_pos (by decide +kernel)];kernel_rfl)|(rw [if_neg (by decide +kernel)];exact ⟨rfl,rfl⟩))
  (fun os started H enc _=>fnCseOver_lifted os started H enc)
theorem fnCseOver_card:Rows.FnCseOverCardSaid:=
 Claim7.holds_tied_plain_at .later [] [.data] true (true,"4ef5ec6ea8e1c4f87708987f2a68e2b2e34fd6bc534d37cce04b16d691dee687") false
  fnCseOver_holds (fun _ h=>by cases h) (by kernel_rfl) (fun _ h=>by cases h) fnCseOver_row_tie rfl ⟨rfl,rfl⟩ (by kernel_rfl) rfl
  (fun f fn hf hfn=>by
    obtain rfl:f=6:=Option.some.inj ((show Tryz.prog.funcNamed "loop.example/pub-passesoverblocks/laws.FnCseOver" =some 6 by kernel_rfl).symm.trans hf) |>.symm
    obtain rfl:fn=Tryz.f6:=(Option.some.inj (Tryz.func6.symm.trans hfn)).symm
    exact ⟨by kernel_rfl,fun j t ht=>by
     rw[Tryz.params6] at ht
     have h3:t=25:=by
      rcases j with _|_|j
      ·simp at ht;simp [ht]
      ·simp at ht;try simp [ht]
      simp at ht
     exact h3 ▸ (show Tryz.prog.wantsStandIn 25=false by kernel_rfl)⟩)
  (by kernel_rfl)
end Go.Proofs.YteepnepebilckaaGreatDoor
