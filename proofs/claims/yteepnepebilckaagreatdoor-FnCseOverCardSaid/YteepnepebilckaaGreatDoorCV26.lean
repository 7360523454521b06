/- The law FnCseOver returns true for every input in which the opcode table reads as laid, and its argument reads as it did, the table being tied to the text of the program. -/
import Derived.Test.YteepnepebilckaaGreatDoorCV25
namespace Go.Proofs.YteepnepebilckaaGreatDoor
open Go Go.Eng Go.RowKit Go.Shelf
def Gph.wa (g:Gph) (A:Nat→List Nat):Gph:= { g with args:=A }
theorem SwO.mem {g0 g:Gph} (s:SwO g0 g) (v:Nat):(g.args v).length=(g0.args v).length∧∀x,x∈g.args v→x∈g0.args v:=by
 rcases s.args v with h1|⟨_,a,b,h1,h2⟩
 ·rw[h1];exact ⟨rfl,fun _ h=>h⟩
 rw[h1,h2]
 exact ⟨rfl,fun x hx=>by simp at hx ⊢;rcases hx with h|h;exact .inr h;exact .inl h⟩
section
variable {g : Gph} {fw : Prop} {A : Nat → List Nat} {arr : Nat → Nat} {cls : Nat → Int} {P : List (Nat × Nat)} {rw : Nat → Option Nat}
theorem CseR.sw (h:CseR g fw A arr cls P rw):SwO g (g.wa A):=by
 obtain ⟨_,h1⟩:=h.pj
 exact h1.sw
theorem CseR.lt (h:CseR g fw A arr cls P rw) {x:Nat} (hx:x<g.nv):fR rw x<g.nv:=by
 unfold fR
 cases e:rw (x+1) with
 |none=>exact hx
 |some y=>exact (h.rw x y hx e).1
theorem CseR.gok {T:Nat→Bool} (h:CseR g fw A arr cls P rw) (hG:GoodG T g) (m c:Value):GOk (((g.wa A).mv (fR rw)).ac m c):=by
 have h0:=hG.gok
 refine ⟨h0.nb,h0.nv,h0.blk,fun i hi=>?_,h0.succs,fun b hb x hx=>?_,h0.likely⟩
 ·obtain ⟨s1,s2⟩:=h.sw.mem i
  have h1:=h0.args i hi
  refine ⟨?_,fun a ha=>?_⟩
  ·show (((A i).map (fR rw)).length)≤_
   rw[List.length_map]
   exact Nat.le_trans (Nat.le_of_eq s1) h1.1
  obtain ⟨y,hy,rfl⟩:=List.mem_map.1 ha
  exact h.lt (h1.2 y (s2 y hy))
 obtain ⟨y,hy,rfl⟩:=List.mem_map.1 hx
 exact h.lt (h0.ctrl b hb y hy)
end
def Tabl (w:World):Prop:=∀k,k<21→w.cell? ⟨0,k,none⟩=some (.bool (comm k))
theorem Tabl.pos {w:World} (h:Tabl w):0<w.heap.size:=by
 have h1:=h 0 (by decide)
 refine Classical.byContradiction fun h2=>?_
 have h3:w.heap[0]? =none:=Array.getElem?_eq_none (by omega)
 simp [World.cell?,h3] at h1
theorem Tabl.keep {w w':World} (h:Tabl w) (k:Keep w w'):Tabl w':=fun j hj=>k _ _ (h j hj)
theorem FF (f:Fn):∀x y,(toG f).op x=(toG f).op y→(toG f).ty x=(toG f).ty y:=fun x y e=>by
 show (if 10≤(f.v x).op∧(f.v x).op≤12 then (1:Int) else 0)=if 10≤(f.v y).op∧(f.v y).op≤12 then 1 else 0
 rw[show (f.v x).op=(f.v y).op from e]
set_option maxHeartbeats 4000000
attribute [local irreducible] EC EL DL Ret thenQ blockQ Bi bodyQ onlyN execOp Sem.run World.cell? World.frozen? World.setCell World.alloc
theorem ssaCse_ret {w:World} {x:Value} {f:Fn} {fw:Prop} (hx:FnV w x f) (hP:GoodP f) (ht:Tabl w) (hfw:fw→FewG (toG f)):
 Ret Tryz.prog 33 #[x] w fun v w'=>(∃A arr cls P rw,CseR (toG f) fw A arr cls P rw∧Own w.heap.size w' v (toF (((toG f).wa A).mv (fR rw))))∧Below w.heap.size w w':=by
 obtain ⟨xv,xb,rfl,hvals,hblks⟩:=hx
 refine ret_of_EC Tryz.func33 rfl rfl ?_
 obtain ⟨B,hBd⟩:∃B,B=w.heap.size:=⟨_,rfl⟩
 refine Ae (Ac (Ab (Bv (v:=.agg #[xv,xb]) rfl) rfl (el_new (.cells #[xv,xb] 62) B (by omega) fun wa hN1 hO1 hZ1 hB1 hK1=>(Ab (A9 CS) rfl (el_new (.cells #[nilS,nilS] 62) B (by omega) fun wb hN2 hO2 hZ2 hB2 hK2=>(Af (Aa ?_)))))))
 have hK:Keep w wb:=hK1.trans hK2
 have hx':FnV wb (.agg #[xv,xb]) f:=⟨xv,xb,rfl,hvals.keep hK,hblks.keep hK⟩
 have hbx:wb.heap[w.heap.size]? =some (.cells #[xv,xb] 62 (0,0)):=(hO2 _ (by omega)).trans hN1
 refine Ae (Ac (Ab (A4 (cs:=[xv,xb]) rfl (A0 rfl) (A3 hbx)) rfl (Be (AG Tryz.func40 rfl rfl rfl rfl) rfl (build_ret hx' hP.wf) ?_)))
 rintro v1 w1 ⟨B1,L,hB1',rfl,hent,hg1,hbl1⟩
 refine Ab Ah rfl (Af (Aa ?_))
 have htp:=ht.pos
 have ht1:Tabl w1:=(ht.keep hK).keep (Keep.of_below hbl1 (Nat.le_refl _))
 refine Ae (Ac (Ab Ad rfl (Be (AG Tryz.func41 rfl rfl rfl rfl) rfl (cse_ret hg1 (by omega) hP.good rfl (FF f) hent ht1 hfw) ?_)))
 rintro v2 w2 ⟨rfl,A,arr,cls,P,rw,r,cv,us,hR,hg2,_,hbl2⟩
 refine Af (Aa (Ae (Ac (Ab Ad rfl (Be (AG Tryz.func43 rfl rfl rfl rfl) rfl (data_ret hg2 (hR.gok hP.good _ _)) ?_)))))
 rintro v3 w3 ⟨hv3,hbl3⟩
 obtain ⟨g',hg'⟩:∃g',g'=((toG f).wa A).mv (fR rw):=⟨_,rfl⟩
 have hv3:Own w2.heap.size w3 v3 (toF g'):=by rw[hg'];exact hv3
 have hb13:Below wb.heap.size wb w3:=(hbl1.trans (hbl2.mono (by omega))).trans (hbl3.mono (by have:=hbl1.size;have:=hbl2.size;omega))
 have hC3:w3.heap[wa.heap.size]? =some (.cells #[nilS,nilS] 62 (0,0)):=(hb13.block _ (by omega)).trans hN2
 obtain ⟨yv,yb,rfl,hvals3,hblks3⟩:=hv3.at
 obtain ⟨pa,pc,rfl,_⟩:=hvals3
 obtain ⟨qa,qc,rfl,_⟩:=hblks3
 refine Bc (Cy rfl rfl hC3 (A7 rfl) rfl rfl) rfl (Af (Aa ?_))
 have hgC:=setRow_heap w3 _ _ #[.slice pa (toF g').vals.length pc,.slice qa (toF g').blks.length qc] _ _ hC3
 have hsz2:wa.heap.size<w2.heap.size:=by have:=hbl1.size;have:=hbl2.size;omega
 have hOwn:Own w.heap.size (w3.setRow wa.heap.size #[.slice pa (toF g').vals.length pc,.slice qa (toF g').blks.length qc]) (.agg #[.slice pa (toF g').vals.length pc,.slice qa (toF g').blks.length qc]) (toF g'):=fun w'' hw hs=>
  hv3 w'' (fun k h1 h2=>(hw k (by omega) (by simpa [World.setRow] using h2)).trans (setRow_other _ _ _ _ (by omega))) (by simpa [World.setRow] using hs)
 have hbF:Below w.heap.size w (w3.setRow wa.heap.size #[.slice pa (toF g').vals.length pc,.slice qa (toF g').blks.length qc]):=
  below_setRow' ((show Below w.heap.size w wb from by rw[← hBd];exact hB1.trans hB2).trans (hb13.mono (by omega))) (by omega) _
 refine AE ?_
 exact CD rfl rfl rfl rfl (BG (cs:=[.slice pa (toF g').vals.length pc,.slice qa (toF g').blks.length qc]) (A0 rfl) (A3 hgC)) ⟨⟨A,arr,cls,P,rw,hR,by rw[← hg'];exact hOwn⟩,hbF⟩
theorem ssaPart_ret {w:World} {x:Value} {f:Fn} {fw:Prop} (hx:FnV w x f) (hP:GoodP f) (ht:Tabl w) (hfw:fw→FewG (toG f)):
 Ret Tryz.prog 28 #[x] w fun v w'=>(∃A arr cls P rw us,CseR (toG f) fw A arr cls P rw∧LLs w' w.heap.size v us (P.map fun p=>BL (clsL arr p)))∧Below w.heap.size w w':=by
 obtain ⟨xv,xb,rfl,hvals,hblks⟩:=hx
 refine ret_of_EC Tryz.func28 rfl rfl ?_
 obtain ⟨B,hBd⟩:∃B,B=w.heap.size:=⟨_,rfl⟩
 refine Ae (Ac (Ab (Bv (v:=.agg #[xv,xb]) rfl) rfl (el_new (.cells #[xv,xb] 62) B (by omega) fun wb hN1 hO1 hZ1 hB1 hK1=>(Ab Ah rfl (Af (Aa ?_))))))
 have hK:Keep w wb:=hK1
 have hx':FnV wb (.agg #[xv,xb]) f:=⟨xv,xb,rfl,hvals.keep hK,hblks.keep hK⟩
 refine Ae (Ac (Ab (A4 (cs:=[xv,xb]) rfl (A0 rfl) (A3 hN1)) rfl (Be (AG Tryz.func40 rfl rfl rfl rfl) rfl (build_ret hx' hP.wf) ?_)))
 rintro v1 w1 ⟨B1,L,hB1',rfl,hent,hg1,hbl1⟩
 refine Ab Ah rfl (Af (Aa ?_))
 have htp:=ht.pos
 have ht1:Tabl w1:=(ht.keep hK).keep (Keep.of_below hbl1 (Nat.le_refl _))
 refine Ae (Ac (Ab Ad rfl (Be (AG Tryz.func41 rfl rfl rfl rfl) rfl (cse_ret hg1 (by omega) hP.good rfl (FF f) hent ht1 hfw) ?_)))
 rintro v2 w2 ⟨rfl,A,arr,cls,P,rw,r,cv,us,hR,hg2,hL,hbl2⟩
 refine Af (Aa ?_)
 have hcl:w2.cell? ⟨L.fb,0+5,none⟩=some cv:=Am (hg2.comp .fn) rfl
 have hz1:=hbl1.size
 refine Ae (Ac (Ab Ad rfl (Ab (Au rfl) rfl (Ab (Al rfl (Ak rfl)) rfl (Ab (Ai rfl (Ag rfl) ‹_›) rfl ?_)))))
 refine Ab Ah rfl (Af (Aa (AE ?_)))
 refine Az rfl rfl rfl ⟨⟨A,arr,cls,P,rw,us,hR,hL.on2 (by omega) fun _ _ _ _=>rfl⟩,?_⟩
 rw[← hBd]
 exact hB1.trans ((hbl1.trans (hbl2.mono (by omega))).mono (by omega))
theorem implCse_ret {w:World} {x:Value} {f:Fn} {fw:Prop} (hx:FnV w x f) (hP:GoodP f) (ht:Tabl w) (hfw:fw→FewG (toG f)):
 Ret Tryz.prog 18 #[x] w fun v w'=>(∃A arr cls P rw,CseR (toG f) fw A arr cls P rw∧FnV w' v (toF (((toG f).wa A).mv (fR rw))))∧Below w.heap.size w w':=by
 obtain ⟨xv,xb,rfl,hvals,hblks⟩:=hx
 refine ret_of_EC Tryz.func18 rfl rfl ?_
 obtain ⟨B,hBd⟩:∃B,B=w.heap.size:=⟨_,rfl⟩
 refine Ae (Ac (Ab (Bv (v:=.agg #[xv,xb]) rfl) rfl (el_new (.cells #[xv,xb] 25) B (by omega) fun wa hN1 hO1 hZ1 hB1 hK1=>(Ab (A9 C9) rfl (el_new (.cells #[nilS,nilS] 25) B (by omega) fun wb hN2 hO2 hZ2 hB2 hK2=>(Af (Aa ?_)))))))
 have hK:Keep w wb:=hK1.trans hK2
 have hx':FnV wb (.agg #[xv,xb]) f:=⟨xv,xb,rfl,hvals.keep hK,hblks.keep hK⟩
 have hbx:wb.heap[w.heap.size]? =some (.cells #[xv,xb] 25 (0,0)):=(hO2 _ (by omega)).trans hN1
 refine Ae (Ac (Ab (A4 (cs:=[xv,xb]) rfl (A0 rfl) (A3 hbx)) rfl (Be (AG Tryz.func29 rfl rfl rfl rfl) rfl (impl_conv_ret hx' hP.wf) ?_)))
 rintro v1 w1 ⟨hv1,hbl1⟩
 refine Be (AG Tryz.func33 rfl rfl rfl rfl) rfl (ssaCse_ret hv1.at hP ((ht.keep hK).keep (Keep.of_below hbl1 (Nat.le_refl _))) hfw) ?_
 rintro v2 w2 ⟨⟨A,arr,cls,P,rw,hR,hv2⟩,hbl2⟩
 obtain ⟨g',hg'⟩:∃g',g'=((toG f).wa A).mv (fR rw):=⟨_,rfl⟩
 rw[← hg'] at hv2
 have hok:GOk g':=by rw[hg'];exact hR.gok hP.good (toG f).am (toG f).cl
 have wf':Wf (toF g'):=wf_toF hok (by rw[hg'];exact hP.wf.one)
 refine Be (AG Tryz.func32 rfl rfl rfl rfl) rfl (EP hv2.at wf') ?_
 rintro v3 w3 ⟨hv3,hbl3⟩
 have hb13:Below wb.heap.size wb w3:=(hbl1.trans (hbl2.mono (by have:=hbl1.size;omega))).trans (hbl3.mono (by have:=hbl1.size;have:=hbl2.size;omega))
 have hC3:w3.heap[wa.heap.size]? =some (.cells #[nilS,nilS] 25 (0,0)):=(hb13.block _ (by omega)).trans hN2
 obtain ⟨yv,yb,rfl,hvals3,hblks3⟩:=hv3.at
 obtain ⟨pa,pc,rfl,_⟩:=hvals3
 obtain ⟨qa,qc,rfl,_⟩:=hblks3
 refine Bc (Cy rfl rfl hC3 (A7 rfl) rfl rfl) rfl (Af (Aa ?_))
 have hgC:=setRow_heap w3 _ _ #[.slice pa (toF g').vals.length pc,.slice qa (toF g').blks.length qc] _ _ hC3
 have hsz2:wa.heap.size<w2.heap.size:=by have:=hbl1.size;have:=hbl2.size;omega
 have hOwn:Own w.heap.size (w3.setRow wa.heap.size #[.slice pa (toF g').vals.length pc,.slice qa (toF g').blks.length qc]) (.agg #[.slice pa (toF g').vals.length pc,.slice qa (toF g').blks.length qc]) (toF g'):=fun w'' hw hs=>
  hv3 w'' (fun k h1 h2=>(hw k (by omega) (by simpa [World.setRow] using h2)).trans (setRow_other _ _ _ _ (by omega))) (by simpa [World.setRow] using hs)
 have hbF:Below w.heap.size w (w3.setRow wa.heap.size #[.slice pa (toF g').vals.length pc,.slice qa (toF g').blks.length qc]):=
  below_setRow' ((show Below w.heap.size w wb from by rw[← hBd];exact hB1.trans hB2).trans (hb13.mono (by omega))) (by omega) _
 refine AE ?_
 exact CD rfl rfl rfl rfl (BG (cs:=[.slice pa (toF g').vals.length pc,.slice qa (toF g').blks.length qc]) (A0 rfl) (A3 hgC)) ⟨⟨A,arr,cls,P,rw,hR,by rw[← hg'];exact hOwn.at⟩,hbF⟩
theorem implPart_ret {w:World} {x:Value} {f:Fn} {fw:Prop} (hx:FnV w x f) (hP:GoodP f) (ht:Tabl w) (hfw:fw→FewG (toG f)):
 Ret Tryz.prog 11 #[x] w fun v w'=>(∃A arr cls P rw us,CseR (toG f) fw A arr cls P rw∧LLs w' w.heap.size v us (P.map fun p=>BL (clsL arr p)))∧Below w.heap.size w w':=by
 obtain ⟨xv,xb,rfl,hvals,hblks⟩:=hx
 refine ret_of_EC Tryz.func11 rfl rfl ?_
 obtain ⟨B,hBd⟩:∃B,B=w.heap.size:=⟨_,rfl⟩
 refine Ae (Ac (Ab (Bv (v:=.agg #[xv,xb]) rfl) rfl (el_new (.cells #[xv,xb] 25) B (by omega) fun wb hN1 hO1 hZ1 hB1 hK1=>(Ab Ah rfl (Af (Aa ?_))))))
 have hK:Keep w wb:=hK1
 have hx':FnV wb (.agg #[xv,xb]) f:=⟨xv,xb,rfl,hvals.keep hK,hblks.keep hK⟩
 refine Ae (Ac (Ab (A4 (cs:=[xv,xb]) rfl (A0 rfl) (A3 hN1)) rfl (Be (AG Tryz.func29 rfl rfl rfl rfl) rfl (impl_conv_ret hx' hP.wf) ?_)))
 rintro v1 w1 ⟨hv1,hbl1⟩
 refine Be (AG Tryz.func28 rfl rfl rfl rfl) rfl (ssaPart_ret hv1.at hP ((ht.keep hK).keep (Keep.of_below hbl1 (Nat.le_refl _))) hfw) ?_
 rintro v2 w2 ⟨⟨A,arr,cls,P,rw,us,hR,hL⟩,hbl2⟩
 have hz1:=hbl1.size
 refine Ab Ah rfl (Af (Aa (AE ?_)))
 refine Az rfl rfl rfl ⟨⟨A,arr,cls,P,rw,us,hR,hL.on2 (by omega) fun _ _ _ _=>rfl⟩,?_⟩
 rw[← hBd]
 exact hB1.trans ((hbl1.trans (hbl2.mono (by omega))).mono (by omega))
end Go.Proofs.YteepnepebilckaaGreatDoor
