/- The law FnAllRun returns true for every input in which the opcode table reads as laid, and its arguments read as they did, the table being tied to the text of the program. -/
import Derived.Test.YteepnepebilckaaGreatDoorCS25
namespace Go.Proofs.YteepnepebilckaaGreatDoor
open Go Go.Eng Go.RowKit Go.Shelf
def FewG (g:Gph):Prop:=∀v,v<g.nv→((List.range g.nv).filter fun x=>g.op x == g.op v && g.aux x == g.aux v).length≤12
def Gph.ac (g:Gph) (m c:Value):Gph:= { g with am:=m,cl:=c }
def Start (g:Gph) (s:MS):Prop:=∃arr P cls,s=⟨g.args,arr,cls,P,(P.length:Int)+1,0,false⟩∧Part0 g (fun i=>(preK g g.nb).getD i 0) arr P∧Nu arr g.nv P P.length 0 cls∧∀x,x=0∨g.nv<x→cls x=0
structure CseR (g:Gph) (fw:Prop) (A:Nat→List Nat) (arr:Nat→Nat) (cls:Nat→Int) (P:List (Nat×Nat)) (rw:Nat→Option Nat):Prop where
 pj:∃pn,PJ g { g with args:=A } arr cls P pn fw
 stab:∀p∈P,DO { g with args:=A } arr cls p
 hist:∃s0,Start g s0∧∃pn i,Rc g.op s0 ⟨A,arr,cls,P,pn,i,false⟩∧¬ i<P.length
 rw:RwI g (fun y x=>cls (y+1)=cls (x+1)∧Dom g.succs (g.blk y) (g.blk x)∧(fw→g.blk y=g.blk x→y≤x)) rw
theorem LLs.on2 {w w':World} {base base':Nat} {v:Value} {us:List Value} {xss:List (List Int)} (h:LLs w base v us xss) (hb:base'≤base) (hk:∀k,base≤k→k<w.heap.size→v.ownBlock=some k∨(∃i,(us.getD i nilS).ownBlock=some k)→w'.heap[k]? =w.heap[k]?):LLs w' base' v us xss:=
 ⟨ownsRow_low (AA h.row fun k e=>hk k (Au h.row k e).1 (Au h.row k e).2 (.inl e)) hb,h.len,fun i hi=>ownsRow_low (AA (h.ints i hi) fun k e=>hk k (Au (h.ints i hi) k e).1 (Au (h.ints i hi) k e).2 (.inr ⟨i,e⟩)) hb,h.ne⟩
theorem preK_mem {g:Gph} (h:Frm g):∀k,k≤g.nb→(preK g k).Perm ((List.range g.nv).filter fun i=>decide (g.blk i<k))
 |0,_=>by
  have:((List.range g.nv).filter fun i=>decide (g.blk i<0))=[]:=List.filter_eq_nil_iff.2 fun x _=>by simp
  rw[this];exact List.Perm.refl _
 |k+1,hk=>by
  have ih:=preK_mem h k (by omega)
  rw[Cy,h.bvals k (by omega)]
  have h1:=List.filter_append_perm (fun i=>decide (g.blk i<k)) ((List.range g.nv).filter fun i=>decide (g.blk i<k+1))
  rw[List.filter_filter,List.filter_filter] at h1
  have e1:((List.range g.nv).filter fun i=>g.blk i == k)=(List.range g.nv).filter fun a=> !decide (g.blk a<k) && decide (g.blk a<k+1):=List.filter_congr fun x _=>by
   rw[Bool.eq_iff_iff]
   simp
   omega
  have e2:((List.range g.nv).filter fun i=>decide (g.blk i<k))=(List.range g.nv).filter fun a=>decide (g.blk a<k) && decide (g.blk a<k+1):=List.filter_congr fun x _=>by
   rw[Bool.eq_iff_iff]
   simp
   omega
  rw[e1]
  rw[e2] at ih
  exact (ih.append (List.Perm.refl _)).trans h1
theorem GT {g:Gph} (h:Frm g):(preK g g.nb).Perm (List.range g.nv):=by
 refine (preK_mem h g.nb (Nat.le_refl _)).trans (List.Perm.of_eq (List.filter_eq_self.2 fun x hx=>?_))
 exact decide_eq_true (h.blk x (List.mem_range.1 hx))
theorem apart_len {N:Nat}:∀(P:List (Nat×Nat)) (lo:Nat),P.Pairwise (fun a b=>a.1+a.2≤b.1)→(∀p∈P,lo≤p.1∧2≤p.2∧p.1+p.2≤N)→lo≤N→lo+2 * P.length≤N∧Phi P≤2 * ((N:Int) - lo)
 | [],lo,_,_,h=>⟨by simpa using h,by simp [Phi];omega⟩
 |p :: P,lo,ha,hl,h=>by
  have h1:=hl p (.head _)
  have h2:=List.pairwise_cons.1 ha
  have ih:=apart_len P (p.1+p.2) h2.2 (fun q hq=>⟨h2.1 q hq,(hl q (.tail _ hq)).2⟩) h1.2.2
  obtain ⟨a,b⟩:=ih
  unfold Phi at b ⊢
  rw[List.map_cons,List.sum_cons,List.length_cons]
  omega
theorem pj_start {g g0:Gph} {arr0 arr:Nat→Nat} {cls:Nat→Int} {P:List (Nat×Nat)} {fw:Prop} (he:g=g0) (hpi:PI g arr cls P ((P.length:Int)+1)) (h0:Part0 g arr0 arr P) (hfw:fw→FewG g):PJ g0 g arr cls P ((P.length:Int)+1) fw:=by
 subst he
 refine ⟨hpi,by omega,⟨rfl,fun _=>.inl rfl⟩,fun _ R hR x y hx hy hxy=>?_,fun hf p hp=>⟨?_,h0.asc p hp⟩⟩
 ·obtain ⟨i,hi,rfl⟩:=Dh hpi.perm hx
  obtain ⟨j,hj,rfl⟩:=Dh hpi.perm hy
  have hk:=hR.key _ _ hxy
  have key:∀i j,i<j→j<g.nv→Go.Proofs.YteepnepebilckaaGreatDoor.key g (arr i)=Go.Proofs.YteepnepebilckaaGreatDoor.key g (arr j)→cls (arr i+1)=cls (arr j+1):=fun i j hij hj e=>by
   obtain ⟨p,hp,h1,h2⟩:=h0.most i j hij hj e
   have a1:=hpi.cin p hp (i - p.1) (by omega)
   have a2:=hpi.cin p hp (j - p.1) (by omega)
   rw[show p.1+(i - p.1)=i by omega] at a1
   rw[show p.1+(j - p.1)=j by omega] at a2
   rw[a1,a2]
  rcases Nat.lt_trichotomy i j with h1|h1|h1
  ·exact key i j h1 hj hk
  ·rw[h1]
  exact (key j i h1 hi hk.symm).symm
 have hl:=h0.long p hp
 have h1:(clsD arr p.1 p.2).Nodup:=by
  refine List.nodup_iff_pairwise_ne.2 (List.pairwise_iff_getElem.2 fun i j hi hj hij e=>?_)
  have gt:∀i (h:i<(clsD arr p.1 p.2).length),(clsD arr p.1 p.2)[i]=arr (p.1+i):=fun i h=>by
   rw[← BV (arr:=arr) (o:=p.1) (n:=p.2) (j:=i) (by rwa [BG] at h),List.getD_eq_getElem?_getD,List.getElem?_eq_getElem h];rfl
  rw[gt,gt] at e
  rw[BG] at hi hj
  have:=CL hpi.perm (by omega) (by omega) e
  omega
 have h2:=h1.length_le_of_subset (l₂:=(List.range g.nv).filter fun x=>g.op x == g.op (arr p.1) && g.aux x == g.aux (arr p.1)) fun x hx=>by
  obtain ⟨j,hj,rfl⟩:=List.mem_map.1 hx
  have hj:=List.mem_range.1 hj
  have hk:=key_op (h0.same p hp j hj)
  exact List.mem_filter.2 ⟨List.mem_range.2 (B2 hpi.perm (by omega)),by simp [hk.1,hk.2.1]⟩
 rw[BG] at h2
 exact Nat.le_trans h2 (hfw hf _ (B2 hpi.perm (by omega)))
set_option maxHeartbeats 4000000
attribute [local irreducible] EC EL DL Ret thenQ blockQ Bi bodyQ onlyN execOp Sem.run World.cell? World.frozen? World.setCell World.alloc
theorem cse_ret {w:World} {B:Nat} {L:Lay} {g:Gph} {T:Nat→Bool} {fw:Prop} (hg:GRep w B L g) (hB:0<B) (hG:GoodG T g) (ham:g.am= .map none) (hty:∀x y,g.op x=g.op y→g.ty x=g.ty y) (hent:L.entry=some ⟨L.bb 0,0,none⟩)
 (hopt:∀k,k<21→w.cell? ⟨0,k,none⟩=some (.bool (comm k))) (hfw:fw→FewG g):
 Ret Tryz.prog 41 #[L.fp] w fun v w'=>v= .tuple #[]∧∃A arr cls P rw r cv us,CseR g fw A arr cls P rw∧GRep w' B L ((({ g with args:=A }:Gph).mv (fR rw)).ac (.map (some r)) cv)∧LLs w' w.heap.size cv us (P.map fun p=>CY (clsL arr p))∧Below B w w':=by
 have hGA:=hG.toGoodA
 have hF:=hG.toFrm
 have hn:=hF.nv
 have hnb:=hF.nb
 have hnb1:=hF.one
 have hBw:=hg.baseLe
 have hfB:=hg.tags.fbB
 have hfl:=By hg
 have hperm:=GT hF
 have hbv:∀k,k<g.nb→∀v∈g.bvals k,v<g.nv:=fun k hk v hv=>by
  rw[hF.bvals k hk] at hv
  exact List.mem_range.1 (List.mem_filter.1 hv).1
 have hop:∀i,i<g.nv→g.op i≤15:=fun i hi=>(hGA.ops i hi).2.1
 have hal:∀i,i<g.nv→(g.args i).length≤18:=fun i hi=>hGA.alen hi
 obtain ⟨E,hEd⟩:∃E,E=w.heap.size:=⟨_,rfl⟩
 have hE0:GE E L g:=by rw[hEd];exact hg.ge
 rw[← hEd] at hBw hfl
 refine ret_of_EC_W Tryz.func41 rfl rfl (cseA0 hg hn fun t w1 fbx abx A hf1 ha1 hA1 n1 n2 n3 hb1 hfb1 hab1 hAr1=>?_)
 rw[← hEd] at hf1 ha1 hA1
 have hz1:=hb1.size
 refine cseA1 (w0:=w) (E:=E) (hg.on hb1) ham hE0 hn hf1 ha1 hA1 ⟨n1,n2,n3⟩ hfb1 hab1 hAr1 fun t w2 r hr n4 n5 n6 hg2 hm2 hfb2 hab2 hAr2 hO2=>?_
 have hE2:=hE0.am (.map (some r))
 have hz2:=hO2.size
 have hGS0:GS w2 w2 L g.nv abx A r []:=⟨hab2,hAr2,.inl ⟨rfl,0,hm2⟩,Only.refl _ _⟩
 refine cseA2 (g:= { g with am:=.map (some r) }) hg2 rfl hE2 hn hnb hf1 ha1 hA1 hr ⟨n1,n2,n3,n4,n5,n6⟩ hfb2 hbv (by show (preK g g.nb).length=g.nv;rw[hperm.length_eq,List.length_range]) hGS0 fun t w3 hGS=>?_
 have hO3:=hGS.only
 have hz3:=hO3.size
 have hfbl2:=Bo hfb2
 have hg3:GRep w3 B L { g with am:=.map (some r) }:=hg2.keepE hE2 fun q hq=>hO3.block q (by omega) (by omega)
 have hfb3:=(hO3.block fbx hfbl2 (by omega)).trans hfb2
 refine cseA3 (g:= { g with am:=.map (some r) }) hg3 rfl hE2 hn hf1 ha1 hA1 ⟨n1,n2,n3⟩ hfb3 hGS hperm hF.blk hty hop fun t w4 arr P pv Eb h0 hAr4 hO4 e1 e2 e3 e4 hEb4 hrow4=>?_
 have hz4:=hO4.size
 have hfbl3:=Bo hfb3
 have habl3:=Bo hGS.a
 have hAl3:=Bo hGS.arr
 have hg4:GRep w4 B L { g with am:=.map (some r) }:=hg3.keepE hE2 fun q hq=>hO4.block q (by omega) (by omega)
 have hfb4:=(hO4.block fbx hfbl3 n2).trans hfb3
 have hab4:=(hO4.block abx habl3 n3).trans hGS.a
 refine cseB1 (E:=E) (g:= { g with am:=.map (some r) }) hg4 hn hfb4 fun t w5 vbx VE hvx hVE n7 hb5 hvb5 hVE5=>?_
 have hz5:=hb5.size
 have hpvl:∀k,pv.ownBlock=some k→Eb≤k∧k<w4.heap.size:=fun k e=>Au hrow4 k e
 obtain ⟨b,hbd⟩:∃b:Bl,b=⟨E,Eb,A,fbx,abx,vbx,VE⟩:=⟨_,rfl⟩
 have hbE:b.E=E:=by rw[hbd]
 have hbEb:b.Eb=Eb:=by rw[hbd]
 have hbA:b.A=A:=by rw[hbd]
 have hbf:b.fbx=fbx:=by rw[hbd]
 have hba:b.abx=abx:=by rw[hbd]
 have hbv':b.vbx=vbx:=by rw[hbd]
 have hbV:b.VE=VE:=by rw[hbd]
 have hok:b.Ok:=⟨by omega,by omega,by omega,by omega⟩
 have hab4v:=hab4
 have hg5:GRep w5 B L { g with am:=.map (some r) }:=hg4.on hb5
 have hopt':∀{W:World},Below B w W→∀k,k<21→W.cell? ⟨0,k,none⟩=some (.bool (comm k)):=fun hb k hk=>(World.cell?_of_block (a:=⟨0,k,none⟩) (hb.block 0 hB)).trans (hopt k hk)
 have hB1:Below B w w1:=hb1.mono (by omega)
 have hB2:Below B w w2:=hB1.trans (hO2.below (by omega) fun j hj=>by omega)
 have hB3:Below B w w3:=hB2.trans (hO3.below (by omega) fun j hj=>by omega)
 have hB4:Below B w w4:=hB3.trans (hO4.below (by omega) fun j hj=>by omega)
 have hB5:Below B w w5:=hB4.trans (hb5.mono (by omega))
 have habl4:=Bo hab4
 have hAl4:=Bo hAr4
 obtain ⟨hpl,hph⟩:0+2 * P.length≤g.nv∧Phi P≤2 * ((g.nv:Int) - (0:Nat)):=apart_len P 0 h0.apart (fun p hp=>⟨Nat.zero_le _,h0.long p hp⟩) (Nat.zero_le g.nv)
 have hs5:St w5 B L b { g with am:=.map (some r) } arr (fun _=>0) pv P:=by
  refine ⟨hg5,?_,?_,?_,?_,?_,?_,?_,hopt' hB5⟩
  ·rw[hbA];exact (hb5.block A hAl4).trans hAr4
  ·rw[hbV];exact hVE5
  ·rw[hbf];exact (hb5.block fbx (Bo hfb4)).trans hfb4
  ·rw[hbv',hbV];exact hvb5
  ·rw[hba,hbA]
   have:w5.heap[abx]? =_:=(hb5.block abx habl4).trans hab4
   rw[show (preK { g with am:=.map (some r) } g.nb).length=g.nv from by show (preK g g.nb).length=g.nv;rw[hperm.length_eq,List.length_range]] at this
   exact this
  ·rw[hbEb,hbA];exact AA hrow4 fun k e=>hb5.block k (hpvl k e).2
  rw[hbv',hbV]
  exact ⟨fun e=>by have:=hpvl _ e;omega,fun e=>by have:=hpvl _ e;omega⟩
 have hEb:GE b.E L { g with am:=.map (some r) }:=by rw[hbE];exact hE2
 rw[← hbf,← hbv',← hba,← hbV]
 refine cseB2 hs5 (fun _ _=>rfl) hEb hok hn hnb hbv hperm fun t w6 cls6 hs6 hz6 hc6 hO6=>?_
 have hzz6:=hO6.size
 have hel:(elems (fun i=>(preK g g.nb).getD i 0) g.nv).Perm (List.range g.nv):=by
  rw[elems_of (by rw[hperm.length_eq,List.length_range]) fun _ _=>rfl]
  exact hperm
 have hep:(elems arr g.nv).Perm (List.range g.nv):=h0.perm.trans hel
 refine cseB3 hs6 hz6 hEb hok hn hc6 hep h0 (by omega) fun t w7 cls7 mbx hs7 hz7 hNu7 hpi7 hm1 hm2 hO7=>?_
 have hzz7:=hO7.size
 have hj7:=pj_start (fw:=fw) rfl hpi7 h0 hfw
 have ga:GA { g with am:=.map (some r) }:=⟨hn,fun v hv=>⟨(hGA.ops v hv).1,hop v hv⟩,fun v hv hc=>?_,fun v hv x hx=>hGA.args_lt hv hx,fun v hv=>by have:=hal v hv;show (g.args v).length≤1000;omega⟩
 ·have hB67:Below B w w7:=(hB5.trans (hO6.below (by omega) fun j hj=>by omega)).trans (hO7.below (by omega) fun j hj=>by omega)
  have l1:=Bo hs7.vb
  have l2:=Bo hs7.ve
  refine cseMain hs7 hj7 ga hEb hB (by omega) hok ⟨by omega⟩ (by omega) (by omega) rfl fun t w8 gs arr8 cls8 pv8 P8 pn8 i8 hs8 hj8 hE8 hst8 hrc8 hi8 hPl8 hb8=>?_
  have hB8:Below B w w8:=hB67.trans hb8
  have hz8:=hb8.size
  obtain ⟨A8,hA8⟩:∃A8,A8=gs.args:=⟨_,rfl⟩
  have hge:=hj8.sw.eq
  rw[← hA8] at hge
  subst hge
  clear hA8
  have hne8:=hs8.ne
  have hlt8:∀i,i<g.nv→arr8 i<g.nv:=fun i hi=>B2 hj8.pi.perm hi
  have hfb8:=Bo hs8.fb
  have hab8:=Bo hs8.ab
  have hAA8:=Bo hs8.ar
  refine cseE hs8 hE8 hok hn ⟨hnb1,hnb⟩ hlt8 hj8.pi.long hPl8 hent (fun x hx=>⟨hF.slen hx,fun s hs=>(hF.succs x hx s hs).2⟩) hF.preds hF.rch fun t w9 cv us tb RB T9 en ex hRB hs9 hL9 hcv9 hO9=>?_
  have hz9:=hO9.size
  have hn9:=hs9.ne
  have hab9:=(hO9.block b.abx hab8 (by omega)).trans hs8.ab
  refine cseF (g:= { { { g with am:=.map (some r) } with args:=A8 } with cl:=cv }) (Rel:=fun y x=>cls8 (y+1)=cls8 (x+1)∧Dom g.succs (g.blk y) (g.blk x)∧(fw→g.blk y=g.blk x→y≤x)) hs9 hn hnb hF.blk hPl8 hlt8 hj8.pi.long hj8.pi.apart (fun p hp D' hso i j hij hj hd=>?_) fun t w10 rw hI10 hR10 hO10=>?_
  ·have hcl:=BG arr8 p.1 p.2
   have hDl:D'.length=p.2:=by rw[hso.perm.length_eq,hcl]
   have hin:∀i,i<p.2→cls8 (D'.getD i 0+1)=cls8 (arr8 p.1+1):=fun i hi=>by
    have h1:D'.getD i 0∈clsD arr8 p.1 p.2:=hso.perm.mem_iff.1 (Bh (by omega))
    obtain ⟨q,hq,e⟩:=List.mem_map.1 h1
    rw[← e]
    exact hj8.pi.cin p hp q (List.mem_range.1 hq)
   refine ⟨by rw[hin i (by omega),hin j hj],hd,fun hf hbe=>?_⟩
   obtain ⟨f1,f2⟩:=hj8.few hf p hp
   rcases hso.stb (by omega) (fun a c hac hc=>by
    rw[hcl] at hc
    rw[BV (by omega),BV hc]
    exact f2 a c hac hc) i j hij (by omega) with h1|h1
   ·exfalso
    have h1:Dy ((en (g.blk (D'.getD i 0)+1):Nat):Int) ((en (g.blk (D'.getD j 0)+1):Nat):Int)<0:=h1
    rw[hbe] at h1
    unfold Dy at h1
    rw[if_neg (by omega),if_neg (by omega)] at h1
    omega
   exact h1
  have hz10:=hO10.size
  have hk10:=hs9.keep hO10
  refine Bm _ [(1,.pointer (some ⟨b.fbx,0,none⟩)),(43,.slice (some ⟨RB,0,none⟩) (g.nv+1) (g.nv+1))] rfl ⟨rfl,rfl,trivial⟩ fun t=>?_
  refine cseG (g:= { { { g with am:=.map (some r) } with args:=A8 } with cl:=cv }) (E:=b.E) hk10.1 hs9.ge hn9.2.1 hn hnb hbv hperm (fun v hv=>⟨(ga.sw hj8.sw).small v hv,(ga.sw hj8.sw).lt v hv⟩) (fun k hk=>?_) hop hk10.2.2.2.2 hR10 fun t w11 hg11 hb11 hO11=>?_
  ·rcases hG.ctrl k hk with ⟨_,h1⟩|⟨c,h1,_,h2,_⟩
   ·show (g.ctrl k).length≤1000∧∀c∈g.ctrl k,c<g.nv
    rw[h1]
    exact ⟨Nat.zero_le _,fun c hc=>by cases hc⟩
   show (g.ctrl k).length≤1000∧∀c∈g.ctrl k,c<g.nv
   rw[h1]
   exact ⟨by simp,fun c' hc=>by rw[List.mem_singleton.1 hc];exact h2⟩
  have hz11:=hO11.size
  have hfb10:=hk10.2.2.2.2
  have hfb11:=(hO11.block b.fbx (Bo hfb10) (by omega)).trans hfb10
  have hab10:=(hO10.block b.abx (by omega) (fun e=>by rcases e with e|e <;> omega)).trans hab9
  have hab11:=(hO11.block b.abx (by omega) (by omega)).trans hab10
  have hL11:LLs w11 w.heap.size cv us (P8.map fun p=>CY (clsL arr8 p)):=hL9.on2 (by omega) fun k h1 h2 h3=>by
   have h4:=hcv9 k h1 h3
   exact (hO11.block k (by omega) (by omega)).trans (hO10.block k h2 fun e=>by rcases e with e|e <;> omega)
  have hB11:Below B w w11:=((hB8.trans (hO9.below (by omega) fun j hj=>by omega)).trans (hO10.below (by omega) fun j hj=>by rcases hj with e|e <;> omega)).trans hb11
  refine FL rfl (fun D hD=>?_) fun w' hb'=>⟨rfl,A8,arr8,cls8,P8,rw,r,cv,us,⟨⟨pn8,⟨hj8.pi.perm,hj8.pi.long,hj8.pi.apart,hj8.pi.cin,hj8.pi.cpos,hj8.pi.cne,hj8.pi.cout,hj8.pi.same⟩,hj8.pos,⟨rfl,hj8.sw.args⟩,fun hc R hR=>hj8.most hc R ⟨hR.key,hR.args⟩,hj8.few⟩,hst8,
   ⟨_,⟨arr,P,cls7,rfl,⟨h0.perm,h0.long,h0.apart,h0.same,h0.most,h0.asc,h0.top,h0.srt⟩,hNu7,hz7⟩,pn8,i8,hrc8,hi8⟩,fun x y hx e=>hI10 x y hx e⟩,hg11.on hb',hL11.on2 (Nat.le_refl _) fun k _ h2 _=>hb'.block k h2,hB11.trans (hb'.mono (by have:=hB11.size;omega))⟩
  have hD:D∈ [D49 RB (g.nv+1),D53 b.VE (g.nv+1),D48 b.fbx b.abx]:=hD
  simp only [List.mem_cons,List.not_mem_nil,or_false] at hD
  rcases hD with h|h|h <;> rw[h]
  ·exact (Hi _).at _
  ·exact (FN _).at _
  exact idle48 (hg11.comp .fn) hfb11 hab11
 have hc:comm (g.op v).toNat=true:=hc
 obtain ⟨k,hk⟩:∃k:Nat,g.op v=(k:Int):=⟨_,(Int.toNat_of_nonneg (hGA.ops v hv).1).symm⟩
 have h1:=(hGA.ops v hv).2.2
 rw[hk] at hc h1
 have h2:k=2∨k=4∨k=5∨k=6∨k=7∨k=11∨k=12:=by
  simp [comm] at hc
  omega
 show (g.args v).length=2
 have h3:manyI (k:Int) ((g.preds (g.blk v)).length:Nat)=2:=by rcases h2 with rfl|rfl|rfl|rfl|rfl|rfl|rfl <;> rfl
 omega
end Go.Proofs.YteepnepebilckaaGreatDoor
namespace Go.Proofs.YteepnepebilckaaGreatDoor
open Go Go.Eng
def Dx (f:Fn) (v:Vl):Prop:=(((v.op<0∨15<v.op)∨v.blk<0)∨(f.blks.length:Int)≤v.blk)∨(v.args.length:Int)≠manyI v.op ((predsOf f v.blk.toNat).length:Nat)
def Dp (v:Vl):Prop:=((v.op=0∧(v.aux<0∨3<v.aux))∨(1<v.op∧v.aux≠0))∨(v.op=13∧v.args.length=0)
def DA (f:Fn) (i k:Nat) (a:Int):Prop:=
 if (f.v i).op=13 then ¬ Rch f (f.v a.toNat).blk ((predsOf f (f.v i).blk.toNat).getD k 0)
 else ((f.v a.toNat).blk≠(f.v i).blk∧¬ Rch f (f.v a.toNat).blk (f.v i).blk.toNat)∨((f.v a.toNat).blk=(f.v i).blk∧a<i)
def Fm (f:Fn) (i k:Nat):Prop:=
 (0≤(f.v i).args.getD k 0∧(f.v i).args.getD k 0<f.vals.length)∧DA f i k ((f.v i).args.getD k 0)
def Ea (f:Fn) (i k:Nat):Prop:=(f.v i).op≠14→truthN f 48 ((f.v i).args.getD k 0).toNat=decide ((f.v i).op=15∧k=2)
def El (f:Fn) (b:Nat):Prop:=(f.b b).kind≠0→¬ Rch f (f.v (f.b b).ctrl.toNat).blk b∧truthN f 48 (f.b b).ctrl.toNat=decide ((f.b b).kind=1)
structure GoodP (f:Fn):Prop where
 shp:ShapeP f
 fst:∀i,i<f.vals.length→¬ Dx f (f.v i)
 snd:∀i,i<f.vals.length→¬ Dp (f.v i)∧∀k,k<(f.v i).args.length→Fm f i k
 tru:∀i,i<f.vals.length→∀k,k<(f.v i).args.length→Ea f i k
 ctl:∀b,b<f.blks.length→El f b
end Go.Proofs.YteepnepebilckaaGreatDoor
namespace Go.Proofs.YteepnepebilckaaGreatDoor
open Go Go.Eng
theorem flatMap_eq {α β:Type} {p q:α→List β}:∀{l:List α},(∀x∈l,p x=q x)→l.flatMap p=l.flatMap q
 | [],_=>rfl
 |a :: l,h=>by
  rw[List.flatMap_cons,List.flatMap_cons,h a (.head _),flatMap_eq fun x hx=>h x (.tail _ hx)]
theorem CW (l:List Int) (k:Nat):(l.map Int.toNat).getD k 0=(l.getD k 0).toNat:=by
 rw[List.getD_eq_getElem?_getD,List.getD_eq_getElem?_getD,List.getElem?_map]
 cases l[k]? <;> rfl
theorem Du {l:List Int} {k:Nat} (hk:k<l.length):l.getD k 0∈l:=by
 rw[List.getD_eq_getElem?_getD,List.getElem?_eq_getElem hk];simp
theorem getD_nats (l:List Nat) (k:Nat):(nats l).getD k 0=((l.getD k 0:Nat):Int):=by
 unfold nats
 rw[List.getD_eq_getElem?_getD,List.getD_eq_getElem?_getD,List.getElem?_map]
 cases l[k]? <;> rfl
theorem DK (l:List Nat):(nats l).map Int.toNat=l:=by
 unfold nats
 rw[List.map_map]
 conv=>rhs;rw[← List.map_id l]
 exact List.map_congr_left fun _ _=>rfl
section
variable {f : Fn}
theorem succs_nn (h0:∀b,b<f.blks.length→∀s∈(f.b b).succs,0≤s∧s<f.blks.length):∀b s,s∈(f.b b).succs→0≤s:=by
 intro b s hs
 by_cases hb:b<f.blks.length
 ·exact (h0 b hb s hs).1
 have:f.b b=default:=by
  unfold Fn.b
  rw[List.getD_eq_getElem?_getD,List.getElem?_eq_none (by omega)];rfl
 rw[this] at hs
 cases hs
theorem predsOf_eq (h0:∀b s,s∈(f.b b).succs→0≤s) (b:Nat):predsOf f b=predsL (toG f).succs f.blks.length b:=by
 unfold predsOf predsL
 refine flatMap_eq fun i _=>?_
 show _=(((f.b i).succs.map Int.toNat).filter fun s=>s == b).map fun _=>i
 rw[List.filter_map,List.map_map]
 have:(f.b i).succs.filter (fun s=>s == (b:Int))=(f.b i).succs.filter ((fun s=>s == b) ∘ Int.toNat):=by
  refine List.filter_congr fun s hs=>?_
  have:=h0 i s hs
  show (s == (b:Int))=(s.toNat == b)
  exact Bool.eq_iff_iff.2 (by rw[beq_iff_eq,beq_iff_eq];omega)
 rw[this]
 rfl
theorem rch_iff (h0:∀b s,s∈(f.b b).succs→0≤s) {wo i:Nat}:Rch f (wo:Int) i↔RchS (toG f).succs wo i:=by
 constructor
 ·intro h
  induction h with
  |entry h=>exact .entry fun e=>h (by omega)
  | @step b s _ hs hw ih=>
    have:=h0 b s hs
    exact .step ih (List.mem_map.2 ⟨s,hs,rfl⟩) fun e=>hw (by omega)
 intro h
 induction h with
 |entry h=>exact .entry fun e=>h (by omega)
 | @step b s _ hs hw ih=>
   obtain ⟨z,hz,rfl⟩:=List.mem_map.1 (show s∈(f.b b).succs.map Int.toNat from hs)
   have:=h0 b z hz
   exact .step ih hz fun e=>hw (by omega)
theorem rch_all (h0:∀b s,s∈(f.b b).succs→0≤s) (h1:1≤f.blks.length) (h2:∀b,b<f.blks.length→∀s∈(f.b b).succs,0≤s∧s<f.blks.length) {i:Nat}:
 Rch f (-1) i↔RchS (toG f).succs f.blks.length i:=by
 constructor
 ·intro h
  have key:i<f.blks.length∧RchS (toG f).succs f.blks.length i:=by
   induction h with
   |entry h=>exact ⟨h1,.entry (by omega)⟩
   | @step b s _ hs hw ih=>
     have:=h2 b ih.1 s hs
     exact ⟨by omega,.step ih.2 (List.mem_map.2 ⟨s,hs,rfl⟩) (by omega)⟩
  exact key.2
 intro h
 induction h with
 |entry h=>exact .entry (by decide)
 | @step b s _ hs hw ih=>
   obtain ⟨z,hz,rfl⟩:=List.mem_map.1 (show s∈(f.b b).succs.map Int.toNat from hs)
   have:=h0 b z hz
   exact .step ih hz fun e=>by omega
theorem rank_small {g:Gph} {r:Nat→Nat} (_hc:CInv g r):∃p:Nat→Nat,(∀v,v<g.nv→p v<g.nv)∧∀i j,i<g.nv→j<g.nv→r j<r i→p j<p i:=by
 refine ⟨fun v=>(List.range g.nv).countP fun u=>decide (r u<r v),fun v hv=>?_,fun i j hi hj hr=>?_⟩
 ·have h1:(List.range g.nv).countP (fun u=>decide (r u<r v))<(List.range g.nv).countP (fun _=>true):=
   countP_lt (fun _ _ _=>rfl) ⟨v,List.mem_range.2 hv,rfl,decide_eq_false (Nat.lt_irrefl _)⟩
  have h2:(List.range g.nv).countP (fun _=>true)≤(List.range g.nv).length:=List.countP_le_length
  rw[List.length_range] at h2
  exact Nat.lt_of_lt_of_le h1 h2
 exact countP_lt (fun x _ hx=>decide_eq_true (by have:=of_decide_eq_true hx;omega)) ⟨j,List.mem_range.2 hj,decide_eq_true hr,decide_eq_false (Nat.lt_irrefl _)⟩
theorem truthN_stay {g:Gph} (hop:∀v,v<g.nv→(f.v v).op=g.op v) (har:∀v,v<g.nv→((f.v v).args.getD 0 0).toNat=(g.args v).getD 0 0) {r:Nat→Nat} (hc:CInv g r) {p:Nat→Nat}
 (hp:∀i j,i<g.nv→j<g.nv→r j<r i→p j<p i):
 ∀n m v,v<g.nv→p v≤n→p v≤m→truthN f n v=truthN f m v:=by
 intro n
 induction n with
 |zero=>
  intro m v hv h1 h2
  by_cases ht:isT (f.v v).op
  ·rw[Cw ht,Cw ht]
  by_cases ho:(f.v v).op=14
  ·exfalso
   rw[hop v hv] at ho
   obtain ⟨j,hj,hr⟩:=hc.copy v hv ho
   have:=hp v j hv (hc.closed v hv j (by rw[hj];exact .head _)) hr
   omega
  rw[Ey ht,C2 ht ho]
 |succ n ih=>
  intro m v hv h1 h2
  by_cases ht:isT (f.v v).op
  ·rw[Cw ht,Cw ht]
  by_cases ho:(f.v v).op=14
  ·have ho':=ho
   rw[hop v hv] at ho'
   obtain ⟨j,hj,hr⟩:=hc.copy v hv ho'
   have hjn:=hc.closed v hv j (by rw[hj];exact .head _)
   have hlt:=hp v j hv hjn hr
   have hja:((f.v v).args.getD 0 0).toNat=j:=by rw[har v hv,hj];rfl
   obtain ⟨m',rfl⟩:∃m',m=m'+1:=⟨m - 1,by omega⟩
   rw[Dk ht ho,Dk ht ho,hja]
   exact ih m' j hjn (by omega) (by omega)
  rw[C2 ht ho,C2 ht ho]
theorem truthN_T {T:Nat→Bool} {g:Gph} (hop:∀v,v<g.nv→(f.v v).op=g.op v) (har:∀v,v<g.nv→((f.v v).args.getD 0 0).toNat=(g.args v).getD 0 0) {r:Nat→Nat} (hc:CInv g r) {p:Nat→Nat}
 (hp:∀i j,i<g.nv→j<g.nv→r j<r i→p j<p i) (hT:∀i,i<g.nv→T i=if isT (g.op i) then true else if g.op i=14 then T ((g.args i).getD 0 0) else false):
 ∀n v,v<g.nv→p v≤n→truthN f n v=T v:=by
 intro n
 induction n with
 |zero=>
  intro v hv h1
  rw[hT v hv,← hop v hv]
  by_cases ht:isT (f.v v).op
  ·rw[Cw ht,if_pos ht]
  by_cases ho:(f.v v).op=14
  ·exfalso
   rw[hop v hv] at ho
   obtain ⟨j,hj,hr⟩:=hc.copy v hv ho
   have:=hp v j hv (hc.closed v hv j (by rw[hj];exact .head _)) hr
   omega
  rw[Ey ht,if_neg ht,if_neg ho]
 |succ n ih=>
  intro v hv h1
  rw[hT v hv,← hop v hv]
  by_cases ht:isT (f.v v).op
  ·rw[Cw ht,if_pos ht]
  by_cases ho:(f.v v).op=14
  ·have ho':=ho
   rw[hop v hv] at ho'
   obtain ⟨j,hj,hr⟩:=hc.copy v hv ho'
   have hjn:=hc.closed v hv j (by rw[hj];exact .head _)
   have hlt:=hp v j hv hjn hr
   have hja:((f.v v).args.getD 0 0).toNat=j:=by rw[har v hv,hj];rfl
   rw[Dk ht ho,if_neg ht,if_pos ho,hja,hj]
   exact ih j hjn (by omega)
  rw[C2 ht ho,if_neg ht,if_neg ho]
theorem GoodP.succs (h:GoodP f):∀b,b<f.blks.length→∀s∈(f.b b).succs,0≤s∧s<f.blks.length:=fun b hb s hs=>by
 have:=(h.shp.blk b hb).succs s hs
 omega
theorem GoodP.nn (h:GoodP f):∀b s,s∈(f.b b).succs→0≤s:=succs_nn h.succs
theorem GoodP.kind (h:GoodP f) {b:Nat} (hb:b<f.blks.length):(0≤(f.b b).kind∧(f.b b).kind≤2∧((f.b b).succs.length:Int)=CG (f.b b).kind)∧(-1≤(f.b b).likely∧(f.b b).likely≤1∧((f.b b).kind≠1→(f.b b).likely=0)):=by
 have h1:=(h.shp.blk b hb).one
 unfold DE at h1
 refine ⟨⟨?_,?_,?_⟩,?_,?_,?_⟩
 ·refine Classical.byContradiction fun e=>h1 (.inl (.inl (.inl (.inl (.inl ?_)))));omega
 ·refine Classical.byContradiction fun e=>h1 (.inl (.inl (.inl (.inl (.inr ?_)))));omega
 ·refine Classical.byContradiction fun e=>h1 (.inl (.inl (.inl (.inr ?_))));exact e
 ·refine Classical.byContradiction fun e=>h1 (.inl (.inl (.inr ?_)));omega
 ·refine Classical.byContradiction fun e=>h1 (.inl (.inr ?_));omega
 intro hk
 refine Classical.byContradiction fun e=>h1 (.inr ⟨hk,e⟩)
theorem GoodP.ctl2 (h:GoodP f) {b:Nat} (hb:b<f.blks.length):((f.b b).kind=0→(f.b b).ctrl= -1)∧((f.b b).kind≠0→0≤(f.b b).ctrl∧(f.b b).ctrl<f.vals.length):=by
 have h1:=(h.shp.blk b hb).two
 unfold Dj at h1
 refine ⟨fun hk=>Classical.byContradiction fun e=>h1 (.inl ⟨hk,e⟩),fun hk=>⟨?_,?_⟩⟩
 ·refine Classical.byContradiction fun e=>h1 (.inr ⟨hk,.inl ?_⟩);omega
 refine Classical.byContradiction fun e=>h1 (.inr ⟨hk,.inr ?_⟩);omega
theorem GoodP.val (h:GoodP f) {i:Nat} (hi:i<f.vals.length):0≤(f.v i).op∧(f.v i).op≤15∧0≤(f.v i).blk∧(f.v i).blk<f.blks.length∧((f.v i).args.length:Int)=manyI (f.v i).op ((predsOf f (f.v i).blk.toNat).length:Nat):=by
 have h1:=h.fst i hi
 unfold Dx at h1
 refine ⟨?_,?_,?_,?_,?_⟩
 ·refine Classical.byContradiction fun e=>h1 (.inl (.inl (.inl (.inl ?_))));omega
 ·refine Classical.byContradiction fun e=>h1 (.inl (.inl (.inl (.inr ?_))));omega
 ·refine Classical.byContradiction fun e=>h1 (.inl (.inl (.inr ?_)));omega
 ·refine Classical.byContradiction fun e=>h1 (.inl (.inr ?_));omega
 exact Classical.byContradiction fun e=>h1 (.inr e)
theorem GoodP.args (h:GoodP f) {i:Nat} (hi:i<f.vals.length):∀a∈(f.v i).args,0≤a∧a<f.vals.length:=by
 intro a ha
 obtain ⟨k,hk,rfl⟩:=List.getElem_of_mem ha
 have:=((h.snd i hi).2 k hk).1
 rwa [List.getD_eq_getElem?_getD,List.getElem?_eq_getElem hk] at this
theorem GoodP.goodA (h:GoodP f):GoodA (toG f):=by
 have hnn:=h.nn
 have hpr:∀b,(toG f).preds b=predsL (toG f).succs f.blks.length b:=predsOf_eq hnn
 have hblk:∀i,i<f.vals.length→(((toG f).blk i:Nat):Int)=(f.v i).blk:=fun i hi=>by
  have:=h.val hi
  show (((f.v i).blk.toNat:Nat):Int)=_
  omega
 have hlen:∀i,((toG f).args i).length=(f.v i).args.length:=fun i=>List.length_map ..
 refine { toFrm:=⟨h.shp.one,h.shp.nb,h.shp.nv,fun i hi=>?_,fun b hb=>?_,fun b hb=>(h.kind hb).2,fun b hb s hs=>?_,fun b hb=>(rch_all hnn h.shp.one h.succs).1 (h.shp.rch b hb),fun b _=>hpr b,fun b hb=>?_⟩,ops:=fun i hi=>?_,aux:=fun i hi=>?_,args:=fun i hi k hk=>?_ }
 ·have:=h.val hi
  show (f.v i).blk.toNat<f.blks.length
  omega
 ·obtain ⟨h1,h2,h3⟩:=(h.kind hb).1
  refine ⟨h1,h2,?_⟩
  show (((f.b b).succs.map Int.toNat).length:Int)=_
  rw[List.length_map];exact h3
 ·obtain ⟨z,hz,rfl⟩:=List.mem_map.1 (show s∈(f.b b).succs.map Int.toNat from hs)
  have:=(h.shp.blk b hb).succs z hz
  show 1≤z.toNat∧z.toNat<f.blks.length
  omega
 ·show (List.range f.vals.length).filter _=_
  refine List.filter_congr fun i hi=>?_
  have h1:=hblk i (List.mem_range.1 hi)
  show ((f.v i).blk == (b:Int))=((toG f).blk i == b)
  exact Bool.eq_iff_iff.2 (by rw[beq_iff_eq,beq_iff_eq];omega)
 ·obtain ⟨h1,h2,_,_,h5⟩:=h.val hi
  refine ⟨h1,h2,?_⟩
  rw[hlen];exact h5
 ·have h1:=(h.snd i hi).1
  rw[hlen]
  unfold Dp at h1
  refine ⟨fun ho=>⟨?_,?_⟩,fun ho=>?_,fun ho=>?_⟩
  ·refine Classical.byContradiction fun e=>h1 (.inl (.inl ⟨ho,.inl ?_⟩))
   exact Int.not_le.1 e
  ·refine Classical.byContradiction fun e=>h1 (.inl (.inl ⟨ho,.inr ?_⟩))
   exact Int.not_le.1 e
  ·exact Classical.byContradiction fun e=>h1 (.inl (.inr ⟨ho,e⟩))
  refine Classical.byContradiction fun e=>h1 (.inr ⟨ho,?_⟩)
  omega
 rw[hlen] at hk
 obtain ⟨⟨h1,h2⟩,h3⟩:=(h.snd i hi).2 k hk
 have hg:((toG f).args i).getD k 0=((f.v i).args.getD k 0).toNat:=CW _ _
 rw[hg]
 obtain ⟨a,ha⟩:∃a:Nat,(f.v i).args.getD k 0=(a:Int):=⟨_,(Int.toNat_of_nonneg h1).symm⟩
 rw[ha] at h2 h3 ⊢
 have han:a<f.vals.length:=by omega
 refine ⟨han,?_⟩
 unfold DA at h3
 unfold B3
 show if (f.v i).op=13 then Dom _ ((toG f).blk a) _ else ((toG f).blk a≠_∧Dom _ ((toG f).blk a) _)∨((toG f).blk a=_∧a<i)
 rw[show ((a:Int)).toNat=a from rfl,← hblk a han] at h3
 have hbi:=hblk i hi
 split
 ·rename_i ho
  rw[if_pos ho] at h3
  exact fun hr=>h3 ((rch_iff hnn).2 hr)
 rename_i ho
 rw[if_neg ho,← hbi] at h3
 rcases h3 with ⟨h4,h5⟩|⟨h4,h5⟩
 ·exact .inl ⟨fun e=>h4 (by rw[e]),fun hr=>h5 ((rch_iff hnn).2 hr)⟩
 exact .inr ⟨by omega,by omega⟩
theorem GoodP.good (h:GoodP f):GoodG (truthN f 48) (toG f):=by
 have hA:=h.goodA
 have hnn:=h.nn
 have hlen:∀i,((toG f).args i).length=(f.v i).args.length:=fun i=>List.length_map ..
 have hg:∀i k,((toG f).args i).getD k 0=((f.v i).args.getD k 0).toNat:=fun i k=>CW _ _
 have hc:=hA.cinv
 obtain ⟨p,hp1,hp2⟩:=rank_small hc
 have hnv:(toG f).nv≤48:=hA.nv
 refine { toGoodA:=hA,tru:=fun i hi ho k hk=>?_,tr:=fun i hi=>?_,ctrl:=fun b hb=>?_ }
 ·rw[hg]
  exact h.tru i hi k (by rw[← hlen];exact hk) ho
 ·show _=if isT (f.v i).op then true else if (f.v i).op=14 then _ else false
  by_cases ht:isT (f.v i).op
  ·rw[Cw ht,if_pos ht]
  by_cases ho:(f.v i).op=14
  ·rw[if_neg ht,if_pos ho,Dk ht ho,hg]
   obtain ⟨j,hj,hr⟩:=hc.copy i hi ho
   have hjn:=hc.closed i hi j (by rw[hj];exact .head _)
   have hja:((f.v i).args.getD 0 0).toNat=j:=by rw[← hg,hj];rfl
   have h1:=hp2 i j hi hjn hr
   have h2:=hp1 i hi
   rw[hja]
   exact truthN_stay (f:=f) (g:=toG f) (fun _ _=>rfl) (fun v _=>(hg v 0).symm) hc hp2 47 48 j hjn (by omega) (by omega)
  rw[C2 ht ho,if_neg ht,if_neg ho]
 have h1:=h.ctl2 hb
 by_cases hk:(f.b b).kind=0
 ·left
  refine ⟨hk,?_⟩
  show (if 0≤(f.b b).ctrl then [(f.b b).ctrl.toNat] else [])=[]
  rw[h1.1 hk];rfl
 right
 obtain ⟨h2,h3⟩:=h1.2 hk
 obtain ⟨h4,h5⟩:=h.ctl b hb hk
 refine ⟨(f.b b).ctrl.toNat,?_,hk,?_,?_,h5⟩
 ·show (if 0≤(f.b b).ctrl then [(f.b b).ctrl.toNat] else [])=_
  rw[if_pos h2]
 ·show (f.b b).ctrl.toNat<f.vals.length
  omega
 intro hr
 refine h4 ?_
 have:=(h.val (i:=(f.b b).ctrl.toNat) (by omega)).2.2.1
 have hr2:=(rch_iff hnn).2 hr
 have e:(((toG f).blk (f.b b).ctrl.toNat:Nat):Int)=(f.v (f.b b).ctrl.toNat).blk:=by
  show (((f.v (f.b b).ctrl.toNat).blk.toNat:Nat):Int)=_
  omega
 rwa [e] at hr2
theorem GoodP.wf (h:GoodP f):Wf f:=by
 have hg:=h.good
 refine ⟨h.shp.nb,h.shp.nv,h.shp.one,fun i hi=>?_,fun i hi=>⟨?_,h.args hi⟩,fun b hb=>⟨?_,h.succs b hb⟩,fun b hb=>?_,fun b hb=>?_⟩
 ·have:=h.val hi
  omega
 ·have:=hg.alen (i:=i) hi
  have e:((toG f).args i).length=(f.v i).args.length:=List.length_map ..
  omega
 ·have:=hg.slen (b:=b) hb
  have e:((toG f).succs b).length=(f.b b).succs.length:=List.length_map ..
  omega
 ·have h1:=h.ctl2 hb
  by_cases hk:(f.b b).kind=0
  ·have:=h1.1 hk;omega
  have:=h1.2 hk;omega
 have:=(h.kind hb).2
 omega
theorem GoodG.goodP {T:Nat→Bool} {g:Gph} (h:GoodG T g):GoodP (toF g):=by
 have hnv:(toF g).vals.length=g.nv:=C8 g
 have hnb:(toF g).blks.length=g.nb:=Dn g
 have hop:∀v,v<g.nv→((toF g).v v).op=g.op v:=fun v hv=>by rw[CJ hv];rfl
 have har:∀v,v<g.nv→((toF g).v v).args=nats (g.args v):=fun v hv=>by rw[CJ hv];rfl
 have hbl:∀v,v<g.nv→((toF g).v v).blk=(g.blk v:Int):=fun v hv=>by rw[CJ hv];rfl
 have hlen:∀v,v<g.nv→((toF g).v v).args.length=(g.args v).length:=fun v hv=>by rw[har v hv];exact List.length_map ..
 have hsu:∀b,b<g.nb→((toF g).b b).succs=nats (g.succs b):=fun b hb=>by rw[C4 hb];rfl
 have hki:∀b,b<g.nb→((toF g).b b).kind=g.kind b:=fun b hb=>by rw[C4 hb];rfl
 have hct:∀b,b<g.nb→((toF g).b b).ctrl=ctl (g.ctrl b):=fun b hb=>by rw[C4 hb];rfl
 have hli:∀b,b<g.nb→((toF g).b b).likely=g.likely b:=fun b hb=>by rw[C4 hb];rfl
 have hsn:∀b,b<(toF g).blks.length→∀s∈((toF g).b b).succs,0≤s∧s<(toF g).blks.length:=fun b hb s hs=>by
  rw[hnb] at hb ⊢
  rw[hsu b hb] at hs
  obtain ⟨z,hz,rfl⟩:=List.mem_map.1 hs
  have:=h.succs b hb z hz
  omega
 have hnn:=succs_nn hsn
 have hS:∀b,b<g.nb→(toG (toF g)).succs b=g.succs b:=fun b hb=>by
  show ((toF g).b b).succs.map Int.toNat=_
  rw[hsu b hb,DK]
 have hS2:∀b,¬ b<g.nb→(toG (toF g)).succs b=[]:=fun b hb=>by
  show ((toF g).b b).succs.map Int.toNat=_
  have:(toF g).b b=default:=by
   unfold Fn.b
   rw[List.getD_eq_getElem?_getD,List.getElem?_eq_none (by omega)];rfl
  rw[this];rfl
 have hR:∀w i,RchS (toG (toF g)).succs w i→RchS g.succs w i:=fun w i hr=>by
  induction hr with
  |entry h=>exact .entry h
  | @step b s _ hs hw ih=>
    by_cases hb:b<g.nb
    ·rw[hS b hb] at hs;exact .step ih hs hw
    rw[hS2 b hb] at hs;cases hs
 have hR2:∀w i,RchS g.succs w i→i<g.nb∧RchS (toG (toF g)).succs w i:=fun w i hr=>by
  induction hr with
  |entry h2=>exact ⟨h.one,.entry h2⟩
  | @step b s _ hs hw ih=>exact ⟨(h.succs b ih.1 s hs).2,.step ih.2 (by rw[hS b ih.1];exact hs) hw⟩
 have hpr:∀b,b<g.nb→predsOf (toF g) b=g.preds b:=fun b hb=>by
  rw[predsOf_eq hnn,h.preds b hb,hnb]
  unfold predsL
  refine flatMap_eq fun i hi=>?_
  rw[hS i (List.mem_range.1 hi)]
 have hdom:∀w i,Dom g.succs w i→¬ Rch (toF g) (w:Int) i:=fun w i hd hr=>hd (hR _ _ ((rch_iff hnn).1 hr))
 have hT:∀v,v<g.nv→truthN (toF g) 48 v=T v:=by
  obtain ⟨p,hp1,hp2⟩:=rank_small h.cinv
  intro v hv
  refine truthN_T (f:=toF g) (g:=g) hop (fun v hv=>?_) h.cinv hp2 h.tr 48 v hv ?_
  ·rw[har v hv,getD_nats];rfl
  have:=hp1 v hv
  have:=h.nv
  omega
 refine ⟨⟨by rw[hnb];exact h.one,by rw[hnb];exact h.nb,by rw[hnv];exact h.nv,fun b hb=>⟨?_,?_,fun s hs=>?_⟩,fun b hb=>?_⟩,fun i hi=>?_,fun i hi=>⟨?_,fun k hk=>⟨?_,?_⟩⟩,fun i hi k hk ho=>?_,fun b hb hk=>?_⟩
 ·rw[hnb] at hb
  obtain ⟨h1,h2,h3⟩:=h.kind b hb
  obtain ⟨h4,h5,h6⟩:=h.likely b hb
  unfold DE
  rw[hki b hb,hsu b hb,hli b hb]
  rintro ((((( h|h)|h)|h)|h)|⟨h,h'⟩)
  ·omega
  ·omega
  ·refine h ?_
   have:(nats (g.succs b)).length=(g.succs b).length:=List.length_map ..
   rw[this];exact h3
  ·omega
  ·omega
  exact h' (h6 h)
 ·rw[hnb] at hb
  unfold Dj
  rw[hki b hb,hct b hb,hnv]
  rcases h.ctrl b hb with ⟨h1,h2⟩|⟨c,h1,h2,h3,_⟩
  ·rw[h2]
   rintro (⟨_,h4⟩|⟨h4,_⟩)
   ·exact h4 rfl
   exact h4 h1
  rw[h1]
  show ¬ ((_∧(c:Int)≠ -1)∨(_∧((c:Int)<0∨(g.nv:Int)≤(c:Int))))
  rintro (⟨h4,_⟩|⟨_,h4⟩)
  ·exact h2 h4
  omega
 ·rw[hnb] at hb
  rw[hsu b hb] at hs
  obtain ⟨z,hz,rfl⟩:=List.mem_map.1 hs
  have:=h.succs b hb z hz
  rw[hnb]
  omega
 ·rw[hnb] at hb
  refine (rch_all hnn (by rw[hnb];exact h.one) hsn).2 ?_
  rw[hnb]
  exact (hR2 _ _ (h.rch b hb)).2
 ·rw[hnv] at hi
  obtain ⟨h1,h2,h3⟩:=h.ops i hi
  have h4:=h.blk i hi
  unfold Dx
  rw[hop i hi,hbl i hi,hlen i hi,hnb,Int.toNat_natCast,hpr _ h4]
  rintro ((((h|h)|h)|h)|h)
  ·omega
  ·omega
  ·omega
  ·omega
  exact h h3
 ·rw[hnv] at hi
  obtain ⟨h1,h2,h3⟩:=h.aux i hi
  unfold Dp
  have hau:((toF g).v i).aux=g.aux i:=by rw[CJ hi];rfl
  rw[hop i hi,hau,hlen i hi]
  rintro ((⟨h4,h5⟩|⟨h4,h5⟩)|⟨h4,h5⟩)
  ·have:=h1 h4;omega
  ·exact h5 (h2 h4)
  have:=h3 h4;omega
 ·rw[hnv] at hi ⊢
  rw[hlen i hi] at hk
  rw[har i hi,getD_nats]
  have:=(h.args i hi k hk).1
  omega
 ·rw[hnv] at hi
  rw[hlen i hi] at hk
  obtain ⟨h1,h2⟩:=h.args i hi k hk
  rw[har i hi,getD_nats]
  unfold B3 at h2
  unfold DA
  rw[hop i hi,Int.toNat_natCast,hbl _ h1,hbl i hi,Int.toNat_natCast,hpr _ (h.blk i hi)]
  split
  ·rename_i ho
   rw[if_pos ho] at h2
   exact hdom _ _ h2
  rename_i ho
  rw[if_neg ho] at h2
  rcases h2 with ⟨h3,h4⟩|⟨h3,h4⟩
  ·exact .inl ⟨fun e=>h3 (by omega),hdom _ _ h4⟩
  exact .inr ⟨by rw[h3],by omega⟩
 ·rw[hnv] at hi
  rw[hlen i hi] at hk
  rw[hop i hi] at ho ⊢
  rw[har i hi,getD_nats,Int.toNat_natCast,hT _ (h.args i hi k hk).1]
  exact h.tru i hi ho k hk
 rw[hnb] at hb
 rw[hki b hb] at hk ⊢
 rw[hct b hb]
 rcases h.ctrl b hb with ⟨h1,_⟩|⟨c,h1,h2,h3,h4,h5⟩
 ·exact absurd h1 hk
 rw[h1]
 show ¬ Rch (toF g) ((toF g).v c).blk b∧truthN (toF g) 48 c=_
 rw[hbl c h3,hT c h3]
 exact ⟨hdom _ _ h4,h5⟩
theorem like_toF {T:Nat→Bool} {g:Gph} (h:GoodG T g):Like g (toG (toF g)):=by
 have hP:=h.goodP
 have hsu:∀b,b<g.nb→(toG (toF g)).succs b=g.succs b:=fun b hb=>by
  show ((toF g).b b).succs.map Int.toNat=_
  rw[C4 hb];exact DK _
 refine ⟨C8 g,Dn g,fun i hi=>⟨?_,?_,?_,?_⟩,fun b hb=>⟨?_,hsu b hb,?_,?_⟩⟩
 ·show ((toF g).v i).op=_;rw[CJ hi];rfl
 ·show ((toF g).v i).aux=_;rw[CJ hi];rfl
 ·show ((toF g).v i).blk.toNat=_;rw[CJ hi];rfl
 ·show ((toF g).v i).args.map Int.toNat=_;rw[CJ hi];exact DK _
 ·show ((toF g).b b).kind=_;rw[C4 hb];rfl
 ·show predsOf (toF g) b=_
  rw[predsOf_eq hP.nn,h.preds b hb,Dn]
  unfold predsL
  refine flatMap_eq fun i hi=>?_
  rw[hsu i (List.mem_range.1 hi)]
 show (if 0≤((toF g).b b).ctrl then [((toF g).b b).ctrl.toNat] else [])=_
 rw[C4 hb]
 show (if 0≤ctl (g.ctrl b) then [(ctl (g.ctrl b)).toNat] else [])=_
 rcases h.ctrl b hb with ⟨h1,h2⟩|⟨c,h1,h2,h3,h4,h5⟩
 ·rw[h2];rfl
 rw[h1]
 show (if 0≤(c:Int) then [(c:Int).toNat] else [])=_
 rw[if_pos (by omega),Int.toNat_natCast]
end
end Go.Proofs.YteepnepebilckaaGreatDoor
namespace Go.Proofs.YteepnepebilckaaGreatDoor
open Go Go.Eng Go.RowKit Go.Shelf
def Gph.wa (g:Gph) (A:Nat→List Nat):Gph:= { g with args:=A }
theorem SwO.mem {g0 g:Gph} (s:SwO g0 g) (v:Nat):(g.args v).length=(g0.args v).length∧∀x,x∈g.args v→x∈g0.args v:=by
 rcases s.args v with h1|⟨_,a,b,h1,h2⟩
 ·rw[h1];exact ⟨rfl,fun _ h=>h⟩
 rw[h1,h2]
 exact ⟨rfl,fun x hx=>by simp at hx ⊢;rcases hx with h|h;exact .inr h;exact .inl h⟩
section
variable {g : Gph} {fw : Prop} {A : Nat → List Nat} {arr : Nat → Nat} {cls : Nat → Int} {P : List (Nat × Nat)} {rw : Nat → Option Nat}
theorem CseR.sw (h:CseR g fw A arr cls P rw):SwO g (g.wa A):=by
 obtain ⟨_,h1⟩:=h.pj
 exact h1.sw
theorem CseR.lt (h:CseR g fw A arr cls P rw) {x:Nat} (hx:x<g.nv):fR rw x<g.nv:=by
 unfold fR
 cases e:rw (x+1) with
 |none=>exact hx
 |some y=>exact (h.rw x y hx e).1
theorem CseR.gok {T:Nat→Bool} (h:CseR g fw A arr cls P rw) (hG:GoodG T g) (m c:Value):GOk (((g.wa A).mv (fR rw)).ac m c):=by
 have h0:=hG.gok
 refine ⟨h0.nb,h0.nv,h0.blk,fun i hi=>?_,h0.succs,fun b hb x hx=>?_,h0.likely⟩
 ·obtain ⟨s1,s2⟩:=h.sw.mem i
  have h1:=h0.args i hi
  refine ⟨?_,fun a ha=>?_⟩
  ·show (((A i).map (fR rw)).length)≤_
   rw[List.length_map]
   exact Nat.le_trans (Nat.le_of_eq s1) h1.1
  obtain ⟨y,hy,rfl⟩:=List.mem_map.1 ha
  exact h.lt (h1.2 y (s2 y hy))
 obtain ⟨y,hy,rfl⟩:=List.mem_map.1 hx
 exact h.lt (h0.ctrl b hb y hy)
end
def Tabl (w:World):Prop:=∀k,k<21→w.cell? ⟨0,k,none⟩=some (.bool (comm k))
theorem Tabl.pos {w:World} (h:Tabl w):0<w.heap.size:=by
 have h1:=h 0 (by decide)
 refine Classical.byContradiction fun h2=>?_
 have h3:w.heap[0]? =none:=Array.getElem?_eq_none (by omega)
 simp [World.cell?,h3] at h1
theorem Tabl.keep {w w':World} (h:Tabl w) (k:Keep w w'):Tabl w':=fun j hj=>k _ _ (h j hj)
theorem toG_ty (f:Fn):∀x y,(toG f).op x=(toG f).op y→(toG f).ty x=(toG f).ty y:=fun x y e=>by
 show (if 10≤(f.v x).op∧(f.v x).op≤12 then (1:Int) else 0)=if 10≤(f.v y).op∧(f.v y).op≤12 then 1 else 0
 rw[show (f.v x).op=(f.v y).op from e]
set_option maxHeartbeats 4000000
attribute [local irreducible] EC EL DL Ret thenQ blockQ Bi bodyQ onlyN execOp Sem.run World.cell? World.frozen? World.setCell World.alloc
theorem ssaCse_ret {w:World} {x:Value} {f:Fn} {fw:Prop} (hx:FnV w x f) (hP:GoodP f) (ht:Tabl w) (hfw:fw→FewG (toG f)):
 Ret Tryz.prog 33 #[x] w fun v w'=>(∃A arr cls P rw,CseR (toG f) fw A arr cls P rw∧Own w.heap.size w' v (toF (((toG f).wa A).mv (fR rw))))∧Below w.heap.size w w':=by
 obtain ⟨xv,xb,rfl,hvals,hblks⟩:=hx
 refine ret_of_EC Tryz.func33 rfl rfl ?_
 obtain ⟨B,hBd⟩:∃B,B=w.heap.size:=⟨_,rfl⟩
 refine Ae (Ac (Ab (Br (v:=.agg #[xv,xb]) rfl) rfl (el_new (.cells #[xv,xb] 62) B (by omega) fun wa hN1 hO1 hZ1 hB1 hK1=>(Ab (A9 Cx) rfl (el_new (.cells #[nilS,nilS] 62) B (by omega) fun wb hN2 hO2 hZ2 hB2 hK2=>(Af (Aa ?_)))))))
 have hK:Keep w wb:=hK1.trans hK2
 have hx':FnV wb (.agg #[xv,xb]) f:=⟨xv,xb,rfl,hvals.keep hK,hblks.keep hK⟩
 have hbx:wb.heap[w.heap.size]? =some (.cells #[xv,xb] 62 (0,0)):=(hO2 _ (by omega)).trans hN1
 refine Ae (Ac (Ab (A0 (cs:=[xv,xb]) rfl (AU rfl) (AZ hbx)) rfl (Bc (AG Tryz.func40 rfl rfl rfl rfl) rfl (build_ret hx' hP.wf) ?_)))
 rintro v1 w1 ⟨B1,L,hB1',rfl,hent,hg1,hbl1⟩
 refine Ab Ah rfl (Af (Aa ?_))
 have htp:=ht.pos
 have ht1:Tabl w1:=(ht.keep hK).keep (Keep.of_below hbl1 (Nat.le_refl _))
 refine Ae (Ac (Ab Ad rfl (Bc (AG Tryz.func41 rfl rfl rfl rfl) rfl (cse_ret hg1 (by omega) hP.good rfl (toG_ty f) hent ht1 hfw) ?_)))
 rintro v2 w2 ⟨rfl,A,arr,cls,P,rw,r,cv,us,hR,hg2,_,hbl2⟩
 refine Af (Aa (Ae (Ac (Ab Ad rfl (Bc (AG Tryz.func43 rfl rfl rfl rfl) rfl (data_ret hg2 (hR.gok hP.good _ _)) ?_)))))
 rintro v3 w3 ⟨hv3,hbl3⟩
 obtain ⟨g',hg'⟩:∃g',g'=((toG f).wa A).mv (fR rw):=⟨_,rfl⟩
 have hv3:Own w2.heap.size w3 v3 (toF g'):=by rw[hg'];exact hv3
 have hb13:Below wb.heap.size wb w3:=(hbl1.trans (hbl2.mono (by omega))).trans (hbl3.mono (by have:=hbl1.size;have:=hbl2.size;omega))
 have hC3:w3.heap[wa.heap.size]? =some (.cells #[nilS,nilS] 62 (0,0)):=(hb13.block _ (by omega)).trans hN2
 obtain ⟨yv,yb,rfl,hvals3,hblks3⟩:=hv3.at
 obtain ⟨pa,pc,rfl,_⟩:=hvals3
 obtain ⟨qa,qc,rfl,_⟩:=hblks3
 refine Bb (B4 rfl rfl hC3 (A7 rfl) rfl rfl) rfl (Af (Aa ?_))
 have hgC:=setRow_heap w3 _ _ #[.slice pa (toF g').vals.length pc,.slice qa (toF g').blks.length qc] _ _ hC3
 have hsz2:wa.heap.size<w2.heap.size:=by have:=hbl1.size;have:=hbl2.size;omega
 have hOwn:Own w.heap.size (w3.setRow wa.heap.size #[.slice pa (toF g').vals.length pc,.slice qa (toF g').blks.length qc]) (.agg #[.slice pa (toF g').vals.length pc,.slice qa (toF g').blks.length qc]) (toF g'):=fun w'' hw hs=>
  hv3 w'' (fun k h1 h2=>(hw k (by omega) (by simpa [World.setRow] using h2)).trans (setRow_other _ _ _ _ (by omega))) (by simpa [World.setRow] using hs)
 have hbF:Below w.heap.size w (w3.setRow wa.heap.size #[.slice pa (toF g').vals.length pc,.slice qa (toF g').blks.length qc]):=
  below_setRow' ((show Below w.heap.size w wb from by rw[← hBd];exact hB1.trans hB2).trans (hb13.mono (by omega))) (by omega) _
 refine AC ?_
 exact BZ rfl rfl rfl rfl (Bv (cs:=[.slice pa (toF g').vals.length pc,.slice qa (toF g').blks.length qc]) (AU rfl) (AZ hgC)) ⟨⟨A,arr,cls,P,rw,hR,by rw[← hg'];exact hOwn⟩,hbF⟩
theorem implCse_ret {w:World} {x:Value} {f:Fn} {fw:Prop} (hx:FnV w x f) (hP:GoodP f) (ht:Tabl w) (hfw:fw→FewG (toG f)):
 Ret Tryz.prog 18 #[x] w fun v w'=>(∃A arr cls P rw,CseR (toG f) fw A arr cls P rw∧FnV w' v (toF (((toG f).wa A).mv (fR rw))))∧Below w.heap.size w w':=by
 obtain ⟨xv,xb,rfl,hvals,hblks⟩:=hx
 refine ret_of_EC Tryz.func18 rfl rfl ?_
 obtain ⟨B,hBd⟩:∃B,B=w.heap.size:=⟨_,rfl⟩
 refine Ae (Ac (Ab (Br (v:=.agg #[xv,xb]) rfl) rfl (el_new (.cells #[xv,xb] 25) B (by omega) fun wa hN1 hO1 hZ1 hB1 hK1=>(Ab (A9 C5) rfl (el_new (.cells #[nilS,nilS] 25) B (by omega) fun wb hN2 hO2 hZ2 hB2 hK2=>(Af (Aa ?_)))))))
 have hK:Keep w wb:=hK1.trans hK2
 have hx':FnV wb (.agg #[xv,xb]) f:=⟨xv,xb,rfl,hvals.keep hK,hblks.keep hK⟩
 have hbx:wb.heap[w.heap.size]? =some (.cells #[xv,xb] 25 (0,0)):=(hO2 _ (by omega)).trans hN1
 refine Ae (Ac (Ab (A0 (cs:=[xv,xb]) rfl (AU rfl) (AZ hbx)) rfl (Bc (AG Tryz.func29 rfl rfl rfl rfl) rfl (impl_conv_ret hx' hP.wf) ?_)))
 rintro v1 w1 ⟨hv1,hbl1⟩
 refine Bc (AG Tryz.func33 rfl rfl rfl rfl) rfl (ssaCse_ret hv1.at hP ((ht.keep hK).keep (Keep.of_below hbl1 (Nat.le_refl _))) hfw) ?_
 rintro v2 w2 ⟨⟨A,arr,cls,P,rw,hR,hv2⟩,hbl2⟩
 obtain ⟨g',hg'⟩:∃g',g'=((toG f).wa A).mv (fR rw):=⟨_,rfl⟩
 rw[← hg'] at hv2
 have hok:GOk g':=by rw[hg'];exact hR.gok hP.good (toG f).am (toG f).cl
 have wf':Wf (toF g'):=wf_toF hok (by rw[hg'];exact hP.wf.one)
 refine Bc (AG Tryz.func32 rfl rfl rfl rfl) rfl (Db hv2.at wf') ?_
 rintro v3 w3 ⟨hv3,hbl3⟩
 have hb13:Below wb.heap.size wb w3:=(hbl1.trans (hbl2.mono (by have:=hbl1.size;omega))).trans (hbl3.mono (by have:=hbl1.size;have:=hbl2.size;omega))
 have hC3:w3.heap[wa.heap.size]? =some (.cells #[nilS,nilS] 25 (0,0)):=(hb13.block _ (by omega)).trans hN2
 obtain ⟨yv,yb,rfl,hvals3,hblks3⟩:=hv3.at
 obtain ⟨pa,pc,rfl,_⟩:=hvals3
 obtain ⟨qa,qc,rfl,_⟩:=hblks3
 refine Bb (B4 rfl rfl hC3 (A7 rfl) rfl rfl) rfl (Af (Aa ?_))
 have hgC:=setRow_heap w3 _ _ #[.slice pa (toF g').vals.length pc,.slice qa (toF g').blks.length qc] _ _ hC3
 have hsz2:wa.heap.size<w2.heap.size:=by have:=hbl1.size;have:=hbl2.size;omega
 have hOwn:Own w.heap.size (w3.setRow wa.heap.size #[.slice pa (toF g').vals.length pc,.slice qa (toF g').blks.length qc]) (.agg #[.slice pa (toF g').vals.length pc,.slice qa (toF g').blks.length qc]) (toF g'):=fun w'' hw hs=>
  hv3 w'' (fun k h1 h2=>(hw k (by omega) (by simpa [World.setRow] using h2)).trans (setRow_other _ _ _ _ (by omega))) (by simpa [World.setRow] using hs)
 have hbF:Below w.heap.size w (w3.setRow wa.heap.size #[.slice pa (toF g').vals.length pc,.slice qa (toF g').blks.length qc]):=
  below_setRow' ((show Below w.heap.size w wb from by rw[← hBd];exact hB1.trans hB2).trans (hb13.mono (by omega))) (by omega) _
 refine AC ?_
 exact BZ rfl rfl rfl rfl (Bv (cs:=[.slice pa (toF g').vals.length pc,.slice qa (toF g').blks.length qc]) (AU rfl) (AZ hgC)) ⟨⟨A,arr,cls,P,rw,hR,by rw[← hg'];exact hOwn.at⟩,hbF⟩
end Go.Proofs.YteepnepebilckaaGreatDoor
