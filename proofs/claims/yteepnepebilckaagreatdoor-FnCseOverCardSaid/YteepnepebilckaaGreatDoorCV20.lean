/- The law FnCseOver returns true for every input in which the opcode table reads as laid, and its argument reads as it did, the table being tied to the text of the program. -/
import Derived.Test.YteepnepebilckaaGreatDoorCV19
namespace Go.Proofs.YteepnepebilckaaGreatDoor
open Go Go.Eng Go.RowKit Go.Shelf
theorem DF:Bu Tryz.prog 78 #[.slice none 0 0]:=by unfold Bu;kernel_rfl
theorem Ed:Bu Tryz.prog 110 #[.slice none 0 0]:=by unfold Bu;kernel_rfl
def D48 (fbx abx:Nat):Deferred:=⟨.fn (.func 48) #[.pointer (some ⟨fbx,0,none⟩),.pointer (some ⟨abx,0,none⟩)],#[]⟩
def planA:PT:=.rd 0 (.rd 1 (.rd 2 (.rd 3 (.rd 4 (.fork 5 (.fork 6 (.wr false 7 (.wr false 8 .nil)) 7 (.wr false 6 (.wr false 8 .nil))) 7 (.wr false 5 (.wr false 6 (.wr false 8 .nil))))))))
theorem Ff {w:World} (v:Value):Ret Tryz.prog 49 #[.agg #[],v] w fun _ w'=>Below w.heap.size w w':=by
 refine ret_of_EC (l:=[.agg #[],v]) Tryz.func49 rfl rfl (Ac (Ab (Bv (v:=.agg #[]) rfl) rfl (Af ?_)))
 exact BF rfl rfl ((Below.refl _ w).alloc (Nat.le_refl _) _)
set_option maxHeartbeats 4000000
attribute [local irreducible] EC EL DL Ret thenQ blockQ Bi bodyQ onlyN execOp Sem.run World.cell? World.frozen? World.setCell World.alloc
theorem idle48 {w:World} {fbx abx n m b0:Nat} {p:Option Addr} {cs:Array Value} (hfn:w.heap[b0]? =some (.cells cs 82 (0,0))) (hf:w.heap[fbx]? =some (.cells #[.pointer (some ⟨b0,0,none⟩)] 71 (0,0)))
 (ha:w.heap[abx]? =some (.cells #[.slice p n m] 78 (0,0))):Ek Tryz.prog w (D48 fbx abx):=by
 refine ⟨_,_,48,#[.pointer (some ⟨fbx,0,none⟩),.pointer (some ⟨abx,0,none⟩)],rfl,fun w=>?_,fun u w1 hb=>callsD_of_EC (l:=[.pointer (some ⟨fbx,0,none⟩),.pointer (some ⟨abx,0,none⟩)]) Tryz.func48 rfl rfl ?_⟩
 ·have hn':¬ Tryz.f48.name= "runtime.NumGoroutine" :=by decide
  have hb':¬ Tryz.f48.body=none:=by simp [Tryz.f48]
  simp [D48,invoke,callFunc,Tryz.func48,hb',hn']
 have hfn1:=(hb.block _ (Array.getElem?_eq_some_iff.1 hfn).1).trans hfn
 have hf1:=(hb.block _ (Array.getElem?_eq_some_iff.1 hf).1).trans hf
 have ha1:=(hb.block _ (Array.getElem?_eq_some_iff.1 ha).1).trans ha
 have hfc:w1.drew.cell? ⟨fbx,0,none⟩=some (.pointer (some ⟨b0,0,none⟩)):=Keep.drew w1 _ _ (Am hf1 rfl)
 have hac:w1.drew.cell? ⟨abx,0,none⟩=some (.slice p n m):=Keep.drew w1 _ _ (Am ha1 rfl)
 have hbd:Below w1.heap.size w1 w1.drew:=⟨rfl,rfl,rfl,Nat.le_refl _,fun _ _=>rfl⟩
 have hfn2:w1.drew.heap[b0]? =some (.cells cs 82 (0,0)):=hfn1
 refine AY mixed (fun w'=>w'=w1.drew) [(0,false),(1,false),(2,false),(3,false),(4,false),(5,true)] (by kernel_rfl) rfl ?_
 generalize w1.drew=W at *
 refine Aj rfl (fun _ hS=>Ai rfl (Ag rfl) (by cases hS;with_reducible assumption)) ?_
 refine Aj rfl (fun _ _=>Au rfl) (Aj rfl (fun _ hS=>by cases hS;exact B3 rfl hfn2) ?_)
 refine Aj rfl (fun _ hS=>B4 rfl) (Aj rfl (fun _ hS=>Ai rfl (Ag rfl) (by cases hS;with_reducible assumption)) ?_)
 refine BO rfl (AG Tryz.func49 rfl rfl rfl rfl) (Ff _) ?_
 intro v w2 hb2
 refine ⟨.inl rfl,?_⟩
 refine AP ?_
 exact BF rfl rfl (hbd.trans (hb2.mono hbd.size))
theorem cseA0 {w:World} {B:Nat} {L:Lay} {g:Gph} {Q:Exit→Env→World→Prop} (hg:GRep w B L g) (hn:g.nv≤48)
 (h:∀t w' fbx abx A,w.heap.size≤fbx→w.heap.size≤abx→w.heap.size≤A→fbx≠abx→fbx≠A→abx≠A→Below w.heap.size w w'→w'.heap[fbx]? =some (.cells #[L.fp] 71 (0,0))→
   w'.heap[abx]? =some (.cells #[.slice (some ⟨A,0,none⟩) (g.nv+1) (g.nv+1)] 78 (0,0))→w'.heap[A]? =some (.cells (cellsOf (fun _=>.pointer none) (g.nv+1)) 97 (0,0))→
   EC Tryz.prog Tryz.f41.ntmps (dropC 2 BZ) Q (Env.sets ⟨t,[]⟩ [(1,.pointer (some ⟨fbx,0,none⟩)),(2,.pointer (some ⟨abx,0,none⟩))]) w'):
 EC Tryz.prog Tryz.f41.ntmps (dropC 0 BZ) Q ⟨env0 [L.fp] 0,[]⟩ w:=by
 refine Ae (Ac (Ab (Bv (v:=L.fp) rfl) rfl ?_))
 obtain ⟨fbx,hfbx⟩:∃fbx,fbx=w.heap.size:=⟨_,rfl⟩
 refine el_new0 (.cells #[L.fp] 71) fun wa hN1 hO1 hZ1 hB1 hK1=>?_
 rw[← hfbx] at hN1 h ⊢
 refine Af (Aa ?_)
 have hga:=hg.on hB1
 have hfba:=Br hg
 refine AW (fun e w'=>∃abx A,fbx≤abx∧fbx≤A∧fbx≠abx∧fbx≠A∧abx≠A∧Below wa.heap.size wa w'∧
  w'.heap[abx]? =some (.cells #[.slice (some ⟨A,0,none⟩) (g.nv+1) (g.nv+1)] 78 (0,0))∧w'.heap[A]? =some (.cells (cellsOf (fun _=>.pointer none) (g.nv+1)) 97 (0,0))∧
  At e [(1,.pointer (some ⟨fbx,0,none⟩)),(2,.pointer (some ⟨abx,0,none⟩))]) ?_ ?_
 ·refine D7 mixed (fun w'=>Below wa.heap.size wa w') planA (by kernel_rfl) ⟨rfl,rfl,rfl,Nat.le_refl _,fun _ _=>rfl⟩ ?_
  have hfc:∀W,Below wa.heap.size wa W→W.cell? ⟨fbx,0,none⟩=some L.fp:=fun W hb=>Am ((hb.block fbx (by omega)).trans hN1) rfl
  have hgW:∀W,Below wa.heap.size wa W→GRep W B L g:=fun W hb=>hga.on hb
  have hbd:Below wa.heap.size wa wa.drew:=⟨rfl,rfl,rfl,Nat.le_refl _,fun _ _=>rfl⟩
  generalize wa.drew=W0 at hbd ⊢
  refine BI rfl (fun _ hS=>Ai rfl (Ag rfl) (hfc _ hS)) (BI rfl (fun _ _=>Au rfl) (BI rfl (fun _ hS=>B3 rfl ((hgW _ hS).comp .fn)) (BI rfl (fun _ _=>B4 rfl) (BI rfl (fun _ hS=>Ai rfl (Ag rfl) (hfc _ hS)) ?_))))
  refine DR ?_ ?_
  ·refine CO rfl (AG Tryz.func47 rfl rfl rfl rfl) (NumValues_ret (hgW _ hbd) hn) ?_
   rintro _ wx ⟨rfl,ew⟩
   rw[ew]
   clear ew wx
   refine ⟨.inr hbd,?_⟩
   refine DR ?_ ?_
   ·refine CO rfl (AG Tryz.func46 rfl rfl rfl rfl) (CE (n:=g.nv+1) (by omega)) ?_
    rintro _ W1 ⟨A,rfl,hAg,hAc,hAb⟩
    have hszd:=hbd.size
    have hbA:=hbd.trans (hAb.mono hszd)
    refine ⟨.inr hbA,?_⟩
    refine Dt rfl (A9 DF) ?_
    obtain ⟨abx,habx⟩:∃abx,abx=W1.heap.size:=⟨_,rfl⟩
    have hszb:=hbA.size
    have hbB:=hbA.trans ((Below.refl W1.heap.size W1).alloc (Nat.le_refl _) (.cells #[.slice none 0 0] 78) |>.mono hszb)
    have hNb:=heap_alloc_new W1 (.cells #[.slice none 0 0] 78)
    have hOb:∀zz,zz<W1.heap.size→(W1.alloc (.cells #[.slice none 0 0] 78)).heap[zz]? =W1.heap[zz]? :=fun _ hi=>Below.heap_alloc _ _ _ hi
    have hZb:=BC W1 (.cells #[.slice none 0 0] 78)
    rw[← habx] at hNb ⊢
    refine ⟨.inr hbB,?_⟩
    generalize W1.alloc (.cells #[.slice none 0 0] 78)=W2 at hbB hNb hOb hZb ⊢
    have hA2:W2.heap[A]? =some (.cells (cellsOf (fun _=>.pointer none) (g.nv+1)) 97 (0,0)):=(hOb A (Array.getElem?_eq_some_iff.1 hAc).1).trans hAc
    have hAl:=(Array.getElem?_eq_some_iff.1 hAc).1
    refine Db rfl (AU (v:=.slice (some ⟨A,0,none⟩) (g.nv+1) (g.nv+1)) rfl rfl rfl (AH rfl) (old:=.slice none 0 0) (Am hNb rfl) (AQ hNb)) ?_
    have hSa:=AC (o:=0) (u:=.slice (some ⟨A,0,none⟩) (g.nv+1) (g.nv+1)) hNb
    have hSA:abx≠A→(W2.setCell ⟨abx,0,none⟩ (.slice (some ⟨A,0,none⟩) (g.nv+1) (g.nv+1))).heap[A]? =some (.cells (cellsOf (fun _=>.pointer none) (g.nv+1)) 97 (0,0)):=fun hh=>(Below.heap_setCell _ _ _ _ (fun e=>hh e.symm)).trans hA2
    have hbS:=hbB.setCell (p:=⟨abx,0,none⟩) (show wa.heap.size≤abx by omega) (.slice (some ⟨A,0,none⟩) (g.nv+1) (g.nv+1))
    refine ⟨.inr hbS,?_⟩
    refine CZ ?_
    exact AR ⟨abx,A,by omega,by omega,by omega,by omega,by omega,hbS,hSa,hSA (by omega),Ar rfl ⟨rfl,rfl,trivial⟩⟩
   refine Dt rfl (A9 DF) ?_
   obtain ⟨abx,habx⟩:∃abx,abx=W0.heap.size:=⟨_,rfl⟩
   have hszb:=hbd.size
   have hbB:=hbd.trans ((Below.refl W0.heap.size W0).alloc (Nat.le_refl _) (.cells #[.slice none 0 0] 78) |>.mono hszb)
   have hNb:=heap_alloc_new W0 (.cells #[.slice none 0 0] 78)
   have hOb:∀zz,zz<W0.heap.size→(W0.alloc (.cells #[.slice none 0 0] 78)).heap[zz]? =W0.heap[zz]? :=fun _ hi=>Below.heap_alloc _ _ _ hi
   have hZb:=BC W0 (.cells #[.slice none 0 0] 78)
   rw[← habx] at hNb ⊢
   refine ⟨.inr hbB,?_⟩
   generalize W0.alloc (.cells #[.slice none 0 0] 78)=W1 at hbB hNb hOb hZb ⊢
   have hbl:=(Array.getElem?_eq_some_iff.1 hNb).1
   refine CO rfl (AG Tryz.func46 rfl rfl rfl rfl) (CE (n:=g.nv+1) (by omega)) ?_
   rintro _ W2 ⟨A,rfl,hAg,hAc,hAb⟩
   have hszd:=hbB.size
   have hbA:=hbB.trans (hAb.mono hszd)
   refine ⟨.inr hbA,?_⟩
   have hA2:=hAc
   replace hNb:=(hAb.block abx hbl).trans hNb
   replace hbB:=hbA
   refine Db rfl (AU (v:=.slice (some ⟨A,0,none⟩) (g.nv+1) (g.nv+1)) rfl rfl rfl (AH rfl) (old:=.slice none 0 0) (Am hNb rfl) (AQ hNb)) ?_
   have hSa:=AC (o:=0) (u:=.slice (some ⟨A,0,none⟩) (g.nv+1) (g.nv+1)) hNb
   have hSA:abx≠A→(W2.setCell ⟨abx,0,none⟩ (.slice (some ⟨A,0,none⟩) (g.nv+1) (g.nv+1))).heap[A]? =some (.cells (cellsOf (fun _=>.pointer none) (g.nv+1)) 97 (0,0)):=fun hh=>(Below.heap_setCell _ _ _ _ (fun e=>hh e.symm)).trans hA2
   have hbS:=hbB.setCell (p:=⟨abx,0,none⟩) (show wa.heap.size≤abx by omega) (.slice (some ⟨A,0,none⟩) (g.nv+1) (g.nv+1))
   refine ⟨.inr hbS,?_⟩
   refine CZ ?_
   exact AR ⟨abx,A,by omega,by omega,by omega,by omega,by omega,hbS,hSa,hSA (by omega),Ar rfl ⟨rfl,rfl,trivial⟩⟩
  refine Dt rfl (A9 DF) ?_
  obtain ⟨abx,habx⟩:∃abx,abx=W0.heap.size:=⟨_,rfl⟩
  have hszb:=hbd.size
  have hbB:=hbd.trans ((Below.refl W0.heap.size W0).alloc (Nat.le_refl _) (.cells #[.slice none 0 0] 78) |>.mono hszb)
  have hNb:=heap_alloc_new W0 (.cells #[.slice none 0 0] 78)
  have hOb:∀zz,zz<W0.heap.size→(W0.alloc (.cells #[.slice none 0 0] 78)).heap[zz]? =W0.heap[zz]? :=fun _ hi=>Below.heap_alloc _ _ _ hi
  have hZb:=BC W0 (.cells #[.slice none 0 0] 78)
  rw[← habx] at hNb ⊢
  refine ⟨.inr hbB,?_⟩
  generalize W0.alloc (.cells #[.slice none 0 0] 78)=W1 at hbB hNb hOb hZb ⊢
  have hbl:=(Array.getElem?_eq_some_iff.1 hNb).1
  have hbd0:=hbd
  replace hbd:=hbB
  refine CO rfl (AG Tryz.func47 rfl rfl rfl rfl) (NumValues_ret (hgW _ hbd) hn) ?_
  rintro _ wx ⟨rfl,ew⟩
  rw[ew]
  clear ew wx
  refine ⟨.inr hbd,?_⟩
  refine CO rfl (AG Tryz.func46 rfl rfl rfl rfl) (CE (n:=g.nv+1) (by omega)) ?_
  rintro _ W2 ⟨A,rfl,hAg,hAc,hAb⟩
  have hszd:=hbB.size
  have hbA:=hbB.trans (hAb.mono hszd)
  refine ⟨.inr hbA,?_⟩
  have hA2:=hAc
  replace hNb:=(hAb.block abx hbl).trans hNb
  replace hbB:=hbA
  refine Db rfl (AU (v:=.slice (some ⟨A,0,none⟩) (g.nv+1) (g.nv+1)) rfl rfl rfl (AH rfl) (old:=.slice none 0 0) (Am hNb rfl) (AQ hNb)) ?_
  have hSa:=AC (o:=0) (u:=.slice (some ⟨A,0,none⟩) (g.nv+1) (g.nv+1)) hNb
  have hSA:abx≠A→(W2.setCell ⟨abx,0,none⟩ (.slice (some ⟨A,0,none⟩) (g.nv+1) (g.nv+1))).heap[A]? =some (.cells (cellsOf (fun _=>.pointer none) (g.nv+1)) 97 (0,0)):=fun hh=>(Below.heap_setCell _ _ _ _ (fun e=>hh e.symm)).trans hA2
  have hbS:=hbB.setCell (p:=⟨abx,0,none⟩) (show wa.heap.size≤abx by omega) (.slice (some ⟨A,0,none⟩) (g.nv+1) (g.nv+1))
  refine ⟨.inr hbS,?_⟩
  refine CZ ?_
  exact AR ⟨abx,A,by omega,by omega,by omega,by omega,by omega,hbS,hSa,hSA (by omega),Ar rfl ⟨rfl,rfl,trivial⟩⟩
 rintro e w' ⟨abx,A,h1,h2,h3,h4,h5,hb,h6,h7,⟨t,rfl⟩⟩
 exact h t w' fbx abx A (Nat.le_refl _) h1 h2 h3 h4 h5 (by rw[hfbx];exact hB1.trans (hb.mono (by omega))) ((hb.block fbx (by omega)).trans hN1) h6 h7
theorem cseA1 {w0 w:World} {B fbx abx A E:Nat} {L:Lay} {g:Gph} {Q:Exit→Env→World→Prop} {t:Nat→Value} (hg:GRep w B L g) (ham:g.am= .map none) (hE:GE E L g) (hn:g.nv≤48) (hfE:E≤fbx) (haE:E≤abx) (hAE:E≤A) (hne:fbx≠abx∧fbx≠A∧abx≠A)
 (hfb:w.heap[fbx]? =some (.cells #[L.fp] 71 (0,0))) (hab:w.heap[abx]? =some (.cells #[.slice (some ⟨A,0,none⟩) (g.nv+1) (g.nv+1)] 78 (0,0)))
 (hA:w.heap[A]? =some (.cells (cellsOf (fun _=>.pointer none) (g.nv+1)) 97 (0,0)))
 (h:∀t w' r,E≤r→r≠fbx→r≠abx→r≠A→GRep w' B L { g with am:=.map (some r) }→w'.heap[r]? =some (.map #[] 0)→w'.heap[fbx]? =some (.cells #[L.fp] 71 (0,0))→
   w'.heap[abx]? =some (.cells #[.slice (some ⟨A,0,none⟩) 0 (g.nv+1)] 78 (0,0))→w'.heap[A]? =some (.cells (cellsOf (fun _=>.pointer none) (g.nv+1)) 97 (0,0))→Only (fun j=>j=abx∨j=L.fb) w w'→
   EC Tryz.prog Tryz.f41.ntmps (dropC 5 BZ) Q (Env.sets ⟨t,[D48 fbx abx]⟩ [(1,.pointer (some ⟨fbx,0,none⟩)),(2,.pointer (some ⟨abx,0,none⟩))]) w'):
 EC Tryz.prog Tryz.f41.ntmps (dropC 2 BZ) Q (Env.sets ⟨t,[]⟩ [(1,.pointer (some ⟨fbx,0,none⟩)),(2,.pointer (some ⟨abx,0,none⟩))]) w:=by
 have hfl:=hE.fb
 have hAl:=(Array.getElem?_eq_some_iff.1 hA).1
 have hfbl:=(Array.getElem?_eq_some_iff.1 hfb).1
 have hal:=(Array.getElem?_eq_some_iff.1 hab).1
 refine Ae (Ac (Ab (En rfl rfl) rfl (EL_d (Gx rfl) rfl (Af (Aa (Bj [D48 fbx abx] [(1,.pointer (some ⟨fbx,0,none⟩)),(2,.pointer (some ⟨abx,0,none⟩))] rfl ⟨rfl,rfl,trivial⟩ fun t=>(Ae (Ac ?_))))))))
 have h1:w.cell? ⟨abx,0,none⟩=some (.slice (some ⟨A,0,none⟩) (g.nv+1) (g.nv+1)):=Am hab rfl
 refine Ab (Ai rfl (Ag rfl) ‹_›) rfl ?_
 refine Ab (x_sliceK (k:=0) Tryz.underlying78 CH rfl rfl (by omega)) rfl (Bc (AU (v:=.slice (some ⟨A,0,none⟩) 0 (g.nv+1)) rfl rfl rfl (AH rfl) h1 (AQ hab)) rfl (Af (Aa ?_)))
 change EC _ _ _ _ _ (w.setCell ⟨abx,0,none⟩ (.slice (some ⟨A,0,none⟩) 0 (g.nv+1)))
 have hab1:=AC (o:=0) (u:=.slice (some ⟨A,0,none⟩) 0 (g.nv+1)) hab
 have hO1:Only (fun j=>j=abx∨j=L.fb) w (w.setCell ⟨abx,0,none⟩ (.slice (some ⟨A,0,none⟩) 0 (g.nv+1))):=(Only.refl _ _).set _ (.inl rfl)
 have hoth:∀q,q≠abx→(w.setCell ⟨abx,0,none⟩ (.slice (some ⟨A,0,none⟩) 0 (g.nv+1))).heap[q]? =w.heap[q]? :=fun q hq=>Below.heap_setCell _ _ _ _ hq
 generalize w.setCell ⟨abx,0,none⟩ (.slice (some ⟨A,0,none⟩) 0 (g.nv+1))=w1 at hab1 hO1 hoth ⊢
 have hg1:=hg.keepE hE fun q hq=>hoth q (by omega)
 have hfb1:=(hoth fbx hne.1).trans hfb
 have hA1:=(hoth A (fun e=>hne.2.2 e.symm)).trans hA
 have hfc1:w1.cell? ⟨fbx,0,none⟩=some L.fp:=Am hfb1 rfl
 have ham1:w1.cell? ⟨L.fb,0+3,none⟩=some (.map none):=Am (hg1.comp .fn) (by rw[ham];rfl)
 clear h1 hoth
 refine Ae (Ae (Ac (Ab (Ai rfl (Ag rfl) ‹_›) rfl ?_)))
 refine Ab (Au rfl) rfl (Ab (Al rfl (Ak rfl)) rfl (Ab (Ai rfl (Ag rfl) ‹_›) rfl ?_))
 refine Ab (GR rfl rfl) rfl (Af (Aa (Bm rfl rfl (Ac (Ab (Ai rfl (Ag rfl) ‹_›) rfl ?_)))))
 refine Ab F5 rfl ?_
 obtain ⟨r,hr⟩:∃r,r=w1.heap.size:=⟨_,rfl⟩
 have hs1:=hO1.size
 refine el_new0 (.map #[] 0) fun w2 hN2 hO2 hZ2 hB2 hK2=>?_
 rw[← hr] at hN2 ⊢
 have hg2:=hg1.on hB2
 refine Ab (Au rfl) rfl (Ab (Al rfl (Ak rfl)) rfl ?_)
 have ham2:w2.cell? ⟨L.fb,0+3,none⟩=some (.map none):=Am (hg2.comp .fn) (by rw[ham];rfl)
 refine Bc (AU (v:=.map (some r)) rfl rfl rfl (AH rfl) ham2 (AQ (hg2.comp .fn))) rfl (Af (Aa ?_))
 change EC _ _ _ _ _ (w2.setCell ⟨L.fb,0+3,none⟩ (.map (some r)))
 have hg3:=hg2.setAm (.map (some r))
 have hO3:=(hO1.bel hs1 hB2).set (s:=L.fb) (o:=0+3) (.map (some r)) (.inr rfl)
 have hoth:∀q,q≠L.fb→(w2.setCell ⟨L.fb,0+3,none⟩ (.map (some r))).heap[q]? =w2.heap[q]? :=fun q hq=>Below.heap_setCell _ _ _ _ hq
 generalize w2.setCell ⟨L.fb,0+3,none⟩ (.map (some r))=w3 at hg3 hO3 hoth ⊢
 refine Bj [D48 fbx abx] [(1,.pointer (some ⟨fbx,0,none⟩)),(2,.pointer (some ⟨abx,0,none⟩))] rfl ⟨rfl,rfl,trivial⟩ fun t=>?_
 exact h t w3 r (by omega) (by omega) (by omega) (by omega) hg3 ((hoth r (by omega)).trans hN2) ((hoth fbx (by omega)).trans ((hO2 fbx (by omega)).trans hfb1)) ((hoth abx (by omega)).trans ((hO2 abx (by omega)).trans hab1)) ((hoth A (by omega)).trans ((hO2 A (by omega)).trans hA1)) hO3
end Go.Proofs.YteepnepebilckaaGreatDoor
namespace Go.Proofs.YteepnepebilckaaGreatDoor
open Go Go.Eng Go.RowKit Go.Shelf
theorem Fx {P:Program} {ops:Array Oper} {N:Nat} {Q:Env→World→Prop} {e:Env} {w:World} {rest:List Oper} {d:Nat} {x y:Operand} {t el:TypeId} {ty:TypeId} {pos:String} {af:Array Edge} {zv:Value} {bytes A n M q:Nat} {R:Nat→Value} {u:Value}
 (ht:P.underlying t=some (.slice el)) (hi:(P.info? el).map (fun i=>(i.zero,i.size,i.bytes))=some (some zv,1,bytes)) (hx:e.ev x= .slice (some ⟨A,0,none⟩) n M) (hg:w.heap[A]? =some (.cells (cellsOf R M) el (0,0)))
 (hy:e.ev y= .slice (some ⟨q,0,none⟩) 1 1) (hu:w.cell? ⟨q,0,none⟩=some u) (h1:u.oneCell'=true) (hn:n<M)
 (hk:okO N ⟨some d,.call { callee:=.builtin .append,args:=#[x,y],argTypes:=#[t,t] },ty,pos,af,none⟩=true)
 (h:∀w',w'.heap[A]? =some (.cells (cellsOf (fun i=>if i=n then u else R i) M) el (0,0))→Only (fun j=>j=A) w w'→EL P ops N Q rest (e.set d (.slice (some ⟨A,0,none⟩) (n+1) M)) w'):
 EL P ops N Q (⟨some d,.call { callee:=.builtin .append,args:=#[x,y],argTypes:=#[t,t] },ty,pos,af,none⟩ :: rest) e w:=by
 obtain ⟨w',hr,h2,h3⟩:=x_appRoom (d:=some d) (ty:=ty) (pos:=pos) (af:=af) (g:=none) ht hi hx hg hy hu h1 hn
 exact Ab hr hk (h w' h2 h3)
structure GS (w0 w:World) (L:Lay) (nv abx A r:Nat) (pre:List Nat):Prop where
 a:w.heap[abx]? =some (.cells #[.slice (some ⟨A,0,none⟩) pre.length (nv+1)] 78 (0,0))
 arr:w.heap[A]? =some (.cells (cellsOf (fun j=>if j<pre.length then L.vp (pre.getD j 0) else .pointer none) (nv+1)) 97 (0,0))
 m:(pre=[]∧∃c,w.heap[r]? =some (.map #[] c))∨(pre≠ []∧∃b c,w.heap[r]? =some (.map #[⟨.pointer none,.int .i32 1,b⟩] c))
 only:Only (fun j=>j=abx∨j=A∨j=r) w0 w
def preK (g:Gph) (k:Nat):List Nat:=(List.range k).flatMap g.bvals
theorem Ck (g:Gph) (k:Nat):preK g (k+1)=preK g k ++ g.bvals k:=by
 unfold preK
 rw[List.range_succ,List.flatMap_append];simp
theorem preK_lt (g:Gph) {k n:Nat} (hk:k<n) {i:Nat} (hi:i<(g.bvals k).length):(preK g k ++ (g.bvals k).take i).length<(preK g n).length:=by
 have h1:∀m,k+1+m≤n→(preK g (k+1)).length≤(preK g (k+1+m)).length:=fun m=>by
  induction m with
  |zero=>intro _;exact Nat.le_refl _
  |succ m ih=>
   intro hm
   have h2:=ih (by omega)
   rw[show k+1+(m+1)=(k+1+m)+1 from rfl,Ck g (k+1+m),List.length_append]
   omega
 have h2:=h1 (n - (k+1)) (by omega)
 rw[show k+1+(n - (k+1))=n by omega] at h2
 rw[Ck,List.length_append] at h2
 rw[List.length_append,List.length_take]
 omega
set_option maxHeartbeats 4000000
attribute [local irreducible] EC EL DL Ret thenQ blockQ Bi bodyQ onlyN execOp Sem.run World.cell? World.frozen? World.setCell World.alloc
theorem cseA2 {w:World} {B fbx abx A r E:Nat} {L:Lay} {g:Gph} {Q:Exit→Env→World→Prop} {t:Nat→Value} (hg:GRep w B L g) (ham:g.am= .map (some r)) (hE:GE E L g) (hn:g.nv≤48) (hnb:g.nb≤9) (hfE:E≤fbx) (haE:E≤abx) (hAE:E≤A) (hrE:E≤r)
 (hne:fbx≠abx∧fbx≠A∧abx≠A∧r≠fbx∧r≠abx∧r≠A) (hfb:w.heap[fbx]? =some (.cells #[L.fp] 71 (0,0))) (hbv:∀b,b<g.nb→∀v∈g.bvals b,v<g.nv) (htot:(preK g g.nb).length=g.nv)
 (h0:GS w w L g.nv abx A r [])
 (h:∀t w',GS w w' L g.nv abx A r (preK g g.nb)→EC Tryz.prog Tryz.f41.ntmps (dropC 6 BZ) Q (Env.sets ⟨t,[D48 fbx abx]⟩ [(1,.pointer (some ⟨fbx,0,none⟩)),(2,.pointer (some ⟨abx,0,none⟩))]) w'):
 EC Tryz.prog Tryz.f41.ntmps (dropC 5 BZ) Q (Env.sets ⟨t,[D48 fbx abx]⟩ [(1,.pointer (some ⟨fbx,0,none⟩)),(2,.pointer (some ⟨abx,0,none⟩))]) w:=by
 have hfl:=hE.fb
 have hfbl:=(Array.getElem?_eq_some_iff.1 hfb).1
 have hgW:∀{W pre},GS w W L g.nv abx A r pre→GRep W B L g:=fun hG=>hg.keepE hE fun q hq=>hG.only.block q (by have:=Br hg;have h2:=(Array.getElem?_eq_some_iff.1 h0.a).1;omega) (by omega)
 have hfW:∀{W pre},GS w W L g.nv abx A r pre→W.cell? ⟨fbx,0,none⟩=some L.fp:=fun hG=>Am ((hG.only.block fbx hfbl (by omega)).trans hfb) rfl
 obtain ⟨fa,fc,hfs⟩:=hg.fblocksV
 have h1:=hg.fBlocks
 rw[hfs] at h1
 have h2:=hfW h0
 refine Ae (Ae (Ac (Ab (Ai rfl (Ag rfl) ‹_›) rfl ?_)))
 refine Ab (Au rfl) rfl (Ab (Al rfl (Ak rfl)) rfl (Ab (Ai rfl (Ag rfl) ‹_›) rfl ?_))
 refine Ab (AN rfl (An rfl)) rfl (Ab Ad rfl (Af (Aa (Ao ?_))))
 refine EC_loop (fun m e w1=>∃k,k≤g.nb∧GS w w1 L g.nv abx A r (preK g k)∧AtD e [D48 fbx abx] [(1,.pointer (some ⟨fbx,0,none⟩)),(2,.pointer (some ⟨abx,0,none⟩)),(82,.slice fa g.nb fc),(83,.int .i64 (g.nb:Int)),(84,.int .i64 (k:Int))]∧m=g.nb - k) g.nb
  ⟨0,Nat.zero_le _,h0,AT rfl ⟨rfl,rfl,rfl,rfl,rfl,trivial⟩,rfl⟩ ?_
 clear h1 h2
 rintro m e w1 ⟨k,hk,hG,⟨t,rfl⟩,rfl⟩
 refine Ae (Ac (Ab (AX rfl rfl) rfl (Af (Aa (Ae ?_)))))
 refine AI rfl rfl (fun hlt=>?_) (fun hge=>?_)
 rotate_left
 ·have hkn:k=g.nb:=by omega
  rw[hkn] at hG
  refine AK (AB (AD (AA (Aa (Bj [D48 fbx abx] [(1,.pointer (some ⟨fbx,0,none⟩)),(2,.pointer (some ⟨abx,0,none⟩))] rfl ⟨rfl,rfl,trivial⟩ fun t=>?_)))))
  exact h t w1 hG
 have hkn:k<g.nb:=by omega
 refine Aq (Aa ?_)
 have hg1:=hgW hG
 have hfb1:=hfW hG
 obtain ⟨fb,fcc,e1,_,hbc,_⟩:=hg1.fblocksE hkn
 rw[hfs] at e1
 injection e1 with e1 _ e3
 subst e1
 obtain ⟨va,vc,hvs⟩:=Row.len (hg1.comp (.bvals k) hkn)
 obtain ⟨nk,hnk⟩:∃nk,nk=(g.bvals k).length:=⟨_,rfl⟩
 rw[← hnk] at hvs
 have hkl:nk≤1000:=by
  have h3:=preK_lt g (n:=g.nb) hkn (i:=nk - 1)
  rw[htot] at h3
  rw[List.length_append,List.length_take] at h3
  by_cases h4:nk=0
  ·omega
  have:=h3 (by omega);omega
 have h1:=hg1.bVals hkn
 rw[hvs] at h1
 refine Ae (Ao (Ae (Ac (Ab (x_index1 rfl rfl (An rfl) (by omega)) rfl (Ab (Ai rfl (Ag rfl) ‹_›) rfl ?_)))))
 refine Ab Ah rfl (Af (Aa (Ae (Ac (Ab Ad rfl (Ab (Au rfl) rfl (Ab (Al rfl (Ak rfl)) rfl (Ab (Ai rfl (Ag rfl) ‹_›) rfl ?_))))))))
 refine Ab (AN rfl (An rfl)) rfl (Ab Ad rfl (Af (Aa (Ao ?_))))
 refine EC_loop (fun m e w2=>∃i,i≤nk∧GS w w2 L g.nv abx A r (preK g k ++ (g.bvals k).take i)∧AtD e [D48 fbx abx] [(1,.pointer (some ⟨fbx,0,none⟩)),(2,.pointer (some ⟨abx,0,none⟩)),(82,.slice (some ⟨fb,0,none⟩) g.nb fc),(83,.int .i64 (g.nb:Int)),(84,.int .i64 (k:Int)),
  (91,.slice va nk vc),(92,.int .i64 (nk:Int)),(93,.int .i64 (i:Int))]∧m=nk - i) nk
  ⟨0,Nat.zero_le _,by simpa using hG,AT rfl ⟨rfl,rfl,rfl,rfl,rfl,rfl,rfl,rfl,trivial⟩,rfl⟩ ?_
 clear h1 hG hg1 hfb1 hbc
 rintro m e w2 ⟨i,hi,hG,⟨t,rfl⟩,rfl⟩
 refine Ae (Ac (Ab (AX rfl rfl) rfl (Af (Aa (Ae ?_)))))
 refine AI rfl rfl (fun hlt=>?_) (fun hge=>?_)
 rotate_left
 ·have hin:i=nk:=by omega
  have e:preK g k ++ (g.bvals k).take i=preK g (k+1):=by rw[hin,hnk,List.take_length,Ck]
  rw[e] at hG
  refine AK (AB (AD (AA (Ap (Aa (Ac (Ab (x_inc rfl rfl (by omega)) rfl (Ab Ad rfl (Af ?_)))))))))
  exact Aw (g.nb - (k+1)) (by omega) ⟨k+1,by omega,hG,AT rfl ⟨rfl,rfl,rfl,rfl,rfl,trivial⟩,rfl⟩
 have hin:i<nk:=by omega
 refine Aq (Aa ?_)
 have hg2:=hgW hG
 obtain ⟨vb,vcc,e2,_,hvc,_⟩:=Row.elem (hg2.comp (.bvals k) hkn) (k:=i) (by omega)
 rw[hvs] at e2
 injection e2 with e2 _ e4
 subst e2
 obtain ⟨v,hve⟩:∃v,v=(g.bvals k).getD i 0:=⟨_,rfl⟩
 rw[← hve] at hvc
 have hvn:v<g.nv:=by rw[hve];exact hbv k hkn _ (Bq (by omega))
 have hplt:(preK g k ++ (g.bvals k).take i).length<g.nv:=by rw[← htot];exact preK_lt g hkn (by omega)
 have hnext:preK g k ++ (g.bvals k).take (i+1)=(preK g k ++ (g.bvals k).take i) ++ [v]:=by
  rw[List.take_add_one,List.append_assoc]
  congr 2
  rw[hve,List.getD_eq_getElem?_getD,List.getElem?_eq_getElem (by omega)];rfl
 obtain ⟨pre,hpre⟩:∃pre,pre=preK g k ++ (g.bvals k).take i:=⟨_,rfl⟩
 rw[← hpre] at hG hplt hnext
 have hty:=hg2.vTy hvn
 refine Ae (Ao (Ae (Ac (Ab (x_index1 rfl rfl (An rfl) (by omega)) rfl (Ab (Ai rfl (Ag rfl) ‹_›) rfl ?_)))))
 refine Ab Ah rfl (Af (Aa (Ae (Ae (Ac (Ab Ad rfl (Ab (Au rfl) rfl (Ab (Al rfl (Ak rfl)) rfl (Ab (Ai rfl (Ag rfl) ‹_›) rfl ?_)))))))))
 refine Be (AG Tryz.func50 rfl rfl rfl rfl) rfl (EM _) ?_
 rintro _ wx ⟨rfl,ew⟩
 rw[ew]
 clear ew wx
 refine Af (Aa (Bh rfl rfl (Aq (Aa ?_))))
 refine Bj [D48 fbx abx] [(1,.pointer (some ⟨fbx,0,none⟩)),(2,.pointer (some ⟨abx,0,none⟩)),(82,.slice (some ⟨fb,0,none⟩) g.nb fc),(83,.int .i64 (g.nb:Int)),(84,.int .i64 (k:Int)),
  (91,.slice (some ⟨vb,0,none⟩) nk vc),(92,.int .i64 (nk:Int)),(93,.int .i64 (i:Int)),(6,L.vp v)] rfl ⟨rfl,rfl,rfl,rfl,rfl,rfl,rfl,rfl,rfl,trivial⟩ fun t=>?_
 clear hty hvc
 refine AW (fun e w3=>∃b c,w3.heap[r]? =some (.map #[⟨.pointer none,.int .i32 1,b⟩] c)∧Only (fun j=>j=r) w2 w3∧AtD e [D48 fbx abx] [(1,.pointer (some ⟨fbx,0,none⟩)),(2,.pointer (some ⟨abx,0,none⟩)),(82,.slice (some ⟨fb,0,none⟩) g.nb fc),(83,.int .i64 (g.nb:Int)),(84,.int .i64 (k:Int)),
  (91,.slice (some ⟨vb,0,none⟩) nk vc),(92,.int .i64 (nk:Int)),(93,.int .i64 (i:Int)),(6,L.vp v)]) ?_ ?_
 ·refine Ae ?_
  have hfbw:w2.drew.cell? ⟨fbx,0,none⟩=some L.fp:=Keep.drew w2 _ _ (hfW hG)
  have hamw:w2.drew.cell? ⟨L.fb,0+3,none⟩=some (.map (some r)):=Keep.drew w2 _ _ (Am (hg2.comp .fn) (by rw[ham];rfl))
  have hnlw:w2.drew.cell? ⟨L.vb v,0+4,none⟩=some (.pointer none):=Keep.drew w2 _ _ (hg2.vNil hvn)
  have hOw:Only (fun j=>j=r) w2 w2.drew:=(Only.refl _ _).drew
  have hmw:(pre=[]∧∃c,w2.drew.heap[r]? =some (.map #[] c))∨(pre≠ []∧∃b c,w2.drew.heap[r]? =some (.map #[⟨.pointer none,.int .i32 1,b⟩] c)):=hG.m
  refine AY mixed (fun w'=>w'=w2.drew) [(0,false),(1,false),(2,false),(3,false),(4,false),(5,false),(6,false),(7,false),(8,false),(9,false)] (by kernel_rfl) rfl ?_
  generalize w2.drew=W at *
  rcases hmw with ⟨_,c,hm⟩|⟨_,b,c,hm⟩
  ·refine Aj rfl (fun _ hS=>Ai rfl (Ag rfl) (by cases hS;with_reducible assumption)) ?_
   refine Aj rfl (fun _ _=>Au rfl) (Aj rfl (fun _ _=>Al rfl (Ak rfl)) (Aj rfl (fun _ hS=>Ai rfl (Ag rfl) (by cases hS;with_reducible assumption)) ?_))
   refine Aj rfl (fun _ _=>Ad) (Aj rfl (fun _ _=>Au rfl) (Aj rfl (fun _ _=>Al rfl (Ak rfl)) (Aj rfl (fun _ hS=>Ai rfl (Ag rfl) (by cases hS;with_reducible assumption)) ?_)))
   refine Aj rfl (fun _ hS=>by cases hS;exact FH rfl rfl hm) ?_
   refine Aj rfl (fun _ _=>Bn rfl rfl) (AP (Aa (Bm rfl rfl ?_)))
   have hfbw2:W.drew.cell? ⟨fbx,0,none⟩=some L.fp:=Keep.drew W _ _ hfbw
   have hamw2:W.drew.cell? ⟨L.fb,0+3,none⟩=some (.map (some r)):=Keep.drew W _ _ hamw
   have hnlw2:W.drew.cell? ⟨L.vb v,0+4,none⟩=some (.pointer none):=Keep.drew W _ _ hnlw
   have hOw2:Only (fun j=>j=r) w2 W.drew:=hOw.drew
   have hm2:W.drew.heap[r]? =some (.map #[] c):=hm
   clear hfbw hamw hnlw hOw hm
   refine AY mixed (fun w'=>w'=W.drew) [(0,false),(1,false),(2,false),(3,false),(4,false),(5,false),(6,false),(7,false),(8,false),(9,false),(10,false),(11,false),(12,false),(13,false),(14,false),(15,true)] (by kernel_rfl) rfl ?_
   generalize W.drew=V at *
   refine Aj rfl (fun _ hS=>Ai rfl (Ag rfl) (by cases hS;with_reducible assumption)) ?_
   refine Aj rfl (fun _ _=>Au rfl) (Aj rfl (fun _ _=>Al rfl (Ak rfl)) (Aj rfl (fun _ hS=>Ai rfl (Ag rfl) (by cases hS;with_reducible assumption)) ?_))
   refine Aj rfl (fun _ _=>Ad) (Aj rfl (fun _ _=>Au rfl) (Aj rfl (fun _ _=>Al rfl (Ak rfl)) (Aj rfl (fun _ hS=>Ai rfl (Ag rfl) (by cases hS;with_reducible assumption)) ?_)))
   refine Aj rfl (fun _ hS=>Ai rfl (Ag rfl) (by cases hS;with_reducible assumption)) ?_
   refine Aj rfl (fun _ _=>Au rfl) (Aj rfl (fun _ _=>Al rfl (Ak rfl)) (Aj rfl (fun _ hS=>Ai rfl (Ag rfl) (by cases hS;with_reducible assumption)) ?_))
   refine Aj rfl (fun _ hS=>by cases hS;exact FP rfl hm2) ?_
   refine Aj rfl (fun _ _=>Ce (m:=0) rfl (by kernel_rfl) (B2 rfl) (by simp [IntKind.wrap,IntKind.bits,IntKind.signed])) ?_
   refine Aj rfl (fun _ _=>Cq (c:=1) rfl rfl (by simp [IntKind.wrap,IntKind.bits,IntKind.signed])) ?_
   refine BP rfl (GL (x:=.tmp 115) (y:=.tmp 119) (z:=.tmp 126) rfl rfl rfl hm2) (.inl rfl) (AP ?_)
   have hrl:=(Array.getElem?_eq_some_iff.1 hm2).1
   refine AR ⟨c,c+1,?_,hOw2.trans ⟨rfl,rfl,rfl,?_,fun j hj hjr=>?_⟩,AT rfl ⟨rfl,rfl,rfl,rfl,rfl,rfl,rfl,rfl,rfl,trivial⟩⟩
   ·show (V.heap.setIfInBounds r _)[r]? =_
    rw[Array.getElem?_setIfInBounds_self_of_lt hrl]
   ·show _≤(V.heap.setIfInBounds r _).size
    rw[Array.size_setIfInBounds];exact Nat.le_refl _
   show (V.heap.setIfInBounds r _)[j]? =_
   rw[Array.getElem?_setIfInBounds_ne (fun e=>hjr e.symm)]
  refine Aj rfl (fun _ hS=>Ai rfl (Ag rfl) (by cases hS;with_reducible assumption)) ?_
  refine Aj rfl (fun _ _=>Au rfl) (Aj rfl (fun _ _=>Al rfl (Ak rfl)) (Aj rfl (fun _ hS=>Ai rfl (Ag rfl) (by cases hS;with_reducible assumption)) ?_))
  refine Aj rfl (fun _ _=>Ad) (Aj rfl (fun _ _=>Au rfl) (Aj rfl (fun _ _=>Al rfl (Ak rfl)) (Aj rfl (fun _ hS=>Ai rfl (Ag rfl) (by cases hS;with_reducible assumption)) ?_)))
  refine Aj rfl (fun _ hS=>by cases hS;exact F6 rfl rfl hm) ?_
  refine Aj rfl (fun _ _=>Bn rfl rfl) (AP (Aa (Bh rfl rfl (Aq ?_))))
  exact AR ⟨b,c,hm,hOw,AT rfl ⟨rfl,rfl,rfl,rfl,rfl,rfl,rfl,rfl,rfl,trivial⟩⟩
 rintro e w3 ⟨b,c,hm3,hO3,⟨t,rfl⟩⟩
 have hs3:=hO3.size
 have hal:=(Array.getElem?_eq_some_iff.1 hG.a).1
 have hAl:=(Array.getElem?_eq_some_iff.1 hG.arr).1
 have hrl:r<w2.heap.size:=by
  rcases hG.m with ⟨_,c,hm⟩|⟨_,b,c,hm⟩
  ·exact (Array.getElem?_eq_some_iff.1 hm).1
  exact (Array.getElem?_eq_some_iff.1 hm).1
 have ha3:=(hO3.block abx hal (by omega)).trans hG.a
 have hA3:=(hO3.block A hAl (by omega)).trans hG.arr
 have hsw:=hG.only.size
 have h1:w3.cell? ⟨abx,0,none⟩=some (.slice (some ⟨A,0,none⟩) pre.length (g.nv+1)):=Am ha3 rfl
 refine Ac (Ab (Ai rfl (Ag rfl) ‹_›) rfl ?_)
 refine Ab Ad rfl (Ab (Bo (v:=L.vp v) rfl rfl Tryz.underlying78 (by kernel_rfl) (z:=.pointer none) rfl) rfl (el_new0 (.cells #[L.vp v] 97) fun w5 hN5 hO5 hZ5 hB5 hK5=>?_))
 have hA5:=(hO5 A (by omega)).trans hA3
 have ha5:=(hO5 abx (by omega)).trans ha3
 have hm5:=(hO5 r (by omega)).trans hm3
 refine Fx Tryz.underlying78 CH rfl hA5 rfl (Am hN5 rfl) rfl (by omega) rfl ?_
 intro w6 hA6 hO6
 have ha6:=(hO6.block abx (by omega) (by omega)).trans ha5
 have hm6:=(hO6.block r (by omega) (by omega)).trans hm5
 refine Bc (AU (v:=.slice (some ⟨A,0,none⟩) (pre.length+1) (g.nv+1)) rfl rfl rfl (AH rfl) (old:=.slice (some ⟨A,0,none⟩) pre.length (g.nv+1)) (Am ha6 rfl) (AQ ha6)) rfl (Af (Ap (Aa ?_)))
 change EC _ _ _ _ _ (w6.setCell ⟨abx,0,none⟩ (.slice (some ⟨A,0,none⟩) (pre.length+1) (g.nv+1)))
 have ha7:=AC (o:=0) (u:=.slice (some ⟨A,0,none⟩) (pre.length+1) (g.nv+1)) ha6
 have hO7:Only (fun j=>j=abx∨j=A∨j=r) w (w6.setCell ⟨abx,0,none⟩ (.slice (some ⟨A,0,none⟩) (pre.length+1) (g.nv+1))):=(((((hG.only.trans (hO3.mono fun j h=>.inr (.inr h))).bel (by omega) hB5)).trans (hO6.mono fun j h=>.inr (.inl h)))).set _ (.inl rfl)
 have hoth:∀q,q≠abx→(w6.setCell ⟨abx,0,none⟩ (.slice (some ⟨A,0,none⟩) (pre.length+1) (g.nv+1))).heap[q]? =w6.heap[q]? :=fun q hq=>Below.heap_setCell _ _ _ _ hq
 generalize w6.setCell ⟨abx,0,none⟩ (.slice (some ⟨A,0,none⟩) (pre.length+1) (g.nv+1))=w7 at ha7 hO7 hoth ⊢
 have hG7:GS w w7 L g.nv abx A r (pre ++ [v]):=by
  refine ⟨by rw[List.length_append];exact ha7,(hoth A (by omega)).trans (hA6.trans ?_),.inr ⟨by simp,b,c,(hoth r (by omega)).trans hm6⟩,hO7⟩
  congr 2
  refine BA fun j _=>?_
  rw[List.length_append,List.length_singleton]
  by_cases hj:j=pre.length
  ·subst hj
   rw[if_pos rfl,if_pos (by omega)]
   simp [List.getD_eq_getElem?_getD]
  rw[if_neg hj]
  by_cases hj2:j<pre.length
  ·rw[if_pos hj2,if_pos (by omega)]
   simp [List.getD_eq_getElem?_getD,List.getElem?_append_left hj2]
  rw[if_neg hj2,if_neg (by omega)]
 rw[← hnext] at hG7
 refine Ac (Ab (x_inc rfl rfl (by omega)) rfl (Ab Ad rfl (Af ?_)))
 exact Aw (nk - (i+1)) (by omega) ⟨i+1,by omega,hG7,AT rfl ⟨rfl,rfl,rfl,rfl,rfl,rfl,rfl,rfl,trivial⟩,rfl⟩
end Go.Proofs.YteepnepebilckaaGreatDoor
namespace Go.Eng
open Go Go.RowKit
section
variable {P : Program} {N : Nat} {l : List Oper} {e0 : Env} {Qx : Exit → Act → World → Prop}
theorem draw_defer {p:List (Nat×Value)} {c:Nat} {w:World} {op:Op} {ty:TypeId} {pos:String} {af:Array Edge} {D:Deferred} (ok:Ok N l (noF (p.map (·.1) ++ [c]))) (hlast:∀x∈p,Anc l x.1 c) (ho:nthO l c=⟨none,op,ty,pos,af,none⟩)
 (hx:(execOp (runE l e0 p).ev ⟨none,op,ty,pos,af,none⟩).run P w= .ok (.defer D) w) (hQ:∀a,Rep N ⟨(runE l e0 p).t,D :: (runE l e0 p).d⟩ a→Qx .normal a w)
 (hpend:∀p1 i v p2,p=p1 ++ (i,v) :: p2→Cs P l (runE l e0 p1) i w v):∀(fuel:Nat) (listed:Array Bool) (a:Act),
 left listed≤fuel→(∀i,isL listed i=true→i∈p.map (·.1))→listed.size=l.length→(∀i,isL listed i=true→∀j∈edges (nthO l i),isL listed j=true)→Rep N (runE l e0 (p.filter fun x=>isL listed x.1)) a→
  wpAny P .any l.toArray Qx fuel listed a w:=by
 have hnd:=ok.nodup
 rw[noF_fst] at hnd
 have hcl:c<l.length:=ok.lt (c,false) (List.mem_map.2 ⟨c,by simp,rfl⟩)
 have hcp:c∉p.map (·.1):=fun h=>(List.nodup_append.1 hnd).2.2 c h c (by simp) rfl
 intro fuel
 induction fuel with
 |zero=>
  intro listed a hf hsub hsize _ _
  exact absurd (hsub c (CT (by omega) (by rw[hsize];exact hcl))) hcp
 |succ fuel ih=>
  intro listed a hf hsub hsize hclosed hrep
  refine ⟨fun hr=>?_,fun i hi=>?_⟩
  ·exact absurd (hsub c (St.stuck ok hsize hr c (by rw[noF_fst];simp))) hcp
  obtain ⟨hil,hiL,hir⟩:=(mem_ready hsize).1 hi
  have hsz:i<listed.size:=by rw[hsize];exact hil
  have hleft:=D9 hsz hiL
  obtain ⟨okO',okG'⟩:=ok.ok i hil
  have hset:∀j,isL (listed.setIfInBounds i true) j=(Nat.beq j i || isL listed j):=fun j=>DY hsz
  have hclosed':∀k,isL (listed.setIfInBounds i true) k=true→∀j∈edges (nthO l k),isL (listed.setIfInBounds i true) j=true:=by
   intro k hk j hj
   rw[hset] at hk ⊢
   simp only [Bool.or_eq_true] at hk ⊢
   rcases hk with hk|hk
   ·right;rw[beq_true hk] at hj;exact hir j hj
   right;exact hclosed k hk j hj
  have hiπ:i∈p.map (·.1) ++ [c]:=by
   have:=ok.full i hil
   rw[noF_fst] at this;exact this
  by_cases hip:i∈p.map (·.1)
  ·obtain ⟨x,hx',hxi⟩:=List.mem_map.1 hip
   obtain ⟨p1,p2,hp⟩:=List.append_of_mem hx'
   obtain ⟨i',v⟩:=x
   dsimp only at hxi
   subst hxi
   have hd:=hpend p1 i' v p2 hp
   have hn:i'∉p1.map (·.1)∧i'∉p2.map (·.1):=by
    have h1:=(List.nodup_append.1 hnd).1
    rw[hp,List.map_append,List.map_cons] at h1
    refine ⟨fun h=>(List.nodup_append.1 h1).2.2 i' h i' (by simp) rfl,?_⟩
    exact (List.nodup_cons.1 (List.nodup_append.1 h1).2.1).1
   have hlook:∀t∈names l (nthO l i'),(p.filter fun x=>isL listed x.1).filter (fun x=>(nthO l x.1).dst == some t)=p1.filter (fun x=>(nthO l x.1).dst == some t):=by
    intro t ht
    refine CU (p2:=(i',v) :: p2) (s:=noF [c]) ok hp (.inl ?_) ?_ hil hclosed hiL hir t ht
    ·rw[noF_fst,noF_fst,hp];simp
    intro x hx
    rcases List.mem_cons.1 hx with rfl|hx
    ·exact .inl rfl
    right;simp;exact ⟨_,hx⟩
   have hd':Cs P l (runE l e0 (p.filter fun x=>isL listed x.1)) i' w v:=
    DB okO' (fun t ht=>(B8 l t _ _ e0 (hlook t (by unfold names;exact List.mem_append_right _ ht))).symm) hd
   refine Dy hil okO' okG' hrep hd' (ih _ _ (by omega) (fun k hk=>?_) (by simp [hsize]) hclosed' ?_)
   ·rw[hset] at hk
    simp only [Bool.or_eq_true] at hk
    rcases hk with hk|hk
    ·rw[beq_true hk];exact hip
    exact hsub k hk
   refine Es hiL hsz hrep ?_ ⟨p1,p2,hp,hn⟩
   intro q1 q2 hq t htd x hx hxd
   have hqq:q1=p1∧q2=p2:=by
    have h1:p1 ++ (i',v) :: p2=q1 ++ (i',v) :: q2:=by rw[← hp,hq]
    rcases List.append_eq_append_iff.1 h1 with ⟨r,hr1,hr2⟩|⟨r,hr1,hr2⟩
    ·cases r with
     |nil=>simp at hr1 hr2;exact ⟨hr1,hr2.symm⟩
     |cons y r=>
      simp at hr2
      exfalso
      apply hn.2
      rw[hr2.2];simp
    cases r with
    |nil=>simp at hr1 hr2;exact ⟨hr1.symm,hr2⟩
    |cons y r=>
     simp at hr2
     exfalso
     apply hn.1
     rw[hr1,← hr2.1];simp
   rw[hqq.2] at hx
   have hf:=hlook t (by unfold names;rw[htd];simp)
   cases hLx:isL listed x.1 with
   |false=>rfl
   |true=>
    exfalso
    have hm:x∈(p.filter fun x=>isL listed x.1).filter (fun x=>(nthO l x.1).dst == some t):=by
     rw[List.mem_filter,List.mem_filter]
     exact ⟨⟨by rw[hp];simp [hx],hLx⟩,by simp [hxd]⟩
    rw[hf,List.mem_filter] at hm
    have h1:=(List.nodup_append.1 hnd).1
    rw[hp,List.map_append,List.map_cons] at h1
    exact (List.nodup_append.1 h1).2.2 x.1 (List.mem_map.2 ⟨x,hm.1,rfl⟩) x.1 (by simp;right;exact ⟨_,hx⟩) rfl
  have hic:i=c:=by
   rcases List.mem_append.1 hiπ with h|h
   ·exact absurd h hip
   simpa using h
  subst hic
  have hall:∀x∈p,isL listed x.1=true:=fun x hx=>CC hclosed (hlast x hx) hir
  rw[Dn hall] at hrep
  have hfin:∀a',Rep N ⟨(runE l e0 p).t,D :: (runE l e0 p).d⟩ a'→wpAny P .any l.toArray Qx fuel (listed.setIfInBounds i true) a' w:=by
   intro a' hr'
   have hallL:∀j,j<l.length→isL (listed.setIfInBounds i true) j=true:=fun j hj=>by
    rw[hset]
    have:=ok.full j hj
    rw[noF_fst] at this
    rcases List.mem_append.1 this with h|h
    ·obtain ⟨x,hx,rfl⟩:=List.mem_map.1 h
     rw[hall x hx];simp
    have:j=i:=by simpa using h
    rw[this,Nat.beq_refl];rfl
   have hnone:Region.ready .any l.toArray (listed.setIfInBounds i true)=[]:=by
    cases hr:Region.ready .any l.toArray (listed.setIfInBounds i true) with
    |nil=>rfl
    |cons j r=>
     exfalso
     have hm:j∈Region.ready .any l.toArray (listed.setIfInBounds i true):=by rw[hr];simp
     obtain ⟨hjl,hjL,_⟩:=(mem_ready (by simp [hsize])).1 hm
     rw[hallL j hjl] at hjL;cases hjL
   cases fuel with
   |zero=>exact ⟨hnone,hQ a' hr'⟩
   |succ f=>exact ⟨fun _=>hQ a' hr',fun j hj=>by rw[hnone] at hj;cases hj⟩
  have hw:Region.wanted (nthO l i) (yielded l.toArray a.tmps)=true:=by rw[ho];rfl
  unfold wpOp
  rw[C3 hil]
  dsimp only
  rw[hw,if_pos rfl]
  refine .inl ?_
  unfold Oper.wp
  rw[hrep.exec okO',ho,hx]
  simp only [Oper.upon]
  exact hfin _ ⟨hrep.size,by show D :: a.defers=D :: _;rw[hrep.d],hrep.t⟩
theorem peelR {S:World→Prop} {Q:Env→World→Prop} {w:World}:∀(π:List Nat) (e:Env),DL P l S Q (noF π) e w→∃q:List (Nat×Value),q.map (·.1)=π∧Q (runE l e q) w∧∀q1 i v q2,q=q1 ++ (i,v) :: q2→∀w',S w'→Cs P l (runE l e q1) i w' v
 | [],e,h=>⟨[],rfl,h,by simp⟩
 |i :: π,e,h=>by
  obtain ⟨v,hv,hr⟩:=h
  obtain ⟨q,h1,h2,h3⟩:=peelR π _ hr
  refine ⟨(i,v) :: q,by simp [h1],h2,?_⟩
  intro q1 i' v' q2 hq w' hw'
  cases q1 with
  |nil=>
   simp at hq
   obtain ⟨⟨rfl,rfl⟩,_⟩:=hq
   exact hv w' hw'
  |cons y q1=>
   simp at hq
   obtain ⟨rfl,hq⟩:=hq
   exact h3 q1 i' v' q2 hq w' hw'
theorem Gs {id:Nat} {Q:Exit→Env→World→Prop} {e:Env} {w:World} (hm:P.follows .mixedOrders=true) (π:List Nat) (c:Nat) (hc:chk N l (noF (π ++ [c]))=true) (hl:(π.all fun x=>((bits l).getD c 0).testBit x)=true)
 (h:DL P l (fun w'=>w'=w.drew) (fun e1 w1=>∃op ty pos af D,nthO l c=⟨none,op,ty,pos,af,none⟩∧(execOp e1.ev ⟨none,op,ty,pos,af,none⟩).run P w1= .ok (.defer D) w1∧Q .normal ⟨e1.t,D :: e1.d⟩ w1) (noF π) e w.drew):
 EC P N (.region id l.toArray true) Q e w:=by
 intro Qx a hr hq
 refine wp_region_any hm ?_
 obtain ⟨q,h1,⟨op,ty,pos,af,D,h2,h3,h4⟩,h5⟩:=peelR π _ h
 have hrep:∀i,isL (Array.replicate l.toArray.size false) i=false:=by
  intro i
  unfold isL
  rw[Array.getD_eq_getD_getElem?,Array.getElem?_replicate]
  split <;> rfl
 rw[List.all_eq_true] at hl
 refine draw_defer (e0:=e) (p:=q) (c:=c) (by rw[h1];exact ok_of_chk hc) (fun x hx=>BQ l _ _ (hl _ (by rw[← h1];exact List.mem_map.2 ⟨x,hx,rfl⟩))) h2 h3 (fun a' ha=>hq _ _ _ _ ha h4) (fun p1 i v p2 hp=>h5 p1 i v p2 hp _ rfl) _ _ _ ?_ (fun i hi=>?_) (by simp) (fun i hi=>?_) ?_
 ·unfold left
  refine Nat.le_trans (List.length_filter_le _ _) ?_
  simp
 ·rw[hrep] at hi;cases hi
 ·rw[hrep] at hi;cases hi
 rw[B5 (fun x _=>hrep x.1)]
 exact hr
end
end Go.Eng
namespace Go.Proofs.YteepnepebilckaaGreatDoor
open Go Go.Eng Go.RowKit Go.Shelf
def D53 (VE n:Nat):Deferred:=⟨.fn (.func 53) #[],#[.agg #[],.slice (some ⟨VE,0,none⟩) n n]⟩
structure Bl where
 (E Eb A fbx abx vbx VE:Nat)
structure Bl.Ok (b:Bl):Prop where
 e:b.E≤b.A∧b.E≤b.fbx∧b.E≤b.abx∧b.E≤b.vbx∧b.E≤b.VE
 n1:b.A≠b.fbx∧b.A≠b.abx∧b.A≠b.vbx∧b.A≠b.VE
 n2:b.fbx≠b.abx∧b.fbx≠b.vbx∧b.fbx≠b.VE∧b.abx≠b.vbx∧b.abx≠b.VE∧b.vbx≠b.VE
 hi:b.A<b.Eb∧b.fbx<b.Eb∧b.abx<b.Eb
set_option maxHeartbeats 4000000
attribute [local irreducible] EC EL DL Ret thenQ blockQ Bi bodyQ onlyN execOp Sem.run World.cell? World.frozen? World.setCell World.alloc
theorem cseA3 {w w0:World} {B fbx abx A r E:Nat} {L:Lay} {g:Gph} {Q:Exit→Env→World→Prop} {t:Nat→Value} (hg:GRep w B L g) (ham:g.am= .map (some r)) (hE:GE E L g) (hn:g.nv≤48) (hfE:E≤fbx) (haE:E≤abx) (hAE:E≤A)
 (hne:fbx≠abx∧fbx≠A∧abx≠A) (hfb:w.heap[fbx]? =some (.cells #[L.fp] 71 (0,0))) (hG:GS w0 w L g.nv abx A r (preK g g.nb)) (hperm:(preK g g.nb).Perm (List.range g.nv))
 (hblk:∀i,i<g.nv→g.blk i<g.nb) (hty:∀x y,g.op x=g.op y→g.ty x=g.ty y) (hop:∀i,i<g.nv→g.op i≤15)
 (h:∀t w' arr Pl pv Eb,Part0 g (fun i=>(preK g g.nb).getD i 0) arr Pl→BW w' L A g.nv arr→Only (fun j=>j=A) w w'→fbx<Eb→abx<Eb→A<Eb→E≤Eb→Eb≤w'.heap.size→w'.ownsRow Eb 113 1 pv Pl.length (Pl.map (slV A (g.nv+1)))→
   EC Tryz.prog Tryz.f41.ntmps (dropC 7 BZ) Q (Env.sets ⟨t,[D48 fbx abx]⟩ [(1,.pointer (some ⟨fbx,0,none⟩)),(7,pv)]) w'):
 EC Tryz.prog Tryz.f41.ntmps (dropC 6 BZ) Q (Env.sets ⟨t,[D48 fbx abx]⟩ [(1,.pointer (some ⟨fbx,0,none⟩)),(2,.pointer (some ⟨abx,0,none⟩))]) w:=by
 have hl:(preK g g.nb).length=g.nv:=by rw[hperm.length_eq,List.length_range]
 have hfbl:=(Array.getElem?_eq_some_iff.1 hfb).1
 have hal:=(Array.getElem?_eq_some_iff.1 hG.a).1
 have hAl:=(Array.getElem?_eq_some_iff.1 hG.arr).1
 have hA0:BW w L A g.nv (fun i=>(preK g g.nb).getD i 0):=by
  unfold BW
  rw[hG.arr,hl]
  rfl
 have ha0:w.cell? ⟨abx,0,none⟩=some (.slice (some ⟨A,0,none⟩) g.nv (g.nv+1)):=Am hG.a (by rw[hl];rfl)
 have hf0:w.cell? ⟨fbx,0,none⟩=some L.fp:=Am hfb rfl
 have hm0:w.cell? ⟨L.fb,0+3,none⟩=some (.map (some r)):=Am (hg.comp .fn) (by rw[ham];rfl)
 have hA1:BW w.drew L A g.nv (fun i=>(preK g g.nb).getD i 0):=hA0
 have ha1:=Keep.drew w _ _ ha0
 have hf1:=Keep.drew w _ _ hf0
 have hm1:=Keep.drew w _ _ hm0
 have hg1:=hg.drew
 have hs1:w.drew.heap.size=w.heap.size:=rfl
 have hO1:Only (fun j=>j=A) w w.drew:=(Only.refl _ _).drew
 refine Ae ?_
 have hc:Cells [(⟨abx,0,none⟩,.slice (some ⟨A,0,none⟩) g.nv (g.nv+1)),(⟨fbx,0,none⟩,L.fp),(⟨L.fb,0+3,none⟩,.map (some r))] w.drew:=.cons ha1 (.cons hf1 (.cons hm1 (.nil _)))
 refine AY mixed _ [(0,false),(1,false),(2,false),(3,false),(4,false),(5,true),(6,false)] (by kernel_rfl) hc ?_
 generalize w.drew=W at *
 refine Aj rfl (fun _ hS=>Ai rfl (Ag rfl) (hS.get (by first|exact mm0|exact mm1|exact mm2|exact mm3|exact mm4|exact mm5|exact mm6|exact mm7))) ?_
 refine Aj rfl (fun _ hS=>Ai rfl (Ag rfl) (hS.get (by first|exact mm0|exact mm1|exact mm2|exact mm3|exact mm4|exact mm5|exact mm6|exact mm7))) ?_
 refine Aj rfl (fun _ _=>Au rfl) (Aj rfl (fun _ _=>Al rfl (Ak rfl)) (Aj rfl (fun _ hS=>Ai rfl (Ag rfl) (hS.get (by first|exact mm0|exact mm1|exact mm2|exact mm3|exact mm4|exact mm5|exact mm6|exact mm7))) ?_))
 refine BO rfl (AG Tryz.func51 rfl rfl rfl rfl) (part_ret hg1 hE hAE hA1 hn (fun i hi=>?_) ?_ hblk hty hop) ?_
 ·have:=hperm.mem_iff.1 (Bq (l:=preK g g.nb) (k:=i) (by omega))
  exact List.mem_range.1 this
 ·rw[elems_of hl fun j _=>rfl]
  exact hperm.nodup_iff.2 List.nodup_range
 rintro pv w2 ⟨arr,Pl,h1,h2,h3,h4⟩
 have hfl:=hE.fb
 have hk:∀q o u,q<W.heap.size→q≠A→W.cell? ⟨q,o,none⟩=some u→w2.cell? ⟨q,o,none⟩=some u:=fun q o u hq hqA hu=>(World.cell?_of_block (a:=⟨q,o,none⟩) (h3.block q hq hqA)).trans hu
 refine ⟨.inr (.cons (hk _ _ _ (by omega) (by omega) ha1) (.cons (hk _ _ _ (by omega) (by omega) hf1) (.cons (hk _ _ _ (by omega) (by omega) hm1) (.nil _)))),?_⟩
 refine Aj rfl (fun _ _=>Ah) (AP (Aa (Bj [D48 fbx abx] [(1,.pointer (some ⟨fbx,0,none⟩)),(7,pv)] rfl ⟨rfl,rfl,trivial⟩ fun t=>?_)))
 exact h t w2 arr Pl pv W.heap.size h1 h2 (hO1.trans h3) (by omega) (by omega) (by omega) (by omega) h3.size h4
theorem cseB1 {w:World} {B fbx abx E:Nat} {L:Lay} {g:Gph} {Q:Exit→Env→World→Prop} {pv:Value} {t:Nat→Value} (hg:GRep w B L g) (hn:g.nv≤48) (hfb:w.heap[fbx]? =some (.cells #[L.fp] 71 (0,0)))
 (h:∀t w' vbx VE,w.heap.size≤vbx→w.heap.size≤VE→vbx≠VE→Below w.heap.size w w'→
   w'.heap[vbx]? =some (.cells #[.slice (some ⟨VE,0,none⟩) (g.nv+1) (g.nv+1)] 110 (0,0))→w'.heap[VE]? =some (.cells (cellsOf (fun _=>.int .i32 0) (g.nv+1)) 88 (0,0))→
   EC Tryz.prog Tryz.f41.ntmps (dropC 9 BZ) Q (Env.sets ⟨t,[D53 VE (g.nv+1),D48 fbx abx]⟩ [(1,.pointer (some ⟨fbx,0,none⟩)),(7,pv),(8,.pointer (some ⟨vbx,0,none⟩))]) w'):
 EC Tryz.prog Tryz.f41.ntmps (dropC 7 BZ) Q (Env.sets ⟨t,[D48 fbx abx]⟩ [(1,.pointer (some ⟨fbx,0,none⟩)),(7,pv)]) w:=by
 have hfbl:=(Array.getElem?_eq_some_iff.1 hfb).1
 have hfl:=Br hg
 refine AW (fun e w'=>∃vbx VE,w.heap.size≤vbx∧w.heap.size≤VE∧vbx≠VE∧Below w.heap.size w w'∧
  w'.heap[vbx]? =some (.cells #[.slice (some ⟨VE,0,none⟩) (g.nv+1) (g.nv+1)] 110 (0,0))∧w'.heap[VE]? =some (.cells (cellsOf (fun _=>.int .i32 0) (g.nv+1)) 88 (0,0))∧
  AtD e [D48 fbx abx] [(1,.pointer (some ⟨fbx,0,none⟩)),(7,pv),(8,.pointer (some ⟨vbx,0,none⟩))]) ?_ ?_
 ·refine D7 mixed (fun w'=>Below w.heap.size w w') planA (by kernel_rfl) ⟨rfl,rfl,rfl,Nat.le_refl _,fun _ _=>rfl⟩ ?_
  have hfc:∀W,Below w.heap.size w W→W.cell? ⟨fbx,0,none⟩=some L.fp:=fun W hb=>Am ((hb.block fbx hfbl).trans hfb) rfl
  have hgW:∀W,Below w.heap.size w W→GRep W B L g:=fun W hb=>hg.on hb
  have hbd:Below w.heap.size w w.drew:=⟨rfl,rfl,rfl,Nat.le_refl _,fun _ _=>rfl⟩
  generalize w.drew=W0 at hbd ⊢
  refine BI rfl (fun _ hS=>Ai rfl (Ag rfl) (hfc _ hS)) (BI rfl (fun _ _=>Au rfl) (BI rfl (fun _ hS=>B3 rfl ((hgW _ hS).comp .fn)) (BI rfl (fun _ _=>B4 rfl) (BI rfl (fun _ hS=>Ai rfl (Ag rfl) (hfc _ hS)) ?_))))
  refine DR ?_ ?_
  ·refine CO rfl (AG Tryz.func47 rfl rfl rfl rfl) (NumValues_ret (hgW _ hbd) hn) ?_
   rintro _ wx ⟨rfl,ew⟩
   rw[ew]
   clear ew wx
   refine ⟨.inr hbd,?_⟩
   refine DR ?_ ?_
   ·refine CO rfl (AG Tryz.func52 rfl rfl rfl rfl) (allocID_ret (n:=g.nv+1) (by omega)) ?_
    rintro _ W1 ⟨A,rfl,hAg,hAc,hAb⟩
    have hszd:=hbd.size
    have hbA:=hbd.trans (hAb.mono hszd)
    refine ⟨.inr hbA,?_⟩
    refine Dt rfl (A9 Ed) ?_
    obtain ⟨abx,habx⟩:∃abx,abx=W1.heap.size:=⟨_,rfl⟩
    have hszb:=hbA.size
    have hbB:=hbA.trans ((Below.refl W1.heap.size W1).alloc (Nat.le_refl _) (.cells #[.slice none 0 0] 110) |>.mono hszb)
    have hNb:=heap_alloc_new W1 (.cells #[.slice none 0 0] 110)
    have hOb:∀zz,zz<W1.heap.size→(W1.alloc (.cells #[.slice none 0 0] 110)).heap[zz]? =W1.heap[zz]? :=fun _ hi=>Below.heap_alloc _ _ _ hi
    have hZb:=BC W1 (.cells #[.slice none 0 0] 110)
    rw[← habx] at hNb ⊢
    refine ⟨.inr hbB,?_⟩
    generalize W1.alloc (.cells #[.slice none 0 0] 110)=W2 at hbB hNb hOb hZb ⊢
    have hA2:W2.heap[A]? =some (.cells (cellsOf (fun _=>.int .i32 0) (g.nv+1)) 88 (0,0)):=(hOb A (Array.getElem?_eq_some_iff.1 hAc).1).trans hAc
    have hAl:=(Array.getElem?_eq_some_iff.1 hAc).1
    refine Db rfl (AU (v:=.slice (some ⟨A,0,none⟩) (g.nv+1) (g.nv+1)) rfl rfl rfl (AH rfl) (old:=.slice none 0 0) (Am hNb rfl) (AQ hNb)) ?_
    have hSa:=AC (o:=0) (u:=.slice (some ⟨A,0,none⟩) (g.nv+1) (g.nv+1)) hNb
    have hSA:abx≠A→(W2.setCell ⟨abx,0,none⟩ (.slice (some ⟨A,0,none⟩) (g.nv+1) (g.nv+1))).heap[A]? =some (.cells (cellsOf (fun _=>.int .i32 0) (g.nv+1)) 88 (0,0)):=fun hh=>(Below.heap_setCell _ _ _ _ (fun e=>hh e.symm)).trans hA2
    have hbS:=hbB.setCell (p:=⟨abx,0,none⟩) (show w.heap.size≤abx by omega) (.slice (some ⟨A,0,none⟩) (g.nv+1) (g.nv+1))
    refine ⟨.inr hbS,?_⟩
    refine CZ ?_
    exact AR ⟨abx,A,by omega,by omega,by omega,hbS,hSa,hSA (by omega),AT rfl ⟨rfl,rfl,rfl,trivial⟩⟩
   refine Dt rfl (A9 Ed) ?_
   obtain ⟨abx,habx⟩:∃abx,abx=W0.heap.size:=⟨_,rfl⟩
   have hszb:=hbd.size
   have hbB:=hbd.trans ((Below.refl W0.heap.size W0).alloc (Nat.le_refl _) (.cells #[.slice none 0 0] 110) |>.mono hszb)
   have hNb:=heap_alloc_new W0 (.cells #[.slice none 0 0] 110)
   have hOb:∀zz,zz<W0.heap.size→(W0.alloc (.cells #[.slice none 0 0] 110)).heap[zz]? =W0.heap[zz]? :=fun _ hi=>Below.heap_alloc _ _ _ hi
   have hZb:=BC W0 (.cells #[.slice none 0 0] 110)
   rw[← habx] at hNb ⊢
   refine ⟨.inr hbB,?_⟩
   generalize W0.alloc (.cells #[.slice none 0 0] 110)=W1 at hbB hNb hOb hZb ⊢
   have hbl:=(Array.getElem?_eq_some_iff.1 hNb).1
   refine CO rfl (AG Tryz.func52 rfl rfl rfl rfl) (allocID_ret (n:=g.nv+1) (by omega)) ?_
   rintro _ W2 ⟨A,rfl,hAg,hAc,hAb⟩
   have hszd:=hbB.size
   have hbA:=hbB.trans (hAb.mono hszd)
   refine ⟨.inr hbA,?_⟩
   have hA2:=hAc
   replace hNb:=(hAb.block abx hbl).trans hNb
   replace hbB:=hbA
   refine Db rfl (AU (v:=.slice (some ⟨A,0,none⟩) (g.nv+1) (g.nv+1)) rfl rfl rfl (AH rfl) (old:=.slice none 0 0) (Am hNb rfl) (AQ hNb)) ?_
   have hSa:=AC (o:=0) (u:=.slice (some ⟨A,0,none⟩) (g.nv+1) (g.nv+1)) hNb
   have hSA:abx≠A→(W2.setCell ⟨abx,0,none⟩ (.slice (some ⟨A,0,none⟩) (g.nv+1) (g.nv+1))).heap[A]? =some (.cells (cellsOf (fun _=>.int .i32 0) (g.nv+1)) 88 (0,0)):=fun hh=>(Below.heap_setCell _ _ _ _ (fun e=>hh e.symm)).trans hA2
   have hbS:=hbB.setCell (p:=⟨abx,0,none⟩) (show w.heap.size≤abx by omega) (.slice (some ⟨A,0,none⟩) (g.nv+1) (g.nv+1))
   refine ⟨.inr hbS,?_⟩
   refine CZ ?_
   exact AR ⟨abx,A,by omega,by omega,by omega,hbS,hSa,hSA (by omega),AT rfl ⟨rfl,rfl,rfl,trivial⟩⟩
  refine Dt rfl (A9 Ed) ?_
  obtain ⟨abx,habx⟩:∃abx,abx=W0.heap.size:=⟨_,rfl⟩
  have hszb:=hbd.size
  have hbB:=hbd.trans ((Below.refl W0.heap.size W0).alloc (Nat.le_refl _) (.cells #[.slice none 0 0] 110) |>.mono hszb)
  have hNb:=heap_alloc_new W0 (.cells #[.slice none 0 0] 110)
  have hOb:∀zz,zz<W0.heap.size→(W0.alloc (.cells #[.slice none 0 0] 110)).heap[zz]? =W0.heap[zz]? :=fun _ hi=>Below.heap_alloc _ _ _ hi
  have hZb:=BC W0 (.cells #[.slice none 0 0] 110)
  rw[← habx] at hNb ⊢
  refine ⟨.inr hbB,?_⟩
  generalize W0.alloc (.cells #[.slice none 0 0] 110)=W1 at hbB hNb hOb hZb ⊢
  have hbl:=(Array.getElem?_eq_some_iff.1 hNb).1
  have hbd0:=hbd
  replace hbd:=hbB
  refine CO rfl (AG Tryz.func47 rfl rfl rfl rfl) (NumValues_ret (hgW _ hbd) hn) ?_
  rintro _ wx ⟨rfl,ew⟩
  rw[ew]
  clear ew wx
  refine ⟨.inr hbd,?_⟩
  refine CO rfl (AG Tryz.func52 rfl rfl rfl rfl) (allocID_ret (n:=g.nv+1) (by omega)) ?_
  rintro _ W2 ⟨A,rfl,hAg,hAc,hAb⟩
  have hszd:=hbB.size
  have hbA:=hbB.trans (hAb.mono hszd)
  refine ⟨.inr hbA,?_⟩
  have hA2:=hAc
  replace hNb:=(hAb.block abx hbl).trans hNb
  replace hbB:=hbA
  refine Db rfl (AU (v:=.slice (some ⟨A,0,none⟩) (g.nv+1) (g.nv+1)) rfl rfl rfl (AH rfl) (old:=.slice none 0 0) (Am hNb rfl) (AQ hNb)) ?_
  have hSa:=AC (o:=0) (u:=.slice (some ⟨A,0,none⟩) (g.nv+1) (g.nv+1)) hNb
  have hSA:abx≠A→(W2.setCell ⟨abx,0,none⟩ (.slice (some ⟨A,0,none⟩) (g.nv+1) (g.nv+1))).heap[A]? =some (.cells (cellsOf (fun _=>.int .i32 0) (g.nv+1)) 88 (0,0)):=fun hh=>(Below.heap_setCell _ _ _ _ (fun e=>hh e.symm)).trans hA2
  have hbS:=hbB.setCell (p:=⟨abx,0,none⟩) (show w.heap.size≤abx by omega) (.slice (some ⟨A,0,none⟩) (g.nv+1) (g.nv+1))
  refine ⟨.inr hbS,?_⟩
  refine CZ ?_
  exact AR ⟨abx,A,by omega,by omega,by omega,hbS,hSa,hSA (by omega),AT rfl ⟨rfl,rfl,rfl,trivial⟩⟩
 rintro e w' ⟨vbx,VE,h1,h2,h3,hb,h6,h7,⟨t,rfl⟩⟩
 refine Ae ?_
 have hgw:=hg.on hb
 have hf1:w'.drew.cell? ⟨fbx,0,none⟩=some L.fp:=Keep.drew w' _ _ (Am ((hb.block fbx hfbl).trans hfb) rfl)
 have hv1:w'.drew.cell? ⟨vbx,0,none⟩=some (.slice (some ⟨VE,0,none⟩) (g.nv+1) (g.nv+1)):=Keep.drew w' _ _ (Am h6 rfl)
 have hfn:=hgw.drew.comp .fn
 have hb1:Below w.heap.size w w'.drew:=hb.drew
 have h61:w'.drew.heap[vbx]? =_:=h6
 have h71:w'.drew.heap[VE]? =_:=h7
 refine Gs mixed [0,1,2,3,4] 5 (by kernel_rfl) (by kernel_rfl) ?_
 generalize w'.drew=W at *
 refine Aj rfl (fun _ hS=>Ai rfl (Ag rfl) (by cases hS;with_reducible assumption)) ?_
 refine Aj rfl (fun _ _=>Au rfl) (Aj rfl (fun _ hS=>by cases hS;exact B3 rfl hfn) ?_)
 refine Aj rfl (fun _ hS=>B4 rfl) (Aj rfl (fun _ hS=>Ai rfl (Ag rfl) (by cases hS;with_reducible assumption)) ?_)
 refine AP ⟨_,_,_,_,_,rfl,Dj rfl rfl,?_⟩
 refine Aa (Bj [D53 VE (g.nv+1),D48 fbx abx] [(1,.pointer (some ⟨fbx,0,none⟩)),(7,pv),(8,.pointer (some ⟨vbx,0,none⟩))] rfl ⟨rfl,rfl,rfl,trivial⟩ fun t=>?_)
 exact h t W vbx VE h1 h2 h3 hb1 h61 h71
end Go.Proofs.YteepnepebilckaaGreatDoor
