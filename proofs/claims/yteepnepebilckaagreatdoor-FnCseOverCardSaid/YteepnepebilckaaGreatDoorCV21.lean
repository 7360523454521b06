/- The law FnCseOver returns true for every input in which the opcode table reads as laid, and its argument reads as it did, the table being tied to the text of the program. -/
import Derived.Test.YteepnepebilckaaGreatDoorCV20
namespace Go.Proofs.YteepnepebilckaaGreatDoor
open Go Go.Eng Go.RowKit Go.Shelf
structure PI (g:Gph) (arr:Nat→Nat) (cls:Nat→Int) (P:List (Nat×Nat)) (pn:Int):Prop where
 perm:(elems arr g.nv).Perm (List.range g.nv)
 long:∀p∈P,2≤p.2∧p.1+p.2≤g.nv
 apart:P.Pairwise fun a b=>a.1+a.2≤b.1∨b.1+b.2≤a.1
 cin:∀p∈P,∀i,i<p.2→cls (arr (p.1+i)+1)=cls (arr p.1+1)
 cpos:∀p∈P,0<cls (arr p.1+1)∧cls (arr p.1+1)<pn
 cne:∀p∈P,∀q∈P,cls (arr p.1+1)=cls (arr q.1+1)→p=q
 cout:∀i,i<g.nv→(∀p∈P,¬ (p.1≤i∧i<p.1+p.2))→cls (arr i+1)= -((arr i:Int)+1)
 same:∀p∈P,∀i,i<p.2→key g (arr p.1)=key g (arr (p.1+i))
theorem BR {arr:Nat→Nat} {n:Nat} (h:(elems arr n).Perm (List.range n)) {i:Nat} (hi:i<n):arr i<n:=by
 have:arr i∈elems arr n:=List.mem_map.2 ⟨i,List.mem_range.2 hi,rfl⟩
 exact List.mem_range.1 (h.mem_iff.1 this)
theorem Cj {arr:Nat→Nat} {n:Nat} (h:(elems arr n).Perm (List.range n)) {i j:Nat} (hi:i<n) (hj:j<n) (e:arr i=arr j):i=j:=by
 have hn:(elems arr n).Nodup:=h.nodup_iff.2 List.nodup_range
 have h1:i<(elems arr n).length:=by rw[BN];exact hi
 have h2:j<(elems arr n).length:=by rw[BN];exact hj
 refine (List.getElem_inj (h₀:=h1) (h₁:=h2) hn).1 ?_
 simpa [elems] using e
theorem CX {arr:Nat→Nat} {n:Nat} (h:(elems arr n).Perm (List.range n)) {v:Nat} (hv:v<n):∃i,i<n∧arr i=v:=by
 have:v∈elems arr n:=h.mem_iff.2 (List.mem_range.2 hv)
 obtain ⟨i,hi,e⟩:=List.mem_map.1 this
 exact ⟨i,List.mem_range.1 hi,e⟩
structure Nu (arr:Nat→Nat) (nv:Nat) (P:List (Nat×Nat)) (k j:Nat) (cls:Nat→Int):Prop where
 old:∀q (hq:q<P.length),q<k→∀i,i<P[q].2→cls (arr (P[q].1+i)+1)=(q:Int)+1
 cur:∀hk:k<P.length,∀i,i<j→cls (arr (P[k].1+i)+1)=(k:Int)+1
 out:∀i,i<nv→(∀q (hq:q<P.length),q<k→¬ (P[q].1≤i∧i<P[q].1+P[q].2))→(∀hk:k<P.length,¬ (P[k].1≤i∧i<P[k].1+j))→cls (arr i+1)= -((arr i:Int)+1)
section
variable {arr : Nat → Nat} {nv k j : Nat} {P : List (Nat × Nat)} {cls : Nat → Int}
theorem Nu.next (h:Nu arr nv P k j cls) (hp:(elems arr nv).Perm (List.range nv)) (hl:∀p∈P,2≤p.2∧p.1+p.2≤nv) (ha:P.Pairwise fun a b=>a.1+a.2≤b.1) (hk:k<P.length) (hj:j<P[k].2):
 Nu arr nv P k (j+1) (fun x=>if x=arr (P[k].1+j)+1 then (k:Int)+1 else cls x):=by
 have hlk:=hl _ (List.getElem_mem hk)
 have inj:∀i,i<nv→arr i=arr (P[k].1+j)→i=P[k].1+j:=fun i hi e=>Cj hp hi (by omega) e
 refine ⟨fun q hq hqk i hi=>?_,fun _ i hi=>?_,fun i hi h1 h2=>?_⟩
 ·have hlq:=hl _ (List.getElem_mem hq)
  have h1:=List.pairwise_iff_getElem.1 ha q k hq hk hqk
  show (if arr (P[q].1+i)+1=arr (P[k].1+j)+1 then _ else _)=_
  rw[if_neg (fun e=>by have:=inj (P[q].1+i) (by omega) (by omega);omega)]
  exact h.old q hq hqk i hi
 ·show (if arr (P[k].1+i)+1=arr (P[k].1+j)+1 then _ else _)=_
  by_cases e:i=j
  ·subst e;rw[if_pos rfl]
  rw[if_neg (fun e2=>by have:=inj (P[k].1+i) (by omega) (by omega);omega)]
  exact h.cur hk i (by omega)
 show (if arr i+1=arr (P[k].1+j)+1 then _ else _)=_
 have h3:=h2 hk
 rw[if_neg (fun e=>by have:=inj i hi (by omega);omega)]
 exact h.out i hi h1 fun hk=>by have:=h2 hk;omega
theorem Nu.roll (h:Nu arr nv P k j cls) (hk:k<P.length) (hj:j=P[k].2):Nu arr nv P (k+1) 0 cls:=by
 refine ⟨fun q hq hqk i hi=>?_,fun _ i hi=>by omega,fun i hi h1 _=>?_⟩
 ·by_cases e:q=k
  ·subst e;exact h.cur hk i (by omega)
  exact h.old q hq (by omega) i hi
 refine h.out i hi (fun q hq hqk=>h1 q hq (by omega)) fun hk=>?_
 have:=h1 k hk (by omega)
 rw[hj];exact this
theorem Nu.pi {g:Gph} {arr0:Nat→Nat} (h:Nu arr g.nv P P.length 0 cls) (hp:(elems arr g.nv).Perm (List.range g.nv)) (h0:Part0 g arr0 arr P):PI g arr cls P ((P.length:Int)+1):=by
 have old:∀p∈P,∃q,∃hq:q<P.length,p=P[q]∧∀i,i<p.2→cls (arr (p.1+i)+1)=(q:Int)+1:=fun p hpm=>by
  obtain ⟨q,hq,e⟩:=List.getElem_of_mem hpm
  subst e
  exact ⟨q,hq,rfl,h.old q hq hq⟩
 refine ⟨hp,h0.long,h0.apart.imp fun h=>.inl h,fun p hpm i hi=>?_,fun p hpm=>?_,fun p hpm p' hpm' e=>?_,fun i hi hn=>?_,h0.same⟩
 ·obtain ⟨q,hq,_,h1⟩:=old p hpm
  have:=h0.long p hpm
  have h2:cls (arr p.1+1)=(q:Int)+1:=h1 0 (by omega)
  rw[h1 i hi,h2]
 ·obtain ⟨q,hq,_,h1⟩:=old p hpm
  have:=h0.long p hpm
  have h2:cls (arr p.1+1)=(q:Int)+1:=h1 0 (by omega)
  rw[h2];omega
 ·obtain ⟨q,hq,eq,h1⟩:=old p hpm
  obtain ⟨q',hq',eq',h1'⟩:=old p' hpm'
  have:=h0.long p hpm
  have:=h0.long p' hpm'
  have h2:cls (arr p.1+1)=(q:Int)+1:=h1 0 (by omega)
  have h2':cls (arr p'.1+1)=(q':Int)+1:=h1' 0 (by omega)
  rw[h2,h2'] at e
  have:q=q':=by omega
  subst this
  rw[eq,eq']
 exact h.out i hi (fun q hq _=>hn _ (List.getElem_mem hq)) fun hk=>absurd hk (Nat.lt_irrefl _)
end
def comm (k:Nat):Bool:=k == 2 || k == 4 || k == 5 || k == 6 || k == 7 || k == 11 || k == 12
structure St (w:World) (B:Nat) (L:Lay) (b:Bl) (g:Gph) (arr:Nat→Nat) (cls:Nat→Int) (pv:Value) (P:List (Nat×Nat)):Prop where
 rep:GRep w B L g
 ar:BW w L b.A g.nv arr
 ve:w.heap[b.VE]? =some (.cells (cellsOf (fun i=>.int .i32 (cls i)) (g.nv+1)) 88 (0,0))
 fb:w.heap[b.fbx]? =some (.cells #[L.fp] 71 (0,0))
 vb:w.heap[b.vbx]? =some (.cells #[.slice (some ⟨b.VE,0,none⟩) (g.nv+1) (g.nv+1)] 110 (0,0))
 ab:w.heap[b.abx]? =some (.cells #[.slice (some ⟨b.A,0,none⟩) g.nv (g.nv+1)] 78 (0,0))
 row:w.ownsRow b.Eb 113 1 pv P.length (P.map (slV b.A (g.nv+1)))
 ne:pv.ownBlock≠some b.vbx∧pv.ownBlock≠some b.VE
 opt:∀k,k<21→w.cell? ⟨0,k,none⟩=some (.bool (comm k))
section
variable {w w' : World} {B : Nat} {L : Lay} {b : Bl} {g : Gph} {arr : Nat → Nat} {cls : Nat → Int} {pv : Value} {P : List (Nat × Nat)}
theorem Bg {o:Obj} {k:Nat} (h:w.heap[k]? =some o):k<w.heap.size:=(Array.getElem?_eq_some_iff.1 h).1
theorem St.same (h:St w B L b g arr cls pv P) (hk:∀k,k<w.heap.size→w'.heap[k]? =w.heap[k]?):St w' B L b g arr cls pv P:=
 ⟨h.rep.keep hk,(hk _ (Bg h.ar)).trans h.ar,(hk _ (Bg h.ve)).trans h.ve,(hk _ (Bg h.fb)).trans h.fb,(hk _ (Bg h.vb)).trans h.vb,(hk _ (Bg h.ab)).trans h.ab,Ax h.row fun k e=>hk k (As h.row k e).2,h.ne,fun k hk2=>(World.cell?_of_block (a:=⟨0,k,none⟩) (hk 0 (by have:=Br h.rep;omega))).trans (h.opt k hk2)⟩
theorem St.below (h:St w B L b g arr cls pv P) (hb:Below w.heap.size w w'):St w' B L b g arr cls pv P:=h.same fun k hk=>hb.block k hk
theorem St.setVE (h:St w B L b g arr cls pv P) (hE:GE b.E L g) (hb:b.Ok) (s:Nat) (z:Int):St (w.setCell ⟨b.VE,0+s,none⟩ (.int .i32 z)) B L b g arr (fun x=>if x=s then z else cls x) pv P:=by
 have hoth:∀k,k≠b.VE→(w.setCell ⟨b.VE,0+s,none⟩ (.int .i32 z)).heap[k]? =w.heap[k]? :=fun k hk=>Below.heap_setCell _ _ _ _ hk
 have h1:=hb.e
 have h2:=hb.n1
 have h3:=hb.n2
 refine ⟨h.rep.keepE hE fun k hk=>hoth k (by omega),(hoth _ (by omega)).trans h.ar,?_,(hoth _ (by omega)).trans h.fb,(hoth _ (by omega)).trans h.vb,(hoth _ (by omega)).trans h.ab,Ax h.row fun k e=>hoth k (fun e2=>h.ne.2 (by rw[e,e2])),h.ne,fun k hk2=>(World.cell?_of_block (a:=⟨0,k,none⟩) (hoth 0 (by have:=hE.fb;omega))).trans (h.opt k hk2)⟩
 rw[AC h.ve,cellsOf_set]
 congr 2
 refine BA fun i _=>?_
 by_cases e:i=s
 ·rw[if_pos (by omega),if_pos e]
 rw[if_neg (by omega),if_neg e]
theorem St.vec (h:St w B L b g arr cls pv P) {v:Nat} (hv:v<g.nv):w.cell? ⟨b.VE,0+(v+1),none⟩=some (.int .i32 (cls (v+1))):=Am h.ve (by rw[Nat.zero_add];exact Bf _ (by omega))
theorem St.arc (h:St w B L b g arr cls pv P) {i:Nat} (hi:i<g.nv):w.cell? ⟨b.A,i,none⟩=some (L.vp (arr i)):=Am h.ar (by rw[Bf _ (by omega)];unfold arV;rw[if_pos hi])
theorem St.fc (h:St w B L b g arr cls pv P):w.cell? ⟨b.fbx,0,none⟩=some L.fp:=Am h.fb rfl
theorem St.vbc (h:St w B L b g arr cls pv P):w.cell? ⟨b.vbx,0,none⟩=some (.slice (some ⟨b.VE,0,none⟩) (g.nv+1) (g.nv+1)):=Am h.vb rfl
end
set_option maxHeartbeats 4000000
attribute [local irreducible] EC EL DL Ret thenQ blockQ Bi bodyQ onlyN execOp Sem.run World.cell? World.frozen? World.setCell World.alloc
section
variable {w : World} {B : Nat} {L : Lay} {b : Bl} {g : Gph} {arr : Nat → Nat} {cls : Nat → Int} {pv : Value} {P : List (Nat × Nat)} {Q : Exit → Env → World → Prop} {t : Nat → Value}
theorem cseB2 (hs:St w B L b g arr cls pv P) (hz:∀x,x=0∨g.nv<x→cls x=0) (hE:GE b.E L g) (hb:b.Ok) (hn:g.nv≤48) (hnb:g.nb≤9) (hbv:∀k,k<g.nb→∀v∈g.bvals k,v<g.nv) (hperm:(preK g g.nb).Perm (List.range g.nv))
 (h:∀t w' cls',St w' B L b g arr cls' pv P→(∀x,x=0∨g.nv<x→cls' x=0)→(∀v,v<g.nv→cls' (v+1)= -((v:Int)+1))→Only (fun j=>j=b.VE) w w'→
   EC Tryz.prog Tryz.f41.ntmps (dropC 10 BZ) Q (Env.sets ⟨t,[D53 b.VE (g.nv+1),D48 b.fbx b.abx]⟩ [(1,.pointer (some ⟨b.fbx,0,none⟩)),(7,pv),(8,.pointer (some ⟨b.vbx,0,none⟩))]) w'):
 EC Tryz.prog Tryz.f41.ntmps (dropC 9 BZ) Q (Env.sets ⟨t,[D53 b.VE (g.nv+1),D48 b.fbx b.abx]⟩ [(1,.pointer (some ⟨b.fbx,0,none⟩)),(7,pv),(8,.pointer (some ⟨b.vbx,0,none⟩))]) w:=by
 obtain ⟨ds,hds⟩:∃ds,ds=[D53 b.VE (g.nv+1),D48 b.fbx b.abx]:=⟨_,rfl⟩
 rw[← hds] at h ⊢
 obtain ⟨fa,fc,hfs⟩:=hs.rep.fblocksV
 have htot:(preK g g.nb).length=g.nv:=by rw[hperm.length_eq,List.length_range]
 have h1:=hs.rep.fBlocks
 rw[hfs] at h1
 have h2:=hs.fc
 refine Ae (Ae (Ac (Ab (Ai rfl (Ag rfl) ‹_›) rfl ?_)))
 refine Ab (Au rfl) rfl (Ab (Al rfl (Ak rfl)) rfl (Ab (Ai rfl (Ag rfl) ‹_›) rfl ?_))
 refine Ab (AN rfl (An rfl)) rfl (Ab Ad rfl (Af (Aa (Ao ?_))))
 refine EC_loop (fun m e w1=>∃k cls,k≤g.nb∧St w1 B L b g arr cls pv P∧(∀x,x=0∨g.nv<x→cls x=0)∧(∀v∈preK g k,cls (v+1)= -((v:Int)+1))∧Only (fun j=>j=b.VE) w w1∧
  AtD e ds [(1,.pointer (some ⟨b.fbx,0,none⟩)),(7,pv),(8,.pointer (some ⟨b.vbx,0,none⟩)),(154,.slice fa g.nb fc),(155,.int .i64 (g.nb:Int)),(156,.int .i64 (k:Int))]∧m=g.nb - k) g.nb
  ⟨0,cls,Nat.zero_le _,hs,hz,fun v hv=>(by cases hv),Only.refl _ _,AT rfl ⟨rfl,rfl,rfl,rfl,rfl,rfl,trivial⟩,rfl⟩ ?_
 clear h1 h2 hs hz
 rintro m e w1 ⟨k,cls,hk,hs,hz,hc,hO,⟨t,rfl⟩,rfl⟩
 refine Ae (Ac (Ab (AX rfl rfl) rfl (Af (Aa (Ae ?_)))))
 refine AI rfl rfl (fun hlt=>?_) (fun hge=>?_)
 rotate_left
 ·have hkn:k=g.nb:=by omega
  rw[hkn] at hc
  refine AK (AB (AD (AA (Aa (Bj ds [(1,.pointer (some ⟨b.fbx,0,none⟩)),(7,pv),(8,.pointer (some ⟨b.vbx,0,none⟩))] rfl ⟨rfl,rfl,rfl,trivial⟩ fun t=>?_)))))
  exact h t w1 cls hs hz (fun v hv=>hc v (hperm.mem_iff.2 (List.mem_range.2 hv))) hO
 have hkn:k<g.nb:=by omega
 refine Aq (Aa ?_)
 obtain ⟨fb,fcc,e1,_,hbc,_⟩:=hs.rep.fblocksE hkn
 rw[hfs] at e1
 injection e1 with e1 _ e3
 subst e1
 obtain ⟨va,vc,hvs⟩:=Row.len (hs.rep.comp (.bvals k) hkn)
 obtain ⟨nk,hnk⟩:∃nk,nk=(g.bvals k).length:=⟨_,rfl⟩
 rw[← hnk] at hvs
 have hkl:nk≤1000:=by
  have h3:=preK_lt g (n:=g.nb) hkn (i:=nk - 1)
  rw[htot,List.length_append,List.length_take] at h3
  by_cases h4:nk=0
  ·omega
  have:=h3 (by omega);omega
 have h1:=hs.rep.bVals hkn
 rw[hvs] at h1
 refine Ae (Ao (Ae (Ac (Ab (x_index1 rfl rfl (An rfl) (by omega)) rfl (Ab (Ai rfl (Ag rfl) ‹_›) rfl ?_)))))
 refine Ab Ah rfl (Af (Aa (Ae (Ac (Ab Ad rfl (Ab (Au rfl) rfl (Ab (Al rfl (Ak rfl)) rfl (Ab (Ai rfl (Ag rfl) ‹_›) rfl ?_))))))))
 refine Ab (AN rfl (An rfl)) rfl (Ab Ad rfl (Af (Aa (Ao ?_))))
 refine EC_loop (fun m e w2=>∃i cls,i≤nk∧St w2 B L b g arr cls pv P∧(∀x,x=0∨g.nv<x→cls x=0)∧(∀v∈preK g k ++ (g.bvals k).take i,cls (v+1)= -((v:Int)+1))∧Only (fun j=>j=b.VE) w w2∧
  AtD e ds [(1,.pointer (some ⟨b.fbx,0,none⟩)),(7,pv),(8,.pointer (some ⟨b.vbx,0,none⟩)),(154,.slice (some ⟨fb,0,none⟩) g.nb fc),(155,.int .i64 (g.nb:Int)),(156,.int .i64 (k:Int)),
   (163,.slice va nk vc),(164,.int .i64 (nk:Int)),(165,.int .i64 (i:Int))]∧m=nk - i) nk
  ⟨0,cls,Nat.zero_le _,hs,hz,by simpa using hc,hO,AT rfl ⟨rfl,rfl,rfl,rfl,rfl,rfl,rfl,rfl,rfl,trivial⟩,rfl⟩ ?_
 clear h1 hs hz hc hO hbc
 rintro m e w2 ⟨i,cls,hi,hs,hz,hc,hO,⟨t,rfl⟩,rfl⟩
 refine Ae (Ac (Ab (AX rfl rfl) rfl (Af (Aa (Ae ?_)))))
 refine AI rfl rfl (fun hlt=>?_) (fun hge=>?_)
 rotate_left
 ·have hin:i=nk:=by omega
  have e:preK g k ++ (g.bvals k).take i=preK g (k+1):=by rw[hin,hnk,List.take_length,Ck]
  rw[e] at hc
  refine AK (AB (AD (AA (Ap (Aa (Ac (Ab (x_inc rfl rfl (by omega)) rfl (Ab Ad rfl (Af ?_)))))))))
  exact Aw (g.nb - (k+1)) (by omega) ⟨k+1,cls,by omega,hs,hz,hc,hO,AT rfl ⟨rfl,rfl,rfl,rfl,rfl,rfl,trivial⟩,rfl⟩
 have hin:i<nk:=by omega
 refine Aq (Aa ?_)
 obtain ⟨vb,vcc,e2,_,hvc,_⟩:=Row.elem (hs.rep.comp (.bvals k) hkn) (k:=i) (by omega)
 rw[hvs] at e2
 injection e2 with e2 _ e4
 subst e2
 obtain ⟨v,hve⟩:∃v,v=(g.bvals k).getD i 0:=⟨_,rfl⟩
 rw[← hve] at hvc
 have hvn:v<g.nv:=by rw[hve];exact hbv k hkn _ (Bq (by omega))
 have hnext:preK g k ++ (g.bvals k).take (i+1)=(preK g k ++ (g.bvals k).take i) ++ [v]:=by
  rw[List.take_add_one,List.append_assoc]
  congr 2
  rw[hve,List.getD_eq_getElem?_getD,List.getElem?_eq_getElem (by omega)];rfl
 refine Ae (Ao (Ae (Ac (Ab (x_index1 rfl rfl (An rfl) (by omega)) rfl (Ab (Ai rfl (Ag rfl) ‹_›) rfl ?_)))))
 refine Ab Ah rfl (Af (Aa ?_))
 have hsd:St w2.drew B L b g arr cls pv P:=hs.same fun _ _=>rfl
 have hOd:Only (fun j=>j=b.VE) w w2.drew:=hO.drew
 have hid:=hsd.rep.vID hvn
 have hvb:=hsd.vbc
 have hvv:=hsd.vec hvn
 have hvf:w2.drew.frozen? ⟨b.VE,0+(v+1),none⟩=false:=AQ hsd.ve
 refine AY mixed (fun w'=>w'=w2.drew) [(0,false),(1,false),(2,false),(3,false),(4,false),(5,false),(6,false),(7,false),(8,false),(9,false),(10,false),(11,true)] (by kernel_rfl) rfl ?_
 generalize w2.drew=W at *
 refine Aj rfl (fun _ hS=>Ai rfl (Ag rfl) (by cases hS;with_reducible assumption)) ?_
 refine Aj rfl (fun _ _=>Ad) (Aj rfl (fun _ _=>Au rfl) (Aj rfl (fun _ _=>Al rfl (Ak rfl)) (Aj rfl (fun _ hS=>Ai rfl (Ag rfl) (by cases hS;with_reducible assumption)) ?_)))
 refine Aj rfl (fun _ _=>Ad) (Aj rfl (fun _ _=>Au rfl) (Aj rfl (fun _ _=>Al rfl (Ak rfl)) (Aj rfl (fun _ hS=>Ai rfl (Ag rfl) (by cases hS;with_reducible assumption)) ?_)))
 refine Aj rfl (fun _ _=>x_neg (c:= -((v:Int)+1)) rfl (by rw[IntWalk.i32_in _ (by omega)];omega)) ?_
 refine Aj rfl (fun _ _=>Ba (i:=v+1) rfl rfl (by omega) (An rfl) (by omega)) (BP rfl (AU (v:=.int .i32 (-((v:Int)+1))) rfl rfl rfl (AH rfl) hvv hvf) (.inl rfl) (AP (Ap (Aa ?_))))
 have hs2:=hsd.setVE hE hb (v+1) (-((v:Int)+1))
 have hO2:=hOd.set (s:=b.VE) (o:=0+(v+1)) (.int .i32 (-((v:Int)+1))) rfl
 change EC _ _ _ _ _ (W.setCell ⟨b.VE,0+(v+1),none⟩ (.int .i32 (-((v:Int)+1))))
 generalize W.setCell ⟨b.VE,0+(v+1),none⟩ (.int .i32 (-((v:Int)+1)))=w3 at hs2 hO2 ⊢
 refine Ac (Ab (x_inc rfl rfl (by omega)) rfl (Ab Ad rfl (Af ?_)))
 refine Aw (nk - (i+1)) (by omega) ⟨i+1,_,by omega,hs2,fun x hx=>(by show (if x=v+1 then _ else _)=_;rw[if_neg (by omega)];exact hz x hx),fun x hx=>?_,hO2,AT rfl ⟨rfl,rfl,rfl,rfl,rfl,rfl,rfl,rfl,rfl,trivial⟩,rfl⟩
 rw[hnext] at hx
 show (if x+1=v+1 then _ else _)=_
 by_cases e:x=v
 ·rw[if_pos (by omega),e]
 rw[if_neg (by omega)]
 rcases List.mem_append.1 hx with h3|h3
 ·exact hc x h3
 exact absurd (by simpa using h3) e
end
end Go.Proofs.YteepnepebilckaaGreatDoor
namespace Go.Proofs.YteepnepebilckaaGreatDoor
open Go Go.Eng Go.RowKit Go.Shelf
theorem GK:Bu Tryz.prog 114 #[.slice none 0 0]:=by unfold Bu;kernel_rfl
set_option maxHeartbeats 4000000
attribute [local irreducible] EC EL DL Ret thenQ blockQ Bi bodyQ onlyN execOp Sem.run World.cell? World.frozen? World.setCell World.alloc
section
variable {w : World} {B : Nat} {L : Lay} {b : Bl} {g : Gph} {arr arr0 : Nat → Nat} {cls : Nat → Int} {pv : Value} {P : List (Nat × Nat)} {Q : Exit → Env → World → Prop} {t : Nat → Value}
theorem cseB3 (hs:St w B L b g arr cls pv P) (hz:∀x,x=0∨g.nv<x→cls x=0) (hE:GE b.E L g) (hb:b.Ok) (hn:g.nv≤48) (hN:∀v,v<g.nv→cls (v+1)= -((v:Int)+1)) (hp:(elems arr g.nv).Perm (List.range g.nv)) (h0:Part0 g arr0 arr P) (hPl:P.length≤48)
 (h:∀t w' cls' mbx,St w' B L b g arr cls' pv P→(∀x,x=0∨g.nv<x→cls' x=0)→Nu arr g.nv P P.length 0 cls'→PI g arr cls' P ((P.length:Int)+1)→w.heap.size≤mbx→mbx<w'.heap.size→Only (fun j=>j=b.VE) w w'→
   EC Tryz.prog Tryz.f41.ntmps (dropC 14 BZ) Q (Env.sets ⟨t,[D53 b.VE (g.nv+1),D48 b.fbx b.abx]⟩ [(1,.pointer (some ⟨b.fbx,0,none⟩)),(7,pv),(8,.pointer (some ⟨b.vbx,0,none⟩)),(13,.int .i32 ((P.length:Int)+1)),(18,.pointer (some ⟨mbx,0,none⟩)),(19,.slice none 0 0)]) w'):
 EC Tryz.prog Tryz.f41.ntmps (dropC 10 BZ) Q (Env.sets ⟨t,[D53 b.VE (g.nv+1),D48 b.fbx b.abx]⟩ [(1,.pointer (some ⟨b.fbx,0,none⟩)),(7,pv),(8,.pointer (some ⟨b.vbx,0,none⟩))]) w:=by
 obtain ⟨ds,hds⟩:∃ds,ds=[D53 b.VE (g.nv+1),D48 b.fbx b.abx]:=⟨_,rfl⟩
 rw[← hds] at h ⊢
 obtain ⟨pa,pc,hpv⟩:=Bx hs.row
 subst hpv
 refine Ae (Ac (Ab Ah rfl (Af (Aa (Ae (Ae (Ac (Ab Ad rfl (Ab (AN rfl (An rfl)) rfl (Ab Ad rfl (Af ?_)))))))))))
 refine Aa (Ao ?_)
 have hNu0:Nu arr g.nv P 0 0 cls:=⟨fun q _ h=>absurd h (Nat.not_lt_zero _),fun _ i hi=>absurd hi (Nat.not_lt_zero _),fun i hi _ _=>hN _ (BR hp hi)⟩
 refine EC_loop (fun m e w1=>∃k cls,k≤P.length∧St w1 B L b g arr cls (.slice pa P.length pc) P∧(∀x,x=0∨g.nv<x→cls x=0)∧Nu arr g.nv P k 0 cls∧Only (fun j=>j=b.VE) w w1∧
  AtD e ds [(1,.pointer (some ⟨b.fbx,0,none⟩)),(7,.slice pa P.length pc),(8,.pointer (some ⟨b.vbx,0,none⟩)),(13,.int .i32 ((k:Int)+1)),(182,.slice pa P.length pc),(183,.int .i64 (P.length:Int)),(184,.int .i64 (k:Int))]∧m=P.length - k) P.length
  ⟨0,cls,Nat.zero_le _,hs,hz,hNu0,Only.refl _ _,AT rfl ⟨rfl,rfl,rfl,rfl,rfl,rfl,rfl,trivial⟩,rfl⟩ ?_
 clear hs hz hNu0
 rintro m e w1 ⟨k,cls,hk,hs,hz,hNu,hO,⟨t,rfl⟩,rfl⟩
 refine Ae (Ac (Ab (AX rfl rfl) rfl (Af (Aa (Ae ?_)))))
 refine AI rfl rfl (fun hlt=>?_) (fun hge=>?_)
 rotate_left
 ·have hkp:k=P.length:=by omega
  subst hkp
  refine AK (AB (AD (AA (Aa ?_))))
  have hpi:=hNu.pi hp h0
  refine Ae (Ac (Ab (A9 GK) rfl ?_))
  obtain ⟨mbx,hmbx⟩:∃mbx,mbx=w1.heap.size:=⟨_,rfl⟩
  have hsz:=hO.size
  refine el_new0 (.cells #[.slice none 0 0] 114) fun w2 hN2 hO2 hZ2 hB2 hK2=>?_
  rw[← hmbx] at hN2 ⊢
  have hs2:=hs.below hB2
  refine Af (Aa (Ae (Ac (Ab Ah rfl (Af (Aa (Bj ds [(1,.pointer (some ⟨b.fbx,0,none⟩)),(7,.slice pa P.length pc),(8,.pointer (some ⟨b.vbx,0,none⟩)),(13,.int .i32 ((P.length:Int)+1)),(18,.pointer (some ⟨mbx,0,none⟩)),(19,.slice none 0 0)] rfl ⟨rfl,rfl,rfl,rfl,rfl,rfl,trivial⟩ fun t=>?_)))))))
  exact h t w2 cls mbx hs2 hz hNu hpi (by omega) (by omega) (hO.bel (by omega) hB2)
 have hkp:k<P.length:=by omega
 refine Aq (Aa ?_)
 obtain ⟨gb,capb,e1,hgb,hgb2,_,hcell⟩:=row_form (w:=w1) (base:=b.Eb) (el:=113) (v:=.slice pa P.length pc) (xs:=P.map (slV b.A (g.nv+1))) (by rw[List.length_map];exact hs.row) (k:=k) (by rw[List.length_map];exact hkp)
 rw[List.length_map] at e1
 injection e1 with e1 _ e3
 subst e1
 subst e3
 have hpk:(P.map (slV b.A (g.nv+1)))[k]'(by rw[List.length_map];exact hkp)=slV b.A (g.nv+1) P[k]:=List.getElem_map ..
 rw[hpk] at hcell
 have hlk:=h0.long _ (List.getElem_mem hkp)
 obtain ⟨o,ho⟩:∃o,o=P[k].1:=⟨_,rfl⟩
 obtain ⟨n,hn'⟩:∃n,n=P[k].2:=⟨_,rfl⟩
 have hcell:w1.cell? ⟨gb,0+k,none⟩=some (.slice (some ⟨b.A,o,none⟩) n (g.nv+1 - o)):=by rw[hcell,ho,hn'];rfl
 rw[← ho,← hn'] at hlk
 refine Ae (Ao (Ae (Ac (Ab (x_index1 rfl rfl (An rfl) (by omega)) rfl (Ab (Ai rfl (Ag rfl) ‹_›) rfl ?_)))))
 refine Ab Ah rfl (Af (Aa ?_))
 refine AW (fun e w2=>∃cls,St w2 B L b g arr cls (.slice (some ⟨gb,0,none⟩) P.length pc) P∧(∀x,x=0∨g.nv<x→cls x=0)∧Nu arr g.nv P k n cls∧Only (fun j=>j=b.VE) w w2∧
  AtD e ds [(1,.pointer (some ⟨b.fbx,0,none⟩)),(7,.slice (some ⟨gb,0,none⟩) P.length pc),(8,.pointer (some ⟨b.vbx,0,none⟩)),(13,.int .i32 ((k:Int)+1)),(182,.slice (some ⟨gb,0,none⟩) P.length pc),(183,.int .i64 (P.length:Int)),(184,.int .i64 (k:Int))]) ?_ ?_
 ·refine Ae (Ac (Ab Ad rfl (Ab (AN rfl (An rfl)) rfl (Ab Ad rfl (Af (Aa (Ao ?_)))))))
  refine EC_loop (fun m e w2=>∃j cls,j≤n∧St w2 B L b g arr cls (.slice (some ⟨gb,0,none⟩) P.length pc) P∧(∀x,x=0∨g.nv<x→cls x=0)∧Nu arr g.nv P k j cls∧Only (fun j=>j=b.VE) w w2∧
   AtD e ds [(1,.pointer (some ⟨b.fbx,0,none⟩)),(7,.slice (some ⟨gb,0,none⟩) P.length pc),(8,.pointer (some ⟨b.vbx,0,none⟩)),(13,.int .i32 ((k:Int)+1)),(182,.slice (some ⟨gb,0,none⟩) P.length pc),(183,.int .i64 (P.length:Int)),(184,.int .i64 (k:Int)),
    (188,.slice (some ⟨b.A,o,none⟩) n (g.nv+1 - o)),(189,.int .i64 (n:Int)),(190,.int .i64 (j:Int))]∧m=n - j) n
   ⟨0,cls,Nat.zero_le _,hs,hz,hNu,hO,AT rfl ⟨rfl,rfl,rfl,rfl,rfl,rfl,rfl,rfl,rfl,rfl,trivial⟩,rfl⟩ ?_
  clear hs hz hNu hO hcell
  rintro m e w2 ⟨j,cls,hj,hs,hz,hNu,hO,⟨t,rfl⟩,rfl⟩
  refine Ae (Ac (Ab (AX rfl rfl) rfl (Af (Aa (Ae ?_)))))
  refine AI rfl rfl (fun hlt=>?_) (fun hge=>?_)
  rotate_left
  ·have hjn:j=n:=by omega
   subst hjn
   refine AK (AB (AD (AA ?_)))
   exact AR ⟨cls,hs,hz,hNu,hO,AT rfl ⟨rfl,rfl,rfl,rfl,rfl,rfl,rfl,trivial⟩⟩
  have hjn:j<n:=by omega
  refine Aq (Aa ?_)
  have h1:=hs.arc (i:=o+j) (by omega)
  have hvn:arr (o+j)<g.nv:=BR hp (by omega)
  obtain ⟨v,hv⟩:∃v,v=arr (o+j):=⟨_,rfl⟩
  rw[← hv] at h1 hvn
  refine Ae (Ao (Ae (Ac (Ab (x_index1 rfl rfl (An rfl) (by omega)) rfl (Ab (Ai rfl (Ag rfl) ‹_›) rfl ?_)))))
  refine Ab Ah rfl (Af (Aa ?_))
  have hsd:St w2.drew B L b g arr cls (.slice (some ⟨gb,0,none⟩) P.length pc) P:=hs.same fun _ _=>rfl
  have hOd:Only (fun j=>j=b.VE) w w2.drew:=hO.drew
  have hid:=hsd.rep.vID hvn
  have hvb:=hsd.vbc
  have hvv:=hsd.vec hvn
  have hvf:w2.drew.frozen? ⟨b.VE,0+(v+1),none⟩=false:=AQ hsd.ve
  refine AY mixed (fun w'=>w'=w2.drew) [(0,false),(1,false),(2,false),(3,false),(4,false),(5,false),(6,false),(7,true)] (by kernel_rfl) rfl ?_
  generalize w2.drew=W at *
  refine Aj rfl (fun _ hS=>Ai rfl (Ag rfl) (by cases hS;with_reducible assumption)) ?_
  refine Aj rfl (fun _ _=>Ad) (Aj rfl (fun _ _=>Au rfl) (Aj rfl (fun _ _=>Al rfl (Ak rfl)) (Aj rfl (fun _ hS=>Ai rfl (Ag rfl) (by cases hS;with_reducible assumption)) ?_)))
  refine Aj rfl (fun _ _=>Ad) (Aj rfl (fun _ _=>Ba (i:=v+1) rfl rfl (by omega) (An rfl) (by omega)) (BP rfl (AU (v:=.int .i32 ((k:Int)+1)) rfl rfl rfl (AH rfl) hvv hvf) (.inl rfl) (AP (Ap (Aa ?_)))))
  have hs2:=hsd.setVE hE hb (v+1) ((k:Int)+1)
  have hO2:=hOd.set (s:=b.VE) (o:=0+(v+1)) (.int .i32 ((k:Int)+1)) rfl
  change EC _ _ _ _ _ (W.setCell ⟨b.VE,0+(v+1),none⟩ (.int .i32 ((k:Int)+1)))
  generalize W.setCell ⟨b.VE,0+(v+1),none⟩ (.int .i32 ((k:Int)+1))=w3 at hs2 hO2 ⊢
  refine Ac (Ab (x_inc rfl rfl (by omega)) rfl (Ab Ad rfl (Af ?_)))
  have hnx:=hNu.next hp h0.long h0.apart hkp (by omega)
  rw[← ho,← hv] at hnx
  exact Aw (n - (j+1)) (by omega) ⟨j+1,_,by omega,hs2,fun x hx=>(by show (if x=v+1 then _ else _)=_;rw[if_neg (by omega)];exact hz x hx),hnx,hO2,AT rfl ⟨rfl,rfl,rfl,rfl,rfl,rfl,rfl,rfl,rfl,rfl,trivial⟩,rfl⟩
 rintro e w2 ⟨cls,hs,hz,hNu,hO,⟨t,rfl⟩⟩
 refine Ac (Ab Ad rfl (Ab (Cq (c:=((k+1:Nat):Int)+1) rfl rfl (by rw[IntWalk.i32_in _ (by omega)];omega)) rfl ?_))
 refine Ab Ah rfl (Af (Ap (Aa (Ac (Ab (x_inc rfl rfl (by omega)) rfl (Ab Ad rfl (Af ?_)))))))
 exact Aw (P.length - (k+1)) (by omega) ⟨k+1,cls,by omega,hs,hz,hNu.roll hkp hn',hO,AT rfl ⟨rfl,rfl,rfl,rfl,rfl,rfl,rfl,trivial⟩,rfl⟩
end
end Go.Proofs.YteepnepebilckaaGreatDoor
namespace Go.Proofs.YteepnepebilckaaGreatDoor
open Go Go.Eng Go.RowKit Go.Shelf
def unB:Code→Code
 |.block _ c=>c
 |.loop c=>c
 |c=>c
def fstC:Code→Code
 |.seq a _=>a
 |c=>c
def sndC:Code→Code
 |.seq _ b=>b
 |c=>c
noncomputable def BH:Code:=unB (fstC (sndC (unB (unB (sndC (fstC (sndC (unB (unB (unB (fstC (dropC 14 BZ))))))))))))
def ordA (cls:Nat→Int):List Nat→List Nat
 | [a,b]=>if cls (b+1)<cls (a+1) then [b,a] else [a,b]
 |l=>l
theorem Dp (cls:Nat→Int) (a b:Nat):ordA cls [a,b]=if cls (b+1)<cls (a+1) then [b,a] else [a,b]:=rfl
def inC (arr:Nat→Nat) (o j v:Nat):Bool:=(List.range j).any fun i=>v == arr (o+i)
def gsw (g:Gph) (cls:Nat→Int) (arr:Nat→Nat) (o j:Nat):Gph:= { g with args:=fun v=>if inC arr o j v then ordA cls (g.args v) else g.args v }
theorem DN {arr:Nat→Nat} {o j v:Nat}:inC arr o j v=true↔∃i,i<j∧v=arr (o+i):=by
 simp [inC]
theorem D8 (g:Gph) (cls:Nat→Int) (arr:Nat→Nat) (o:Nat):gsw g cls arr o 0=g:=by
 unfold gsw inC
 simp
theorem Gu {g:Gph} {cls:Nat→Int} {arr:Nat→Nat} {o j:Nat} (x:Nat) (hx:x≠arr (o+j)):(gsw g cls arr o (j+1)).args x=(gsw g cls arr o j).args x:=by
 show (if inC arr o (j+1) x then _ else _)=if inC arr o j x then _ else _
 have:inC arr o (j+1) x=inC arr o j x:=by
  unfold inC
  rw[List.range_succ,List.any_append]
  simp [hx]
 rw[this]
theorem gsw_self {g:Gph} {cls:Nat→Int} {arr:Nat→Nat} {o j:Nat}:(gsw g cls arr o (j+1)).args (arr (o+j))=ordA cls (g.args (arr (o+j))):=by
 show (if inC arr o (j+1) (arr (o+j)) then _ else _)=_
 rw[if_pos (DN.2 ⟨j,Nat.lt_succ_self _,rfl⟩)]
theorem G9 {g:Gph} {cls:Nat→Int} {arr:Nat→Nat} {o j:Nat} (hin:∀i,i<j→arr (o+i)≠arr (o+j)):(gsw g cls arr o j).args (arr (o+j))=g.args (arr (o+j)):=by
 show (if inC arr o j (arr (o+j)) then _ else _)=_
 rw[if_neg]
 intro h
 obtain ⟨i,hi,e⟩:=DN.1 h
 exact hin i hi e.symm
section
variable {w : World} {B : Nat} {L : Lay} {b : Bl} {g : Gph} {arr : Nat → Nat} {cls : Nat → Int} {pv : Value} {P : List (Nat × Nat)}
theorem St.setArg (h:St w B L b g arr cls pv P) (hE:GE b.E L g) (hb:b.Ok) (hB:0<B) {v k j ab:Nat} (hv:v<g.nv) (hk:k<(g.args v).length) (hab:(L.sl (.args v)).ownBlock=some ab):
 St (w.setCell ⟨ab,0+k,none⟩ (L.vp j)) B L b (g.setArg v k j) arr cls pv P:=by
 have hoth:∀q,q≠ab→(w.setCell ⟨ab,0+k,none⟩ (L.vp j)).heap[q]? =w.heap[q]? :=fun q hq=>Below.heap_setCell _ _ _ _ hq
 have hl:=hE.sl (.args v) rfl hv ab hab
 have hlo:=(Row.lt (h.rep.comp (.args v) hv) ab hab).1
 have h1:=hb.e
 have h3:=hb.hi
 refine ⟨by rw[Nat.zero_add];exact h.rep.setArg hv hk hab,(hoth _ (by omega)).trans h.ar,(hoth _ (by omega)).trans h.ve,(hoth _ (by omega)).trans h.fb,(hoth _ (by omega)).trans h.vb,(hoth _ (by omega)).trans h.ab,
  Ax h.row fun q e=>hoth q (by have:=(As h.row q e).1;omega),h.ne,fun q hq=>(World.cell?_of_block (a:=⟨0,q,none⟩) (hoth 0 (by omega))).trans (h.opt q hq)⟩
theorem GE.setArg {E:Nat} (h:GE E L g) (v k j:Nat):GE E L (g.setArg v k j):=⟨h.fb,h.bb,h.vb,fun τ hτ hl=>h.sl τ hτ (by cases τ <;> exact hl)⟩
theorem GE.gsw {E:Nat} (h:GE E L g) (j o:Nat):GE E L (gsw g cls arr o j):=⟨h.fb,h.bb,h.vb,fun τ hτ hl=>h.sl τ hτ (by cases τ <;> exact hl)⟩
end
theorem x_indexTab {w:World} {ρ:Operand→Value} {d:Option Tmp} {ty:TypeId} {pos:String} {af:Array Edge} {g:Option (Nat×Bool)} {x y:Operand} {k:Nat} {ik:IntKind} (hx:ρ x= .pointer (some ⟨0,0,none⟩)) (hy:ρ y= .int ik (k:Int)) (hk:k<21):
 (execOp ρ ⟨d,.indexAddr 117 x y,ty,pos,af,g⟩).run Tryz.prog w= .ok (.value (.pointer (some ⟨0,k,none⟩))) w:=by
 have h1:Tryz.prog.arrayLen 117=21:=by kernel_rfl
 have h2:Tryz.prog.elem 117=116:=by kernel_rfl
 have h3:(sizeOf 116).run Tryz.prog w= .ok 1 w:=by kernel_rfl
 have h4:Tryz.prog.underlying 117=some (.array (Tryz.prog.arrayLen 117) (Tryz.prog.elem 117)):=by kernel_rfl
 have key:=run_indexAt_array (P:=Tryz.prog) w 117 ⟨0,0,none⟩ ik (k:Int) h4
 rw[h1,h2,h3,if_pos (by omega)] at key
 simp [Addr.add] at key
 simp [execOp,hx,hy,key]
 intro h
 exact h.symm
def planS:PT:=.rd 0 (.rd 1 (.rd 2 (.rd 3 (.rd 4 (.rd 5 (.rd 6 (.rd 7 (.rd 8 (.rd 9 (.rd 10 (.rd 11 (.rd 12 (.rd 13 (.rd 14 (.rd 15 (.rd 16 (.rd 17 (.rd 18 (.rd 19 (.rd 20 (.wr true 21 (.wr true 22 (.wr true 23 .nil)))))))))))))))))))))))
set_option maxHeartbeats 4000000
attribute [local irreducible] EC EL DL Ret thenQ blockQ Bi bodyQ onlyN execOp Sem.run World.cell? World.frozen? World.setCell World.alloc
section
variable {w : World} {B : Nat} {L : Lay} {b : Bl} {g : Gph} {arr : Nat → Nat} {cls : Nat → Int} {pv sp : Value} {P : List (Nat × Nat)} {Q : Exit → Env → World → Prop} {t : Nat → Value} {ds : List Deferred} {pn : Int} {mbx i o n : Nat} {chg : Bool}
theorem cseD1 (hs:St w B L b g arr cls pv P) (hE:GE b.E L g) (hb:b.Ok) (hB:0<B) (hn:g.nv≤48) (hp:(elems arr g.nv).Perm (List.range g.nv)) (ho:o+n≤g.nv) (hn1:0<n)
 (hop:∀v,v<g.nv→0≤g.op v∧g.op v≤15) (hsame:∀i,i<n→g.op (arr (o+i))=g.op (arr o)) (h2:∀v,v<g.nv→comm (g.op v).toNat=true→(g.args v).length=2) (ha:∀v,v<g.nv→∀x∈g.args v,x<g.nv)
 (h:∀t w',St w' B L b (gsw g cls arr o (if comm (g.op (arr o)).toNat then n else 0)) arr cls pv P→Below B w w'→Only (fun j=>j<b.E) w w'→
   EC Tryz.prog Tryz.f41.ntmps (dropC 2 BH) Q (Env.sets ⟨t,ds⟩ [(1,.pointer (some ⟨b.fbx,0,none⟩)),(7,pv),(8,.pointer (some ⟨b.vbx,0,none⟩)),(13,.int .i32 pn),(18,.pointer (some ⟨mbx,0,none⟩)),(19,sp),(20,.bool chg),(21,.int .i64 (i:Int)),(22,.slice (some ⟨b.A,o,none⟩) n (g.nv+1 - o))]) w'):
 EC Tryz.prog Tryz.f41.ntmps (dropC 1 BH) Q (Env.sets ⟨t,ds⟩ [(1,.pointer (some ⟨b.fbx,0,none⟩)),(7,pv),(8,.pointer (some ⟨b.vbx,0,none⟩)),(13,.int .i32 pn),(18,.pointer (some ⟨mbx,0,none⟩)),(19,sp),(20,.bool chg),(21,.int .i64 (i:Int)),(22,.slice (some ⟨b.A,o,none⟩) n (g.nv+1 - o))]) w:=by
 have hv0:arr o<g.nv:=BR hp (by omega)
 have h1:w.cell? ⟨b.A,o+0,none⟩=some (L.vp (arr o)):=hs.arc (i:=o) (by omega)
 obtain ⟨k,hk⟩:∃k:Nat,g.op (arr o)=(k:Int):=⟨_,(Int.toNat_of_nonneg (hop _ hv0).1).symm⟩
 have hk15:k≤15:=by have:=(hop _ hv0).2;omega
 have hov:=hs.rep.vOp hv0
 have hcm:=hs.opt k (by omega)
 have hkn:(g.op (arr o)).toNat=k:=by rw[hk];rfl
 rw[hkn] at h
 refine Ae (Ae (Ac (Ab Ad rfl (Ab (x_index1 rfl rfl (An rfl) (by omega)) rfl (Ab (Ai rfl (Ag rfl) ‹_›) rfl ?_)))))
 refine Ab (Au rfl) rfl (Ab (Al rfl (Ak rfl)) rfl (Ab (Ai rfl (Ag rfl) ‹_›) rfl ?_))
 refine Ab (x_indexTab (k:=k) rfl (congrArg (Value.int .i64) hk) (by omega)) rfl (Ab (Al rfl (Ak rfl)) rfl (Ab (Ai rfl (Ag rfl) hcm) rfl (Af (Aa ?_))))
 cases hc:comm k with
 |false=>
  refine Bh rfl rfl (Aq (Aa ?_))
  rw[hc,if_neg (by simp),D8] at h
  refine Bj ds [(1,.pointer (some ⟨b.fbx,0,none⟩)),(7,pv),(8,.pointer (some ⟨b.vbx,0,none⟩)),(13,.int .i32 pn),(18,.pointer (some ⟨mbx,0,none⟩)),(19,sp),(20,.bool chg),(21,.int .i64 (i:Int)),(22,.slice (some ⟨b.A,o,none⟩) n (g.nv+1 - o))] rfl ⟨rfl,rfl,rfl,rfl,rfl,rfl,rfl,rfl,rfl,trivial⟩ fun t=>?_
  exact h t w hs (Below.refl _ _) (Only.refl _ _)
 |true=>
  refine Bm rfl rfl ?_
  rw[hc,if_pos rfl] at h
  refine Ae (Ac (Ab Ad rfl (Ab (AN rfl (An rfl)) rfl (Ab Ad rfl (Af (Aa (Ao ?_)))))))
  refine EC_loop (fun m e w1=>∃j,j≤n∧St w1 B L b (gsw g cls arr o j) arr cls pv P∧Below B w w1∧Only (fun j=>j<b.E) w w1∧AtD e ds [(1,.pointer (some ⟨b.fbx,0,none⟩)),(7,pv),(8,.pointer (some ⟨b.vbx,0,none⟩)),(13,.int .i32 pn),(18,.pointer (some ⟨mbx,0,none⟩)),(19,sp),(20,.bool chg),(21,.int .i64 (i:Int)),(22,.slice (some ⟨b.A,o,none⟩) n (g.nv+1 - o)),(224,.slice (some ⟨b.A,o,none⟩) n (g.nv+1 - o)),(225,.int .i64 (n:Int)),(226,.int .i64 (j:Int))]∧m=n - j) n
   ⟨0,Nat.zero_le _,by rw[D8];exact hs,Below.refl _ _,Only.refl _ _,AT rfl ⟨rfl,rfl,rfl,rfl,rfl,rfl,rfl,rfl,rfl,rfl,rfl,rfl,trivial⟩,rfl⟩ ?_
  clear hs h1 hov hcm
  rintro m e w1 ⟨j,hj,hs,hbl,hOl,⟨t,rfl⟩,rfl⟩
  refine Ae (Ac (Ab (AX rfl rfl) rfl (Af (Aa (Ae ?_)))))
  refine AI rfl rfl (fun hlt=>?_) (fun hge=>?_)
  rotate_left
  ·have hjn:j=n:=by omega
   rw[hjn] at hs
   refine AK (AB (AD (AA (Aa (Bj ds [(1,.pointer (some ⟨b.fbx,0,none⟩)),(7,pv),(8,.pointer (some ⟨b.vbx,0,none⟩)),(13,.int .i32 pn),(18,.pointer (some ⟨mbx,0,none⟩)),(19,sp),(20,.bool chg),(21,.int .i64 (i:Int)),(22,.slice (some ⟨b.A,o,none⟩) n (g.nv+1 - o))] rfl ⟨rfl,rfl,rfl,rfl,rfl,rfl,rfl,rfl,rfl,trivial⟩ fun t=>?_)))))
   exact h t w1 hs hbl hOl
  have hjn:j<n:=by omega
  refine Aq (Aa ?_)
  obtain ⟨v,hv⟩:∃v,v=arr (o+j):=⟨_,rfl⟩
  have hvn:v<g.nv:=by rw[hv];exact BR hp (by omega)
  have hl2:(g.args v).length=2:=h2 v hvn (by rw[hv,hsame j hjn,hkn];exact hc)
  have hargs:(gsw g cls arr o j).args v=g.args v:=by
   rw[hv]
   exact G9 fun i hi e=>by have:=Cj hp (show o+i<g.nv by omega) (show o+j<g.nv by omega) e;omega
  obtain ⟨a0,a1,hab⟩:∃a0 a1,g.args v=[a0,a1]:=by
   match hm:g.args v with
   | [x,y]=>exact ⟨x,y,rfl⟩
   | []=>rw[hm] at hl2;simp at hl2
   | [x]=>rw[hm] at hl2;simp at hl2
   |x :: y :: z :: r=>rw[hm] at hl2;simp at hl2
  have ha0:a0<g.nv:=ha v hvn a0 (by rw[hab];simp)
  have ha1:a1<g.nv:=ha v hvn a1 (by rw[hab];simp)
  have hga:(gsw g cls arr o j).args v=[a0,a1]:=hargs.trans hab
  have hself:(gsw g cls arr o (j+1)).args v=ordA cls [a0,a1]:=by rw[hv,gsw_self,← hv,hab]
  have hoth:∀x,x≠v→(gsw g cls arr o (j+1)).args x=(gsw g cls arr o j).args x:=fun x hx=>Gu x (by rw[← hv];exact hx)
  have h1:=hs.arc (i:=o+j) (by show o+j<g.nv;omega)
  rw[← hv] at h1
  have hEj:GE b.E L (gsw g cls arr o j):=hE.gsw j o
  obtain ⟨gj,hgj⟩:∃gj,gj=gsw g cls arr o j:=⟨_,rfl⟩
  have hvj:v<gj.nv:=by rw[hgj];exact hvn
  have hnvj:gj.nv=g.nv:=by rw[hgj];rfl
  have ha0j:a0<gj.nv:=by omega
  have ha1j:a1<gj.nv:=by omega
  rw[← hgj] at hs hga hEj
  have hsd:St w1.drew B L b gj arr cls pv P:=hs.same fun _ _=>rfl
  have hbd:Below B w w1.drew:=hbl.drew
  have hOd:Only (fun j=>j<b.E) w w1.drew:=hOl.drew
  obtain ⟨ab,acap,hsl,hob,hc0,hfr⟩:=hsd.rep.argsE hvj (k:=0) (by rw[hga];exact Nat.two_pos)
  obtain ⟨ab',acap',hsl',hob',hc1,_⟩:=hsd.rep.argsE hvj (k:=1) (by rw[hga];exact Nat.one_lt_two)
  rw[hob] at hob'
  injection hob' with hob'
  subst hob'
  rw[hga] at hc0 hc1 hsl
  have hc0:w1.drew.cell? ⟨ab,0+0,none⟩=some (L.vp a0):=hc0
  have hc1:w1.drew.cell? ⟨ab,0+1,none⟩=some (L.vp a1):=hc1
  have hsl:L.sl (.args v)= .slice (some ⟨ab,0,none⟩) 2 acap:=hsl
  have hva:=hsd.rep.vArgs hvj
  rw[hsl] at hva
  have hi0:=hsd.rep.vID ha0j
  have hi1:=hsd.rep.vID ha1j
  have hvb:=hsd.vbc
  rw[hnvj] at hvb
  have he0:=hsd.vec ha0j
  have he1:=hsd.vec ha1j
  refine Ae (Ao (Ae (Ac (Ab (x_index1 rfl rfl (An rfl) (by omega)) rfl (Ab (Ai rfl (Ag rfl) ‹_›) rfl ?_)))))
  refine Ab Ah rfl (Af (Aa (Ae (AY mixed (fun w'=>w'=w1.drew) [(0,false),(1,false),(2,false),(3,false),(4,false),(5,false),(6,false),(7,false),(8,false),(9,false),(10,false),(11,false),(12,false),(13,false),(14,false),(15,false),(16,false),(17,false),(18,false),(19,false),(20,false),(21,false),(22,false),(23,false),(24,false)] (by kernel_rfl) rfl ?_))))
  generalize w1.drew=W at *
  refine Aj rfl (fun _ hS=>Ai rfl (Ag rfl) (by cases hS;with_reducible assumption)) ?_
  refine Aj rfl (fun _ _=>Ad) (Aj rfl (fun _ _=>Au rfl) (Aj rfl (fun _ _=>Al rfl (Ak rfl)) (Aj rfl (fun _ hS=>Ai rfl (Ag rfl) (by cases hS;with_reducible assumption)) ?_)))
  refine Aj rfl (fun _ _=>x_index0 rfl rfl (An rfl) (by omega)) (Aj rfl (fun _ hS=>Ai rfl (Ag rfl) (by cases hS;with_reducible assumption)) ?_)
  refine Aj rfl (fun _ _=>Au rfl) (Aj rfl (fun _ _=>Al rfl (Ak rfl)) (Aj rfl (fun _ hS=>Ai rfl (Ag rfl) (by cases hS;with_reducible assumption)) ?_))
  refine Aj rfl (fun _ _=>Ba (i:=a0+1) rfl rfl (by omega) (An rfl) (by omega)) (Aj rfl (fun _ hS=>Ai rfl (Ag rfl) (by cases hS;with_reducible assumption)) ?_)
  refine Aj rfl (fun _ hS=>Ai rfl (Ag rfl) (by cases hS;with_reducible assumption)) ?_
  refine Aj rfl (fun _ _=>Ad) (Aj rfl (fun _ _=>Au rfl) (Aj rfl (fun _ _=>Al rfl (Ak rfl)) (Aj rfl (fun _ hS=>Ai rfl (Ag rfl) (by cases hS;with_reducible assumption)) ?_)))
  refine Aj rfl (fun _ _=>Ba (i:=1) rfl rfl rfl (An rfl) (by omega)) (Aj rfl (fun _ hS=>Ai rfl (Ag rfl) (by cases hS;with_reducible assumption)) ?_)
  refine Aj rfl (fun _ _=>Au rfl) (Aj rfl (fun _ _=>Al rfl (Ak rfl)) (Aj rfl (fun _ hS=>Ai rfl (Ag rfl) (by cases hS;with_reducible assumption)) ?_))
  refine Aj rfl (fun _ _=>Ba (i:=a1+1) rfl rfl (by omega) (An rfl) (by omega)) (Aj rfl (fun _ hS=>Ai rfl (Ag rfl) (by cases hS;with_reducible assumption)) ?_)
  refine Aj rfl (fun _ _=>BE rfl rfl) (AP (Aa ?_))
  refine AI rfl rfl (fun hgt=>?_) (fun hle=>?_)
  rotate_left
  ·have hfin:gj=gsw g cls arr o (j+1):=by
    rw[hgj]
    show ({ g with args:=(gsw g cls arr o j).args }:Gph)= { g with args:=(gsw g cls arr o (j+1)).args }
    congr 1
    funext x
    by_cases hx:x=v
    ·subst hx
     rw[hself,← hgj,hga]
     rw[Dp,if_neg hle]
    rw[hoth x hx]
   rw[hfin] at hsd
   refine Aq (Ap (Aa (Ac (Ab (x_inc rfl rfl (by omega)) rfl (Ab Ad rfl (Af ?_))))))
   exact Aw (n - (j+1)) (by omega) ⟨j+1,by omega,hsd,hbd,hOd,AT rfl ⟨rfl,rfl,rfl,rfl,rfl,rfl,rfl,rfl,rfl,rfl,rfl,rfl,trivial⟩,rfl⟩
  have hfin:(gj.setArg v 0 a1).setArg v 1 a0=gsw g cls arr o (j+1):=by
   rw[hgj]
   show ({ g with args:=((gsw g cls arr o j).setArg v 0 a1 |>.setArg v 1 a0).args }:Gph)= { g with args:=(gsw g cls arr o (j+1)).args }
   congr 1
   funext x
   by_cases hx:x=v
   ·subst hx
    rw[hself]
    show (if x=x then ((if x=x then ((gsw g cls arr o j).args x).set 0 a1 else _).set 1 a0) else _)=_
    rw[if_pos rfl,if_pos rfl,← hgj,hga]
    rw[Dp,if_pos hgt];rfl
   rw[hoth x hx]
   show (if x=v then _ else if x=v then _ else _)=_
   rw[if_neg hx,if_neg hx]
  have hsd2:St W.drew B L b gj arr cls pv P:=hsd.same fun _ _=>rfl
  have hbd2:Below B w W.drew:=hbd.drew
  have hOd2:Only (fun j=>j<b.E) w W.drew:=hOd.drew
  have hc02:=Keep.drew W _ _ hc0
  have hc12:=Keep.drew W _ _ hc1
  have hva2:=Keep.drew W _ _ hva
  refine D7 mixed (fun w'=>w'=W.drew) planS (by kernel_rfl) rfl ?_
  generalize W.drew=V at *
  clear hc0 hc1 hva hi0 hi1 hvb he0 he1
  refine BI rfl (fun _ _=>Ad) (BI rfl (fun _ _=>Au rfl) (BI rfl (fun _ _=>Al rfl (Ak rfl)) (BI rfl (fun _ hS=>Ai rfl (Ag rfl) (by cases hS;with_reducible assumption)) ?_)))
  refine BI rfl (fun _ _=>Ad) (BI rfl (fun _ _=>Au rfl) (BI rfl (fun _ _=>Al rfl (Ak rfl)) (BI rfl (fun _ hS=>Ai rfl (Ag rfl) (by cases hS;with_reducible assumption)) ?_)))
  refine BI rfl (fun _ _=>Ad) (BI rfl (fun _ _=>Au rfl) (BI rfl (fun _ _=>Al rfl (Ak rfl)) (BI rfl (fun _ hS=>Ai rfl (Ag rfl) (by cases hS;with_reducible assumption)) ?_)))
  refine BI rfl (fun _ _=>Ba (i:=1) rfl rfl rfl (An rfl) (by omega)) (BI rfl (fun _ hS=>Ai rfl (Ag rfl) (by cases hS;with_reducible assumption)) ?_)
  refine BI rfl (fun _ _=>Ad) (BI rfl (fun _ _=>Au rfl) (BI rfl (fun _ _=>Al rfl (Ak rfl)) (BI rfl (fun _ hS=>Ai rfl (Ag rfl) (by cases hS;with_reducible assumption)) ?_)))
  refine BI rfl (fun _ _=>x_index0 rfl rfl (An rfl) (by omega)) (BI rfl (fun _ hS=>Ai rfl (Ag rfl) (by cases hS;with_reducible assumption)) ?_)
  refine BI rfl (fun _ _=>x_index0 rfl rfl (An rfl) (by omega)) ?_
  refine Db rfl (AU (v:=L.vp a1) rfl rfl rfl (AH rfl) hc02 (by
   obtain ⟨ab2,_,_,hob2,_,hfr2⟩:=hsd2.rep.argsE hvj (k:=0) (by rw[hga];exact Nat.two_pos)
   rw[hob] at hob2
   injection hob2 with hob2
   subst hob2
   exact hfr2 _)) ?_
  refine ⟨.inl rfl,?_⟩
  have hs3:=hsd2.setArg hEj hb hB (j:=a1) hvj (show 0<(gj.args v).length by rw[hga];exact Nat.two_pos) hob
  have hbl3:Below B w (V.setCell ⟨ab,0+0,none⟩ (L.vp a1)):=hbd2.setCell (p:=⟨ab,0+0,none⟩) (Row.lt (hsd2.rep.comp (.args v) hvj) ab hob).1 _
  have hl3:((gj.setArg v 0 a1).args v).length=2:=by
   show (if v=v then (gj.args v).set 0 a1 else _).length=2
   rw[if_pos rfl,hga];rfl
  obtain ⟨ab3,_,_,hob3,hc3,hfr3⟩:=hs3.rep.argsE (show v<(gj.setArg v 0 a1).nv from hvj) (k:=1) (by rw[hl3];exact Nat.one_lt_two)
  rw[hob] at hob3
  injection hob3 with hob3
  subst hob3
  refine Dt rfl (Ba (x:=.tmp 262) (y:=.const (.int .i64 1)) (i:=1) rfl rfl rfl (An rfl) (by exact Nat.one_lt_two)) ?_
  refine ⟨.inl rfl,?_⟩
  refine Db rfl (AU (v:=L.vp a0) rfl rfl rfl (AH rfl) hc3 (hfr3 _)) ?_
  refine ⟨.inl rfl,?_⟩
  refine CZ (Ap (Aa ?_))
  have hs4:=hs3.setArg (hEj.setArg v 0 a1) hb hB (v:=v) (k:=1) (j:=a0) hvj (by rw[hl3];exact Nat.one_lt_two) hob
  have habl:ab<b.E:=hEj.sl (.args v) rfl hvj ab hob
  have hO4:=(hOd2.set (s:=ab) (o:=0+0) (L.vp a1) habl).set (s:=ab) (o:=0+1) (L.vp a0) habl
  have hbl4:=hbl3.setCell (p:=⟨ab,0+1,none⟩) (Row.lt (hsd2.rep.comp (.args v) hvj) ab hob).1 (L.vp a0)
  rw[hfin] at hs4
  change EC _ _ _ _ _ ((V.setCell ⟨ab,0+0,none⟩ (L.vp a1)).setCell ⟨ab,0+1,none⟩ (L.vp a0))
  generalize (V.setCell ⟨ab,0+0,none⟩ (L.vp a1)).setCell ⟨ab,0+1,none⟩ (L.vp a0)=w5 at hs4 hbl4 hO4 ⊢
  refine Ac (Ab (x_inc rfl rfl (by omega)) rfl (Ab Ad rfl (Af ?_)))
  exact Aw (n - (j+1)) (by omega) ⟨j+1,by omega,hs4,hbl4,hO4,AT rfl ⟨rfl,rfl,rfl,rfl,rfl,rfl,rfl,rfl,rfl,rfl,rfl,rfl,trivial⟩,rfl⟩
end
end Go.Proofs.YteepnepebilckaaGreatDoor
namespace Go.Proofs.YteepnepebilckaaGreatDoor
open Go Go.Eng Go.RowKit Go.Shelf
def AZ (arr:Nat→Nat) (o n:Nat) (D:List Nat):Nat→Nat:=fun i=>if o≤i∧i<o+n then D.getD (i - o) 0 else arr i
def clsD (arr:Nat→Nat) (o n:Nat):List Nat:=(List.range n).map fun j=>arr (o+j)
theorem BB (arr:Nat→Nat) (o n:Nat):(clsD arr o n).length=n:=by simp [clsD]
theorem BU {arr:Nat→Nat} {o n j:Nat} (h:j<n):(clsD arr o n).getD j 0=arr (o+j):=by
 unfold clsD
 rw[List.getD_eq_getElem?_getD,List.getElem?_map,List.getElem?_range h];rfl
theorem St.sort {w w':World} {B:Nat} {L:Lay} {b:Bl} {g:Gph} {arr arr':Nat→Nat} {cls:Nat→Int} {pv:Value} {P:List (Nat×Nat)} (h:St w B L b g arr cls pv P) (hE:GE b.E L g) (hb:b.Ok) (hO:Only (fun j=>j=b.A) w w') (hA:BW w' L b.A g.nv arr'):
 St w' B L b g arr' cls pv P:=by
 have h1:=hb.e
 have h2:=hb.n1
 have h3:=hb.hi
 have hsz:=Br h.rep
 have hAl:=Bg h.ar
 have hf:=hE.fb
 have hk:∀k,k<w.heap.size→k≠b.A→w'.heap[k]? =w.heap[k]? :=fun k hk hn=>hO.block k hk hn
 exact ⟨h.rep.keepE hE fun k hk2=>hk k (by omega) (by omega),hA,(hk _ (Bg h.ve) (by omega)).trans h.ve,(hk _ (Bg h.fb) (by omega)).trans h.fb,(hk _ (Bg h.vb) (by omega)).trans h.vb,(hk _ (Bg h.ab) (by omega)).trans h.ab,
  Ax h.row fun k e=>hk k (As h.row k e).2 (by have:=(As h.row k e).1;omega),h.ne,fun k hk2=>(World.cell?_of_block (a:=⟨0,k,none⟩) (hk 0 (by omega) (by omega))).trans (h.opt k hk2)⟩
set_option maxHeartbeats 4000000
attribute [local irreducible] EC EL DL Ret thenQ blockQ Bi bodyQ onlyN execOp Sem.run World.cell? World.frozen? World.setCell World.alloc
section
variable {w : World} {B : Nat} {L : Lay} {b : Bl} {g : Gph} {arr : Nat → Nat} {cls : Nat → Int} {pv sp : Value} {P : List (Nat × Nat)} {Q : Exit → Env → World → Prop} {t : Nat → Value} {ds : List Deferred} {pn : Int} {mbx i o n : Nat} {chg : Bool}
theorem cseD2 (hs:St w B L b g arr cls pv P) (hE:GE b.E L g) (hb:b.Ok) (hn:g.nv≤48) (hp:(elems arr g.nv).Perm (List.range g.nv)) (ho:o+n≤g.nv) (hn1:0<n)
 (hlen:∀i,i<n→(g.args (arr (o+i))).length=(g.args (arr o)).length) (hsm:∀v,v<g.nv→(g.args v).length≤1000) (ha:∀v,v<g.nv→∀x∈g.args v,x<g.nv)
 (h:∀t w' D',SortOut (fun x y=>ca cls (g.args x) (g.args y)) (clsD arr o n) D'→St w' B L b g (AZ arr o n D') cls pv P→Only (fun j=>j=b.A) w w'→
   EC Tryz.prog Tryz.f41.ntmps (dropC 3 BH) Q (Env.sets ⟨t,ds⟩ [(1,.pointer (some ⟨b.fbx,0,none⟩)),(7,pv),(8,.pointer (some ⟨b.vbx,0,none⟩)),(13,.int .i32 pn),(18,.pointer (some ⟨mbx,0,none⟩)),(19,sp),(20,.bool chg),(21,.int .i64 (i:Int)),(22,.slice (some ⟨b.A,o,none⟩) n (g.nv+1 - o))]) w'):
 EC Tryz.prog Tryz.f41.ntmps (dropC 2 BH) Q (Env.sets ⟨t,ds⟩ [(1,.pointer (some ⟨b.fbx,0,none⟩)),(7,pv),(8,.pointer (some ⟨b.vbx,0,none⟩)),(13,.int .i32 pn),(18,.pointer (some ⟨mbx,0,none⟩)),(19,sp),(20,.bool chg),(21,.int .i64 (i:Int)),(22,.slice (some ⟨b.A,o,none⟩) n (g.nv+1 - o))]) w:=by
 have hmem:∀x∈clsD arr o n,x<g.nv∧(g.args x).length=(g.args (arr o)).length:=fun x hx=>by
  obtain ⟨j,hj,rfl⟩:=List.mem_map.1 hx
  have hj:=List.mem_range.1 hj
  exact ⟨BR hp (by omega),hlen j hj⟩
 have hcl:=BB arr o n
 have h1:=hb.e
 have h2:=hb.n1
 have hvl:=Bg hs.vb
 have hel:=Bg hs.ve
 have hAl:=Bg hs.ar
 have hswo:Go.Sort.SWO (α:= {v:Nat // v∈clsD arr o n}) (ltOf fun a b=>ca cls (g.args a.1) (g.args b.1)):=by
  have e:(fun a b: {v:Nat // v∈clsD arr o n}=>ca cls (g.args a.1) (g.args b.1))=fun a b=>lexc ((g.args a.1).map fun x=>cls (x+1)) ((g.args b.1).map fun x=>cls (x+1)):=by
   funext a b
   exact ca_lexc cls _ _
  rw[e]
  exact lexc_swo (fun a: {v:Nat // v∈clsD arr o n}=>(g.args a.1).map fun x=>cls (x+1)) fun x y=>by
   rw[List.length_map,List.length_map,(hmem x.1 x.2).2,(hmem y.1 y.2).2]
 have hsr:=sortE_ret (w:=w) (L:=L) (D:=clsD arr o n) (cf:=fun x y=>ca cls (g.args x) (g.args y)) (A:=b.A) (off:=o) (N:=g.nv+1) (cap:=g.nv+1 - o) (gf:=55) (cb:=#[.pointer (some ⟨mbx,0,none⟩),.pointer (some ⟨b.vbx,0,none⟩)]) (R:=arV L arr g.nv) (T:=97)
  (fun e=>by rw[e] at hcl;simp at hcl;omega) (by rw[hcl];omega) (by rw[hcl];omega) hs.ar (fun j hj=>by
    rw[hcl] at hj
    rw[BU hj]
    unfold arV
    rw[if_pos (by omega)]) (enters_of Tryz.func55 (by kernel_rfl) rfl) hswo
  (fun W hW x hx y hy=>cse2_ret (hs.rep.keepE hE fun k hk=>hW.block k (by omega) (by omega)) (hmem x hx).1 (hmem y hy).1 ((hmem x hx).2.trans (hmem y hy).2.symm) (hsm x (hmem x hx).1) (ha x (hmem x hx).1) (ha y (hmem y hy).1)
    ((World.cell?_of_block (a:=⟨b.vbx,0,none⟩) (hW.block b.vbx hvl (by omega))).trans hs.vbc) ((hW.block b.VE hel (by omega)).trans hs.ve))
 rw[hcl] at hsr
 refine Ae (Ac (Ab Ad rfl (Ab (En rfl rfl) rfl (Be (AG Tryz.func54 rfl (by kernel_rfl) rfl rfl) rfl hsr ?_))))
 rintro _ w1 ⟨rfl,D',hso,hrow,hO⟩
 refine Af (Aa ?_)
 have hA1:BW w1 L b.A g.nv (AZ arr o n D'):=by
  unfold BW
  rw[hrow]
  congr 2
  refine BA fun j _=>?_
  unfold arV AZ
  by_cases hj:o≤j∧j<o+n
  ·rw[if_pos hj,if_pos (by omega),if_pos hj]
  rw[if_neg hj]
  by_cases hj2:j<g.nv
  ·rw[if_pos hj2,if_pos hj2,if_neg hj]
  rw[if_neg hj2,if_neg hj2]
 refine Bj ds [(1,.pointer (some ⟨b.fbx,0,none⟩)),(7,pv),(8,.pointer (some ⟨b.vbx,0,none⟩)),(13,.int .i32 pn),(18,.pointer (some ⟨mbx,0,none⟩)),(19,sp),(20,.bool chg),(21,.int .i64 (i:Int)),(22,.slice (some ⟨b.A,o,none⟩) n (g.nv+1 - o))] rfl ⟨rfl,rfl,rfl,rfl,rfl,rfl,rfl,rfl,rfl,trivial⟩ fun t=>?_
 exact h t w1 D' hso (hs.sort hE hb hO hA1) hO
end
end Go.Proofs.YteepnepebilckaaGreatDoor
