/- The law FnAllRun returns true for every input in which the opcode table reads as laid, and its arguments read as they did, the table being tied to the text of the program. -/
import Derived.Test.YteepnepebilckaaGreatDoorCS06
namespace Go.Proofs.YteepnepebilckaaGreatDoor
open Go Go.Eng Go.RowKit
set_option maxHeartbeats 4000000
attribute [local irreducible] EC EL DL Ret thenQ blockQ Bi bodyQ onlyN execOp Sem.run World.cell? World.frozen? World.setCell World.alloc
def FH (g:Gph) (v:Nat):Prop:=∀a∈g.args v,g.op a≠14
theorem Red.noCopy {g g':Gph} (h:Red g g') {v:Nat} (hn:FH g v):g'.args v=g.args v:=by
 apply List.ext_getElem (h.len v)
 intro k h1 h2
 have:=h.stay (x:=v) (k:=k) (by
  rw[List.getD_eq_getElem?_getD,List.getElem?_eq_getElem h2]
  exact hn _ (by simp))
 rw[List.getD_eq_getElem?_getD,List.getElem?_eq_getElem h1,List.getD_eq_getElem?_getD,List.getElem?_eq_getElem h2] at this
 simpa using this
theorem copyelimValue_ret {w:World} {B:Nat} {L:Lay} {g:Gph} {r:Nat→Nat} (h:GRep w B L g) (hc:CInv g r) {v:Nat} (hv:v<g.nv) (hlen:(g.args v).length<4294967296):
 Ret Tryz.prog 74 #[L.vp v] w fun _ w'=>∃g',GRep w' B L g'∧Red g g'∧FH g' v∧(∀k,k<(g.args v).length→Src g ((g.args v).getD k 0) ((g'.args v).getD k 0))∧Below B w w':=by
 have fa:=h.vArgs hv
 obtain ⟨a0,c0,hsl⟩:=h.argsV hv
 rw[hsl] at fa
 refine ret_of_EC Tryz.func74 rfl rfl (Ae (Ac (Ab Ad rfl (Ab (Aw rfl) rfl (Ab (Ak rfl (Al rfl)) rfl (Ab (Ai rfl (Ag rfl) ‹_›) rfl ?_))))))
 refine Ab (AM rfl (An rfl)) rfl (Ab Ad rfl (Af (Aa (Ap ?_))))
 refine EC_loop (fun n e w1=>∃k g1,k≤(g.args v).length∧At e [(0,L.vp v),(7,.slice a0 (g.args v).length c0),(8,.int .i64 ((g.args v).length:Int)),(9,.int .i64 (k:Int))]∧GRep w1 B L g1∧Red g g1∧
  (∀k',k'<k→g1.op ((g1.args v).getD k' 0)≠14)∧(∀k',k'<k→Src g ((g.args v).getD k' 0) ((g1.args v).getD k' 0))∧(∀k',k≤k'→(g1.args v).getD k' 0=(g.args v).getD k' 0)∧Below B w w1∧n=(g.args v).length - k) ((g.args v).length)
  ⟨0,g,Nat.zero_le _,Aq rfl ⟨rfl,rfl,rfl,rfl,trivial⟩,h,.refl,fun k' hk=>absurd hk (Nat.not_lt_zero _),fun k' hk=>absurd hk (Nat.not_lt_zero _),fun _ _=>rfl,Below.refl _ _,rfl⟩ ?_
 rintro n e w1 ⟨k,g1,hk,⟨t,rfl⟩,h1,hred,hdone,hsrcd,htodo,hb,rfl⟩
 have hc1:=hc.reds hred
 have hsm:=hred.same
 have hv1:v<g1.nv:=by rw[hsm.1];exact hv
 have hl1:=hred.len v
 refine Ae (Ac (Ab (AY rfl rfl) rfl (Af (Aa (Ae ?_)))))
 refine AF rfl rfl (fun hlt=>?_) (fun hge=>?_)
 rotate_left
 ·refine AJ (Az (AB (Ay ?_)))
  refine Bw rfl rfl ⟨g1,h1,hred,?_,?_,hb⟩
  ·intro a ha
   obtain ⟨k',hk',rfl⟩:=List.getElem_of_mem ha
   have:=hdone k' (by omega)
   rwa [List.getD_eq_getElem?_getD,List.getElem?_eq_getElem hk'] at this
  intro k' hk'
  exact hsrcd k' (by omega)
 have hlt:k<(g.args v).length:=by omega
 have hk1:k<(g1.args v).length:=by omega
 obtain ⟨b1,c1,hs1,_,f2,_⟩:=h1.argsE hv1 hk1
 rw[hsl] at hs1
 injection hs1 with e1 e2 e3
 subst e1
 have hmem:(g1.args v).getD k 0∈g1.args v:=by rw[List.getD_eq_getElem?_getD,List.getElem?_eq_getElem hk1];simp
 generalize hag:(g1.args v).getD k 0=a at f2 hmem
 have ha:a<g1.nv:=hc1.closed v hv1 a hmem
 have f3:=h1.vOp ha
 have htk:(g.args v).getD k 0=a:=by rw[← htodo k (Nat.le_refl _)];exact hag
 refine Ar (Aa (Ae (Ap (Ae (Ac (Ab Ad rfl (Ab (x_index1 rfl rfl (An rfl) (by omega)) rfl (Ab (Ai rfl (Ag rfl) ‹_›) rfl ?_))))))))
 refine Ab Ah rfl (Ab Ah rfl (Af (Aa (Ae (Ac (Ab Ad rfl (Ab (Aw rfl) rfl (Ab (Ak rfl (Al rfl)) rfl (Ab (Ai rfl (Ag rfl) ‹_›) rfl ?_)))))))))
 refine Ab (A6 rfl rfl) rfl (Af (Aa ?_))
 refine AF rfl rfl (fun hoa=>?_) (fun hoa=>?_)
 rotate_left
 ·refine Ar (Ao (Aa (Ac (Ab (x_inc rfl rfl (by omega)) rfl (Ab Ad rfl (Af ?_))))))
  refine Av ((g.args v).length - (k+1)) (by omega) ⟨k+1,g1,by omega,Aq rfl ⟨rfl,rfl,rfl,rfl,trivial⟩,h1,hred,?_,?_,fun k' hk'=>htodo k' (by omega),hb,rfl⟩
  ·intro k' hk'
   by_cases e:k'=k
   ·subst e;rw[hag];exact hoa
   exact hdone k' (by omega)
  intro k' hk'
  by_cases e:k'=k
  ·subst e
   rw[hag,htk]
   exact .here (by rw[← hsm.2.2.1];exact hoa)
  exact hsrcd k' (by omega)
 refine Ac (Ab Ad rfl (Ab Ad rfl (Ab Ad rfl (Bc (AG Tryz.func88 rfl rfl rfl rfl) rfl (copySource_ret h1 hc1 ha hoa) ?_))))
 rintro _ w2 ⟨s,g2,rfl,h2,hred2,hsrc2,hs,hos,hch,hb2⟩
 have hc2:=hc1.reds hred2
 have hsm2:=hred2.same
 have hv2:v<g2.nv:=by rw[hsm2.1];exact hv1
 have hl2:=hred2.len v
 have hlow:g1.op v=14→r a<r v:=by
  intro hov
  obtain ⟨j,hj,hrj⟩:=hc1.copy v hv1 hov
  rw[hj] at hmem
  have:a=j:=by simpa using hmem
  rw[this];exact hrj
 have hsame:g2.args v=g1.args v:=by
  by_cases e:g2.args v=g1.args v
  ·exact e
  obtain ⟨ho,hr⟩:=hch v e
  have:=hlow ho;omega
 have hk2:k<(g2.args v).length:=by rw[hsame];exact hk1
 refine Bc (AG Tryz.func69 rfl rfl rfl rfl) rfl (EK (k:=k) (j:=s) h2 hv2 hk2) ?_
 rintro _ w3 ⟨h3,hb3⟩
 refine Af (Ao (Aa (Ac (Ab (x_inc rfl rfl (by omega)) rfl (Ab Ad rfl (Af ?_))))))
 have hag2:(g2.args v).getD k 0=a:=by rw[hsame];exact hag
 have hred3:Red g1 (g2.setArg v k s):=hred2.trans (Red.toSrc hc2 hv2 hk2 hag2 hsrc2 (fun ho=>hlow (by rw[← hsm2.2.2.1];exact ho)))
 have hargs:(g2.setArg v k s).args v=(g1.args v).set k s:=by rw[setArg_args,if_pos rfl,hsame]
 have hget:∀k',k'≠k→((g2.setArg v k s).args v).getD k' 0=(g1.args v).getD k' 0:=by
  intro k' hne
  rw[hargs,List.getD_eq_getElem?_getD,List.getElem?_set_ne (fun e=>hne e.symm),← List.getD_eq_getElem?_getD]
 have hgetk:((g2.setArg v k s).args v).getD k 0=s:=by
  rw[hargs,List.getD_eq_getElem?_getD,List.getElem?_set_self hk1];rfl
 have hop2:(g2.setArg v k s).op=g1.op:=by
  show g2.op=_
  exact hsm2.2.2.1
 refine Av ((g.args v).length - (k+1)) (by omega) ⟨k+1,g2.setArg v k s,by omega,Aq rfl ⟨rfl,rfl,rfl,rfl,trivial⟩,h3,hred.trans hred3,?_,?_,?_,(hb.trans hb2).trans hb3,rfl⟩
 ·intro k' hk'
  rw[hop2]
  by_cases e:k'=k
  ·subst e;rw[hgetk];exact hos
  rw[hget k' e];exact hdone k' (by omega)
 ·intro k' hk'
  by_cases e:k'=k
  ·subst e
   rw[hgetk,htk]
   exact (hred.trans hred2).back hsrc2
  rw[hget k' e];exact hsrcd k' (by omega)
 intro k' hk'
 rw[hget k' (by omega)]
 exact htodo k' (by omega)
def Ew (g:Gph) (v:Nat):Prop:=∃x∈g.args v,x≠v∧∀a∈g.args v,a=v∨a=x
theorem phielimValue_ret {w:World} {B:Nat} {L:Lay} {g:Gph} (h:GRep w B L g) (hB:B≤w.heap.size) {v:Nat} (hv:v<g.nv) (hcl:∀a∈g.args v,a<g.nv) (hlen:(g.args v).length<4294967296):
 Ret Tryz.prog 75 #[L.vp v] w fun u w'=>∃b,u= .bool b∧Below B w w'∧
  ((b=false∧GRep w' B L g∧(g.op v=13→¬ Ew g v))∨
   (b=true∧g.op v=13∧∃x L',x∈g.args v∧x≠v∧(∀a∈g.args v,a=v∨a=x)∧L'.vp=L.vp∧L'.bp=L.bp∧L'.fb=L.fb∧(∀τ,τ≠ .args v→L'.sl τ=L.sl τ)∧GRep w' B L' ((g.setOp v 14).setArgs v [x]))):=by
 have fo:=h.vOp hv
 have fa:=h.vArgs hv
 obtain ⟨a0,c0,hsl⟩:=h.argsV hv
 rw[hsl] at fa
 refine ret_of_EC Tryz.func75 rfl rfl (Ae (Ac (Ab Ah rfl (Af (Aa (Ae (Ae (Ac (Ab Ad rfl (Ab (Aw rfl) rfl (Ab (Ak rfl (Al rfl)) rfl ?_)))))))))))
 refine Ab (Ai rfl (Ag rfl) ‹_›) rfl ?_
 refine Ab (Bx rfl rfl) rfl (Af (Aa ?_))
 refine AF rfl rfl (fun hno=>?_) (fun hno=>?_)
 ·refine Ae (Ac (Ab Ah rfl (Af (Aa (AC (AE ?_))))))
  exact Ax rfl rfl rfl ⟨false,rfl,Below.refl _ _,.inl ⟨rfl,h,fun ho=>absurd ho hno⟩⟩
 have hop:g.op v=13:=Decidable.of_not_not hno
 refine Ar (Aa (Ae (Ac (Ab Ah rfl (Af (Aa (Ae (Ae (Ac (Ab Ad rfl (Ab (Aw rfl) rfl ?_)))))))))))
 refine Ab (Ak rfl (Al rfl)) rfl (Ab (Ai rfl (Ag rfl) ‹_›) rfl ?_)
 refine Ab (AM rfl (An rfl)) rfl (Ab Ad rfl (Af (Aa (Ap ?_))))
 refine EC_loop (fun n e w1=>∃(k:Nat) (o:Option Nat),w1=w∧k≤(g.args v).length∧At e [(0,L.vp v),(14,.slice a0 (g.args v).length c0),(15,.int .i64 ((g.args v).length:Int)),(16,.int .i64 (k:Int)),(3,.pointer (o.map fun x=>⟨L.vb x,0,none⟩))]∧
  (∀k',k'<k→(g.args v).getD k' 0=v∨o=some ((g.args v).getD k' 0))∧(∀x,o=some x→x∈g.args v∧x≠v)∧n=(g.args v).length - k) ((g.args v).length)
  ⟨0,none,rfl,Nat.zero_le _,Aq rfl ⟨rfl,rfl,rfl,rfl,rfl,trivial⟩,fun k' hk=>absurd hk (Nat.not_lt_zero _),fun x hx=>(by cases hx),rfl⟩ ?_
 rintro n e w1 ⟨k,o,rfl,hk,⟨t,rfl⟩,hdone,ho,rfl⟩
 refine Ae (Ac (Ab (AY rfl rfl) rfl (Af (Aa (Ae ?_)))))
 refine AF rfl rfl (fun hlt=>?_) (fun hge=>?_)
 rotate_left
 ·have hk:k=(g.args v).length:=by omega
  subst hk
  refine AJ (Az (AB (Ay (Aa (Ae ?_)))))
  cases o with
  |none=>
   refine Ae (Ac (Ab Ad rfl (Ab (C1 (p:=none) rfl rfl (BA rfl)) rfl (Af (Aa (Bn rfl rfl (Ae (Ac (Ab Ah rfl (Af (Aa ?_)))))))))))
   refine AC (AE ?_)
   refine Ax rfl rfl rfl ⟨false,rfl,Below.refl _ _,.inl ⟨rfl,h,fun _ hn=>?_⟩⟩
   obtain ⟨x,hxm,hxv,_⟩:=hn
   obtain ⟨k',hk',rfl⟩:=List.getElem_of_mem hxm
   rcases hdone k' hk' with h1|h1
   ·rw[List.getD_eq_getElem?_getD,List.getElem?_eq_getElem hk'] at h1
    exact hxv h1
   cases h1
  |some x=>
   obtain ⟨hxm,hxv⟩:=ho x rfl
   refine Ae (Ac (Ab Ad rfl (Ab (C1 (p:=some ⟨L.vb x,0,none⟩) rfl rfl (BA rfl)) rfl (Af (Aa (Bj rfl rfl (Ar (Aa (Ae (Ac (Ab Ad rfl ?_)))))))))))
   refine Ab (Aw rfl) rfl (Ab (Ak rfl (Al rfl)) rfl (Bb (AV rfl rfl rfl (AK rfl) fo (h.vFree hv)) rfl (Af (Aa ?_))))
   have h1:=h.setOp (o:=14) hv
   refine Ae (Ac (Ab Ad rfl (Ab Ad rfl (Bc (AG Tryz.func89 rfl rfl rfl rfl) rfl (setArgs1_ret (j:=x) h1 hv (by rw[Bq];exact hB)) ?_))))
   rintro _ w2 ⟨L',hL1,hL2,hL3,hL4,h2,hb2⟩
   refine Af (Aa (Ae (Ac (Ab Ah rfl (Af (Aa (AC ?_)))))))
   refine Ax rfl rfl rfl ⟨true,rfl,(Cn (h.tags.vbB v hv)).trans hb2,.inr ⟨rfl,hop,x,L',hxm,hxv,?_,hL1,hL2,hL3,hL4,h2⟩⟩
   intro a ha
   obtain ⟨k',hk',rfl⟩:=List.getElem_of_mem ha
   have h3:=hdone k' hk'
   rw[List.getD_eq_getElem?_getD,List.getElem?_eq_getElem hk'] at h3
   rcases h3 with h3|h3
   ·exact .inl h3
   right
   have:x=(g.args v)[k']:=by simpa using h3
   exact this.symm
 have hlt:k<(g.args v).length:=by omega
 obtain ⟨b1,c1,hs1,_,f2,_⟩:=h.argsE hv hlt
 rw[hsl] at hs1
 injection hs1 with e1 e2 e3
 subst e1
 have hmem:(g.args v).getD k 0∈g.args v:=by rw[List.getD_eq_getElem?_getD,List.getElem?_eq_getElem hlt];simp
 generalize hag:(g.args v).getD k 0=a at f2 hmem
 have ha:a<g.nv:=hcl a hmem
 refine Ar (Aa (Ae (Ap (Ae (Ac (Ab (x_index1 rfl rfl (An rfl) (by omega)) rfl (Ab (Ai rfl (Ag rfl) ‹_›) rfl ?_)))))))
 refine Ab Ah rfl (Af (Aa (Ae (Ae (Ac (Ab Ad rfl (Ab Ad rfl (Ab (EJ rfl rfl (BA rfl) (h.vPlain ha) (h.vPlain hv)) rfl (Af (Aa ?_))))))))))
 refine AF rfl rfl (fun hp=>?_) (fun hp=>?_)
 ·-- the phi itself
  have hav:a=v:=by
   injection hp with hp
   exact Ft h ha hv hp
  refine AJ (Az (Ay (Aa (Ac (Ab (x_inc rfl rfl (by omega)) rfl (Ab Ad rfl (Af ?_)))))))
  refine Av ((g.args v).length - (k+1)) (by omega) ⟨k+1,o,rfl,by omega,Aq rfl ⟨rfl,rfl,rfl,rfl,rfl,trivial⟩,?_,ho,rfl⟩
  intro k' hk'
  by_cases e:k'=k
  ·subst e;left;rw[hag];exact hav
  exact hdone k' (by omega)
 have hav:a≠v:=fun e=>hp (by rw[e])
 refine Ar (Aa (Ae ?_))
 cases o with
 |none=>
  refine Ae (Ac (Ab Ad rfl (Ab Ad rfl (Ab (C1 (p:=some ⟨L.vb a,0,none⟩) rfl rfl (BA rfl)) rfl (Af (Aa (Bj rfl rfl (Ar (Aa (Ae (Ae ?_)))))))))))
  refine Ac (Ab Ad rfl (Ab (Cp (p:=none) rfl rfl (BA rfl)) rfl (Af (Aa (Bj rfl rfl (Ar (Aa (Ac (Ab Ad rfl (Ab Ah rfl (Af ?_)))))))))))
  refine Ao (Aa (Ac (Ab (x_inc rfl rfl (by omega)) rfl (Ab Ad rfl (Af ?_)))))
  refine Av ((g.args v).length - (k+1)) (by omega) ⟨k+1,some a,rfl,by omega,Aq rfl ⟨rfl,rfl,rfl,rfl,rfl,trivial⟩,?_,?_,rfl⟩
  ·intro k' hk'
   by_cases e:k'=k
   ·subst e;right;rw[hag]
   rcases hdone k' (by omega) with h1|h1
   ·exact .inl h1
   cases h1
  intro x hx
  cases hx
  exact ⟨hmem,hav⟩
 |some y=>
  obtain ⟨hym,hyv⟩:=ho y rfl
  have hy:=hcl y hym
  refine Ae (Ac (Ab Ad rfl (Ab Ad rfl (Ab (EJ (a:=⟨L.vb a,0,none⟩) (b:=⟨L.vb y,0,none⟩) rfl rfl (BA rfl) (h.vPlain ha) (h.vPlain hy)) rfl (Af (Aa ?_))))))
  refine AF rfl rfl (fun hp2=>?_) (fun hp2=>?_)
  ·have hay:a=y:=by
    injection hp2 with hp2
    exact Ft h ha hy hp2
   refine AJ (Az (Ay (Aa (Ac (Ab (x_inc rfl rfl (by omega)) rfl (Ab Ad rfl (Af ?_)))))))
   refine Av ((g.args v).length - (k+1)) (by omega) ⟨k+1,some y,rfl,by omega,Aq rfl ⟨rfl,rfl,rfl,rfl,rfl,trivial⟩,?_,ho,rfl⟩
   intro k' hk'
   by_cases e:k'=k
   ·subst e;right;rw[hag,hay]
   exact hdone k' (by omega)
  have hay:a≠y:=fun e=>hp2 (by rw[e])
  refine Ar (Aa (Ae (Ae (Ac (Ab Ad rfl (Ab (Cp (p:=some ⟨L.vb y,0,none⟩) rfl rfl (BA rfl)) rfl (Af (Aa (Bn rfl rfl (Ae (Ac ?_)))))))))))
  refine Ab Ah rfl (Af (Aa (AC (AE (AI (AE (Bu (AI (AE ?_)))))))))
  refine Ax rfl rfl rfl ⟨false,rfl,Below.refl _ _,.inl ⟨rfl,h,fun _ hn=>?_⟩⟩
  obtain ⟨x,_,_,hx⟩:=hn
  have h1:=(hx a hmem).resolve_left hav
  have h2:=(hx y hym).resolve_left hyv
  exact hay (h1.trans h2.symm)
end Go.Proofs.YteepnepebilckaaGreatDoor
namespace Go.Proofs.YteepnepebilckaaGreatDoor
open Go Go.Eng Go.RowKit
set_option maxHeartbeats 4000000
attribute [local irreducible] EC EL DL Ret thenQ blockQ Bi bodyQ onlyN execOp Sem.run World.cell? World.frozen? World.setCell World.alloc
theorem GRep.baseLe {w:World} {B:Nat} {L:Lay} {g:Gph} (h:GRep w B L g):B≤w.heap.size:=by
 have h1:=By h
 have h2:=h.tags.fbB
 omega
def Lay.fp (L:Lay):Value:=.pointer (some ⟨L.fb,0,none⟩)
def DU (g:Gph) (v:Nat):Prop:=FH g v∧(g.op v=13→¬ Ew g v)
theorem Red.fine {g g':Gph} (h:Red g g') {v:Nat} (hf:DU g v):DU g' v:=by
 have ha:=h.noCopy hf.1
 have ho:=h.same.2.2.1
 refine ⟨fun a hm=>?_,fun h13 hn=>?_⟩
 ·rw[ho];rw[ha] at hm;exact hf.1 a hm
 rw[ho] at h13
 apply hf.2 h13
 unfold Ew at *
 rw[ha] at hn;exact hn
def CD (g:Gph):Nat:=(List.range g.nv).countP fun i=>g.op i == 13
theorem DH {g g':Gph} (h:Red g g'):CD g'=CD g:=by
 unfold CD
 rw[h.same.1,h.same.2.2.1]
theorem nphi_phi {g:Gph} {v:Nat} {l:List Nat} (hv:v<g.nv) (h:g.op v=13):CD ((g.setOp v 14).setArgs v l)<CD g:=by
 have key:∀n,(v<n→(List.range n).countP (fun i=>(if i=v then (14:Int) else g.op i) == 13)<(List.range n).countP fun i=>g.op i == 13)∧
  (List.range n).countP (fun i=>(if i=v then (14:Int) else g.op i) == 13)≤(List.range n).countP fun i=>g.op i == 13:=by
  intro n
  induction n with
  |zero=>simp
  |succ n ih=>
   rw[List.range_succ,List.countP_append,List.countP_append]
   by_cases e:n=v
   ·subst e
    simp [h]
    have:=ih.2
    omega
   have e':¬ v=n:=fun h=>e h.symm
   simp [e]
   refine ⟨fun hlt=>?_,ih.2⟩
   exact ih.1 (by omega)
 exact (key g.nv).1 hv
structure PInv (r:Nat→Nat) (Inv:Gph→Prop):Prop where
 step:∀g g',Inv g→Step g g'→Inv g'
 cinv:∀g,Inv g→CInv g r
 small:∀g,Inv g→∀v,v<g.nv→(g.args v).length<4294967296
 bv:∀g,Inv g→∀b,b<g.nb→(g.bvals b).length<4294967296∧∀v∈g.bvals b,v<g.nv
 cov:∀g,Inv g→∀v,v<g.nv→∃b,b<g.nb∧v∈g.bvals b
 nb:∀g,Inv g→g.nb<4294967296
theorem PInv.steps {r:Nat→Nat} {Inv:Gph→Prop} (p:PInv r Inv) {g g':Gph} (h:Inv g) (s:Steps g g'):Inv g':=by
 induction s with
 |refl=>exact h
 |step _ s ih=>exact p.step _ _ ih s
theorem Step.same {g g':Gph} (h:Step g g'):g'.nv=g.nv∧g'.nb=g.nb∧g'.ty=g.ty∧g'.aux=g.aux∧g'.blk=g.blk∧g'.kind=g.kind∧g'.likely=g.likely∧g'.succs=g.succs∧g'.preds=g.preds∧g'.bvals=g.bvals∧g'.ctrl=g.ctrl:=by
 cases h <;> simp [Gph.setArg,Gph.setOp,Gph.setArgs]
theorem Steps.same {g g':Gph} (h:Steps g g'):g'.nv=g.nv∧g'.nb=g.nb∧g'.ty=g.ty∧g'.aux=g.aux∧g'.blk=g.blk∧g'.kind=g.kind∧g'.likely=g.likely∧g'.succs=g.succs∧g'.preds=g.preds∧g'.bvals=g.bvals∧g'.ctrl=g.ctrl:=by
 induction h with
 |refl=>simp
 |step _ s ih=>
  have:=s.same
  simp_all
theorem phielim_ret {w:World} {B:Nat} {L:Lay} {g:Gph} {r:Nat→Nat} {Inv:Gph→Prop} (p:PInv r Inv) (h:GRep w B L g) (hI:Inv g):
 Ret Tryz.prog 45 #[L.fp] w fun _ w'=>∃g' L',GRep w' B L' g'∧L'.vp=L.vp∧L'.bp=L.bp∧L'.fb=L.fb∧Steps g g'∧(∀v,v<g'.nv→DU g' v)∧Below B w w'∧((∀v,v<g.nv→g.op v≠13)→Red g g'):=by
 refine ret_of_EC Tryz.func45 rfl rfl (Ap ?_)
 refine EC_loop (fun n e w1=>∃g1 L1,At e [(0,L.fp)]∧GRep w1 B L1 g1∧L1.vp=L.vp∧L1.bp=L.bp∧L1.fb=L.fb∧Steps g g1∧Inv g1∧Below B w w1∧((∀v,v<g.nv→g.op v≠13)→Red g g1)∧n=CD g1) (CD g)
  ⟨g,L,Aq rfl ⟨rfl,trivial⟩,h,rfl,rfl,rfl,.refl,hI,Below.refl _ _,fun _=>.refl,rfl⟩ ?_
 rintro n e w1 ⟨g1,L1,⟨t,rfl⟩,h1,hvp1,hbp1,hfb1,hst,hI1,hb,hnophi,rfl⟩
 have hfp1:L.fp=L1.fp:=by unfold Lay.fp;rw[hfb1]
 rw[hfp1]
 have hnb:=p.nb g1 hI1
 obtain ⟨ab,cb,hfbl⟩:=h1.fblocksV
 have f1:=h1.fBlocks
 rw[hfbl] at f1
 refine Ap (Ae (Ac (Ab Ah rfl (Af (Aa (Ae (Ae (Ac (Ab Ad rfl (Ab (Aw rfl) rfl (Ab (Ak rfl (Al rfl)) rfl ?_)))))))))))
 refine Ab (Ai rfl (Ag rfl) ‹_›) rfl ?_
 refine Ab (AM rfl (An rfl)) rfl (Ab Ad rfl (Af (Aa (Ap ?_))))
 refine EC_loop (fun n e w2=>∃(bi:Nat) (g2:Gph) (L2:Lay) (ch:Bool),bi≤g1.nb∧At e [(0,L1.fp),(2,.bool ch),(10,.slice ab g1.nb cb),(11,.int .i64 (g1.nb:Int)),(12,.int .i64 (bi:Int))]∧GRep w2 B L2 g2∧L2.vp=L.vp∧L2.bp=L.bp∧L2.fb=L.fb∧L2.sl .fblocks= .slice ab g1.nb cb∧Steps g1 g2∧Inv g2∧Below B w w2∧
  ((∀v,v<g.nv→g.op v≠13)→Red g g2)∧CD g2≤CD g1∧(ch=true→CD g2<CD g1)∧(ch=false→∀b,b<bi→∀v∈g2.bvals b,DU g2 v)∧n=g1.nb - bi) (g1.nb)
  ⟨0,g1,L1,false,Nat.zero_le _,Aq rfl ⟨rfl,rfl,rfl,rfl,rfl,trivial⟩,h1,hvp1,hbp1,hfb1,hfbl,.refl,hI1,hb,hnophi,Nat.le_refl _,(fun h=>by cases h),fun _ b hb=>absurd hb (Nat.not_lt_zero _),rfl⟩ ?_
 rintro n e w2 ⟨bi,g2,L2,ch,hbi,⟨t,rfl⟩,h2,hvp2,hbp2,hfb2,hfbl2,hst2,hI2,hb2,hnp2,hle2,hlt2,hfine2,rfl⟩
 have hsm2:=hst2.same
 refine Ae (Ac (Ab (AY rfl rfl) rfl (Af (Aa (Ae ?_)))))
 refine AF rfl rfl (fun hlt=>?_) (fun hge=>?_)
 rotate_left
 ·have hbi:bi=g1.nb:=by omega
  subst hbi
  refine AJ (Az (AB (Ay (Aa (Ae (Ac (Ab Ad rfl (Ab (BS rfl) rfl (Af (Aa ?_))))))))))
  refine Df rfl rfl (fun hc=>?_) (fun hc=>?_)
  ·have hc:ch=false:=by simpa using hc
   refine AJ (CH rfl (AB (Ay ?_)))
   refine Bw rfl rfl ⟨g2,L2,h2,hvp2,hbp2,hfb2,hst.trans hst2,fun v hv=>?_,hb2,hnp2⟩
   obtain ⟨b,hbb,hvb⟩:=p.cov g2 hI2 v hv
   exact hfine2 hc b (by omega) v hvb
  have hc:ch=true:=by simpa using hc
  refine Ar (Ao ?_)
  refine Av (CD g2) (hlt2 hc) ⟨g2,L2,Aq rfl ⟨by rw[← hfp1];rfl,trivial⟩,h2,hvp2,hbp2,hfb2,hst.trans hst2,hI2,hb2,hnp2,rfl⟩
 have hlt:bi<g2.nb:=by omega
 obtain ⟨b1,c1,hs1,_,f2,_⟩:=h2.fblocksE hlt
 rw[hfbl2] at hs1
 injection hs1 with e1 e2 e3
 subst e1
 have f3:=h2.bVals hlt
 obtain ⟨av,cv,hbv⟩:=h2.bvalsV hlt
 rw[hbv] at f3
 obtain ⟨hbl,hbm⟩:=p.bv g2 hI2 bi hlt
 refine Ar (Aa (Ae (Ap (Ae (Ac (Ab (x_index1 rfl rfl (An rfl) (by omega)) rfl (Ab (Ai rfl (Ag rfl) ‹_›) rfl ?_)))))))
 refine Ab Ah rfl (Af (Aa (Ae (Ac (Ab Ad rfl (Ab (Aw rfl) rfl (Ab (Ak rfl (Al rfl)) rfl (Ab (Ai rfl (Ag rfl) ‹_›) rfl ?_))))))))
 refine Ab (AM rfl (An rfl)) rfl (Ab Ad rfl (Af (Aa (Ap ?_))))
 refine EC_loop (fun n e w3=>∃(vi:Nat) (g3:Gph) (L3:Lay) (ch3:Bool),vi≤(g2.bvals bi).length∧At e [(0,L1.fp),(2,.bool ch3),(10,.slice (some ⟨b1,0,none⟩) g1.nb cb),(11,.int .i64 (g1.nb:Int)),(12,.int .i64 (bi:Int)),(19,.slice av (g2.bvals bi).length cv),(20,.int .i64 ((g2.bvals bi).length:Int)),(21,.int .i64 (vi:Int))]∧GRep w3 B L3 g3∧L3.vp=L.vp∧L3.bp=L.bp∧L3.fb=L.fb∧L3.sl .fblocks= .slice (some ⟨b1,0,none⟩) g1.nb cb∧L3.sl (.bvals bi)= .slice av (g2.bvals bi).length cv∧Steps g2 g3∧Inv g3∧Below B w w3∧
  ((∀v,v<g.nv→g.op v≠13)→Red g g3)∧CD g3≤CD g1∧(ch3=true→CD g3<CD g1)∧(ch3=false→(∀b,b<bi→∀v∈g3.bvals b,DU g3 v)∧∀k,k<vi→DU g3 ((g2.bvals bi).getD k 0))∧n=(g2.bvals bi).length - vi) ((g2.bvals bi).length)
  ⟨0,g2,L2,ch,Nat.zero_le _,Aq rfl ⟨rfl,rfl,rfl,rfl,rfl,rfl,rfl,rfl,trivial⟩,h2,hvp2,hbp2,hfb2,hfbl2,hbv,.refl,hI2,hb2,hnp2,hle2,hlt2,fun hc=>⟨hfine2 hc,fun k hk=>absurd hk (Nat.not_lt_zero _)⟩,rfl⟩ ?_
 rintro n e w3 ⟨vi,g3,L3,ch3,hvi,⟨t,rfl⟩,h3,hvp3,hbp3,hfb3,hfbl3,hbv3,hst3,hI3,hb3,hnp3,hle3,hlt3,hfine3,rfl⟩
 have hsm3:=hst3.same
 refine Ae (Ac (Ab (AY rfl rfl) rfl (Af (Aa (Ae ?_)))))
 refine AF rfl rfl (fun hlv=>?_) (fun hge=>?_)
 rotate_left
 ·refine AJ (Az (AB (Ay (Ao (Aa (Ac (Ab (x_inc rfl rfl (by omega)) rfl (Ab Ad rfl (Af ?_)))))))))
  refine Av (g1.nb - (bi+1)) (by omega) ⟨bi+1,g3,L3,ch3,by omega,Aq rfl ⟨rfl,rfl,rfl,rfl,rfl,trivial⟩,h3,hvp3,hbp3,hfb3,hfbl3,hst2.trans hst3,hI3,hb3,hnp3,hle3,hlt3,fun hc b hbb u hu=>?_,rfl⟩
  by_cases e:b=bi
  ·subst e
   rw[hsm3.2.2.2.2.2.2.2.2.2.1] at hu
   obtain ⟨k,hk,rfl⟩:=List.getElem_of_mem hu
   have:=(hfine3 hc).2 k (by omega)
   rwa [List.getD_eq_getElem?_getD,List.getElem?_eq_getElem hk] at this
  exact (hfine3 hc).1 b (by omega) u hu
 have hlv:vi<(g3.bvals bi).length:=by rw[hsm3.2.2.2.2.2.2.2.2.2.1];omega
 have hbi3:bi<g3.nb:=by omega
 obtain ⟨b4,c4,hs4,_,f4,_⟩:=h3.bvalsE hbi3 hlv
 rw[hbv3] at hs4
 injection hs4 with e4 e5 e6
 subst e4
 have hveq:(g3.bvals bi).getD vi 0=(g2.bvals bi).getD vi 0:=by rw[hsm3.2.2.2.2.2.2.2.2.2.1]
 have hmem:(g3.bvals bi).getD vi 0∈g3.bvals bi:=by rw[List.getD_eq_getElem?_getD,List.getElem?_eq_getElem hlv];simp
 generalize hvg:(g3.bvals bi).getD vi 0=v at f4 hmem hveq
 have hv:v<g3.nv:=(p.bv g3 hI3 bi hbi3).2 v hmem
 have hlt':vi<(g2.bvals bi).length:=by rw[← hsm3.2.2.2.2.2.2.2.2.2.1];exact hlv
 refine Ar (Aa (Ae (Ap (Ae (Ac (Ab (x_index1 rfl rfl (An rfl) (by omega)) rfl (Ab (Ai rfl (Ag rfl) ‹_›) rfl ?_)))))))
 refine Ab Ah rfl (Af (Aa (Ae (Ac (Ab Ad rfl (Bc (AG Tryz.func74 rfl rfl rfl rfl) rfl (copyelimValue_ret h3 (p.cinv g3 hI3) hv (p.small g3 hI3 v hv)) ?_))))))
 rintro _ w4 ⟨g4,h4,hred,hno,_,hb4⟩
 refine Af (Aa (Ac (Ab Ad rfl ?_)))
 have hI4:=p.steps hI3 hred.steps
 have hsm4:=hred.same
 have hv4:v<g4.nv:=by rw[hsm4.1];exact hv
 refine Bc (AG Tryz.func75 rfl rfl rfl rfl) rfl (phielimValue_ret h4 h4.baseLe hv4 ((p.cinv g4 hI4).closed v hv4) (p.small g4 hI4 v hv4)) ?_
 rintro _ w5 ⟨bb,rfl,hb5,(⟨rfl,h5,hnn⟩|⟨rfl,hop,x,L5,hx1,hx2,hx3,hvp5,hbp5,hfb5,hsl5,h5⟩)⟩
 ·refine Ab Ad rfl (As rfl rfl Ad rfl (Ab (AN rfl) rfl (Ab Ah rfl (Af (Ao (Aa (Ac (Ab (x_inc rfl rfl (by omega)) rfl (Ab Ad rfl (Af ?_))))))))))
  refine Av ((g2.bvals bi).length - (vi+1)) (by omega) ⟨vi+1,g4,L3,ch3,by omega,Aq rfl ⟨rfl,rfl,rfl,rfl,rfl,rfl,rfl,rfl,trivial⟩,h5,hvp3,hbp3,hfb3,hfbl3,hbv3,hst3.trans hred.steps,hI4,(hb3.trans hb4).trans hb5,fun hn=>(hnp3 hn).trans hred,by rw[DH hred];exact hle3,fun hc=>by rw[DH hred];exact hlt3 hc,fun hc=>⟨?_,?_⟩,rfl⟩
  ·intro b hbb u hu
   rw[hsm4.2.2.2.2.2.2.2.2.2.2.1] at hu
   exact hred.fine ((hfine3 hc).1 b hbb u hu)
  intro k hk
  by_cases e:k=vi
  ·subst e
   rw[← hveq]
   exact ⟨hno,hnn⟩
  exact hred.fine ((hfine3 hc).2 k (by omega))
 refine Ab Ad rfl (AH rfl rfl (Ab (AQ rfl) rfl (Ab Ah rfl (Af (Ao (Aa (Ac (Ab (x_inc rfl rfl (by omega)) rfl (Ab Ad rfl (Af ?_))))))))))
 have hphi:=nphi_phi (l:=[x]) hv4 hop
 have hst5:Step g4 ((g4.setOp v 14).setArgs v [x]):=.phi hv4 hop hx1 hx2 hx3
 have hl5:L5.sl .fblocks=L3.sl .fblocks∧L5.sl (.bvals bi)=L3.sl (.bvals bi):=⟨hsl5 _ (by simp),hsl5 _ (by simp)⟩
 refine Av ((g2.bvals bi).length - (vi+1)) (by omega) ⟨vi+1,(g4.setOp v 14).setArgs v [x],L5,true,by omega,Aq rfl ⟨rfl,rfl,rfl,rfl,rfl,rfl,rfl,rfl,trivial⟩,h5,by rw[hvp5,hvp3],by rw[hbp5,hbp3],by rw[hfb5,hfb3],by rw[hl5.1,hfbl3],by rw[hl5.2,hbv3],(hst3.trans hred.steps).step hst5,p.step _ _ hI4 hst5,(hb3.trans hb4).trans hb5,fun hn=>?_,?_,fun _=>?_,(fun hc=>by cases hc),rfl⟩
 ·exfalso
  have h6:=(hnp3 hn).same
  have h7:=(hnp3 hn).trans hred
  exact hn v (by rw[← h7.same.1];exact hv4) (by rw[← h7.same.2.2.1];exact hop)
 ·rw[DH hred] at hphi;omega
 rw[DH hred] at hphi;omega
end Go.Proofs.YteepnepebilckaaGreatDoor
namespace Go.Proofs.YteepnepebilckaaGreatDoor
open Go Go.Eng Go.RowKit
set_option maxHeartbeats 4000000
attribute [local irreducible] EC EL DL Ret thenQ blockQ Bi bodyQ onlyN execOp Sem.run World.cell? World.frozen? World.setCell World.alloc
theorem Dc {w:World} {B:Nat} {L:Lay} {g:Gph} (h:GRep w B L g) {b:Nat} (hb:b<g.nb):
 Ret Tryz.prog 70 #[L.bp b] w fun v w'=>v=L.sl (.ctrl b)∧w'=w:=by
 have f1:=h.bCtrl hb
 refine ret_of_EC Tryz.func70 rfl rfl (Ae (Ac (Ab Ah rfl (Af (Aa (Ae (Ac (Ab Ad rfl (Ab (Aw rfl) rfl (Ab (Ak rfl (Al rfl)) rfl (Ab (Ai rfl (Ag rfl) ‹_›) rfl ?_)))))))))))
 refine Ab Ah rfl (Af (Aa (AC ?_)))
 exact Ax rfl rfl rfl ⟨rfl,rfl⟩
theorem DZ {w:World} {B:Nat} {L:Lay} {g:Gph} (h:GRep w B L g) {b k j:Nat} (hb:b<g.nb) (hk:k<(g.ctrl b).length):
 Ret Tryz.prog 71 #[L.bp b,.int .i64 (k:Int),L.vp j] w fun _ w'=>GRep w' B L (g.setCtrl b k j)∧Below B w w':=by
 obtain ⟨b1,cap,hv,hob,hc,hf⟩:=h.ctrlE hb hk
 have h1:=h.bCtrl hb
 rw[hv] at h1
 have hlt:=(h.slLt (τ:=.ctrl b) rfl hb b1 hob).1
 refine ret_of_EC Tryz.func71 rfl rfl (Ac (Ab Ad rfl (Ab (Aw rfl) rfl (Ab (Ak rfl (Al rfl)) rfl (Ab (Ai rfl (Ag rfl) ‹_›) rfl ?_)))))
 refine Ab Ad rfl (Ab Ad rfl (Ab (x_index1 rfl rfl (An rfl) (by omega)) rfl (Bb (AV rfl rfl rfl (AK rfl) hc (hf _)) rfl (Af ?_))))
 refine Bw rfl rfl ⟨?_,Cn hlt⟩
 rw[Nat.zero_add]
 exact h.setCtrl hb hk hob
def Cq (g:Gph) (c:Nat):Nat:=if g.op c=14 then (g.args c).getD 0 0 else c
theorem copyelim_ret {w:World} {B:Nat} {L:Lay} {g:Gph} {r:Nat→Nat} {Inv:Gph→Prop} (p:PInv r Inv) (h:GRep w B L g) (hI:Inv g)
 (hctrl:∀b,b<g.nb→(g.ctrl b).length<4294967296∧∀c∈g.ctrl b,c<g.nv):
 Ret Tryz.prog 44 #[L.fp] w fun _ w'=>∃g1 c2 L',GRep w' B L' { g1 with ctrl:=c2 }∧L'.vp=L.vp∧L'.bp=L.bp∧L'.fb=L.fb∧Steps g g1∧(∀v,v<g1.nv→DU g1 v)∧
  (∀b,b<g1.nb→c2 b=(g1.ctrl b).map (Cq g1))∧Below B w w'∧((∀v,v<g.nv→g.op v≠13)→Red g g1):=by
 refine ret_of_EC Tryz.func44 rfl rfl (Ae (Ac (Ab Ad rfl (Bc (AG Tryz.func45 rfl rfl rfl rfl) rfl (phielim_ret p h hI) ?_))))
 rintro _ w1 ⟨g1,L1,h1,hvp1,hbp1,hfb1,hst,hfine,hb1,hnp⟩
 refine Af (Aa ?_)
 have hfp1:L.fp=L1.fp:=by unfold Lay.fp;rw[hfb1]
 have hI1:=p.steps hI hst
 have hc1:=p.cinv g1 hI1
 have hsm:=hst.same
 have hnb:=p.nb g1 hI1
 obtain ⟨ab,cb,hfbl⟩:=h1.fblocksV
 have f1:=h1.fBlocks
 rw[hfbl,← hfb1.symm] at f1
 refine Ae (Ac ?_)
 rw[hfp1]
 have f1:w1.cell? ⟨L1.fb,0+1,none⟩=some (.slice ab g1.nb cb):=by rw[← hfbl];exact h1.fBlocks
 refine Ab Ad rfl (Ab (Aw rfl) rfl (Ab (Ak rfl (Al rfl)) rfl (Ab (Ai rfl (Ag rfl) ‹_›) rfl ?_)))
 refine Ab (AM rfl (An rfl)) rfl (Ab Ad rfl (Af (Aa (Ap ?_))))
 refine EC_loop (fun n e w2=>∃(bi:Nat) (c2:Nat→List Nat),bi≤g1.nb∧At e [(11,.slice ab g1.nb cb),(12,.int .i64 (g1.nb:Int)),(13,.int .i64 (bi:Int))]∧GRep w2 B L1 { g1 with ctrl:=c2 }∧Below B w w2∧
  (∀b,b<bi→c2 b=(g1.ctrl b).map (Cq g1))∧(∀b,bi≤b→c2 b=g1.ctrl b)∧n=g1.nb - bi) (g1.nb)
  ⟨0,g1.ctrl,Nat.zero_le _,Aq rfl ⟨rfl,rfl,rfl,trivial⟩,h1,hb1,fun b hb=>absurd hb (Nat.not_lt_zero _),fun _ _=>rfl,rfl⟩ ?_
 rintro n e w2 ⟨bi,c2,hbi,⟨t,rfl⟩,h2,hb2,hdone,htodo,rfl⟩
 refine Ae (Ac (Ab (AY rfl rfl) rfl (Af (Aa (Ae ?_)))))
 refine AF rfl rfl (fun hlt=>?_) (fun hge=>?_)
 rotate_left
 ·have hbi:bi=g1.nb:=by omega
  subst hbi
  refine AJ (Az (AB (Ay ?_)))
  exact Bw rfl rfl ⟨g1,c2,L1,h2,hvp1,hbp1,hfb1,hst,hfine,hdone,hb2,hnp⟩
 have hlt:bi<g1.nb:=by omega
 obtain ⟨b1,c1,hs1,_,f2,_⟩:=h2.fblocksE hlt
 rw[hfbl] at hs1
 injection hs1 with e1 e2 e3
 subst e1
 obtain ⟨hcl,hcm⟩:=hctrl bi (by rw[← hsm.2.1];exact hlt)
 have hcc:g1.ctrl=g.ctrl:=hsm.2.2.2.2.2.2.2.2.2.2
 rw[← hcc] at hcl hcm
 rw[← hsm.1] at hcm
 obtain ⟨av,cv,hbv⟩:=h2.ctrlV (i:=bi) hlt
 have hlen2:(c2 bi).length=(g1.ctrl bi).length:=by rw[htodo bi (Nat.le_refl _)]
 refine Ar (Aa (Ae (Ap (Ae (Ac (Ab (x_index1 rfl rfl (An rfl) (by omega)) rfl (Ab (Ai rfl (Ag rfl) ‹_›) rfl ?_)))))))
 refine Ab Ah rfl (Af (Aa (Ae (Ac (Ab Ad rfl (Bc (AG Tryz.func70 rfl rfl rfl rfl) rfl (Dc h2 (b:=bi) hlt) ?_))))))
 rintro _ _ ⟨rfl,rfl⟩
 rw[hbv]
 refine Ab (AM rfl (An rfl)) rfl (Ab Ad rfl (Af (Aa (Ap ?_))))
 refine EC_loop (fun n e w3=>∃(k:Nat) (c3:Nat→List Nat),k≤(c2 bi).length∧At e [(11,.slice (some ⟨b1,0,none⟩) g1.nb cb),(12,.int .i64 (g1.nb:Int)),(13,.int .i64 (bi:Int)),(3,L1.bp bi),(18,.slice av (c2 bi).length cv),(19,.int .i64 ((c2 bi).length:Int)),(20,.int .i64 (k:Int))]∧GRep w3 B L1 { g1 with ctrl:=c3 }∧Below B w w3∧
  (∀b,b<bi→c3 b=(g1.ctrl b).map (Cq g1))∧(∀b,bi<b→c3 b=g1.ctrl b)∧c3 bi=((g1.ctrl bi).take k).map (Cq g1) ++ (g1.ctrl bi).drop k∧n=(c2 bi).length - k) ((c2 bi).length)
  ⟨0,c2,Nat.zero_le _,Aq rfl ⟨rfl,rfl,rfl,rfl,rfl,rfl,rfl,trivial⟩,h2,hb2,hdone,fun b hb=>htodo b (by omega),by simpa using htodo bi (Nat.le_refl _),rfl⟩ ?_
 rintro n e w3 ⟨k,c3,hk,⟨t,rfl⟩,h3,hb3,hd3,ht3,hc3,rfl⟩
 refine Ae (Ac (Ab (AY rfl rfl) rfl (Af (Aa (Ae ?_)))))
 refine AF rfl rfl (fun hlk=>?_) (fun hge=>?_)
 rotate_left
 ·have hk:k=(c2 bi).length:=by omega
  subst hk
  refine AJ (Az (AB (Ay (Ao (Aa (Ac (Ab (x_inc rfl rfl (by omega)) rfl (Ab Ad rfl (Af ?_)))))))))
  refine Av (g1.nb - (bi+1)) (by omega) ⟨bi+1,c3,by omega,Aq rfl ⟨rfl,rfl,rfl,trivial⟩,h3,hb3,fun b hb=>?_,fun b hb=>ht3 b (by omega),rfl⟩
  by_cases e:b=bi
  ·subst e
   rw[hc3,hlen2];simp
  exact hd3 b (by omega)
 have hlk:k<(g1.ctrl bi).length:=by omega
 have hlk3:k<(c3 bi).length:=by rw[hc3];simp;omega
 have hl3:(c3 bi).length=(c2 bi).length:=by rw[hc3,hlen2];simp;omega
 obtain ⟨b4,c4,hs4,_,f4,_⟩:=h3.ctrlE (i:=bi) hlt hlk3
 rw[hbv] at hs4
 injection hs4 with e4 e5 e6
 subst e4
 have hck:(c3 bi).getD k 0=(g1.ctrl bi)[k]:=by
  rw[hc3,List.getD_eq_getElem?_getD,List.getElem?_append_right (by simp;omega)]
  simp [show min k (g1.ctrl bi).length=k by omega,hlk]
 have f4':w3.cell? ⟨b4,0+k,none⟩=some (L1.vp ((g1.ctrl bi)[k])):=by rw[← hck];exact f4
 have hcv:(g1.ctrl bi)[k]<g1.nv:=hcm _ (by simp)
 clear f4
 generalize hcg:(g1.ctrl bi)[k]=c at f4' hcv
 have f5:=h3.vOp (i:=c) hcv
 have hfix:∀d,d=Cq g1 c→(c3 bi).set k d=((g1.ctrl bi).take (k+1)).map (Cq g1) ++ (g1.ctrl bi).drop (k+1):=by
  intro d hd
  rw[hc3,List.set_append_right _ _ (by simp;omega)]
  have h6:k - (((g1.ctrl bi).take k).map (Cq g1)).length=0:=by simp;omega
  rw[h6,List.drop_eq_getElem_cons hlk,List.set_cons_zero,List.take_succ_eq_append_getElem hlk,hd,hcg]
  simp
 refine Ar (Aa (Ae (Ap (Ae (Ac (Ab Ad rfl (Ab (x_index1 rfl rfl (An rfl) (by omega)) rfl (Ab (Ai rfl (Ag rfl) ‹_›) rfl ?_))))))))
 refine Ab Ah rfl (Ab Ah rfl (Af (Aa (Ae (Ac (Ab Ad rfl (Ab (Aw rfl) rfl (Ab (Ak rfl (Al rfl)) rfl (Ab (Ai rfl (Ag rfl) ‹_›) rfl ?_)))))))))
 refine Ab (A6 rfl rfl) rfl (Af (Aa ?_))
 refine AF rfl rfl (fun hoc=>?_) (fun hoc=>?_)
 rotate_left
 ·refine Ar (Ao (Aa (Ac (Ab (x_inc rfl rfl (by omega)) rfl (Ab Ad rfl (Af ?_))))))
  refine Av ((c2 bi).length - (k+1)) (by omega) ⟨k+1,c3,by omega,Aq rfl ⟨rfl,rfl,rfl,rfl,rfl,rfl,rfl,trivial⟩,h3,hb3,hd3,ht3,?_,rfl⟩
  have h7:=hfix c (by unfold Cq;rw[if_neg hoc])
  rw[← h7]
  apply List.ext_getElem (by simp)
  intro n h8 h9
  rw[List.getElem_set]
  split
  ·rename_i e;subst e
   rw[List.getD_eq_getElem?_getD,List.getElem?_eq_getElem h8] at hck
   simpa [hcg] using hck
  rfl
 obtain ⟨j,hj,_⟩:=hc1.copy c hcv hoc
 obtain ⟨b7,c7,hs7,_,f7,_⟩:=h3.argsE (i:=c) (k:=0) hcv (by show 0<(g1.args c).length;rw[hj];simp)
 have f8:=h3.vArgs (i:=c) hcv
 rw[hs7] at f8
 have hargs:({ g1 with ctrl:=c3 }:Gph).args c=[j]:=hj
 rw[hargs] at f7 f8
 simp only [List.length_singleton] at f8
 refine Ac (Ab Ad rfl (Ab Ad rfl (Ab Ad rfl (Ab (Aw rfl) rfl (Ab (Ak rfl (Al rfl)) rfl (Ab (Ai rfl (Ag rfl) ‹_›) rfl ?_))))))
 refine Ab (x_index0 rfl rfl (An rfl) (by omega)) rfl (Ab (Ai rfl (Ag rfl) ‹_›) rfl ?_)
 refine Bc (AG Tryz.func71 rfl rfl rfl rfl) rfl (DZ (b:=bi) (k:=k) (j:=j) h3 hlt hlk3) ?_
 rintro _ w5 ⟨h5,hb5⟩
 refine Af (Ao (Aa (Ac (Ab (x_inc rfl rfl (by omega)) rfl (Ab Ad rfl (Af ?_))))))
 refine Av ((c2 bi).length - (k+1)) (by omega) ⟨k+1,fun x=>if x=bi then (c3 bi).set k j else c3 x,by omega,Aq rfl ⟨rfl,rfl,rfl,rfl,rfl,rfl,rfl,trivial⟩,h5,hb3.trans hb5,fun b hb=>?_,fun b hb=>?_,?_,rfl⟩
 ·dsimp only;rw[if_neg (by omega)];exact hd3 b hb
 ·dsimp only;rw[if_neg (by omega)];exact ht3 b hb
 dsimp only;rw[if_pos rfl]
 apply hfix
 unfold Cq
 rw[if_pos hoc,hj];rfl
end Go.Proofs.YteepnepebilckaaGreatDoor
