/- The law FnCseOver returns true for every input in which the opcode table reads as laid, and its argument reads as it did, the table being tied to the text of the program. -/
import Derived.Test.YteepnepebilckaaGreatDoorCV23
namespace Go.Proofs.YteepnepebilckaaGreatDoor
open Go Go.Eng Go.RowKit Go.Shelf
structure MS where
 args:Nat→List Nat
 arr:Nat→Nat
 cls:Nat→Int
 P:List (Nat×Nat)
 pn:Int
 i:Nat
 chg:Bool
def swA (args:Nat→List Nat) (cls:Nat→Int) (arr:Nat→Nat) (o m:Nat):Nat→List Nat:=fun v=>if inC arr o m v then ordA cls (args v) else args v
def sptA (args:Nat→List Nat) (cls:Nat→Int) (arr:Nat→Nat) (o m:Nat):List Nat:=0 :: (List.range m).filter fun j=>decide (1≤j∧((args (arr (o+j - 1))).map fun a=>cls (a+1))≠((args (arr (o+j))).map fun a=>cls (a+1)))
noncomputable def mone (op:Nat→Int) (s:MS) (o n:Nat):MS:=
 let A:=swA s.args s.cls s.arr o (if comm (op (s.arr o)).toNat then n else 0)
 let a:=AZ s.arr o n (Eh (fun x y=>ca s.cls (A x) (A y)) (clsD s.arr o n))
 if (sptA A s.cls a o n).length=1 then ⟨A,a,s.cls,s.P,s.pn,s.i+1,s.chg⟩
 else let R:=parts a o (sptA A s.cls a o n ++ [n]) s.cls (popP s.P s.i) s.pn;⟨A,a,R.1,R.2.1,R.2.2,s.i,true⟩
noncomputable def Cp (op:Nat→Int) (s:MS):MS:=
 if h:s.i<s.P.length then mone op s s.P[s.i].1 s.P[s.i].2
 else if s.chg then { s with i:=0,chg:=false } else s
noncomputable def mit (op:Nat→Int) (s0:MS):Nat→MS
 |0=>s0
 |n+1=>Cp op (mit op s0 n)
def Rc (op:Nat→Int) (s0 s:MS):Prop:=∃n,s=mit op s0 n
theorem Rc.fin {op:Nat→Int} {s0 s t:MS} (h:Rc op s0 s) (k:Rc op s0 t) (hs:Cp op s=s) (ht:Cp op t=t):s=t:=by
 have key:∀(u:MS) n,u=mit op s0 n→Cp op u=u→∀k,mit op s0 (n+k)=u:=fun u n e hu k=>by
  induction k with
  |zero=>exact e.symm
  |succ k ih=>show Cp op (mit op s0 (n+k))=u;rw[ih,hu]
 obtain ⟨n,hn⟩:=h
 obtain ⟨m,hm⟩:=k
 by_cases hnm:n≤m
 ·have:=key s n hn hs (m - n)
  rw[show n+(m - n)=m by omega,← hm] at this
  exact this.symm
 have:=key t m hm ht (n - m)
 rw[show m+(n - m)=n by omega,← hn] at this
 exact this
section
variable {g : Gph} {arr : Nat → Nat} {cls : Nat → Int} {P : List (Nat × Nat)} {pn : Int} {s0 : MS} {o n m i : Nat} {D : List Nat} {chg : Bool} {op : Nat → Int}
theorem Rc.stay (h:Rc op s0 ⟨g.args,arr,cls,P,pn,i,chg⟩) (hop:g.op=op) (hi:i<P.length) (hP:P[i]=(o,n)) (hm:m=if comm (g.op (arr o)).toNat then n else 0) (hso:SortOut (fun x y=>ca cls ((gsw g cls arr o m).args x) ((gsw g cls arr o m).args y)) (clsD arr o n) D)
 (h1:(spt (gsw g cls arr o m) cls (AZ arr o n D) o n).length=1):Rc op s0 ⟨(gsw g cls arr o m).args,AZ arr o n D,cls,P,pn,i+1,chg⟩:=by
 obtain ⟨k,hk⟩:=h
 refine ⟨k+1,?_⟩
 show _=Cp op (mit op s0 k)
 rw[← hk]
 have hd:=hso.det
 subst hd hm hop
 unfold Cp
 rw[dif_pos (show (⟨g.args,arr,cls,P,pn,i,chg⟩:MS).i<(⟨g.args,arr,cls,P,pn,i,chg⟩:MS).P.length from hi)]
 show _=mone g.op _ P[i].1 P[i].2
 rw[hP]
 exact (if_pos h1).symm
theorem Rc.cut (h:Rc op s0 ⟨g.args,arr,cls,P,pn,i,chg⟩) (hop:g.op=op) (hi:i<P.length) (hP:P[i]=(o,n)) (hm:m=if comm (g.op (arr o)).toNat then n else 0) (hso:SortOut (fun x y=>ca cls ((gsw g cls arr o m).args x) ((gsw g cls arr o m).args y)) (clsD arr o n) D)
 (h1:(spt (gsw g cls arr o m) cls (AZ arr o n D) o n).length≠1) {R:(Nat→Int)×List (Nat×Nat)×Int} (hR:R=parts (AZ arr o n D) o (spt (gsw g cls arr o m) cls (AZ arr o n D) o n ++ [n]) cls (popP P i) pn):
 Rc op s0 ⟨(gsw g cls arr o m).args,AZ arr o n D,R.1,R.2.1,R.2.2,i,true⟩:=by
 obtain ⟨k,hk⟩:=h
 refine ⟨k+1,?_⟩
 show _=Cp op (mit op s0 k)
 rw[← hk]
 have hd:=hso.det
 subst hd hm hR hop
 unfold Cp
 rw[dif_pos (show (⟨g.args,arr,cls,P,pn,i,chg⟩:MS).i<(⟨g.args,arr,cls,P,pn,i,chg⟩:MS).P.length from hi)]
 show _=mone g.op _ P[i].1 P[i].2
 rw[hP]
 exact (if_neg h1).symm
theorem Rc.again (h:Rc op s0 ⟨g.args,arr,cls,P,pn,i,true⟩) (hi:¬ i<P.length):Rc op s0 ⟨g.args,arr,cls,P,pn,0,false⟩:=by
 obtain ⟨k,hk⟩:=h
 refine ⟨k+1,?_⟩
 show _=Cp op (mit op s0 k)
 rw[← hk]
 unfold Cp
 rw[dif_neg (show ¬ (⟨g.args,arr,cls,P,pn,i,true⟩:MS).i<(⟨g.args,arr,cls,P,pn,i,true⟩:MS).P.length from hi)]
 exact (if_pos rfl).symm
theorem Phi_ge:∀{P:List (Nat×Nat)},(∀p∈P,2≤p.2)→(P.length:Int)≤Phi P
 | [],_=>by simp [Phi]
 |p :: P,h=>by
  have h1:=h p (.head _)
  have h2:=Phi_ge (P:=P) fun q hq=>h q (.tail _ hq)
  unfold Phi at h2 ⊢
  simp only [List.map_cons,List.sum_cons,List.length_cons]
  omega
end
set_option maxHeartbeats 4000000
attribute [local irreducible] EC EL DL Ret thenQ blockQ Bi bodyQ onlyN execOp Sem.run World.cell? World.frozen? World.setCell World.alloc
section
variable {w : World} {B Bs : Nat} {L : Lay} {b : Bl} {g0 g : Gph} {arr : Nat → Nat} {cls : Nat → Int} {pv : Value} {P : List (Nat × Nat)} {Q : Exit → Env → World → Prop} {t : Nat → Value} {ds : List Deferred} {pn : Int} {mbx : Nat} {fw : Prop} {s0 : MS}
theorem cseMain (hs:St w B L b g arr cls pv P) (hj:PJ g0 g arr cls P pn fw) (ga:GA g0) (hE:GE b.E L g) (hB:0<B) (hBE:B≤b.E) (hb:b.Ok) (hb2:b.Ok2 w.heap.size) (hEb:b.Eb≤w.heap.size) (hM:pn+Phi P≤999) (hs0:s0=⟨g.args,arr,cls,P,pn,0,false⟩)
 (h:∀t w' g' arr' cls' pv' P' pn' i',St w' B L b g' arr' cls' pv' P'→PJ g0 g' arr' cls' P' pn' fw→GE b.E L g'→(∀p∈P',Do g' arr' cls' p)→Rc g0.op s0 ⟨g'.args,arr',cls',P',pn',i',false⟩→¬ i'<P'.length→P'.length≤999→Below B w w'→
   EC Tryz.prog Tryz.f41.ntmps (dropC 15 BZ) Q (Env.sets ⟨t,ds⟩ [(1,.pointer (some ⟨b.fbx,0,none⟩)),(7,pv'),(18,.pointer (some ⟨mbx,0,none⟩))]) w'):
 EC Tryz.prog Tryz.f41.ntmps (dropC 14 BZ) Q (Env.sets ⟨t,ds⟩ [(1,.pointer (some ⟨b.fbx,0,none⟩)),(7,pv),(8,.pointer (some ⟨b.vbx,0,none⟩)),(13,.int .i32 pn),(18,.pointer (some ⟨mbx,0,none⟩)),(19,.slice none 0 0)]) w:=by
 obtain ⟨W0,hW0⟩:∃W0,W0=w.heap.size:=⟨_,rfl⟩
 rw[← hW0] at hb2 hEb
 have hBw:B≤W0:=by have:=hb2.all;omega
 refine Ae (Ao ?_)
 refine EC_loop (fun m e w1=>∃g arr cls pv P pn sp l,St w1 B L b g arr cls pv P∧PJ g0 g arr cls P pn fw∧GE b.E L g∧Sp w1 W0 sp pv l∧Below B w w1∧Rc g0.op s0 ⟨g.args,arr,cls,P,pn,0,false⟩∧
  AtD e ds [(1,.pointer (some ⟨b.fbx,0,none⟩)),(7,pv),(8,.pointer (some ⟨b.vbx,0,none⟩)),(13,.int .i32 pn),(18,.pointer (some ⟨mbx,0,none⟩)),(19,sp)]∧(m:Int)=pn+Phi P∧m≤999) (pn+Phi P).toNat
  ⟨g,arr,cls,pv,P,pn,.slice none 0 0,[],hs,hj,hE,⟨World.ownsRow_nil _ _ _ _,fun _ _ h=>by cases h⟩,Below.refl _ _,⟨0,hs0.symm⟩,AT rfl ⟨rfl,rfl,rfl,rfl,rfl,rfl,trivial⟩,by have:=hj.pos;have:=Phi_ge fun p hp=>(hj.pi.long p hp).1;omega,by omega⟩ ?_
 clear hs hj hE hM hs0
 rintro m e w1 ⟨g,arr,cls,pv,P,pn,sp,l,hs,hj,hE,hsp,hbl,hrc,⟨t,rfl⟩,hm,hm9⟩
 refine Ao (Ae (Ac (Ab Ah rfl (Af (Aa ?_)))))
 refine AW (fun e w2=>∃g arr cls pv P pn sp l i chg,St w2 B L b g arr cls pv P∧PJ g0 g arr cls P pn fw∧GE b.E L g∧Sp w2 W0 sp pv l∧Below B w w2∧Rc g0.op s0 ⟨g.args,arr,cls,P,pn,i,chg⟩∧
  pn+Phi P≤m∧(chg=true→pn+Phi P<m)∧(chg=false→∀k (hk:k<P.length),k<i→Do g arr cls P[k])∧¬ i<P.length∧
  AtD e ds [(1,.pointer (some ⟨b.fbx,0,none⟩)),(7,pv),(8,.pointer (some ⟨b.vbx,0,none⟩)),(13,.int .i32 pn),(18,.pointer (some ⟨mbx,0,none⟩)),(19,sp),(20,.bool chg)]) ?_ ?_
 ·refine Ae (Ac (Ab Ah rfl (Af (Aa (Ao ?_)))))
  refine EC_loop (fun q e w2=>∃g arr cls pv P pn sp l i chg,St w2 B L b g arr cls pv P∧PJ g0 g arr cls P pn fw∧GE b.E L g∧Sp w2 W0 sp pv l∧Below B w w2∧Rc g0.op s0 ⟨g.args,arr,cls,P,pn,i,chg⟩∧
   pn+Phi P≤m∧(chg=true→pn+Phi P<m)∧(chg=false→∀k (hk:k<P.length),k<i→Do g arr cls P[k])∧
   AtD e ds [(1,.pointer (some ⟨b.fbx,0,none⟩)),(7,pv),(8,.pointer (some ⟨b.vbx,0,none⟩)),(13,.int .i32 pn),(18,.pointer (some ⟨mbx,0,none⟩)),(19,sp),(20,.bool chg),(21,.int .i64 (i:Int))]∧q=(pn+Phi P).toNat * 1000+(P.length - i)) ((pn+Phi P).toNat * 1000+(P.length - 0))
   ⟨g,arr,cls,pv,P,pn,sp,l,0,false,hs,hj,hE,hsp,hbl,hrc,by omega,fun h=>(by cases h),fun _ k _ h=>absurd h (Nat.not_lt_zero _),AT rfl ⟨rfl,rfl,rfl,rfl,rfl,rfl,rfl,rfl,trivial⟩,rfl⟩ ?_
  clear hs hj hE hsp hbl hrc hm
  rintro q e w2 ⟨g,arr,cls,pv,P,pn,sp,l,i,chg,hs,hj,hE,hsp,hbl,hrc,hm1,hm2,hst,⟨t,rfl⟩,rfl⟩
  have hpos:=hj.pos
  have hPg:=Phi_ge fun p hp=>(hj.pi.long p hp).1
  obtain ⟨pa,pc,hpv⟩:=Bx hs.row
  refine Ae (Ae (Ac ?_))
  rw[hpv]
  refine Ab Ad rfl (Ab Ad rfl (Ab (AN rfl (An rfl)) rfl (Ab (AX rfl rfl) rfl (Af (Aa ?_)))))
  refine AI rfl rfl (fun hlt=>?_) (fun hge=>?_)
  rotate_left
  ·have hi:¬ i<P.length:=by omega
   refine AK (AB (AD (AA ?_)))
   exact AR ⟨g,arr,cls,pv,P,pn,sp,l,i,chg,hs,hj,hE,hsp,hbl,hrc,hm1,hm2,hst,hi,AT rfl ⟨rfl,hpv.symm,rfl,rfl,rfl,rfl,rfl,trivial⟩⟩
  have hi:i<P.length:=by omega
  obtain ⟨o,ho⟩:∃o,o=P[i].1:=⟨_,rfl⟩
  obtain ⟨n,hn⟩:∃n,n=P[i].2:=⟨_,rfl⟩
  have hP:P[i]=(o,n):=by rw[ho,hn]
  have hX:(o,n)∈P:=hP ▸ List.getElem_mem hi
  refine Aq (Aa ?_)
  have hsz:=hbl.size
  have hop:g.op=g0.op:=by rw[hj.sw.eq]
  refine Ae (Ao (Bj ds [(1,.pointer (some ⟨b.fbx,0,none⟩)),(7,pv),(8,.pointer (some ⟨b.vbx,0,none⟩)),(13,.int .i32 pn),(18,.pointer (some ⟨mbx,0,none⟩)),(19,sp),(20,.bool chg),(21,.int .i64 (i:Int))] rfl ⟨rfl,hpv.symm,rfl,rfl,rfl,rfl,rfl,rfl,trivial⟩ fun t=>?_))
  refine cseClass hs hj ga hE hB hBE hb hb2 (by omega) (by omega) hsp hi hP (by omega) (by omega) (fun t w3 m' D sp' l' hm' hmn hso h1 hs' hj' hS hsp' hbl'=>?_) (fun t w3 m' D sp' pv' l' R hm' hso h1 hR hs' hj' hph hsp' hbl'=>?_)
  ·refine AA (Aa (Ac (Ab Ad rfl (Ab (x_inc rfl rfl (by omega)) rfl (Ab Ah rfl (Af ?_))))))
   refine Aw ((pn+Phi P).toNat * 1000+(P.length - (i+1))) (by omega) ⟨_,_,cls,pv,P,pn,sp',l',i+1,chg,hs',hj',hE.gsw m' o,hsp',hbl.trans hbl',hrc.stay hop hi hP hm' hso h1,hm1,hm2,fun hc k hk hki=>?_,AT rfl ⟨rfl,rfl,rfl,rfl,rfl,rfl,rfl,rfl,trivial⟩,rfl⟩
   by_cases e:k=i
   ·subst e
    rw[hP];exact hS
   refine stab_other hj.pi.pk hX hmn (List.getElem_mem hk) (fun e2=>e ?_) (hst hc k hk (by omega))
   rw[← hP] at e2
   exact (List.getElem_inj hj.pi.pk.nodup).1 e2
  refine Ap (Aa (Ac (Ab Ad rfl (Ab (Cq (c:=(i:Int)) rfl rfl (by rw[IntWalk.i64_in _ (by omega)];omega)) rfl ?_))))
  refine Ab Ah rfl (Af ?_)
  have hPg':=Phi_ge fun p hp=>(hj'.pi.long p hp).1
  have hpos':=hj'.pos
  exact Aw ((R.2.2+Phi R.2.1).toNat * 1000+(R.2.1.length - i)) (by omega) ⟨_,_,R.1,pv',R.2.1,R.2.2,sp',l',i,true,hs',hj',hE.gsw m' o,hsp',hbl.trans hbl',hrc.cut hop hi hP hm' hso h1 hR,by omega,fun _=>by omega,fun h=>(by cases h),AT rfl ⟨rfl,rfl,rfl,rfl,rfl,rfl,rfl,rfl,trivial⟩,rfl⟩
 clear hs hj hE hsp hbl hrc hm
 rintro e w2 ⟨g,arr,cls,pv,P,pn,sp,l,i,chg,hs,hj,hE,hsp,hbl,hrc,hm1,hm2,hst,hi,⟨t,rfl⟩⟩
 have hpos:=hj.pos
 have hPg:=Phi_ge fun p hp=>(hj.pi.long p hp).1
 refine Ae (Ac (Ab Ad rfl (Ab (BS rfl) rfl (Af (Aa ?_)))))
 cases chg with
 |true=>
  refine Bh rfl rfl (Aq (Ap ?_))
  have:=hm2 rfl
  exact Aw (pn+Phi P).toNat (by omega) ⟨g,arr,cls,pv,P,pn,sp,l,hs,hj,hE,hsp,hbl,hrc.again hi,AT rfl ⟨rfl,rfl,rfl,rfl,rfl,rfl,trivial⟩,by omega,by omega⟩
 |false=>
  refine Bm rfl rfl (AK (CP rfl (AD (AA (Aa (Bj ds [(1,.pointer (some ⟨b.fbx,0,none⟩)),(7,pv),(18,.pointer (some ⟨mbx,0,none⟩))] rfl ⟨rfl,rfl,rfl,trivial⟩ fun t=>?_))))))
  refine h t w2 g arr cls pv P pn i hs hj hE (fun p hp=>?_) hrc hi (by omega) hbl
  obtain ⟨k,hk,rfl⟩:=List.getElem_of_mem hp
  exact hst rfl k hk (by omega)
end
end Go.Proofs.YteepnepebilckaaGreatDoor
namespace Go.Proofs.YteepnepebilckaaGreatDoor
open Go Go.Eng Go.RowKit Go.Shelf
def D49 (RB n:Nat):Deferred:=⟨.fn (.func 49) #[],#[.agg #[],.slice (some ⟨RB,0,none⟩) n n]⟩
structure S2 (w:World) (B:Nat) (L:Lay) (b:Bl) (g:Gph) (arr:Nat→Nat) (pv:Value) (P:List (Nat×Nat)) (tb RB T:Nat) (en ex:Nat→Nat):Prop where
 rep:GRep w B L g
 ar:BW w L b.A g.nv arr
 row:w.ownsRow b.Eb 113 1 pv P.length (P.map (slV b.A (g.nv+1)))
 tbc:w.heap[tb]? =some (.cells #[.slice (some ⟨T,0,none⟩) (g.nb+1) (g.nb+1)] 127 (0,0))
 sd:SdT w L g T en ex
 rw:w.heap[RB]? =some (.cells (cellsOf (fun _=>.pointer none) (g.nv+1)) 97 (0,0))
 fb:w.heap[b.fbx]? =some (.cells #[L.fp] 71 (0,0))
 ge:GE b.E L g
 ne:b.E≤b.A∧b.E≤RB∧b.A≠RB∧tb≠b.A∧tb≠RB∧T≠b.A∧T≠RB∧b.fbx≠b.A∧b.fbx≠RB∧∀k,pv.ownBlock=some k→k≠b.A∧k≠RB
theorem Hf:Bu Tryz.prog 127 #[.slice none 0 0]:=by unfold Bu;kernel_rfl
set_option maxHeartbeats 4000000
attribute [local irreducible] EC EL DL Ret thenQ blockQ Bi bodyQ onlyN execOp Sem.run World.cell? World.frozen? World.setCell World.alloc
section
variable {w : World} {B : Nat} {L : Lay} {b : Bl} {g : Gph} {arr : Nat → Nat} {cls : Nat → Int} {pv : Value} {P : List (Nat × Nat)} {Q : Exit → Env → World → Prop} {t : Nat → Value} {ds : List Deferred} {mbx : Nat}
theorem cseE (hs:St w B L b g arr cls pv P) (hE:GE b.E L g) (hb:b.Ok) (hn:g.nv≤48) (hnb:1≤g.nb∧g.nb≤9) (harr:∀i,i<g.nv→arr i<g.nv) (hP:∀p∈P,2≤p.2∧p.1+p.2≤g.nv) (hPl:P.length≤999) (hent:L.entry=some ⟨L.bb 0,0,none⟩)
 (hsu:∀x,x<g.nb→(g.succs x).length≤2∧∀s∈g.succs x,s<g.nb) (hpr:∀x,x<g.nb→g.preds x=predsL g.succs g.nb x) (hre:∀x,x<g.nb→RchS g.succs g.nb x)
 (h:∀t w' cv us tb RB T en ex,w.heap.size≤RB→S2 w' B L b { g with cl:=cv } arr pv P tb RB T en ex→LLs w' w.heap.size cv us (P.map fun p=>BL (clsL arr p))→(∀k,w.heap.size≤k→cv.ownBlock=some k∨(∃i,(us.getD i nilS).ownBlock=some k)→k≠RB∧k≠b.A)→Only (fun j=>j=L.fb) w w'→
   EC Tryz.prog Tryz.f41.ntmps (dropC 19 BZ) Q (Env.sets ⟨t,D49 RB (g.nv+1) :: ds⟩ [(1,.pointer (some ⟨b.fbx,0,none⟩)),(7,pv),(18,.pointer (some ⟨mbx,0,none⟩)),(42,.pointer (some ⟨tb,0,none⟩)),(43,.slice (some ⟨RB,0,none⟩) (g.nv+1) (g.nv+1))]) w'):
 EC Tryz.prog Tryz.f41.ntmps (dropC 15 BZ) Q (Env.sets ⟨t,ds⟩ [(1,.pointer (some ⟨b.fbx,0,none⟩)),(7,pv),(18,.pointer (some ⟨mbx,0,none⟩))]) w:=by
 have hok:=hb.e
 have hn1:=hb.n1
 have hn2:=hb.n2
 have hhi:=hb.hi
 have hfl:=hE.fb
 have hAl:=Bg hs.ar
 have hfbl:=Bg hs.fb
 have hpl:∀k,pv.ownBlock=some k→b.Eb≤k∧k<w.heap.size:=fun k e=>As hs.row k e
 refine Ae ?_
 have hfc:=hs.fc
 refine Ac (Ab (Ai rfl (Ag rfl) ‹_›) rfl ?_)
 refine Ab Ad rfl (Be (AG Tryz.func58 rfl rfl rfl rfl) rfl (keep_ret hs.rep hE (by omega) (by omega) hs.ar hn harr hP (by omega) hs.row) ?_)
 rintro _ w1 ⟨rfl,cv,us,hg1,hL1,hO1⟩
 refine Af (Aa ?_)
 have hz1:=hO1.size
 have hfb1:=(hO1.block b.fbx hfbl (by omega)).trans hs.fb
 have hfc1:w1.cell? ⟨b.fbx,0,none⟩=some L.fp:=Am hfb1 rfl
 have hA1:=(hO1.block b.A hAl (by omega)).trans hs.ar
 have hrow1:=Ax hs.row (w':=w1) fun k e=>hO1.block k (hpl k e).2 (by have:=hpl k e;omega)
 refine Ae (Ac (Ab (Ai rfl (Ag rfl) hfc1) rfl (Be (AG Tryz.func59 rfl rfl rfl rfl) rfl (Sdom_ret hg1 hnb hent hsu hpr hre) ?_)))
 rintro _ w2 ⟨T,en,ex,rfl,hT,hsd,hB2⟩
 have hz2:=hB2.size
 obtain ⟨tb,htb⟩:∃tb,tb=w2.heap.size:=⟨_,rfl⟩
 refine Ab (A9 Hf) rfl (el_new0 (.cells #[.slice none 0 0] 127) fun w3 hN3 hO3 hZ3 hB3 hK3=>?_)
 rw[← htb] at hN3 ⊢
 refine Bc (AU rfl rfl rfl (AH rfl) (Am hN3 rfl) (AQ hN3)) rfl ?_
 have hN4:(w3.setCell ⟨tb,0,none⟩ (.slice (some ⟨T,0,none⟩) (g.nb+1) (g.nb+1))).heap[tb]? =some (.cells #[.slice (some ⟨T,0,none⟩) (g.nb+1) (g.nb+1)] 127 (0,0)):=AC hN3
 have hB4:Below w2.heap.size w2 (w3.setCell ⟨tb,0,none⟩ (.slice (some ⟨T,0,none⟩) (g.nb+1) (g.nb+1))):=hB3.setCell (show w2.heap.size≤tb by omega) _
 change EL _ _ _ _ _ _ (w3.setCell ⟨tb,0,none⟩ (.slice (some ⟨T,0,none⟩) (g.nb+1) (g.nb+1)))
 generalize w3.setCell ⟨tb,0,none⟩ (.slice (some ⟨T,0,none⟩) (g.nb+1) (g.nb+1))=w4 at hN4 hB4 ⊢
 refine Af (Aa ?_)
 have hB14:Below w1.heap.size w1 w4:=hB2.trans (hB4.mono (by omega))
 have hz4:=hB4.size
 have hTl:T<w2.heap.size:=by
  obtain ⟨_,_,_,h1⟩:=hsd.tr
  exact h1.lt
 have hg4:=hg1.on hB14
 have hfb4:=(hB14.block b.fbx (by omega)).trans hfb1
 have hfc4:w4.cell? ⟨b.fbx,0,none⟩=some L.fp:=Am hfb4 rfl
 refine Ae ?_
 have hd4:Below w4.heap.size w4 w4.drew:=(Below.refl _ _).drew
 refine AY mixed (fun w'=>Below w4.heap.size w4 w') [(0,false),(1,false),(2,false),(3,false),(4,false),(5,true),(6,true),(7,false)] (by kernel_rfl) hd4 ?_
 have hfW:∀W,Below w4.heap.size w4 W→W.cell? ⟨b.fbx,0,none⟩=some L.fp:=fun W hb=>Am ((hb.block b.fbx (by omega)).trans hfb4) rfl
 generalize w4.drew=W0 at hd4 ⊢
 refine Aj rfl (fun _ hS=>Ai rfl (Ag rfl) (hfW _ hS)) (Aj rfl (fun _ _=>Au rfl) (Aj rfl (fun _ hS=>B3 rfl ((hg4.on hS).comp .fn)) (Aj rfl (fun _ _=>B4 rfl) (Aj rfl (fun _ hS=>Ai rfl (Ag rfl) (hfW _ hS)) (BO rfl (AG Tryz.func47 rfl rfl rfl rfl) (NumValues_ret (hg4.on hd4) hn) ?_)))))
 rintro _ wx ⟨rfl,ew⟩
 rw[ew]
 clear ew wx
 refine ⟨.inr hd4,?_⟩
 refine BO rfl (AG Tryz.func46 rfl rfl rfl rfl) (CE (n:=g.nv+1) (by omega)) ?_
 rintro _ w5 ⟨RB,rfl,hRB,hR5,hb5⟩
 have hz0:=hd4.size
 have hB5:=hd4.trans (hb5.mono hz0)
 refine ⟨.inr hB5,?_⟩
 refine Aj rfl (fun _ _=>Ah) (AP (Aa ?_))
 have hz5:=hB5.size
 have hB15:Below w1.heap.size w1 w5:=hB14.trans (hB5.mono (by omega))
 have hg5:=hg4.on hB5
 have hfb5:=(hB5.block b.fbx (by omega)).trans hfb4
 refine Ae (Ac (Ab (Ai rfl (Ag rfl) (Am hfb5 rfl)) rfl (Ab (Au rfl) rfl (Ab (B3 rfl (hg5.comp .fn)) rfl (Ab (B4 rfl) rfl (Ab Ad rfl (EL_d (Dj rfl rfl) rfl (Af (Aa (Bj (D49 RB (g.nv+1) :: ds) [(1,.pointer (some ⟨b.fbx,0,none⟩)),(7,pv),(18,.pointer (some ⟨mbx,0,none⟩)),(42,.pointer (some ⟨tb,0,none⟩)),(43,.slice (some ⟨RB,0,none⟩) (g.nv+1) (g.nv+1))] rfl ⟨rfl,rfl,rfl,rfl,rfl,trivial⟩ fun t=>?_))))))))))
 have hsdt:SdT w5 L { g with cl:=cv } T en ex:=hsd.stay (((hB4.trans (hB5.mono (by omega))).block T hTl))
 refine h t w5 cv us tb RB T en ex (by omega) ⟨hg5,(hB15.block b.A (by omega)).trans hA1,Ax hrow1 fun k e=>hB15.block k (by have:=hpl k e;omega),(hB5.block tb (by have:=Bg hN4;omega)).trans hN4,hsdt,hR5,hfb5,hE.cl cv,?_⟩ (hL1.on fun k h1 h2=>hB15.block k h2) ?_ ?_
 ·refine ⟨by omega,by omega,by omega,by omega,by have:=Bg hN4;omega,by omega,by omega,by omega,by omega,fun k e=>?_⟩
  have:=hpl k e
  exact ⟨by omega,by omega⟩
 ·intro k hk hor
  have hk1:k<w1.heap.size:=by
   rcases hor with h1|⟨i,h1⟩
   ·exact (As hL1.row k h1).2
   by_cases hi:i<us.length
   ·have hi2:i<(P.map fun p=>BL (clsL arr p)).length:=by rw[← hL1.len];exact hi
    exact (As (hL1.ints i hi2) k h1).2
   rw[List.getD_eq_getElem?_getD,List.getElem?_eq_none (by omega)] at h1
   cases h1
  exact ⟨by omega,by omega⟩
 exact hO1.bel hz1 hB15
end
end Go.Proofs.YteepnepebilckaaGreatDoor
namespace Go.Proofs.YteepnepebilckaaGreatDoor
open Go Go.Eng Go.RowKit Go.Shelf
def ptO (L:Lay):Option Nat→Value
 |none=>.pointer none
 |some v=>L.vp v
def ce (g:Gph) (en:Nat→Nat) (x y:Nat):Int:=Dg ((en (g.blk x+1):Nat):Int) ((en (g.blk y+1):Nat):Int)
theorem ce_swo {α:Type} (g:Gph) (en:Nat→Nat) (f:α→Nat):Go.Sort.SWO (ltOf fun x y:α=>ce g en (f x) (f y)):=by
 have e:(fun x y:α=>ce g en (f x) (f y))=fun x y=>lexc [((en (g.blk (f x)+1):Nat):Int)] [((en (g.blk (f y)+1):Nat):Int)]:=by
  funext x y
  rfl
 rw[e]
 exact lexc_swo (fun x:α=>[((en (g.blk (f x)+1):Nat):Int)]) fun _ _=>rfl
def RwI (g:Gph) (Rel:Nat→Nat→Prop) (rw:Nat→Option Nat):Prop:=∀x y,x<g.nv→rw (x+1)=some y→y<g.nv∧Rel y x
theorem RwI.set {g:Gph} {Rel:Nat→Nat→Prop} {rw:Nat→Option Nat} (h:RwI g Rel rw) {x y:Nat} (hy:y<g.nv) (hr:Rel y x):RwI g Rel (fun i=>if i=x+1 then some y else rw i):=by
 intro a c ha e
 by_cases h1:a=x
 ·subst h1
  have e:(if a+1=a+1 then some y else rw (a+1))=some c:=e
  rw[if_pos rfl] at e
  injection e with e
  subst e
  exact ⟨hy,hr⟩
 have e:(if a+1=x+1 then some y else rw (a+1))=some c:=e
 rw[if_neg (by omega)] at e
 exact h a c ha e
def Gone (L:Lay) (R:Nat→Value) (o n:Nat) (D:List Nat):Prop:=∀j,j<n→R (o+j)= .pointer none∨R (o+j)=L.vp (D.getD j 0)
def Todo (L:Lay) (R:Nat→Value) (arr:Nat→Nat) (P:List (Nat×Nat)) (k:Nat):Prop:=∀q (hq:q<P.length),k≤q→∀j,j<P[q].2→R (P[q].1+j)=L.vp (arr (P[q].1+j))
theorem Gone.nil {L:Lay} {R:Nat→Value} {o n:Nat} {D:List Nat} (h:Gone L R o n D) {s:Nat}:Gone L (fun i=>if i=s then .pointer none else R i) o n D:=fun j hj=>by
 by_cases e:o+j=s
 ·exact .inl (if_pos e)
 show (if o+j=s then _ else _)=_∨(if o+j=s then _ else _)=_
 rw[if_neg e];exact h j hj
theorem Todo.nil {L:Lay} {R:Nat→Value} {arr:Nat→Nat} {P:List (Nat×Nat)} {k:Nat} (h:Todo L R arr P (k+1)) (hap:P.Pairwise fun a b=>a.1+a.2≤b.1∨b.1+b.2≤a.1) (hk:k<P.length) {j:Nat} (hj:j<P[k].2):Todo L (fun i=>if i=P[k].1+j then .pointer none else R i) arr P (k+1):=fun q hq hkq i hi=>by
 have h1:=List.pairwise_iff_getElem.1 hap k q hk hq (by omega)
 show (if P[q].1+i=P[k].1+j then _ else _)=_
 rw[if_neg (by omega)]
 exact h q hq hkq i hi
def Bk2 (b:Bl) (RB:Nat):Nat→Prop:=fun j=>j=b.A∨j=RB
theorem S2.keep {w w':World} {B:Nat} {L:Lay} {b:Bl} {g:Gph} {arr:Nat→Nat} {pv:Value} {P:List (Nat×Nat)} {tb RB T:Nat} {en ex:Nat→Nat} (h:S2 w B L b g arr pv P tb RB T en ex) (hO:Only (Bk2 b RB) w w'):
 GRep w' B L g∧SdT w' L g T en ex∧w'.heap[tb]? =some (.cells #[.slice (some ⟨T,0,none⟩) (g.nb+1) (g.nb+1)] 127 (0,0))∧w'.ownsRow b.Eb 113 1 pv P.length (P.map (slV b.A (g.nv+1)))∧w'.heap[b.fbx]? =some (.cells #[L.fp] 71 (0,0)):=by
 obtain ⟨n1,n2,n3,n4,n5,n6,n7,n8,n9,n10⟩:=h.ne
 obtain ⟨_,_,_,hT⟩:=h.sd.tr
 have hfl:=Bg h.rw
 have hal:=Bg h.ar
 refine ⟨h.rep.keepE h.ge fun k hk=>hO.block k (by omega) fun e=>by rcases e with e|e <;> omega,h.sd.stay (hO.block T hT.lt fun e=>e.elim n6 n7),(hO.block tb (Bg h.tbc) fun e=>e.elim n4 n5).trans h.tbc,
  Ax h.row fun k e=>hO.block k (As h.row k e).2 fun e2=>e2.elim (n10 k e).1 (n10 k e).2,(hO.block b.fbx (Bg h.fb) fun e=>e.elim n8 n9).trans h.fb⟩
set_option maxHeartbeats 4000000
attribute [local irreducible] EC EL DL Ret thenQ blockQ Bi bodyQ onlyN execOp Sem.run World.cell? World.frozen? World.setCell World.alloc
section
variable {w : World} {B : Nat} {L : Lay} {b : Bl} {g : Gph} {arr : Nat → Nat} {cls : Nat → Int} {pv : Value} {P : List (Nat × Nat)} {Q : Exit → Env → World → Prop} {t : Nat → Value} {ds : List Deferred} {mbx tb RB T : Nat} {en ex : Nat → Nat} {Rel : Nat → Nat → Prop}
theorem cseF (h0:S2 w B L b g arr pv P tb RB T en ex) (hn:g.nv≤48) (hnb:g.nb≤9) (hblk:∀i,i<g.nv→g.blk i<g.nb) (hPl:P.length≤999) (harr:∀i,i<g.nv→arr i<g.nv) (hlong:∀p∈P,2≤p.2∧p.1+p.2≤g.nv) (hap:P.Pairwise fun a b=>a.1+a.2≤b.1∨b.1+b.2≤a.1)
 (hRel:∀p∈P,∀D',SortOut (ce g en) (clsD arr p.1 p.2) D'→∀i j,i<j→j<p.2→Dom g.succs (g.blk (D'.getD i 0)) (g.blk (D'.getD j 0))→Rel (D'.getD i 0) (D'.getD j 0))
 (h:∀t w' rw,RwI g Rel rw→w'.heap[RB]? =some (.cells (cellsOf (fun i=>ptO L (rw i)) (g.nv+1)) 97 (0,0))→Only (Bk2 b RB) w w'→
   EC Tryz.prog Tryz.f41.ntmps (dropC 20 BZ) Q (Env.sets ⟨t,ds⟩ [(1,.pointer (some ⟨b.fbx,0,none⟩)),(7,pv),(18,.pointer (some ⟨mbx,0,none⟩)),(42,.pointer (some ⟨tb,0,none⟩)),(43,.slice (some ⟨RB,0,none⟩) (g.nv+1) (g.nv+1))]) w'):
 EC Tryz.prog Tryz.f41.ntmps (dropC 19 BZ) Q (Env.sets ⟨t,ds⟩ [(1,.pointer (some ⟨b.fbx,0,none⟩)),(7,pv),(18,.pointer (some ⟨mbx,0,none⟩)),(42,.pointer (some ⟨tb,0,none⟩)),(43,.slice (some ⟨RB,0,none⟩) (g.nv+1) (g.nv+1))]) w:=by
 obtain ⟨pa,pc,hpv⟩:=Bx h0.row
 have hne:=h0.ne
 have hAl:=Bg h0.ar
 have hRl:=Bg h0.rw
 refine Ae (Ae (Ac (Ab (Ad) rfl (Ab (AN (hpv) (An rfl)) rfl (Ab Ad rfl (Af (Aa (Ao ?_))))))))
 refine EC_loop (fun m e w1=>∃k R rw,k≤P.length∧Only (Bk2 b RB) w w1∧w1.heap[b.A]? =some (.cells (cellsOf R (g.nv+1)) 97 (0,0))∧w1.heap[RB]? =some (.cells (cellsOf (fun i=>ptO L (rw i)) (g.nv+1)) 97 (0,0))∧
  Todo L R arr P k∧RwI g Rel rw∧AtD e ds [(1,.pointer (some ⟨b.fbx,0,none⟩)),(7,pv),(18,.pointer (some ⟨mbx,0,none⟩)),(42,.pointer (some ⟨tb,0,none⟩)),(43,.slice (some ⟨RB,0,none⟩) (g.nv+1) (g.nv+1)),(462,pv),(463,.int .i64 (P.length:Int)),(464,.int .i64 (k:Int))]∧m=P.length - k) P.length
  ⟨0,arV L arr g.nv,fun _=>none,Nat.zero_le _,Only.refl _ _,h0.ar,h0.rw,fun q hq _ j hj=>?_,fun x y _ e=>(by cases e),AT rfl ⟨rfl,rfl,rfl,rfl,rfl,rfl,rfl,rfl,trivial⟩,rfl⟩ ?_
 ·have:=hlong _ (List.getElem_mem hq)
  unfold arV
  rw[if_pos (by omega)]
 rintro m e w1 ⟨k,R,rw,hk,hO,hA,hR,hT,hI,⟨t,rfl⟩,rfl⟩
 obtain ⟨hg1,hsd1,htb1,hrow1,hfb1⟩:=h0.keep hO
 refine Ae (Ac (Ab (AX rfl rfl) rfl (Af (Aa (Ae ?_)))))
 refine AI rfl rfl (fun hlt=>?_) (fun hge=>?_)
 rotate_left
 ·refine AK (AB (AD (AA (Aa (Bj ds [(1,.pointer (some ⟨b.fbx,0,none⟩)),(7,pv),(18,.pointer (some ⟨mbx,0,none⟩)),(42,.pointer (some ⟨tb,0,none⟩)),(43,.slice (some ⟨RB,0,none⟩) (g.nv+1) (g.nv+1))] rfl ⟨rfl,rfl,rfl,rfl,rfl,trivial⟩ fun t=>?_)))))
  exact h t w1 rw hI hR hO
 have hkp:k<P.length:=by omega
 refine Aq (Aa ?_)
 obtain ⟨o,ho⟩:∃o,o=P[k].1:=⟨_,rfl⟩
 obtain ⟨n,hn'⟩:∃n,n=P[k].2:=⟨_,rfl⟩
 have hX:P[k]∈P:=List.getElem_mem hkp
 have hXl:=hlong _ hX
 rw[← ho,← hn'] at hXl
 have hml:(P.map (slV b.A (g.nv+1))).length=P.length:=List.length_map ..
 obtain ⟨gb,capb,e1,_,_,_,hcell⟩:=row_form (w:=w1) (base:=b.Eb) (el:=113) (v:=pv) (xs:=P.map (slV b.A (g.nv+1))) (by rw[hml];exact hrow1) (k:=k) (by rw[hml];exact hkp)
 rw[hml] at e1
 rw[List.getElem_map] at hcell
 have hcell:w1.cell? ⟨gb,0+k,none⟩=some (.slice (some ⟨b.A,o,none⟩) n (g.nv+1 - o)):=by rw[hcell,ho,hn'];rfl
 refine Ae (Ao (Ae (Ac (Ab (x_index1 (b:=gb) (o:=0) (len:=P.length) (cap:=capb) (i:=k) e1 rfl (An rfl) hkp) rfl (Ab (Ai rfl (Ag rfl) hcell) rfl (Ab Ah rfl (Af (Aa ?_))))))))
 have hcl:=BB arr o n
 have hmem:∀x∈clsD arr o n,x<g.nv:=fun x hx=>by
  obtain ⟨j,hj,rfl⟩:=List.mem_map.1 hx
  have hj:=List.mem_range.1 hj
  exact harr _ (by omega)
 have hsr:=sortE_ret (w:=w1) (L:=L) (D:=clsD arr o n) (cf:=ce g en) (A:=b.A) (off:=o) (N:=g.nv+1) (cap:=g.nv+1 - o) (gf:=60) (cb:=#[.pointer (some ⟨tb,0,none⟩),.pointer (some ⟨mbx,0,none⟩)]) (R:=R) (T:=97)
  (fun e=>by rw[e] at hcl;simp at hcl;omega) (by rw[hcl];omega) (by rw[hcl];omega) hA (fun j hj=>by
    rw[hcl] at hj
    rw[BU hj]
    have:=hT k hkp (Nat.le_refl _) j (by omega)
    rw[← ho] at this
    exact this) (enters_of Tryz.func60 (by kernel_rfl) rfl) (ce_swo g en _)
  (fun W hW x hx y hy=>by
    have hO':Only (Bk2 b RB) w W:=hO.trans (hW.mono fun j e=>.inl e)
    obtain ⟨g1,g2,g3,_,_⟩:=h0.keep hO'
    exact GN g1 (hmem x hx) (hmem y hy) (hblk x (hmem x hx)) (hblk y (hmem y hy)) hnb (Am g3 rfl) g2)
 rw[hcl] at hsr
 refine Ae (Ac (Ab Ad rfl (Ab (En rfl rfl) rfl (Be (AG Tryz.func54 rfl (by kernel_rfl) rfl rfl) rfl hsr ?_))))
 rintro _ w2 ⟨rfl,D',hso,hrow,hO2⟩
 refine Af (Aa ?_)
 have hO12:Only (Bk2 b RB) w w2:=hO.trans (hO2.mono fun j e=>.inl e)
 have hz1:=hO.size
 have hR2:=(hO2.block RB (by omega) (by omega)).trans hR
 have hDl:D'.length=n:=by rw[hso.perm.length_eq,hcl]
 have hDm:∀j,j<n→D'.getD j 0<g.nv:=fun j hj=>hmem _ (hso.perm.mem_iff.1 (Bq (by omega)))
 have hrl:∀i j,i<j→j<n→Dom g.succs (g.blk (D'.getD i 0)) (g.blk (D'.getD j 0))→Rel (D'.getD i 0) (D'.getD j 0):=fun i j hij hj hd=>hRel P[k] hX D' (by rw[← ho,← hn'];exact hso) i j hij (by omega) hd
 obtain ⟨R2,hR2d⟩:∃R2:Nat→Value,R2=fun i=>if o≤i∧i<o+n then L.vp (D'.getD (i - o) 0) else R i:=⟨_,rfl⟩
 rw[← hR2d] at hrow
 have hG2:Gone L R2 o n D':=fun j hj=>.inr (by rw[hR2d];show (if o≤o+j∧o+j<o+n then _ else _)=_;rw[if_pos (by omega),Nat.add_sub_cancel_left])
 have hT2:Todo L R2 arr P (k+1):=fun q hq hkq j hj=>by
  have h1:=List.pairwise_iff_getElem.1 hap k q hkp hq (by omega)
  rw[hR2d]
  show (if o≤P[q].1+j∧P[q].1+j<o+n then _ else _)=_
  rw[if_neg (by omega)]
  exact hT q hq (by omega) j hj
 have hTn:∀{R:Nat→Value},Todo L R arr P (k+1)→∀j,j<n→Todo L (fun i=>if i=o+j then .pointer none else R i) arr P (k+1):=fun h j hj=>by
  rw[ho]
  exact h.nil hap hkp (by omega)
 refine Ae (Ac (Ab Ah rfl (Af (Aa (Ao ?_)))))
 refine EC_loop (fun m e w3=>∃i R rw,i≤n∧Only (Bk2 b RB) w w3∧w3.heap[b.A]? =some (.cells (cellsOf R (g.nv+1)) 97 (0,0))∧w3.heap[RB]? =some (.cells (cellsOf (fun i=>ptO L (rw i)) (g.nv+1)) 97 (0,0))∧
  Todo L R arr P (k+1)∧Gone L R o n D'∧RwI g Rel rw∧AtD e ds [(1,.pointer (some ⟨b.fbx,0,none⟩)),(7,pv),(18,.pointer (some ⟨mbx,0,none⟩)),(42,.pointer (some ⟨tb,0,none⟩)),(43,.slice (some ⟨RB,0,none⟩) (g.nv+1) (g.nv+1)),(462,pv),(463,.int .i64 (P.length:Int)),(464,.int .i64 (k:Int)),(45,.slice (some ⟨b.A,o,none⟩) n (g.nv+1 - o)),(46,.int .i64 (i:Int))]∧m=n - i) n
  ⟨0,R2,rw,Nat.zero_le _,hO12,hrow,hR2,hT2,hG2,hI,AT rfl ⟨rfl,rfl,rfl,rfl,rfl,rfl,rfl,rfl,rfl,rfl,trivial⟩,rfl⟩ ?_
 clear hT hI hA hR hO hT2 hG2 hrow hR2 hcell hg1 hsd1 htb1 hrow1 hfb1 hsr e1 hO12 hO2
 rintro m e w3 ⟨i,R,rw,hi,hO,hA,hR,hT,hG,hI,⟨t,rfl⟩,rfl⟩
 refine Ae (Ae (Ac (Ab Ad rfl (Ab Ad rfl (Ab (AN rfl (An rfl)) rfl (Ab (Ch rfl rfl (by omega)) rfl (Ab (AX rfl rfl) rfl (Af (Aa ?_)))))))))
 refine AI rfl rfl (fun hlt=>?_) (fun hge=>?_)
 rotate_left
 ·refine AK (AB (AD (AA (Ap (Aa (Ac (Ab (x_inc rfl rfl (by omega)) rfl (Ab Ad rfl (Af ?_)))))))))
  exact Aw (P.length - (k+1)) (by omega) ⟨k+1,R,rw,by omega,hO,hA,hR,hT,hI,AT rfl ⟨rfl,rfl,rfl,rfl,rfl,rfl,rfl,rfl,trivial⟩,rfl⟩
 have hin:i+1<n:=by omega
 refine Aq (Aa ?_)
 have hcA:w3.cell? ⟨b.A,o+i,none⟩=some (R (o+i)):=Am hA (Bf _ (by omega))
 have hfA:w3.frozen? ⟨b.A,o+i,none⟩=false:=AQ hA
 refine AW (fun e w4=>∃R rw,Only (Bk2 b RB) w w4∧w4.heap[b.A]? =some (.cells (cellsOf R (g.nv+1)) 97 (0,0))∧w4.heap[RB]? =some (.cells (cellsOf (fun i=>ptO L (rw i)) (g.nv+1)) 97 (0,0))∧
  Todo L R arr P (k+1)∧Gone L R o n D'∧RwI g Rel rw∧AtD e ds [(1,.pointer (some ⟨b.fbx,0,none⟩)),(7,pv),(18,.pointer (some ⟨mbx,0,none⟩)),(42,.pointer (some ⟨tb,0,none⟩)),(43,.slice (some ⟨RB,0,none⟩) (g.nv+1) (g.nv+1)),(462,pv),(463,.int .i64 (P.length:Int)),(464,.int .i64 (k:Int)),(45,.slice (some ⟨b.A,o,none⟩) n (g.nv+1 - o)),(46,.int .i64 (i:Int))]) ?_ ?_
 ·refine Ao ?_
  rcases hG i (by omega) with hv|hv
  ·rw[hv] at hcA
   refine Ae (Ac (Ab Ad rfl (Ab Ad rfl (Ab (x_index1 rfl rfl (An rfl) (by omega)) rfl (Ab (Ai rfl (Ag rfl) ‹_›) rfl ?_)))))
   refine Ab Ah rfl (Af (Aa (Ae (Ae (Ac (Ab Ad rfl (Ab (DQ (p:=none) rfl rfl (BT rfl)) rfl (Af (Aa (Bm rfl rfl (AK ?_)))))))))))
   refine AB (AA ?_)
   exact AR ⟨R,rw,hO,hA,hR,hT,hG,hI,AT rfl ⟨rfl,rfl,rfl,rfl,rfl,rfl,rfl,rfl,rfl,rfl,trivial⟩⟩
  rw[hv] at hcA
  refine Ae (Ac (Ab Ad rfl (Ab Ad rfl (Ab (x_index1 rfl rfl (An rfl) (by omega)) rfl (Ab (Ai rfl (Ag rfl) ‹_›) rfl ?_)))))
  refine Ab Ah rfl (Af (Aa (Ae (Ae (Ac (Ab Ad rfl (Ab (DQ (p:=some ⟨L.vb (D'.getD i 0),0,none⟩) rfl rfl (BT rfl)) rfl (Af (Aa (Bh rfl rfl (Aq ?_)))))))))))
  refine Aa (Ae (Ac (Ab Ad rfl (Ab Ad rfl (Ab (x_index1 rfl rfl (An rfl) (by omega)) rfl (Bc (AU (v:=.pointer none) rfl rfl rfl (AH rfl) hcA hfA) rfl (Af (Aa ?_))))))))
  have hA4:=AC (o:=o+i) (u:=.pointer none) hA
  rw[cellsOf_set] at hA4
  have hO4:Only (Bk2 b RB) w (w3.setCell ⟨b.A,o+i,none⟩ (.pointer none)):=hO.set (s:=b.A) (o:=o+i) (.pointer none) (.inl rfl)
  have hR4:(w3.setCell ⟨b.A,o+i,none⟩ (.pointer none)).heap[RB]? =_:=(Below.heap_setCell _ _ _ _ (show RB≠b.A by omega)).trans hR
  change EC _ _ _ _ _ (w3.setCell ⟨b.A,o+i,none⟩ (.pointer none))
  generalize w3.setCell ⟨b.A,o+i,none⟩ (.pointer none)=w4 at hA4 hO4 hR4 ⊢
  refine Ae (Ac (Ab Ad rfl (Ab (x_inc rfl rfl (by omega)) rfl (Ab Ah rfl (Af (Aa (Ao ?_)))))))
  refine EC_loop (fun m e w4=>∃j R rw,i<j∧j≤n∧Only (Bk2 b RB) w w4∧w4.heap[b.A]? =some (.cells (cellsOf R (g.nv+1)) 97 (0,0))∧w4.heap[RB]? =some (.cells (cellsOf (fun i=>ptO L (rw i)) (g.nv+1)) 97 (0,0))∧
   Todo L R arr P (k+1)∧Gone L R o n D'∧RwI g Rel rw∧AtD e ds [(1,.pointer (some ⟨b.fbx,0,none⟩)),(7,pv),(18,.pointer (some ⟨mbx,0,none⟩)),(42,.pointer (some ⟨tb,0,none⟩)),(43,.slice (some ⟨RB,0,none⟩) (g.nv+1) (g.nv+1)),(462,pv),(463,.int .i64 (P.length:Int)),(464,.int .i64 (k:Int)),(45,.slice (some ⟨b.A,o,none⟩) n (g.nv+1 - o)),(46,.int .i64 (i:Int)),(47,L.vp (D'.getD i 0)),(48,.int .i64 (j:Int))]∧m=n - j) (n - (i+1))
   ⟨i+1,_,rw,by omega,by omega,hO4,hA4,hR4,hTn hT i (by omega),hG.nil,hI,AT rfl ⟨rfl,rfl,rfl,rfl,rfl,rfl,rfl,rfl,rfl,rfl,rfl,rfl,trivial⟩,rfl⟩ ?_
  clear hT hI hA hR hO hG hA4 hO4 hR4 hcA hfA hv
  rintro m e w4 ⟨j,R,rw,hij,hj,hO,hA,hR,hT,hG,hI,⟨t,rfl⟩,rfl⟩
  refine Ae (Ae (Ac (Ab Ad rfl (Ab Ad rfl (Ab (AN rfl (An rfl)) rfl (Ab (AX rfl rfl) rfl (Af (Aa ?_))))))))
  refine AI rfl rfl (fun hlt2=>?_) (fun hge2=>?_)
  rotate_left
  ·refine AK (AB (AD (AA (Ap ?_))))
   exact AR ⟨R,rw,hO,hA,hR,hT,hG,hI,AT rfl ⟨rfl,rfl,rfl,rfl,rfl,rfl,rfl,rfl,rfl,rfl,trivial⟩⟩
  have hjn:j<n:=by omega
  refine Aq (Aa ?_)
  have hcA:w4.cell? ⟨b.A,o+j,none⟩=some (R (o+j)):=Am hA (Bf _ (by omega))
  refine Ae (Ao ?_)
  rcases hG j hjn with hv|hv
  ·rw[hv] at hcA
   refine Ae (Ac (Ab Ad rfl (Ab Ad rfl (Ab (x_index1 rfl rfl (An rfl) (by omega)) rfl (Ab (Ai rfl (Ag rfl) ‹_›) rfl ?_)))))
   refine Ab Ah rfl (Af (Aa (Ae (Ae (Ac (Ab Ad rfl (Ab (DQ (p:=none) rfl rfl (BT rfl)) rfl (Af (Aa (Bm rfl rfl (AK ?_)))))))))))
   refine AB (AA (Aa (Ac (Ab Ad rfl (Ab (x_inc rfl rfl (by omega)) rfl (Ab Ah rfl (Af ?_)))))))
   exact Aw (n - (j+1)) (by omega) ⟨j+1,R,rw,by omega,by omega,hO,hA,hR,hT,hG,hI,AT rfl ⟨rfl,rfl,rfl,rfl,rfl,rfl,rfl,rfl,rfl,rfl,rfl,rfl,trivial⟩,rfl⟩
  rw[hv] at hcA
  refine Ae (Ac (Ab Ad rfl (Ab Ad rfl (Ab (x_index1 rfl rfl (An rfl) (by omega)) rfl (Ab (Ai rfl (Ag rfl) ‹_›) rfl ?_)))))
  refine Ab Ah rfl (Af (Aa (Ae (Ae (Ac (Ab Ad rfl (Ab (DQ (p:=some ⟨L.vb (D'.getD j 0),0,none⟩) rfl rfl (BT rfl)) rfl (Af (Aa (Bh rfl rfl (Aq ?_)))))))))))
  refine Aa ?_
  have hOd:Only (Bk2 b RB) w w4.drew:=hO.drew
  obtain ⟨gd,sd,td,_,_⟩:=h0.keep hOd
  have htc:w4.drew.cell? ⟨tb,0,none⟩=some (.slice (some ⟨T,0,none⟩) (g.nb+1) (g.nb+1)):=Am td rfl
  have hAd:w4.drew.heap[b.A]? =_:=hA
  have hRd:w4.drew.heap[RB]? =_:=hR
  have hbi:=gd.vBlk (hDm i (by omega))
  have hbj:=gd.vBlk (hDm j hjn)
  refine Ae (AY mixed (fun w'=>w'=w4.drew) [(0,false),(1,false),(2,false),(3,false),(4,false),(5,false),(6,false),(7,false),(8,false),(9,true)] (by kernel_rfl) rfl ?_)
  generalize w4.drew=W at *
  refine Aj rfl (fun _ hS=>Ai rfl (Ag rfl) (by cases hS;with_reducible assumption)) ?_
  refine Aj rfl (fun _ _=>Ad) (Aj rfl (fun _ _=>Au rfl) (Aj rfl (fun _ _=>Al rfl (Ak rfl)) (Aj rfl (fun _ hS=>Ai rfl (Ag rfl) (by cases hS;with_reducible assumption)) ?_)))
  refine Aj rfl (fun _ _=>Ad) (Aj rfl (fun _ _=>Au rfl) (Aj rfl (fun _ _=>Al rfl (Ak rfl)) (Aj rfl (fun _ hS=>Ai rfl (Ag rfl) (by cases hS;with_reducible assumption)) ?_)))
  refine BO rfl (AG Tryz.func65 rfl rfl rfl rfl) (ancestor_ret gd sd (hblk _ (hDm i (by omega))) (hblk _ (hDm j hjn))) ?_
  rintro _ w5 ⟨bb,rfl,hdom,hO5⟩
  refine ⟨.inl rfl,?_⟩
  refine AP (Aa ?_)
  have hO5':Only (Bk2 b RB) w w5:=hOd.trans (hO5.mono fun _ h=>h.elim)
  have hzd:=hOd.size
  have hA5:=(hO5.block b.A (by omega) id).trans hAd
  have hR5:=(hO5.block RB (by omega) id).trans hRd
  cases bb with
  |false=>
   refine Bh rfl rfl (AK (CP rfl (AB (AD (AA (Ap ?_))))))
   exact AR ⟨R,rw,hO5',hA5,hR5,hT,hG,hI,AT rfl ⟨rfl,rfl,rfl,rfl,rfl,rfl,rfl,rfl,rfl,rfl,trivial⟩⟩
  |true=>
   refine Bm rfl rfl ?_
   obtain ⟨g5,_,_,_,_⟩:=h0.keep hO5'
   have hid:=g5.vID (hDm j hjn)
   have hj2:=hDm j hjn
   have hrc:w5.cell? ⟨RB,0+(D'.getD j 0+1),none⟩=some (ptO L (rw (0+(D'.getD j 0+1)))):=Am hR5 (Bf _ (by omega))
   have hrf:w5.frozen? ⟨RB,0+(D'.getD j 0+1),none⟩=false:=AQ hR5
   refine Ae (Ac (Ab Ad rfl (Ab Ad rfl (Ab (Au rfl) rfl (Ab (Al rfl (Ak rfl)) rfl (Ab (Ai rfl (Ag rfl) hid) rfl (Ab Ad rfl (Ab (Ba (i:=D'.getD j 0+1) rfl rfl (by omega) (An rfl) (by omega)) rfl (Bc (AU (v:=L.vp (D'.getD i 0)) rfl rfl rfl (AH rfl) hrc hrf) rfl (Af (Aa ?_)))))))))))
   have hR6:=AC (o:=0+(D'.getD j 0+1)) (u:=L.vp (D'.getD i 0)) hR5
   rw[cellsOf_set,show cellsOf (fun i_1=>if i_1=0+(D'.getD j 0+1) then L.vp (D'.getD i 0) else ptO L (rw i_1)) (g.nv+1)=cellsOf (fun x=>ptO L (if x=D'.getD j 0+1 then some (D'.getD i 0) else rw x)) (g.nv+1) from BA fun x _=>by
    by_cases e:x=D'.getD j 0+1
    ·rw[if_pos (by omega),if_pos e];rfl
    rw[if_neg (by omega),if_neg e]] at hR6
   have hO6:Only (Bk2 b RB) w (w5.setCell ⟨RB,0+(D'.getD j 0+1),none⟩ (L.vp (D'.getD i 0))):=hO5'.set (s:=RB) (o:=0+(D'.getD j 0+1)) (L.vp (D'.getD i 0)) (.inr rfl)
   have hA6:(w5.setCell ⟨RB,0+(D'.getD j 0+1),none⟩ (L.vp (D'.getD i 0))).heap[b.A]? =_:=(Below.heap_setCell _ _ _ _ (show b.A≠RB by omega)).trans hA5
   have hI6:=hI.set (hDm i (by omega)) (hrl i j hij hjn (hdom rfl))
   change EC _ _ _ _ _ (w5.setCell ⟨RB,0+(D'.getD j 0+1),none⟩ (L.vp (D'.getD i 0)))
   generalize w5.setCell ⟨RB,0+(D'.getD j 0+1),none⟩ (L.vp (D'.getD i 0))=w6 at hA6 hO6 hR6 ⊢
   have hc6:w6.cell? ⟨b.A,o+j,none⟩=some (R (o+j)):=Am hA6 (Bf _ (by omega))
   have hf6:w6.frozen? ⟨b.A,o+j,none⟩=false:=AQ hA6
   refine Ac (Ab Ad rfl (Ab Ad rfl (Ab (x_index1 rfl rfl (An rfl) hjn) rfl (Bc (AU (v:=.pointer none) rfl rfl rfl (AH rfl) hc6 hf6) rfl (Af (Ap (Aa ?_)))))))
   have hA7:=AC (o:=o+j) (u:=.pointer none) hA6
   rw[cellsOf_set] at hA7
   have hO7:Only (Bk2 b RB) w (w6.setCell ⟨b.A,o+j,none⟩ (.pointer none)):=hO6.set (s:=b.A) (o:=o+j) (.pointer none) (.inl rfl)
   have hR7:(w6.setCell ⟨b.A,o+j,none⟩ (.pointer none)).heap[RB]? =_:=(Below.heap_setCell _ _ _ _ (show RB≠b.A by omega)).trans hR6
   change EC _ _ _ _ _ (w6.setCell ⟨b.A,o+j,none⟩ (.pointer none))
   generalize w6.setCell ⟨b.A,o+j,none⟩ (.pointer none)=w7 at hA7 hO7 hR7 ⊢
   refine Ac (Ab Ad rfl (Ab (x_inc rfl rfl (by omega)) rfl (Ab Ah rfl (Af ?_))))
   exact Aw (n - (j+1)) (by omega) ⟨j+1,_,_,by omega,by omega,hO7,hA7,hR7,hTn hT j hjn,hG.nil,hI6,AT rfl ⟨rfl,rfl,rfl,rfl,rfl,rfl,rfl,rfl,rfl,rfl,rfl,rfl,trivial⟩,rfl⟩
 clear hT hI hA hR hO hG
 rintro e w4 ⟨R,rw,hO,hA,hR,hT,hG,hI,⟨t,rfl⟩⟩
 refine Ac (Ab Ad rfl (Ab (x_inc rfl rfl (by omega)) rfl (Ab Ah rfl (Af ?_))))
 exact Aw (n - (i+1)) (by omega) ⟨i+1,R,rw,by omega,hO,hA,hR,hT,hG,hI,AT rfl ⟨rfl,rfl,rfl,rfl,rfl,rfl,rfl,rfl,rfl,rfl,trivial⟩,rfl⟩
end
end Go.Proofs.YteepnepebilckaaGreatDoor
namespace Go.Proofs.YteepnepebilckaaGreatDoor
open Go Go.Eng
end Go.Proofs.YteepnepebilckaaGreatDoor
namespace Go.Proofs.YteepnepebilckaaGreatDoor
open Go Go.Eng
abbrev Sta:=Nat→Int
def upd (now:Sta) (i:Nat) (v:Int):Sta:=fun j=>if j=i then v else now j
end Go.Proofs.YteepnepebilckaaGreatDoor
namespace Go.Proofs.YteepnepebilckaaGreatDoor
open Go Go.Eng
def Gph.mv (g:Gph) (f:Nat→Nat):Gph:= { g with args:=fun v=>(g.args v).map f,ctrl:=fun b=>(g.ctrl b).map f }
theorem GM (f:Nat→Nat) {l:List Nat} {k:Nat} (h:k<l.length):(l.map f).getD k 0=f (l.getD k 0):=by
 rw[List.getD_eq_getElem?_getD,List.getD_eq_getElem?_getD,List.getElem?_map,List.getElem?_eq_getElem h];rfl
section
variable {T : Nat → Bool} {g g0 : Gph} {cls : Nat → Int} {f : Nat → Nat} {E : Int → Int → List Int → Int}
theorem key_op {x y:Nat} (h:key g x=key g y):g.op x=g.op y∧g.aux x=g.aux y∧(g.args x).length=(g.args y).length∧(g.op x=13→g.blk x=g.blk y):=by
 unfold key at h
 injection h with h1 h
 injection h with h2 h
 injection h with h3 h
 injection h with h4 _
 refine ⟨h1,h2,by omega,fun h5=>?_⟩
 rw[if_pos h5,if_pos (h1 ▸ h5)] at h4
 omega
end
end Go.Proofs.YteepnepebilckaaGreatDoor
