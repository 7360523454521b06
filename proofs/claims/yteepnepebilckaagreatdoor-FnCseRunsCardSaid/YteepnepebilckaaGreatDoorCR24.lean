/- The law FnCseRuns returns true for every input in which the opcode table reads as laid, and its arguments read as they did, the table being tied to the text of the program. -/
import Derived.Test.YteepnepebilckaaGreatDoorCR23
namespace Go.Proofs.YteepnepebilckaaGreatDoor
open Go Go.Eng
theorem flatMap_eq {α β:Type} {p q:α→List β}:∀{l:List α},(∀x∈l,p x=q x)→l.flatMap p=l.flatMap q
 | [],_=>rfl
 |a :: l,h=>by
  rw[List.flatMap_cons,List.flatMap_cons,h a (.head _),flatMap_eq fun x hx=>h x (.tail _ hx)]
theorem CQ (l:List Int) (k:Nat):(l.map Int.toNat).getD k 0=(l.getD k 0).toNat:=by
 rw[List.getD_eq_getElem?_getD,List.getD_eq_getElem?_getD,List.getElem?_map]
 cases l[k]? <;> rfl
theorem Dh {l:List Int} {k:Nat} (hk:k<l.length):l.getD k 0∈l:=by
 rw[List.getD_eq_getElem?_getD,List.getElem?_eq_getElem hk];simp
theorem getD_nats (l:List Nat) (k:Nat):(nats l).getD k 0=((l.getD k 0:Nat):Int):=by
 unfold nats
 rw[List.getD_eq_getElem?_getD,List.getD_eq_getElem?_getD,List.getElem?_map]
 cases l[k]? <;> rfl
theorem Dz (l:List Nat):(nats l).map Int.toNat=l:=by
 unfold nats
 rw[List.map_map]
 conv=>rhs;rw[← List.map_id l]
 exact List.map_congr_left fun _ _=>rfl
section
variable {f : Fn}
theorem succs_nn (h0:∀b,b<f.blks.length→∀s∈(f.b b).succs,0≤s∧s<f.blks.length):∀b s,s∈(f.b b).succs→0≤s:=by
 intro b s hs
 by_cases hb:b<f.blks.length
 ·exact (h0 b hb s hs).1
 have:f.b b=default:=by
  unfold Fn.b
  rw[List.getD_eq_getElem?_getD,List.getElem?_eq_none (by omega)];rfl
 rw[this] at hs
 cases hs
theorem predsOf_eq (h0:∀b s,s∈(f.b b).succs→0≤s) (b:Nat):predsOf f b=predsL (toG f).succs f.blks.length b:=by
 unfold predsOf predsL
 refine flatMap_eq fun i _=>?_
 show _=(((f.b i).succs.map Int.toNat).filter fun s=>s == b).map fun _=>i
 rw[List.filter_map,List.map_map]
 have:(f.b i).succs.filter (fun s=>s == (b:Int))=(f.b i).succs.filter ((fun s=>s == b) ∘ Int.toNat):=by
  refine List.filter_congr fun s hs=>?_
  have:=h0 i s hs
  show (s == (b:Int))=(s.toNat == b)
  exact Bool.eq_iff_iff.2 (by rw[beq_iff_eq,beq_iff_eq];omega)
 rw[this]
 rfl
theorem rch_iff (h0:∀b s,s∈(f.b b).succs→0≤s) {wo i:Nat}:Rch f (wo:Int) i↔RchS (toG f).succs wo i:=by
 constructor
 ·intro h
  induction h with
  |entry h=>exact .entry fun e=>h (by omega)
  | @step b s _ hs hw ih=>
    have:=h0 b s hs
    exact .step ih (List.mem_map.2 ⟨s,hs,rfl⟩) fun e=>hw (by omega)
 intro h
 induction h with
 |entry h=>exact .entry fun e=>h (by omega)
 | @step b s _ hs hw ih=>
   obtain ⟨z,hz,rfl⟩:=List.mem_map.1 (show s∈(f.b b).succs.map Int.toNat from hs)
   have:=h0 b z hz
   exact .step ih hz fun e=>hw (by omega)
theorem rch_all (h0:∀b s,s∈(f.b b).succs→0≤s) (h1:1≤f.blks.length) (h2:∀b,b<f.blks.length→∀s∈(f.b b).succs,0≤s∧s<f.blks.length) {i:Nat}:
 Rch f (-1) i↔RchS (toG f).succs f.blks.length i:=by
 constructor
 ·intro h
  have key:i<f.blks.length∧RchS (toG f).succs f.blks.length i:=by
   induction h with
   |entry h=>exact ⟨h1,.entry (by omega)⟩
   | @step b s _ hs hw ih=>
     have:=h2 b ih.1 s hs
     exact ⟨by omega,.step ih.2 (List.mem_map.2 ⟨s,hs,rfl⟩) (by omega)⟩
  exact key.2
 intro h
 induction h with
 |entry h=>exact .entry (by decide)
 | @step b s _ hs hw ih=>
   obtain ⟨z,hz,rfl⟩:=List.mem_map.1 (show s∈(f.b b).succs.map Int.toNat from hs)
   have:=h0 b z hz
   exact .step ih hz fun e=>by omega
theorem rank_small {g:Gph} {r:Nat→Nat} (_hc:CInv g r):∃p:Nat→Nat,(∀v,v<g.nv→p v<g.nv)∧∀i j,i<g.nv→j<g.nv→r j<r i→p j<p i:=by
 refine ⟨fun v=>(List.range g.nv).countP fun u=>decide (r u<r v),fun v hv=>?_,fun i j hi hj hr=>?_⟩
 ·have h1:(List.range g.nv).countP (fun u=>decide (r u<r v))<(List.range g.nv).countP (fun _=>true):=
   countP_lt (fun _ _ _=>rfl) ⟨v,List.mem_range.2 hv,rfl,decide_eq_false (Nat.lt_irrefl _)⟩
  have h2:(List.range g.nv).countP (fun _=>true)≤(List.range g.nv).length:=List.countP_le_length
  rw[List.length_range] at h2
  exact Nat.lt_of_lt_of_le h1 h2
 exact countP_lt (fun x _ hx=>decide_eq_true (by have:=of_decide_eq_true hx;omega)) ⟨j,List.mem_range.2 hj,decide_eq_true hr,decide_eq_false (Nat.lt_irrefl _)⟩
theorem truthN_stay {g:Gph} (hop:∀v,v<g.nv→(f.v v).op=g.op v) (har:∀v,v<g.nv→((f.v v).args.getD 0 0).toNat=(g.args v).getD 0 0) {r:Nat→Nat} (hc:CInv g r) {p:Nat→Nat}
 (hp:∀i j,i<g.nv→j<g.nv→r j<r i→p j<p i):
 ∀n m v,v<g.nv→p v≤n→p v≤m→truthN f n v=truthN f m v:=by
 intro n
 induction n with
 |zero=>
  intro m v hv h1 h2
  by_cases ht:isT (f.v v).op
  ·rw[Cn ht,Cn ht]
  by_cases ho:(f.v v).op=14
  ·exfalso
   rw[hop v hv] at ho
   obtain ⟨j,hj,hr⟩:=hc.copy v hv ho
   have:=hp v j hv (hc.closed v hv j (by rw[hj];exact .head _)) hr
   omega
  rw[Em ht,CT ht ho]
 |succ n ih=>
  intro m v hv h1 h2
  by_cases ht:isT (f.v v).op
  ·rw[Cn ht,Cn ht]
  by_cases ho:(f.v v).op=14
  ·have ho':=ho
   rw[hop v hv] at ho'
   obtain ⟨j,hj,hr⟩:=hc.copy v hv ho'
   have hjn:=hc.closed v hv j (by rw[hj];exact .head _)
   have hlt:=hp v j hv hjn hr
   have hja:((f.v v).args.getD 0 0).toNat=j:=by rw[har v hv,hj];rfl
   obtain ⟨m',rfl⟩:∃m',m=m'+1:=⟨m - 1,by omega⟩
   rw[Db ht ho,Db ht ho,hja]
   exact ih m' j hjn (by omega) (by omega)
  rw[CT ht ho,CT ht ho]
theorem truthN_T {T:Nat→Bool} {g:Gph} (hop:∀v,v<g.nv→(f.v v).op=g.op v) (har:∀v,v<g.nv→((f.v v).args.getD 0 0).toNat=(g.args v).getD 0 0) {r:Nat→Nat} (hc:CInv g r) {p:Nat→Nat}
 (hp:∀i j,i<g.nv→j<g.nv→r j<r i→p j<p i) (hT:∀i,i<g.nv→T i=if isT (g.op i) then true else if g.op i=14 then T ((g.args i).getD 0 0) else false):
 ∀n v,v<g.nv→p v≤n→truthN f n v=T v:=by
 intro n
 induction n with
 |zero=>
  intro v hv h1
  rw[hT v hv,← hop v hv]
  by_cases ht:isT (f.v v).op
  ·rw[Cn ht,if_pos ht]
  by_cases ho:(f.v v).op=14
  ·exfalso
   rw[hop v hv] at ho
   obtain ⟨j,hj,hr⟩:=hc.copy v hv ho
   have:=hp v j hv (hc.closed v hv j (by rw[hj];exact .head _)) hr
   omega
  rw[Em ht,if_neg ht,if_neg ho]
 |succ n ih=>
  intro v hv h1
  rw[hT v hv,← hop v hv]
  by_cases ht:isT (f.v v).op
  ·rw[Cn ht,if_pos ht]
  by_cases ho:(f.v v).op=14
  ·have ho':=ho
   rw[hop v hv] at ho'
   obtain ⟨j,hj,hr⟩:=hc.copy v hv ho'
   have hjn:=hc.closed v hv j (by rw[hj];exact .head _)
   have hlt:=hp v j hv hjn hr
   have hja:((f.v v).args.getD 0 0).toNat=j:=by rw[har v hv,hj];rfl
   rw[Db ht ho,if_neg ht,if_pos ho,hja,hj]
   exact ih j hjn (by omega)
  rw[CT ht ho,if_neg ht,if_neg ho]
theorem GoodP.succs (h:GoodP f):∀b,b<f.blks.length→∀s∈(f.b b).succs,0≤s∧s<f.blks.length:=fun b hb s hs=>by
 have:=(h.shp.blk b hb).succs s hs
 omega
theorem GoodP.nn (h:GoodP f):∀b s,s∈(f.b b).succs→0≤s:=succs_nn h.succs
theorem GoodP.kind (h:GoodP f) {b:Nat} (hb:b<f.blks.length):(0≤(f.b b).kind∧(f.b b).kind≤2∧((f.b b).succs.length:Int)=Cw (f.b b).kind)∧(-1≤(f.b b).likely∧(f.b b).likely≤1∧((f.b b).kind≠1→(f.b b).likely=0)):=by
 have h1:=(h.shp.blk b hb).one
 unfold Dx at h1
 refine ⟨⟨?_,?_,?_⟩,?_,?_,?_⟩
 ·refine Classical.byContradiction fun e=>h1 (.inl (.inl (.inl (.inl (.inl ?_)))));omega
 ·refine Classical.byContradiction fun e=>h1 (.inl (.inl (.inl (.inl (.inr ?_)))));omega
 ·refine Classical.byContradiction fun e=>h1 (.inl (.inl (.inl (.inr ?_))));exact e
 ·refine Classical.byContradiction fun e=>h1 (.inl (.inl (.inr ?_)));omega
 ·refine Classical.byContradiction fun e=>h1 (.inl (.inr ?_));omega
 intro hk
 refine Classical.byContradiction fun e=>h1 (.inr ⟨hk,e⟩)
theorem GoodP.ctl2 (h:GoodP f) {b:Nat} (hb:b<f.blks.length):((f.b b).kind=0→(f.b b).ctrl= -1)∧((f.b b).kind≠0→0≤(f.b b).ctrl∧(f.b b).ctrl<f.vals.length):=by
 have h1:=(h.shp.blk b hb).two
 unfold C7 at h1
 refine ⟨fun hk=>Classical.byContradiction fun e=>h1 (.inl ⟨hk,e⟩),fun hk=>⟨?_,?_⟩⟩
 ·refine Classical.byContradiction fun e=>h1 (.inr ⟨hk,.inl ?_⟩);omega
 refine Classical.byContradiction fun e=>h1 (.inr ⟨hk,.inr ?_⟩);omega
theorem GoodP.val (h:GoodP f) {i:Nat} (hi:i<f.vals.length):0≤(f.v i).op∧(f.v i).op≤15∧0≤(f.v i).blk∧(f.v i).blk<f.blks.length∧((f.v i).args.length:Int)=manyI (f.v i).op ((predsOf f (f.v i).blk.toNat).length:Nat):=by
 have h1:=h.fst i hi
 unfold Dl at h1
 refine ⟨?_,?_,?_,?_,?_⟩
 ·refine Classical.byContradiction fun e=>h1 (.inl (.inl (.inl (.inl ?_))));omega
 ·refine Classical.byContradiction fun e=>h1 (.inl (.inl (.inl (.inr ?_))));omega
 ·refine Classical.byContradiction fun e=>h1 (.inl (.inl (.inr ?_)));omega
 ·refine Classical.byContradiction fun e=>h1 (.inl (.inr ?_));omega
 exact Classical.byContradiction fun e=>h1 (.inr e)
theorem GoodP.args (h:GoodP f) {i:Nat} (hi:i<f.vals.length):∀a∈(f.v i).args,0≤a∧a<f.vals.length:=by
 intro a ha
 obtain ⟨k,hk,rfl⟩:=List.getElem_of_mem ha
 have:=((h.snd i hi).2 k hk).1
 rwa [List.getD_eq_getElem?_getD,List.getElem?_eq_getElem hk] at this
theorem GoodP.goodA (h:GoodP f):GoodA (toG f):=by
 have hnn:=h.nn
 have hpr:∀b,(toG f).preds b=predsL (toG f).succs f.blks.length b:=predsOf_eq hnn
 have hblk:∀i,i<f.vals.length→(((toG f).blk i:Nat):Int)=(f.v i).blk:=fun i hi=>by
  have:=h.val hi
  show (((f.v i).blk.toNat:Nat):Int)=_
  omega
 have hlen:∀i,((toG f).args i).length=(f.v i).args.length:=fun i=>List.length_map ..
 refine { toFrm:=⟨h.shp.one,h.shp.nb,h.shp.nv,fun i hi=>?_,fun b hb=>?_,fun b hb=>(h.kind hb).2,fun b hb s hs=>?_,fun b hb=>(rch_all hnn h.shp.one h.succs).1 (h.shp.rch b hb),fun b _=>hpr b,fun b hb=>?_⟩,ops:=fun i hi=>?_,aux:=fun i hi=>?_,args:=fun i hi k hk=>?_ }
 ·have:=h.val hi
  show (f.v i).blk.toNat<f.blks.length
  omega
 ·obtain ⟨h1,h2,h3⟩:=(h.kind hb).1
  refine ⟨h1,h2,?_⟩
  show (((f.b b).succs.map Int.toNat).length:Int)=_
  rw[List.length_map];exact h3
 ·obtain ⟨z,hz,rfl⟩:=List.mem_map.1 (show s∈(f.b b).succs.map Int.toNat from hs)
  have:=(h.shp.blk b hb).succs z hz
  show 1≤z.toNat∧z.toNat<f.blks.length
  omega
 ·show (List.range f.vals.length).filter _=_
  refine List.filter_congr fun i hi=>?_
  have h1:=hblk i (List.mem_range.1 hi)
  show ((f.v i).blk == (b:Int))=((toG f).blk i == b)
  exact Bool.eq_iff_iff.2 (by rw[beq_iff_eq,beq_iff_eq];omega)
 ·obtain ⟨h1,h2,_,_,h5⟩:=h.val hi
  refine ⟨h1,h2,?_⟩
  rw[hlen];exact h5
 ·have h1:=(h.snd i hi).1
  rw[hlen]
  unfold C8 at h1
  refine ⟨fun ho=>⟨?_,?_⟩,fun ho=>?_,fun ho=>?_⟩
  ·refine Classical.byContradiction fun e=>h1 (.inl (.inl ⟨ho,.inl ?_⟩))
   exact Int.not_le.1 e
  ·refine Classical.byContradiction fun e=>h1 (.inl (.inl ⟨ho,.inr ?_⟩))
   exact Int.not_le.1 e
  ·exact Classical.byContradiction fun e=>h1 (.inl (.inr ⟨ho,e⟩))
  refine Classical.byContradiction fun e=>h1 (.inr ⟨ho,?_⟩)
  omega
 rw[hlen] at hk
 obtain ⟨⟨h1,h2⟩,h3⟩:=(h.snd i hi).2 k hk
 have hg:((toG f).args i).getD k 0=((f.v i).args.getD k 0).toNat:=CQ _ _
 rw[hg]
 obtain ⟨a,ha⟩:∃a:Nat,(f.v i).args.getD k 0=(a:Int):=⟨_,(Int.toNat_of_nonneg h1).symm⟩
 rw[ha] at h2 h3 ⊢
 have han:a<f.vals.length:=by omega
 refine ⟨han,?_⟩
 unfold Dn at h3
 unfold Cp
 show if (f.v i).op=13 then Dom _ ((toG f).blk a) _ else ((toG f).blk a≠_∧Dom _ ((toG f).blk a) _)∨((toG f).blk a=_∧a<i)
 rw[show ((a:Int)).toNat=a from rfl,← hblk a han] at h3
 have hbi:=hblk i hi
 split
 ·rename_i ho
  rw[if_pos ho] at h3
  exact fun hr=>h3 ((rch_iff hnn).2 hr)
 rename_i ho
 rw[if_neg ho,← hbi] at h3
 rcases h3 with ⟨h4,h5⟩|⟨h4,h5⟩
 ·exact .inl ⟨fun e=>h4 (by rw[e]),fun hr=>h5 ((rch_iff hnn).2 hr)⟩
 exact .inr ⟨by omega,by omega⟩
theorem GoodP.good (h:GoodP f):GoodG (truthN f 48) (toG f):=by
 have hA:=h.goodA
 have hnn:=h.nn
 have hlen:∀i,((toG f).args i).length=(f.v i).args.length:=fun i=>List.length_map ..
 have hg:∀i k,((toG f).args i).getD k 0=((f.v i).args.getD k 0).toNat:=fun i k=>CQ _ _
 have hc:=hA.cinv
 obtain ⟨p,hp1,hp2⟩:=rank_small hc
 have hnv:(toG f).nv≤48:=hA.nv
 refine { toGoodA:=hA,tru:=fun i hi ho k hk=>?_,tr:=fun i hi=>?_,ctrl:=fun b hb=>?_ }
 ·rw[hg]
  exact h.tru i hi k (by rw[← hlen];exact hk) ho
 ·show _=if isT (f.v i).op then true else if (f.v i).op=14 then _ else false
  by_cases ht:isT (f.v i).op
  ·rw[Cn ht,if_pos ht]
  by_cases ho:(f.v i).op=14
  ·rw[if_neg ht,if_pos ho,Db ht ho,hg]
   obtain ⟨j,hj,hr⟩:=hc.copy i hi ho
   have hjn:=hc.closed i hi j (by rw[hj];exact .head _)
   have hja:((f.v i).args.getD 0 0).toNat=j:=by rw[← hg,hj];rfl
   have h1:=hp2 i j hi hjn hr
   have h2:=hp1 i hi
   rw[hja]
   exact truthN_stay (f:=f) (g:=toG f) (fun _ _=>rfl) (fun v _=>(hg v 0).symm) hc hp2 47 48 j hjn (by omega) (by omega)
  rw[CT ht ho,if_neg ht,if_neg ho]
 have h1:=h.ctl2 hb
 by_cases hk:(f.b b).kind=0
 ·left
  refine ⟨hk,?_⟩
  show (if 0≤(f.b b).ctrl then [(f.b b).ctrl.toNat] else [])=[]
  rw[h1.1 hk];rfl
 right
 obtain ⟨h2,h3⟩:=h1.2 hk
 obtain ⟨h4,h5⟩:=h.ctl b hb hk
 refine ⟨(f.b b).ctrl.toNat,?_,hk,?_,?_,h5⟩
 ·show (if 0≤(f.b b).ctrl then [(f.b b).ctrl.toNat] else [])=_
  rw[if_pos h2]
 ·show (f.b b).ctrl.toNat<f.vals.length
  omega
 intro hr
 refine h4 ?_
 have:=(h.val (i:=(f.b b).ctrl.toNat) (by omega)).2.2.1
 have hr2:=(rch_iff hnn).2 hr
 have e:(((toG f).blk (f.b b).ctrl.toNat:Nat):Int)=(f.v (f.b b).ctrl.toNat).blk:=by
  show (((f.v (f.b b).ctrl.toNat).blk.toNat:Nat):Int)=_
  omega
 rwa [e] at hr2
theorem GoodP.wf (h:GoodP f):Wf f:=by
 have hg:=h.good
 refine ⟨h.shp.nb,h.shp.nv,h.shp.one,fun i hi=>?_,fun i hi=>⟨?_,h.args hi⟩,fun b hb=>⟨?_,h.succs b hb⟩,fun b hb=>?_,fun b hb=>?_⟩
 ·have:=h.val hi
  omega
 ·have:=hg.alen (i:=i) hi
  have e:((toG f).args i).length=(f.v i).args.length:=List.length_map ..
  omega
 ·have:=hg.slen (b:=b) hb
  have e:((toG f).succs b).length=(f.b b).succs.length:=List.length_map ..
  omega
 ·have h1:=h.ctl2 hb
  by_cases hk:(f.b b).kind=0
  ·have:=h1.1 hk;omega
  have:=h1.2 hk;omega
 have:=(h.kind hb).2
 omega
theorem GoodG.goodP {T:Nat→Bool} {g:Gph} (h:GoodG T g):GoodP (toF g):=by
 have hnv:(toF g).vals.length=g.nv:=Ev g
 have hnb:(toF g).blks.length=g.nb:=DH g
 have hop:∀v,v<g.nv→((toF g).v v).op=g.op v:=fun v hv=>by rw[CW hv];rfl
 have har:∀v,v<g.nv→((toF g).v v).args=nats (g.args v):=fun v hv=>by rw[CW hv];rfl
 have hbl:∀v,v<g.nv→((toF g).v v).blk=(g.blk v:Int):=fun v hv=>by rw[CW hv];rfl
 have hlen:∀v,v<g.nv→((toF g).v v).args.length=(g.args v).length:=fun v hv=>by rw[har v hv];exact List.length_map ..
 have hsu:∀b,b<g.nb→((toF g).b b).succs=nats (g.succs b):=fun b hb=>by rw[CU hb];rfl
 have hki:∀b,b<g.nb→((toF g).b b).kind=g.kind b:=fun b hb=>by rw[CU hb];rfl
 have hct:∀b,b<g.nb→((toF g).b b).ctrl=ctl (g.ctrl b):=fun b hb=>by rw[CU hb];rfl
 have hli:∀b,b<g.nb→((toF g).b b).likely=g.likely b:=fun b hb=>by rw[CU hb];rfl
 have hsn:∀b,b<(toF g).blks.length→∀s∈((toF g).b b).succs,0≤s∧s<(toF g).blks.length:=fun b hb s hs=>by
  rw[hnb] at hb ⊢
  rw[hsu b hb] at hs
  obtain ⟨z,hz,rfl⟩:=List.mem_map.1 hs
  have:=h.succs b hb z hz
  omega
 have hnn:=succs_nn hsn
 have hS:∀b,b<g.nb→(toG (toF g)).succs b=g.succs b:=fun b hb=>by
  show ((toF g).b b).succs.map Int.toNat=_
  rw[hsu b hb,Dz]
 have hS2:∀b,¬ b<g.nb→(toG (toF g)).succs b=[]:=fun b hb=>by
  show ((toF g).b b).succs.map Int.toNat=_
  have:(toF g).b b=default:=by
   unfold Fn.b
   rw[List.getD_eq_getElem?_getD,List.getElem?_eq_none (by omega)];rfl
  rw[this];rfl
 have hR:∀w i,RchS (toG (toF g)).succs w i→RchS g.succs w i:=fun w i hr=>by
  induction hr with
  |entry h=>exact .entry h
  | @step b s _ hs hw ih=>
    by_cases hb:b<g.nb
    ·rw[hS b hb] at hs;exact .step ih hs hw
    rw[hS2 b hb] at hs;cases hs
 have hR2:∀w i,RchS g.succs w i→i<g.nb∧RchS (toG (toF g)).succs w i:=fun w i hr=>by
  induction hr with
  |entry h2=>exact ⟨h.one,.entry h2⟩
  | @step b s _ hs hw ih=>exact ⟨(h.succs b ih.1 s hs).2,.step ih.2 (by rw[hS b ih.1];exact hs) hw⟩
 have hpr:∀b,b<g.nb→predsOf (toF g) b=g.preds b:=fun b hb=>by
  rw[predsOf_eq hnn,h.preds b hb,hnb]
  unfold predsL
  refine flatMap_eq fun i hi=>?_
  rw[hS i (List.mem_range.1 hi)]
 have hdom:∀w i,Dom g.succs w i→¬ Rch (toF g) (w:Int) i:=fun w i hd hr=>hd (hR _ _ ((rch_iff hnn).1 hr))
 have hT:∀v,v<g.nv→truthN (toF g) 48 v=T v:=by
  obtain ⟨p,hp1,hp2⟩:=rank_small h.cinv
  intro v hv
  refine truthN_T (f:=toF g) (g:=g) hop (fun v hv=>?_) h.cinv hp2 h.tr 48 v hv ?_
  ·rw[har v hv,getD_nats];rfl
  have:=hp1 v hv
  have:=h.nv
  omega
 refine ⟨⟨by rw[hnb];exact h.one,by rw[hnb];exact h.nb,by rw[hnv];exact h.nv,fun b hb=>⟨?_,?_,fun s hs=>?_⟩,fun b hb=>?_⟩,fun i hi=>?_,fun i hi=>⟨?_,fun k hk=>⟨?_,?_⟩⟩,fun i hi k hk ho=>?_,fun b hb hk=>?_⟩
 ·rw[hnb] at hb
  obtain ⟨h1,h2,h3⟩:=h.kind b hb
  obtain ⟨h4,h5,h6⟩:=h.likely b hb
  unfold Dx
  rw[hki b hb,hsu b hb,hli b hb]
  rintro ((((( h|h)|h)|h)|h)|⟨h,h'⟩)
  ·omega
  ·omega
  ·refine h ?_
   have:(nats (g.succs b)).length=(g.succs b).length:=List.length_map ..
   rw[this];exact h3
  ·omega
  ·omega
  exact h' (h6 h)
 ·rw[hnb] at hb
  unfold C7
  rw[hki b hb,hct b hb,hnv]
  rcases h.ctrl b hb with ⟨h1,h2⟩|⟨c,h1,h2,h3,_⟩
  ·rw[h2]
   rintro (⟨_,h4⟩|⟨h4,_⟩)
   ·exact h4 rfl
   exact h4 h1
  rw[h1]
  show ¬ ((_∧(c:Int)≠ -1)∨(_∧((c:Int)<0∨(g.nv:Int)≤(c:Int))))
  rintro (⟨h4,_⟩|⟨_,h4⟩)
  ·exact h2 h4
  omega
 ·rw[hnb] at hb
  rw[hsu b hb] at hs
  obtain ⟨z,hz,rfl⟩:=List.mem_map.1 hs
  have:=h.succs b hb z hz
  rw[hnb]
  omega
 ·rw[hnb] at hb
  refine (rch_all hnn (by rw[hnb];exact h.one) hsn).2 ?_
  rw[hnb]
  exact (hR2 _ _ (h.rch b hb)).2
 ·rw[hnv] at hi
  obtain ⟨h1,h2,h3⟩:=h.ops i hi
  have h4:=h.blk i hi
  unfold Dl
  rw[hop i hi,hbl i hi,hlen i hi,hnb,Int.toNat_natCast,hpr _ h4]
  rintro ((((h|h)|h)|h)|h)
  ·omega
  ·omega
  ·omega
  ·omega
  exact h h3
 ·rw[hnv] at hi
  obtain ⟨h1,h2,h3⟩:=h.aux i hi
  unfold C8
  have hau:((toF g).v i).aux=g.aux i:=by rw[CW hi];rfl
  rw[hop i hi,hau,hlen i hi]
  rintro ((⟨h4,h5⟩|⟨h4,h5⟩)|⟨h4,h5⟩)
  ·have:=h1 h4;omega
  ·exact h5 (h2 h4)
  have:=h3 h4;omega
 ·rw[hnv] at hi ⊢
  rw[hlen i hi] at hk
  rw[har i hi,getD_nats]
  have:=(h.args i hi k hk).1
  omega
 ·rw[hnv] at hi
  rw[hlen i hi] at hk
  obtain ⟨h1,h2⟩:=h.args i hi k hk
  rw[har i hi,getD_nats]
  unfold Cp at h2
  unfold Dn
  rw[hop i hi,Int.toNat_natCast,hbl _ h1,hbl i hi,Int.toNat_natCast,hpr _ (h.blk i hi)]
  split
  ·rename_i ho
   rw[if_pos ho] at h2
   exact hdom _ _ h2
  rename_i ho
  rw[if_neg ho] at h2
  rcases h2 with ⟨h3,h4⟩|⟨h3,h4⟩
  ·exact .inl ⟨fun e=>h3 (by omega),hdom _ _ h4⟩
  exact .inr ⟨by rw[h3],by omega⟩
 ·rw[hnv] at hi
  rw[hlen i hi] at hk
  rw[hop i hi] at ho ⊢
  rw[har i hi,getD_nats,Int.toNat_natCast,hT _ (h.args i hi k hk).1]
  exact h.tru i hi ho k hk
 rw[hnb] at hb
 rw[hki b hb] at hk ⊢
 rw[hct b hb]
 rcases h.ctrl b hb with ⟨h1,_⟩|⟨c,h1,h2,h3,h4,h5⟩
 ·exact absurd h1 hk
 rw[h1]
 show ¬ Rch (toF g) ((toF g).v c).blk b∧truthN (toF g) 48 c=_
 rw[hbl c h3,hT c h3]
 exact ⟨hdom _ _ h4,h5⟩
theorem like_toF {T:Nat→Bool} {g:Gph} (h:GoodG T g):Like g (toG (toF g)):=by
 have hP:=h.goodP
 have hsu:∀b,b<g.nb→(toG (toF g)).succs b=g.succs b:=fun b hb=>by
  show ((toF g).b b).succs.map Int.toNat=_
  rw[CU hb];exact Dz _
 refine ⟨Ev g,DH g,fun i hi=>⟨?_,?_,?_,?_⟩,fun b hb=>⟨?_,hsu b hb,?_,?_⟩⟩
 ·show ((toF g).v i).op=_;rw[CW hi];rfl
 ·show ((toF g).v i).aux=_;rw[CW hi];rfl
 ·show ((toF g).v i).blk.toNat=_;rw[CW hi];rfl
 ·show ((toF g).v i).args.map Int.toNat=_;rw[CW hi];exact Dz _
 ·show ((toF g).b b).kind=_;rw[CU hb];rfl
 ·show predsOf (toF g) b=_
  rw[predsOf_eq hP.nn,h.preds b hb,DH]
  unfold predsL
  refine flatMap_eq fun i hi=>?_
  rw[hsu i (List.mem_range.1 hi)]
 show (if 0≤((toF g).b b).ctrl then [((toF g).b b).ctrl.toNat] else [])=_
 rw[CU hb]
 show (if 0≤ctl (g.ctrl b) then [(ctl (g.ctrl b)).toNat] else [])=_
 rcases h.ctrl b hb with ⟨h1,h2⟩|⟨c,h1,h2,h3,h4,h5⟩
 ·rw[h2];rfl
 rw[h1]
 show (if 0≤(c:Int) then [(c:Int).toNat] else [])=_
 rw[if_pos (by omega),Int.toNat_natCast]
end
end Go.Proofs.YteepnepebilckaaGreatDoor
namespace Go.Proofs.YteepnepebilckaaGreatDoor
open Go Go.Eng Go.RowKit Go.Shelf
def Gph.wa (g:Gph) (A:Nat→List Nat):Gph:= { g with args:=A }
theorem SwO.mem {g0 g:Gph} (s:SwO g0 g) (v:Nat):(g.args v).length=(g0.args v).length∧∀x,x∈g.args v→x∈g0.args v:=by
 rcases s.args v with h1|⟨_,a,b,h1,h2⟩
 ·rw[h1];exact ⟨rfl,fun _ h=>h⟩
 rw[h1,h2]
 exact ⟨rfl,fun x hx=>by simp at hx ⊢;rcases hx with h|h;exact .inr h;exact .inl h⟩
section
variable {g : Gph} {fw : Prop} {A : Nat → List Nat} {arr : Nat → Nat} {cls : Nat → Int} {P : List (Nat × Nat)} {rw : Nat → Option Nat}
theorem CseR.sw (h:CseR g fw A arr cls P rw):SwO g (g.wa A):=by
 obtain ⟨_,h1⟩:=h.pj
 exact h1.sw
theorem CseR.lt (h:CseR g fw A arr cls P rw) {x:Nat} (hx:x<g.nv):fR rw x<g.nv:=by
 unfold fR
 cases e:rw (x+1) with
 |none=>exact hx
 |some y=>exact (h.rw x y hx e).1
theorem CseR.gok {T:Nat→Bool} (h:CseR g fw A arr cls P rw) (hG:GoodG T g) (m c:Value):GOk (((g.wa A).mv (fR rw)).ac m c):=by
 have h0:=hG.gok
 refine ⟨h0.nb,h0.nv,h0.blk,fun i hi=>?_,h0.succs,fun b hb x hx=>?_,h0.likely⟩
 ·obtain ⟨s1,s2⟩:=h.sw.mem i
  have h1:=h0.args i hi
  refine ⟨?_,fun a ha=>?_⟩
  ·show (((A i).map (fR rw)).length)≤_
   rw[List.length_map]
   exact Nat.le_trans (Nat.le_of_eq s1) h1.1
  obtain ⟨y,hy,rfl⟩:=List.mem_map.1 ha
  exact h.lt (h1.2 y (s2 y hy))
 obtain ⟨y,hy,rfl⟩:=List.mem_map.1 hx
 exact h.lt (h0.ctrl b hb y hy)
end
def Tabl (w:World):Prop:=∀k,k<21→w.cell? ⟨0,k,none⟩=some (.bool (comm k))
theorem Tabl.pos {w:World} (h:Tabl w):0<w.heap.size:=by
 have h1:=h 0 (by decide)
 refine Classical.byContradiction fun h2=>?_
 have h3:w.heap[0]? =none:=Array.getElem?_eq_none (by omega)
 simp [World.cell?,h3] at h1
theorem Tabl.keep {w w':World} (h:Tabl w) (k:Keep w w'):Tabl w':=fun j hj=>k _ _ (h j hj)
theorem toG_ty (f:Fn):∀x y,(toG f).op x=(toG f).op y→(toG f).ty x=(toG f).ty y:=fun x y e=>by
 show (if 10≤(f.v x).op∧(f.v x).op≤12 then (1:Int) else 0)=if 10≤(f.v y).op∧(f.v y).op≤12 then 1 else 0
 rw[show (f.v x).op=(f.v y).op from e]
set_option maxHeartbeats 4000000
attribute [local irreducible] EC EL DL Ret thenQ blockQ Bf bodyQ onlyN execOp Sem.run World.cell? World.frozen? World.setCell World.alloc
theorem ssaCse_ret {w:World} {x:Value} {f:Fn} {fw:Prop} (hx:FnV w x f) (hP:GoodP f) (ht:Tabl w) (hfw:fw→FewG (toG f)):
 Ret Tryz.prog 33 #[x] w fun v w'=>(∃A arr cls P rw,CseR (toG f) fw A arr cls P rw∧Own w.heap.size w' v (toF (((toG f).wa A).mv (fR rw))))∧Below w.heap.size w w':=by
 obtain ⟨xv,xb,rfl,hvals,hblks⟩:=hx
 refine ret_of_EC Tryz.func33 rfl rfl ?_
 obtain ⟨B,hBd⟩:∃B,B=w.heap.size:=⟨_,rfl⟩
 refine Ae (Ac (Ab (Bt (v:=.agg #[xv,xb]) rfl) rfl (el_new (.cells #[xv,xb] 62) B (by omega) fun wa hN1 hO1 hZ1 hB1 hK1=>(Ab (Ba C0) rfl (el_new (.cells #[nilS,nilS] 62) B (by omega) fun wb hN2 hO2 hZ2 hB2 hK2=>(Af (Aa ?_)))))))
 have hK:Keep w wb:=hK1.trans hK2
 have hx':FnV wb (.agg #[xv,xb]) f:=⟨xv,xb,rfl,hvals.keep hK,hblks.keep hK⟩
 have hbx:wb.heap[w.heap.size]? =some (.cells #[xv,xb] 62 (0,0)):=(hO2 _ (by omega)).trans hN1
 refine Ae (Ac (Ab (AZ (cs:=[xv,xb]) rfl (AX rfl) (A5 hbx)) rfl (Bg (AI Tryz.func40 rfl rfl rfl rfl) rfl (build_ret hx' hP.wf) ?_)))
 rintro v1 w1 ⟨B1,L,hB1',rfl,hent,hg1,hbl1⟩
 refine Ab Ah rfl (Af (Aa ?_))
 have htp:=ht.pos
 have ht1:Tabl w1:=(ht.keep hK).keep (Keep.of_below hbl1 (Nat.le_refl _))
 refine Ae (Ac (Ab Ad rfl (Bg (AI Tryz.func41 rfl rfl rfl rfl) rfl (cse_ret hg1 (by omega) hP.good rfl (toG_ty f) hent ht1 hfw) ?_)))
 rintro v2 w2 ⟨rfl,A,arr,cls,P,rw,r,cv,us,hR,hg2,_,hbl2⟩
 refine Af (Aa (Ae (Ac (Ab Ad rfl (Bg (AI Tryz.func43 rfl rfl rfl rfl) rfl (data_ret hg2 (hR.gok hP.good _ _)) ?_)))))
 rintro v3 w3 ⟨hv3,hbl3⟩
 obtain ⟨g',hg'⟩:∃g',g'=((toG f).wa A).mv (fR rw):=⟨_,rfl⟩
 have hv3:Own w2.heap.size w3 v3 (toF g'):=by rw[hg'];exact hv3
 have hb13:Below wb.heap.size wb w3:=(hbl1.trans (hbl2.mono (by omega))).trans (hbl3.mono (by have:=hbl1.size;have:=hbl2.size;omega))
 have hC3:w3.heap[wa.heap.size]? =some (.cells #[nilS,nilS] 62 (0,0)):=(hb13.block _ (by omega)).trans hN2
 obtain ⟨yv,yb,rfl,hvals3,hblks3⟩:=hv3.at
 obtain ⟨pa,pc,rfl,_⟩:=hvals3
 obtain ⟨qa,qc,rfl,_⟩:=hblks3
 refine Bc (CD rfl rfl hC3 (A7 rfl) rfl rfl) rfl (Af (Aa ?_))
 have hgC:=setRow_heap w3 _ _ #[.slice pa (toF g').vals.length pc,.slice qa (toF g').blks.length qc] _ _ hC3
 have hsz2:wa.heap.size<w2.heap.size:=by have:=hbl1.size;have:=hbl2.size;omega
 have hOwn:Own w.heap.size (w3.setRow wa.heap.size #[.slice pa (toF g').vals.length pc,.slice qa (toF g').blks.length qc]) (.agg #[.slice pa (toF g').vals.length pc,.slice qa (toF g').blks.length qc]) (toF g'):=fun w'' hw hs=>
  hv3 w'' (fun k h1 h2=>(hw k (by omega) (by simpa [World.setRow] using h2)).trans (setRow_other _ _ _ _ (by omega))) (by simpa [World.setRow] using hs)
 have hbF:Below w.heap.size w (w3.setRow wa.heap.size #[.slice pa (toF g').vals.length pc,.slice qa (toF g').blks.length qc]):=
  below_setRow' ((show Below w.heap.size w wb from by rw[← hBd];exact hB1.trans hB2).trans (hb13.mono (by omega))) (by omega) _
 refine AC ?_
 exact CI rfl rfl rfl rfl (BF (cs:=[.slice pa (toF g').vals.length pc,.slice qa (toF g').blks.length qc]) (AX rfl) (A5 hgC)) ⟨⟨A,arr,cls,P,rw,hR,by rw[← hg'];exact hOwn⟩,hbF⟩
theorem implCse_ret {w:World} {x:Value} {f:Fn} {fw:Prop} (hx:FnV w x f) (hP:GoodP f) (ht:Tabl w) (hfw:fw→FewG (toG f)):
 Ret Tryz.prog 18 #[x] w fun v w'=>(∃A arr cls P rw,CseR (toG f) fw A arr cls P rw∧FnV w' v (toF (((toG f).wa A).mv (fR rw))))∧Below w.heap.size w w':=by
 obtain ⟨xv,xb,rfl,hvals,hblks⟩:=hx
 refine ret_of_EC Tryz.func18 rfl rfl ?_
 obtain ⟨B,hBd⟩:∃B,B=w.heap.size:=⟨_,rfl⟩
 refine Ae (Ac (Ab (Bt (v:=.agg #[xv,xb]) rfl) rfl (el_new (.cells #[xv,xb] 25) B (by omega) fun wa hN1 hO1 hZ1 hB1 hK1=>(Ab (Ba DR) rfl (el_new (.cells #[nilS,nilS] 25) B (by omega) fun wb hN2 hO2 hZ2 hB2 hK2=>(Af (Aa ?_)))))))
 have hK:Keep w wb:=hK1.trans hK2
 have hx':FnV wb (.agg #[xv,xb]) f:=⟨xv,xb,rfl,hvals.keep hK,hblks.keep hK⟩
 have hbx:wb.heap[w.heap.size]? =some (.cells #[xv,xb] 25 (0,0)):=(hO2 _ (by omega)).trans hN1
 refine Ae (Ac (Ab (AZ (cs:=[xv,xb]) rfl (AX rfl) (A5 hbx)) rfl (Bg (AI Tryz.func29 rfl rfl rfl rfl) rfl (impl_conv_ret hx' hP.wf) ?_)))
 rintro v1 w1 ⟨hv1,hbl1⟩
 refine Bg (AI Tryz.func33 rfl rfl rfl rfl) rfl (ssaCse_ret hv1.at hP ((ht.keep hK).keep (Keep.of_below hbl1 (Nat.le_refl _))) hfw) ?_
 rintro v2 w2 ⟨⟨A,arr,cls,P,rw,hR,hv2⟩,hbl2⟩
 obtain ⟨g',hg'⟩:∃g',g'=((toG f).wa A).mv (fR rw):=⟨_,rfl⟩
 rw[← hg'] at hv2
 have hok:GOk g':=by rw[hg'];exact hR.gok hP.good (toG f).am (toG f).cl
 have wf':Wf (toF g'):=wf_toF hok (by rw[hg'];exact hP.wf.one)
 refine Bg (AI Tryz.func32 rfl rfl rfl rfl) rfl (E4 hv2.at wf') ?_
 rintro v3 w3 ⟨hv3,hbl3⟩
 have hb13:Below wb.heap.size wb w3:=(hbl1.trans (hbl2.mono (by have:=hbl1.size;omega))).trans (hbl3.mono (by have:=hbl1.size;have:=hbl2.size;omega))
 have hC3:w3.heap[wa.heap.size]? =some (.cells #[nilS,nilS] 25 (0,0)):=(hb13.block _ (by omega)).trans hN2
 obtain ⟨yv,yb,rfl,hvals3,hblks3⟩:=hv3.at
 obtain ⟨pa,pc,rfl,_⟩:=hvals3
 obtain ⟨qa,qc,rfl,_⟩:=hblks3
 refine Bc (CD rfl rfl hC3 (A7 rfl) rfl rfl) rfl (Af (Aa ?_))
 have hgC:=setRow_heap w3 _ _ #[.slice pa (toF g').vals.length pc,.slice qa (toF g').blks.length qc] _ _ hC3
 have hsz2:wa.heap.size<w2.heap.size:=by have:=hbl1.size;have:=hbl2.size;omega
 have hOwn:Own w.heap.size (w3.setRow wa.heap.size #[.slice pa (toF g').vals.length pc,.slice qa (toF g').blks.length qc]) (.agg #[.slice pa (toF g').vals.length pc,.slice qa (toF g').blks.length qc]) (toF g'):=fun w'' hw hs=>
  hv3 w'' (fun k h1 h2=>(hw k (by omega) (by simpa [World.setRow] using h2)).trans (setRow_other _ _ _ _ (by omega))) (by simpa [World.setRow] using hs)
 have hbF:Below w.heap.size w (w3.setRow wa.heap.size #[.slice pa (toF g').vals.length pc,.slice qa (toF g').blks.length qc]):=
  below_setRow' ((show Below w.heap.size w wb from by rw[← hBd];exact hB1.trans hB2).trans (hb13.mono (by omega))) (by omega) _
 refine AC ?_
 exact CI rfl rfl rfl rfl (BF (cs:=[.slice pa (toF g').vals.length pc,.slice qa (toF g').blks.length qc]) (AX rfl) (A5 hgC)) ⟨⟨A,arr,cls,P,rw,hR,by rw[← hg'];exact hOwn.at⟩,hbF⟩
end Go.Proofs.YteepnepebilckaaGreatDoor
