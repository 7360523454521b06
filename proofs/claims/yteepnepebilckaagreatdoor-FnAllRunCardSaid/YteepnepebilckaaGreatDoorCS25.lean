/- The law FnAllRun returns true for every input in which the opcode table reads as laid, and its arguments read as they did, the table being tied to the text of the program. -/
import Derived.Test.YteepnepebilckaaGreatDoorCS24
namespace Go.Proofs.YteepnepebilckaaGreatDoor
open Go Go.Eng
abbrev Sta:=Nat→Int
def upd (now:Sta) (i:Nat) (v:Int):Sta:=fun j=>if j=i then v else now j
def CB (g:Gph) (b edge:Nat) (old:Sta) (n:Nat):Sta:=fun i=>if i<n∧g.blk i=b∧g.op i=13 then old ((g.args i).getD edge 0) else old i
def valsN (g:Gph) (E:Int→Int→List Int→Int) (b:Nat):Nat→Sta→Sta
 |0,now=>now
 |n+1,now=>if g.blk n=b∧g.op n≠13 then upd (valsN g E b n now) n (E (g.op n) (g.aux n) ((g.args n).map (valsN g E b n now))) else valsN g E b n now
def exec (g:Gph) (E:Int→Int→List Int→Int) (b edge:Nat) (old:Sta):Sta:=valsN g E b g.nv (CB g b edge old g.nv)
def Cf (g:Gph) (b k:Nat):Nat:=(g.preds ((g.succs b).getD k 0)).idxOf b+((g.succs b).take k).count ((g.succs b).getD k 0)
def Cr (g:Gph) (b:Nat) (c:Int):Nat:=if g.kind b=1∧c=0 then 1 else 0
def runG (g:Gph) (E:Int→Int→List Int→Int):Nat→Nat→Nat→Sta→List Nat×Int
 |0,_,_,_=>([],0)
 |n+1,b,edge,old=>
  if g.kind b=2 then ([b],exec g E b edge old ((g.ctrl b).getD 0 0)) else
  (b :: (runG g E n ((g.succs b).getD (Cr g b (exec g E b edge old ((g.ctrl b).getD 0 0))) 0) (Cf g b (Cr g b (exec g E b edge old ((g.ctrl b).getD 0 0)))) (exec g E b edge old)).1,
    (runG g E n ((g.succs b).getD (Cr g b (exec g E b edge old ((g.ctrl b).getD 0 0))) 0) (Cf g b (Cr g b (exec g E b edge old ((g.ctrl b).getD 0 0)))) (exec g E b edge old)).2)
structure StepR (g:Gph) (E:Int→Int→List Int→Int) (b edge:Nat) (old now:Sta):Prop where
 out:∀i,(i<g.nv→g.blk i≠b)→now i=old i
 phi:∀i,i<g.nv→g.blk i=b→g.op i=13→now i=old ((g.args i).getD edge 0)
 val:∀i,i<g.nv→g.blk i=b→g.op i≠13→now i=E (g.op i) (g.aux i) ((g.args i).map now)
section
variable {T : Nat → Bool} {g : Gph} {E : Int → Int → List Int → Int} {b edge : Nat} {old now : Sta}
theorem valsN_ge:∀n m i,n≤i→valsN g E b n m i=m i
 |0,_,_,_=>rfl
 |n+1,m,i,h=>by
  show (if g.blk n=b∧g.op n≠13 then upd (valsN g E b n m) n _ else valsN g E b n m) i=_
  have hne:¬ i=n:=by omega
  split
  ·show (if i=n then _ else valsN g E b n m i)=_
   rw[if_neg hne];exact valsN_ge n m i (by omega)
  exact valsN_ge n m i (by omega)
theorem valsN_lt {m:Sta} {i:Nat}:∀n,i<n→valsN g E b n m i=valsN g E b (i+1) m i
 |0,h=>absurd h (Nat.not_lt_zero _)
 |n+1,h=>by
  by_cases e:i=n
  ·subst e;rfl
  have ih:=valsN_lt (m:=m) n (show i<n by omega)
  show (if g.blk n=b∧g.op n≠13 then upd (valsN g E b n m) n _ else valsN g E b n m) i=_
  split
  ·show (if i=n then _ else valsN g E b n m i)=_
   rw[if_neg e];exact ih
  exact ih
theorem valsN_not {m:Sta} {i:Nat} (h:g.blk i≠b∨g.op i=13):∀n,valsN g E b n m i=m i
 |0=>rfl
 |n+1=>by
  have ih:=valsN_not (m:=m) h n
  show (if g.blk n=b∧g.op n≠13 then upd (valsN g E b n m) n _ else valsN g E b n m) i=_
  split
  ·rename_i hc
   show (if i=n then _ else valsN g E b n m i)=_
   rw[if_neg (fun e=>by subst e;exact h.elim (fun h=>h hc.1) hc.2)];exact ih
  exact ih
theorem exec_stepR (h:GoodG T g):StepR g E b edge old (exec g E b edge old):=by
 refine ⟨fun i hi=>?_,fun i hi hb ho=>?_,fun i hi hb ho=>?_⟩
 ·unfold exec
  by_cases hin:i<g.nv
  ·rw[valsN_not (.inl (hi hin))]
   show (if i<g.nv∧g.blk i=b∧g.op i=13 then _ else old i)=_
   rw[if_neg fun h=>hi hin h.2.1]
  rw[valsN_ge _ _ _ (by omega)]
  show (if i<g.nv∧g.blk i=b∧g.op i=13 then _ else old i)=_
  rw[if_neg fun h=>hin h.1]
 ·unfold exec
  rw[valsN_not (.inr ho)]
  show (if i<g.nv∧g.blk i=b∧g.op i=13 then _ else old i)=_
  rw[if_pos ⟨hi,hb,ho⟩]
 unfold exec
 rw[valsN_lt _ hi]
 show (if g.blk i=b∧g.op i≠13 then upd _ i _ else _) i=_
 rw[if_pos ⟨hb,ho⟩]
 show (if i=i then E (g.op i) (g.aux i) ((g.args i).map (valsN g E b i (CB g b edge old g.nv))) else _)=_
 rw[if_pos rfl]
 congr 1
 refine List.map_congr_left fun a ha=>?_
 obtain ⟨k,hk,rfl⟩:=h.args_mem hi ha
 obtain ⟨h1,h2⟩:=h.args i hi k hk
 unfold B3 at h2
 rw[if_neg ho] at h2
 rcases h2 with ⟨h3,_⟩|⟨_,h4⟩
 ·rw[valsN_not (.inl (by rw[← hb];exact h3)),valsN_not (.inl (by rw[← hb];exact h3))]
 rw[valsN_lt _ h4,valsN_lt _ h1]
theorem StepR.uniq (h:GoodG T g) {n1 n2:Sta} (h1:StepR g E b edge old n1) (h2:StepR g E b edge old n2):n1=n2:=by
 funext i
 induction i using Nat.strongRecOn with
 |ind i ih=>
  by_cases hi:i<g.nv
  ·by_cases hb:g.blk i=b
   ·by_cases ho:g.op i=13
    ·rw[h1.phi i hi hb ho,h2.phi i hi hb ho]
    rw[h1.val i hi hb ho,h2.val i hi hb ho]
    congr 1
    refine List.map_congr_left fun a ha=>?_
    obtain ⟨k,hk,rfl⟩:=h.args_mem hi ha
    obtain ⟨h3,h4⟩:=h.args i hi k hk
    unfold B3 at h4
    rw[if_neg ho] at h4
    rcases h4 with ⟨h5,_⟩|⟨_,h6⟩
    ·rw[h1.out _ fun _=>by rw[← hb];exact h5,h2.out _ fun _=>by rw[← hb];exact h5]
    exact ih _ h6
   rw[h1.out i fun _=>hb,h2.out i fun _=>hb]
  rw[h1.out i fun h=>absurd h hi,h2.out i fun h=>absurd h hi]
theorem StepR.exec (h:GoodG T g) (h1:StepR g E b edge old now):exec g E b edge old=now:=StepR.uniq h (exec_stepR h) h1
theorem idxOf_not {p:Nat}:∀{l r:List Nat},p∉l→(l ++ r).idxOf p=l.length+r.idxOf p
 | [],_,_=>by simp
 |a :: l,r,h=>by
  have h1:a≠p:=fun e=>h (e ▸ .head _)
  have h2:=idxOf_not (l:=l) (r:=r) fun h3=>h (.tail _ h3)
  rw[List.cons_append,List.idxOf_cons]
  have h3:(a == p)=false:=by simpa using h1
  rw[h3,h2,List.length_cons]
  simp only [cond_false]
  omega
theorem range_split {p n:Nat} (h:p<n):∃l,List.range n=List.range p ++ p :: l:=by
 refine ⟨(List.range (n - p - 1)).map (p+1+ ·),?_⟩
 have h1:n=(p+1)+(n - p - 1):=by omega
 conv=>lhs;rw[h1,List.range_add]
 rw[List.range_succ,List.append_assoc]
 rfl
theorem along_ok (h:Frm g) {p k:Nat} (hp:p<g.nb) (hk:k<(g.succs p).length):
 Cf g p k<(g.preds ((g.succs p).getD k 0)).length∧(g.preds ((g.succs p).getD k 0)).getD (Cf g p k) 0=p:=by
 unfold Cf
 obtain ⟨to,hto⟩:∃to,to=(g.succs p).getD k 0:=⟨_,rfl⟩
 rw[← hto]
 have hmem:to∈g.succs p:=by rw[hto];exact Bh hk
 have hton:=(h.succs p hp to hmem).2
 rw[h.preds to hton]
 obtain ⟨l,hl⟩:=range_split hp
 have hsplit:predsL g.succs g.nb to=predsL g.succs p to ++ ((((g.succs p).filter fun s=>s == to).map fun _=>p) ++ l.flatMap fun i=>((g.succs i).filter fun s=>s == to).map fun _=>i):=by
  unfold predsL
  rw[hl,List.flatMap_append,List.flatMap_cons]
 have hrep:(((g.succs p).filter fun s=>s == to).map fun _=>p)=List.replicate ((g.succs p).count to) p:=by
  rw[List.map_const',← List.countP_eq_length_filter]
  rfl
 have hcnt:((g.succs p).take k).count to<(g.succs p).count to:=by
  have e:g.succs p=(g.succs p).take k ++ (g.succs p).drop k:=(List.take_append_drop k _).symm
  have h2:(g.succs p).count to=((g.succs p).take k).count to+((g.succs p).drop k).count to:=by
   conv=>lhs;rw[e]
   exact List.count_append
  have h3:0<((g.succs p).drop k).count to:=by
   rw[List.count_pos_iff,hto,List.getD_eq_getElem?_getD,List.getElem?_eq_getElem hk,List.drop_eq_getElem_cons hk]
   exact .head _
  omega
 have hnot:p∉predsL g.succs p to:=fun h=>by
  have:=(mem_predsL.1 h).1
  omega
 rw[hsplit,hrep]
 obtain ⟨c,hc⟩:∃c,(g.succs p).count to=c+1:=⟨(g.succs p).count to - 1,by omega⟩
 have hidx:(predsL g.succs p to ++ (List.replicate ((g.succs p).count to) p ++ l.flatMap fun i=>((g.succs i).filter fun s=>s == to).map fun _=>i)).idxOf p=(predsL g.succs p to).length:=by
  rw[idxOf_not hnot,hc,List.replicate_succ,List.cons_append,List.idxOf_cons_self]
  rfl
 rw[hidx]
 refine ⟨by rw[List.length_append,List.length_append,List.length_replicate];omega,?_⟩
 rw[List.getD_eq_getElem?_getD,List.getElem?_append_right (by omega),List.getElem?_append_left (by rw[List.length_replicate];omega),List.getElem?_replicate,if_pos (by omega)]
 rfl
def Ex (g:Gph) (K:Sta→Nat→Prop) (b edge:Nat) (old:Sta):Prop:=
 b=0∨∃p,p<g.nb∧edge<(g.preds b).length∧(g.preds b).getD edge 0=p∧K old p
theorem wayG_lt (h:Frm g) (hb:b<g.nb) (hk:g.kind b≠2) (c:Int):Cr g b c<(g.succs b).length:=by
 obtain ⟨h1,h2,h3⟩:=h.kind b hb
 unfold CG at h3
 unfold Cr
 split
 ·rename_i hc
  rw[if_neg (by omega),if_pos hc.1] at h3
  omega
 split at h3
 ·omega
 split at h3
 ·omega
 omega
theorem run_eq {T':Nat→Bool} {g':Gph} {K:Sta→Nat→Prop} (h:GoodG T g) (h':GoodG T' g') (e1:∀b,b<g.nb→g'.kind b=g.kind b) (e2:∀b,b<g.nb→g'.succs b=g.succs b) (e3:∀b,b<g.nb→g'.preds b=g.preds b)
 (H:∀b edge old now,b<g.nb→Ex g K b edge old→StepR g E b edge old now→K now b∧StepR g' E b edge old now∧(g.kind b≠0→now ((g.ctrl b).getD 0 0)=now ((g'.ctrl b).getD 0 0))):
 ∀n b edge old,b<g.nb→Ex g K b edge old→runG g E n b edge old=runG g' E n b edge old
 |0,_,_,_,_,_=>rfl
 |n+1,b,edge,old,hb,hc=>by
  obtain ⟨h1,h2,h3⟩:=H b edge old _ hb hc (exec_stepR h)
  have h4:=h2.exec h'
  unfold runG
  rw[h4,e1 b hb]
  by_cases hk:g.kind b=2
  ·rw[if_pos hk,if_pos hk,h3 (by omega)]
  rw[if_neg hk,if_neg hk]
  have hw:Cr g' b (Go.Proofs.YteepnepebilckaaGreatDoor.exec g E b edge old ((g'.ctrl b).getD 0 0))=Cr g b (Go.Proofs.YteepnepebilckaaGreatDoor.exec g E b edge old ((g.ctrl b).getD 0 0)):=by
   unfold Cr
   rw[e1 b hb]
   by_cases hk1:g.kind b=1
   ·rw[h3 (by omega)]
   rw[if_neg (fun h=>hk1 h.1),if_neg (fun h=>hk1 h.1)]
  rw[hw]
  have hlt:=wayG_lt h.toFrm hb hk (Go.Proofs.YteepnepebilckaaGreatDoor.exec g E b edge old ((g.ctrl b).getD 0 0))
  have hto:=(h.succs b hb _ (Bh hlt)).2
  have ha:Cf g' b (Cr g b (Go.Proofs.YteepnepebilckaaGreatDoor.exec g E b edge old ((g.ctrl b).getD 0 0)))=Cf g b (Cr g b (Go.Proofs.YteepnepebilckaaGreatDoor.exec g E b edge old ((g.ctrl b).getD 0 0))):=by
   unfold Cf
   rw[e2 b hb,e3 _ hto]
  rw[ha,e2 b hb]
  obtain ⟨a1,a2⟩:=along_ok h.toFrm hb hlt
  have ih:=run_eq h h' e1 e2 e3 H n ((g.succs b).getD (Cr g b (Go.Proofs.YteepnepebilckaaGreatDoor.exec g E b edge old ((g.ctrl b).getD 0 0))) 0) (Cf g b (Cr g b (Go.Proofs.YteepnepebilckaaGreatDoor.exec g E b edge old ((g.ctrl b).getD 0 0)))) (Go.Proofs.YteepnepebilckaaGreatDoor.exec g E b edge old)
   hto (.inr ⟨b,hb,a1,a2,h1⟩)
  rw[ih]
def Pair (g:Gph) (u x:Nat):Prop:=(g.op u=14∧g.args u=[x])∨(g.op u=13∧x∈g.args u∧x≠u∧∀a∈g.args u,a=u∨a=x)
def KC (g:Gph) (now:Sta) (p:Nat):Prop:=∀u x,u<g.nv→Pair g u x→Dom g.succs (g.blk u) p→now u=now x
theorem GoodG.came (h:GoodG T g) {K:Sta→Nat→Prop} {i:Nat} (hi:i<g.nv) (hb:g.blk i=b) (ho:g.op i=13) (hc:Ex g K b edge old):
 edge<(g.args i).length∧∃p,p<g.nb∧(g.preds b).getD edge 0=p∧K old p∧Dom g.succs (g.blk ((g.args i).getD edge 0)) p:=by
 have hlen:(g.args i).length=(g.preds (g.blk i)).length:=by
  have:=(h.ops i hi).2.2
  rw[ho] at this
  have h2:manyI 13 ((g.preds (g.blk i)).length:Nat)=((g.preds (g.blk i)).length:Nat):=rfl
  omega
 have hbn:=h.blk i hi
 rcases hc with e|⟨p,h1,h2,h3,h4⟩
 ·exfalso
  have h1:=(h.aux i hi).2.2 ho
  have h3:=Bh (l:=g.preds (g.blk i)) (k:=0) (by omega)
  rw[h.preds _ hbn,mem_predsL] at h3
  have:=h.succs _ h3.1 _ h3.2
  omega
 subst hb
 refine ⟨by omega,p,h1,h3,h4,?_⟩
 obtain ⟨_,h5⟩:=h.args i hi edge (by omega)
 unfold B3 at h5
 rw[if_pos ho,h3] at h5
 exact h5
theorem ET (h:GoodG T g) (hE:∀a l,E 14 a l=l.getD 0 0) (hb:b<g.nb) (hc:Ex g (KC g) b edge old) (hs:StepR g E b edge old now):KC g now b:=by
 intro u x hu hp hD
 have hux:Dom g.succs (g.blk x) (g.blk u):=by
  rcases hp with ⟨h1,h2⟩|⟨h1,h2,h3,h4⟩
  ·exact h.copyD hu h1 h2
  exact (h.phiD hu h1 h2 h4).2
 by_cases hub:g.blk u=b
 ·rcases hp with ⟨h1,h2⟩|⟨h1,h2,h3,h4⟩
  ·rw[hs.val u hu hub (by rw[h1];decide),h1,hE,h2]
   rfl
  obtain ⟨h5,p,h6,h7,h8,h9⟩:=h.came hu hub h1 hc
  have hxb:=(h.phiD hu h1 h2 h4).1
  have hxo:now x=old x:=hs.out x fun _=>by rw[← hub];exact hxb
  rw[hs.phi u hu hub h1,hxo]
  rcases h4 _ (Bh h5) with e|e
  ·rw[e] at h9 ⊢
   exact h8 u x hu (.inr ⟨h1,h2,h3,h4⟩) h9
  rw[e]
 rcases hc with e|⟨p,h1,h2,h3,h4⟩
 ·subst e
  exact absurd (RchS.entry hub) hD
 have hbs:b∈g.succs p:=by
  have:=Bh h2
  rw[h3,h.preds b hb,mem_predsL] at this
  exact this.2
 have hDp:Dom g.succs (g.blk u) p:=hD.pred hbs fun e=>hub e.symm
 have hxn:x<g.nv:=by
  rcases hp with ⟨h1,h2⟩|⟨h1,h2,h3,h4⟩
  ·exact (h.copy2 hu h1 h2).1
  exact h.args_lt hu h2
 have hxb:g.blk x≠b:=fun e=>by
  rw[e] at hux
  exact hub (h.anti (h.blk u hu) hD hux)
 rw[hs.out u fun _=>hub,hs.out x fun _=>hxb]
 exact h4 u x hu hp hDp
theorem HN (h:GoodG T g) (hE:∀a l,E 14 a l=l.getD 0 0) {i k c d:Nat} (hi:i<g.nv) (hk:k<(g.args i).length) (hc:(g.args i).getD k 0=c) (ho:g.op c=14) (hd:g.args c=[d]):
 ∀n b edge old,b<g.nb→Ex g (KC g) b edge old→runG g E n b edge old=runG (g.setArg i k d) E n b edge old:=by
 refine run_eq h (h.red hi hk hc ho hd) (fun _ _=>rfl) (fun _ _=>rfl) (fun _ _=>rfl) fun b edge old now hb hcm hs=>?_
 have hK:=ET h hE hb hcm hs
 have hcn:c<g.nv:=by rw[← hc];exact (h.args i hi k hk).1
 have hkn:=(h.args i hi k hk).2
 rw[hc] at hkn
 refine ⟨hK,⟨hs.out,fun x hx hxb hxo=>?_,fun x hx hxb hxo=>?_⟩,fun _=>rfl⟩
 ·rw[hs.phi x hx hxb hxo,setArg_args]
  by_cases e:x=i
  ·subst e
   rw[if_pos rfl]
   by_cases e2:k=edge
   ·subst e2
    rw[hc,List.getD_eq_getElem?_getD,List.getElem?_set_self hk]
    obtain ⟨_,p,_,_,h3,h4⟩:=h.came hx hxb hxo hcm
    rw[hc] at h4
    exact h3 c d hcn (.inl ⟨ho,hd⟩) h4
   rw[List.getD_eq_getElem?_getD (l:=(g.args x).set k d),List.getElem?_set_ne e2,← List.getD_eq_getElem?_getD]
  rw[if_neg e]
 rw[hs.val x hx hxb hxo,setArg_args]
 show E (g.op x) (g.aux x) _=E (g.op x) (g.aux x) _
 by_cases e:x=i
 ·subst e
  rw[if_pos rfl]
  congr 1
  have hcd:now c=now d:=by
   refine hK c d hcn (.inl ⟨ho,hd⟩) ?_
   unfold B3 at hkn
   rw[if_neg (show ¬ g.op x=13 from hxo),show g.blk x=b from hxb] at hkn
   rcases hkn with h1|h1
   ·exact h1.2
   rw[h1.1];exact Dom.rfl' _
  apply List.ext_getElem (by simp)
  intro y h1 h2
  rw[List.getElem_map,List.getElem_map,List.getElem_set]
  split
  ·rename_i e2;subst e2
   rw[← hcd,← hc,List.getD_eq_getElem?_getD,List.getElem?_eq_getElem hk];rfl
  rfl
 rw[if_neg e]
theorem HG (h:GoodG T g) (hE:∀a l,E 14 a l=l.getD 0 0) {i x:Nat} (hi:i<g.nv) (ho:g.op i=13) (hx:x∈g.args i) (hne:x≠i) (hall:∀a∈g.args i,a=i∨a=x):
 ∀n b edge old,b<g.nb→Ex g (KC g) b edge old→runG g E n b edge old=runG ((g.setOp i 14).setArgs i [x]) E n b edge old:=by
 refine run_eq h (h.phi hi ho hx hne hall) (fun _ _=>rfl) (fun _ _=>rfl) (fun _ _=>rfl) fun b edge old now hb hcm hs=>?_
 have hK:=ET h hE hb hcm hs
 have hop:∀y,((g.setOp i 14).setArgs i [x]).op y=if y=i then 14 else g.op y:=fun y=>rfl
 have har:∀y,((g.setOp i 14).setArgs i [x]).args y=if y=i then [x] else g.args y:=fun y=>rfl
 refine ⟨hK,⟨hs.out,fun y hy hyb hyo=>?_,fun y hy hyb hyo=>?_⟩,fun _=>rfl⟩
 ·rw[hop] at hyo
  rw[har]
  by_cases e:y=i
  ·rw[if_pos e] at hyo;exact absurd hyo (by decide)
  rw[if_neg e] at hyo ⊢
  exact hs.phi y hy hyb hyo
 rw[hop] at hyo ⊢
 rw[har]
 by_cases e:y=i
 ·subst e
  rw[if_pos rfl,if_pos rfl,hE]
  refine hK y x hy (.inr ⟨ho,hx,hne,hall⟩) ?_
  rw[show g.blk y=b from hyb];exact Dom.rfl' _
 rw[if_neg e] at hyo ⊢
 rw[if_neg e]
 exact hs.val y hy hyb hyo
theorem E6 (h:GoodG T g) (hE:∀a l,E 14 a l=l.getD 0 0) {g':Gph} (s:Steps g g'):GoodG T g'∧∀n old,runG g E n 0 0 old=runG g' E n 0 0 old:=by
 induction s with
 |refl=>exact ⟨h,fun _ _=>rfl⟩
 | @step g1 g2 _ s ih=>
   obtain ⟨h1,h2⟩:=ih
   refine ⟨h1.step s,fun n old=>(h2 n old).trans ?_⟩
   cases s with
   |red a1 a2 a3 a4 a5=>exact HN h1 hE a1 a2 a3 a4 a5 n 0 0 old h1.one (.inl rfl)
   |phi a1 a2 a3 a4 a5=>exact HG h1 hE a1 a2 a3 a4 a5 n 0 0 old h1.one (.inl rfl)
theorem GB (h:GoodG T g) (hE:∀a l,E 14 a l=l.getD 0 0) {c2:Nat→List Nat} (hc:∀b,b<g.nb→c2 b=(g.ctrl b).map (Cq g)) (n:Nat) (old:Sta):
 runG g E n 0 0 old=runG { g with ctrl:=c2 } E n 0 0 old:=by
 refine run_eq (K:=KC g) h (h.ctrls hc) (fun _ _=>rfl) (fun _ _=>rfl) (fun _ _=>rfl) (fun b edge old now hb hcm hs=>?_) n 0 0 old h.one (.inl rfl)
 have hK:=ET h hE hb hcm hs
 refine ⟨hK,⟨hs.out,hs.phi,hs.val⟩,fun hk=>?_⟩
 show now ((g.ctrl b).getD 0 0)=now ((c2 b).getD 0 0)
 rw[hc b hb]
 rcases h.ctrl b hb with ⟨h1,h2⟩|⟨c,h1,h2,h3,h4,h5⟩
 ·exact absurd h1 hk
 rw[h1]
 show now c=now (Cq g c)
 unfold Cq
 split
 ·rename_i ho
  obtain ⟨d,hd⟩:=h.copy1 h3 ho
  rw[hd]
  exact hK c d h3 (.inl ⟨ho,hd⟩) h4
 rfl
structure Like (g g':Gph):Prop where
 nv:g'.nv=g.nv
 nb:g'.nb=g.nb
 val:∀i,i<g.nv→g'.op i=g.op i∧g'.aux i=g.aux i∧g'.blk i=g.blk i∧g'.args i=g.args i
 blk:∀b,b<g.nb→g'.kind b=g.kind b∧g'.succs b=g.succs b∧g'.preds b=g.preds b∧g'.ctrl b=g.ctrl b
theorem Et {T':Nat→Bool} {g':Gph} (h:GoodG T g) (h':GoodG T' g') (e:Like g g') (n:Nat) (old:Sta):runG g E n 0 0 old=runG g' E n 0 0 old:=by
 refine run_eq (K:=fun _ _=>True) h h' (fun b hb=>(e.blk b hb).1) (fun b hb=>(e.blk b hb).2.1) (fun b hb=>(e.blk b hb).2.2.1) (fun b edge old now hb _ hs=>?_) n 0 0 old h.one (.inl rfl)
 refine ⟨trivial,⟨fun i hi=>hs.out i fun hin=>?_,fun i hi hbi ho=>?_,fun i hi hbi ho=>?_⟩,fun _=>?_⟩
 ·rw[← (e.val i hin).2.2.1];exact hi (by rw[e.nv];exact hin)
 ·rw[e.nv] at hi
  obtain ⟨e1,e2,e3,e4⟩:=e.val i hi
  rw[e4]
  exact hs.phi i hi (by rw[← e3];exact hbi) (by rw[← e1];exact ho)
 ·rw[e.nv] at hi
  obtain ⟨e1,e2,e3,e4⟩:=e.val i hi
  rw[e4,e1,e2]
  exact hs.val i hi (by rw[← e3];exact hbi) (by rw[← e1];exact ho)
 rw[(e.blk b hb).2.2.2]
end
end Go.Proofs.YteepnepebilckaaGreatDoor
namespace Go.Proofs.YteepnepebilckaaGreatDoor
open Go Go.Eng
structure ClsC (g:Gph) (cls:Nat→Int):Prop where
 key:∀x y,x<g.nv→y<g.nv→cls (x+1)=cls (y+1)→key g x=key g y
 args:∀x y,x<g.nv→y<g.nv→cls (x+1)=cls (y+1)→vcl g cls x=vcl g cls y
structure Mv (g:Gph) (cls:Nat→Int) (f:Nat→Nat):Prop where
 lt:∀x,x<g.nv→f x<g.nv
 cl:∀x,x<g.nv→cls (f x+1)=cls (x+1)
 dom:∀x,x<g.nv→Dom g.succs (g.blk (f x)) (g.blk x)
 le:∀x,x<g.nv→g.blk (f x)=g.blk x→f x≤x
def Gph.mv (g:Gph) (f:Nat→Nat):Gph:= { g with args:=fun v=>(g.args v).map f,ctrl:=fun b=>(g.ctrl b).map f }
theorem DJ (f:Nat→Nat) {l:List Nat} {k:Nat} (h:k<l.length):(l.map f).getD k 0=f (l.getD k 0):=by
 rw[List.getD_eq_getElem?_getD,List.getD_eq_getElem?_getD,List.getElem?_map,List.getElem?_eq_getElem h];rfl
section
variable {T : Nat → Bool} {g g0 : Gph} {cls : Nat → Int} {f : Nat → Nat} {E : Int → Int → List Int → Int}
theorem key_op {x y:Nat} (h:key g x=key g y):g.op x=g.op y∧g.aux x=g.aux y∧(g.args x).length=(g.args y).length∧(g.op x=13→g.blk x=g.blk y):=by
 unfold key at h
 injection h with h1 h
 injection h with h2 h
 injection h with h3 h
 injection h with h4 _
 refine ⟨h1,h2,by omega,fun h5=>?_⟩
 rw[if_pos h5,if_pos (h1 ▸ h5)] at h4
 omega
theorem ClsC.arg (c:ClsC g cls) {x y:Nat} (hx:x<g.nv) (hy:y<g.nv) (e:cls (x+1)=cls (y+1)) {k:Nat} (hk:k<(g.args x).length):cls ((g.args x).getD k 0+1)=cls ((g.args y).getD k 0+1):=by
 have h1:=c.args x y hx hy e
 have h2:=(key_op (c.key x y hx hy e)).2.2.1
 unfold vcl at h1
 have h3:=congrArg (fun l=>l[k]?) h1
 simp only [List.getElem?_map,List.getElem?_eq_getElem hk,List.getElem?_eq_getElem (h2 ▸ hk)] at h3
 rw[List.getD_eq_getElem?_getD,List.getD_eq_getElem?_getD,List.getElem?_eq_getElem hk,List.getElem?_eq_getElem (h2 ▸ hk)]
 simpa using h3
theorem GoodG.cls_T (h:GoodG T g) (c:ClsC g cls):∀n x y,rk g x<n→x<g.nv→y<g.nv→cls (x+1)=cls (y+1)→T x=T y
 |0,_,_,h0,_,_,_=>absurd h0 (Nat.not_lt_zero _)
 |n+1,x,y,h0,hx,hy,e=>by
  have hk:=key_op (c.key x y hx hy e)
  rw[h.tr x hx,h.tr y hy,← hk.1]
  by_cases h1:isT (g.op x)
  ·rw[if_pos h1,if_pos h1]
  rw[if_neg h1,if_neg h1]
  by_cases h2:g.op x=14
  ·rw[if_pos h2,if_pos h2]
   obtain ⟨j,hj,hr⟩:=h.cinv.copy x hx h2
   have hl:0<(g.args x).length:=by rw[hj];exact Nat.one_pos
   have ha:=c.arg hx hy e hl
   refine h.cls_T c n _ _ (by rw[hj];show rk g j<n;omega) (h.args x hx 0 hl).1 (h.args y hy 0 (by omega)).1 ha
  rw[if_neg h2,if_neg h2]
theorem GoodG.moved (h:GoodG T g) (c:ClsC g cls) (m:Mv g cls f):GoodG T (g.mv f):=by
 have hT:∀x,x<g.nv→T (f x)=T x:=fun x hx=>h.cls_T c _ _ _ (Nat.lt_succ_self _) (m.lt x hx) hx (m.cl x hx)
 refine { toGoodA:= { toFrm:=⟨h.one,h.nb,h.nv,h.blk,h.kind,h.likely,h.succs,h.rch,h.preds,h.bvals⟩,ops:=fun i hi=>?_,aux:=fun i hi=>?_,args:=fun i hi k hk=>?_ },tru:=fun i hi ho k hk=>?_,tr:=fun i hi=>?_,ctrl:=fun b hb=>?_ }
 ·have:=h.ops i hi
  refine ⟨this.1,this.2.1,?_⟩
  show (((g.args i).map f).length:Int)=_
  rw[List.length_map];exact this.2.2
 ·have:=h.aux i hi
  refine ⟨this.1,this.2.1,fun ho=>?_⟩
  show 0<((g.args i).map f).length
  rw[List.length_map];exact this.2.2 ho
 ·have hk:k<(g.args i).length:=by
   have:k<((g.args i).map f).length:=hk
   rwa [List.length_map] at this
  obtain ⟨h1,h2⟩:=h.args i hi k hk
  show ((g.args i).map f).getD k 0<g.nv∧B3 (g.mv f) i k (((g.args i).map f).getD k 0)
  rw[DJ f hk]
  obtain ⟨a,ha⟩:∃a,a=(g.args i).getD k 0:=⟨_,rfl⟩
  rw[← ha] at h1 h2 ⊢
  refine ⟨m.lt a h1,?_⟩
  have hd:=m.dom a h1
  unfold B3 at h2 ⊢
  show if g.op i=13 then Dom g.succs (g.blk (f a)) _ else (g.blk (f a)≠g.blk i∧Dom g.succs (g.blk (f a)) (g.blk i))∨(g.blk (f a)=g.blk i∧f a<i)
  by_cases ho:g.op i=13
  ·rw[if_pos ho] at h2 ⊢
   exact hd.trans h2
  rw[if_neg ho] at h2 ⊢
  rcases h2 with ⟨h3,h4⟩|⟨h3,h4⟩
  ·refine .inl ⟨fun e=>h3 ?_,hd.trans h4⟩
   rw[e] at hd
   exact h.anti (h.blk a h1) h4 hd
  by_cases e:g.blk (f a)=g.blk i
  ·have:=m.le a h1 (by rw[e,h3])
   exact .inr ⟨e,by omega⟩
  exact .inl ⟨e,by rw[← h3];exact hd⟩
 ·have hk:k<(g.args i).length:=by
   have:k<((g.args i).map f).length:=hk
   rwa [List.length_map] at this
  show T (((g.args i).map f).getD k 0)=_
  rw[DJ f hk,hT _ (h.args i hi k hk).1]
  exact h.tru i hi ho k hk
 ·show T i=if isT (g.op i) then true else if g.op i=14 then T (((g.args i).map f).getD 0 0) else false
  rw[h.tr i hi]
  by_cases h2:g.op i=14
  ·obtain ⟨j,hj⟩:=h.copy1 hi h2
   have hl:0<(g.args i).length:=by rw[hj];exact Nat.one_pos
   rw[if_pos h2,if_pos h2,DJ f hl,hT _ (h.args i hi 0 hl).1]
  rw[if_neg h2,if_neg h2]
 show (g.kind b=0∧(g.ctrl b).map f=[])∨∃c,(g.ctrl b).map f=[c]∧g.kind b≠0∧c<g.nv∧Dom g.succs (g.blk c) b∧T c=decide (g.kind b=1)
 rcases h.ctrl b hb with ⟨h1,h2⟩|⟨c,h1,h2,h3,h4,h5⟩
 ·exact .inl ⟨h1,by rw[h2];rfl⟩
 exact .inr ⟨f c,by rw[h1];rfl,h2,m.lt c h3,(m.dom c h3).trans h4,by rw[hT c h3];exact h5⟩
structure KE (g:Gph) (E:Int→Int→List Int→Int) (cls:Nat→Int) (now:Sta) (b:Nat):Prop where
 val:∀x,x<g.nv→g.op x≠13→Dom g.succs (g.blk x) b→now x=E (g.op x) (g.aux x) ((g.args x).map now)
 eq:∀x y,x<g.nv→y<g.nv→cls (x+1)=cls (y+1)→Dom g.succs (g.blk x) b→Dom g.succs (g.blk y) b→now x=now y
theorem GoodG.argD (h:GoodG T g) {x k:Nat} (hx:x<g.nv) (ho:g.op x≠13) (hk:k<(g.args x).length):(g.args x).getD k 0<g.nv∧Dom g.succs (g.blk ((g.args x).getD k 0)) (g.blk x)∧(g.blk ((g.args x).getD k 0)=g.blk x→(g.args x).getD k 0<x):=by
 obtain ⟨h1,h2⟩:=h.args x hx k hk
 unfold B3 at h2
 rw[if_neg ho] at h2
 refine ⟨h1,?_,fun e=>?_⟩
 ·rcases h2 with h3|h3
  ·exact h3.2
  rw[h3.1];exact Dom.rfl' _
 rcases h2 with h3|h3
 ·exact absurd e h3.1
 exact h3.2
theorem KE_step (h:GoodG T g) (c:ClsC g cls) {b edge:Nat} {old now:Sta} (hb:b<g.nb) (hc:Ex g (KE g E cls) b edge old) (hs:StepR g E b edge old now):KE g E cls now b:=by
 have hfrom:∀x,g.blk x≠b→Dom g.succs (g.blk x) b→∃p,KE g E cls old p∧Dom g.succs (g.blk x) p:=fun x hx hD=>by
  rcases hc with e|⟨p,h1,h2,h3,h4⟩
  ·subst e
   exact absurd (RchS.entry hx) hD
  have hbs:b∈g.succs p:=by
   have:=Bh h2
   rw[h3,h.preds b hb,mem_predsL] at this
   exact this.2
  exact ⟨p,h4,hD.pred hbs fun e=>hx e.symm⟩
 have hval:∀x,x<g.nv→g.op x≠13→Dom g.succs (g.blk x) b→now x=E (g.op x) (g.aux x) ((g.args x).map now):=fun x hx ho hD=>by
  by_cases hxb:g.blk x=b
  ·exact hs.val x hx hxb ho
  obtain ⟨p,h4,hDp⟩:=hfrom x hxb hD
  rw[hs.out x fun _=>hxb,h4.val x hx ho hDp]
  congr 1
  refine List.map_congr_left fun a ha=>?_
  obtain ⟨k,hk,rfl⟩:=h.args_mem hx ha
  obtain ⟨h5,h6,_⟩:=h.argD hx ho hk
  refine (hs.out _ fun _ e=>?_).symm
  rw[e] at h6
  exact hxb (h.anti (h.blk x hx) hD h6)
 refine ⟨hval,?_⟩
 have key:∀n x y,(if g.blk x=b then x+1 else 0)+(if g.blk y=b then y+1 else 0)≤n→x<g.nv→y<g.nv→cls (x+1)=cls (y+1)→Dom g.succs (g.blk x) b→Dom g.succs (g.blk y) b→now x=now y:=by
  intro n
  induction n with
  |zero=>
   intro x y hn hx hy e hDx hDy
   have hxb:g.blk x≠b:=fun e=>by rw[if_pos e] at hn;omega
   have hyb:g.blk y≠b:=fun e=>by rw[if_pos e] at hn;omega
   rw[hs.out x fun _=>hxb,hs.out y fun _=>hyb]
   rcases hc with e|⟨p,h1,h2,h3,h4⟩
   ·subst e
    exact absurd (RchS.entry hxb) hDx
   have hbs:b∈g.succs p:=by
    have:=Bh h2
    rw[h3,h.preds b hb,mem_predsL] at this
    exact this.2
   exact h4.eq x y hx hy e (hDx.pred hbs fun e=>hxb e.symm) (hDy.pred hbs fun e=>hyb e.symm)
  |succ n ih=>
   intro x y hn hx hy e hDx hDy
   have hk:=key_op (c.key x y hx hy e)
   by_cases h0:g.blk x≠b∧g.blk y≠b
   ·rw[if_neg h0.1,if_neg h0.2] at hn
    exact ih x y (by rw[if_neg h0.1,if_neg h0.2];omega) hx hy e hDx hDy
   by_cases ho:g.op x=13
   ·have hby:=hk.2.2.2 ho
    have hxb:g.blk x=b:=Classical.byContradiction fun h1=>h0 ⟨h1,fun h2=>h1 (by rw[hby,h2])⟩
    have hyb:g.blk y=b:=by rw[← hby,hxb]
    obtain ⟨h5,p,h6,h7,h8,h9⟩:=h.came hx hxb ho hc
    obtain ⟨h5',p',h6',h7',h8',h9'⟩:=h.came hy hyb (hk.1 ▸ ho) hc
    rw[h7] at h7'
    subst h7'
    rw[hs.phi x hx hxb ho,hs.phi y hy hyb (hk.1 ▸ ho)]
    exact h8.eq _ _ (h.args x hx edge h5).1 (h.args y hy edge h5').1 (c.arg hx hy e h5) h9 h9'
   rw[hval x hx ho hDx,hval y hy (hk.1 ▸ ho) hDy,← hk.1,← hk.2.1]
   congr 1
   refine List.ext_getElem (by rw[List.length_map,List.length_map,hk.2.2.1]) fun k h1 h2=>?_
   rw[List.length_map] at h1 h2
   rw[List.getElem_map,List.getElem_map]
   have g1:(g.args x)[k]=(g.args x).getD k 0:=by rw[List.getD_eq_getElem?_getD,List.getElem?_eq_getElem h1];rfl
   have g2:(g.args y)[k]=(g.args y).getD k 0:=by rw[List.getD_eq_getElem?_getD,List.getElem?_eq_getElem h2];rfl
   rw[g1,g2]
   obtain ⟨a1,a2,a3⟩:=h.argD hx ho h1
   obtain ⟨b1,b2,b3⟩:=h.argD hy (hk.1 ▸ ho) h2
   refine ih _ _ ?_ a1 b1 (c.arg hx hy e h1) (a2.trans hDx) (b2.trans hDy)
   have m1:(if g.blk ((g.args x).getD k 0)=b then (g.args x).getD k 0+1 else 0)≤(if g.blk x=b then x+1 else 0)∧(g.blk x=b→(if g.blk ((g.args x).getD k 0)=b then (g.args x).getD k 0+1 else 0)≤x):=by
    by_cases e1:g.blk ((g.args x).getD k 0)=b
    ·have e2:g.blk x=b:=by
      rw[e1] at a2
      exact h.anti (h.blk x hx) hDx a2
     have:=a3 (by rw[e1,e2])
     rw[if_pos e1,if_pos e2]
     exact ⟨by omega,fun _=>by omega⟩
    rw[if_neg e1];exact ⟨Nat.zero_le _,fun _=>Nat.zero_le _⟩
   have m2:(if g.blk ((g.args y).getD k 0)=b then (g.args y).getD k 0+1 else 0)≤(if g.blk y=b then y+1 else 0)∧(g.blk y=b→(if g.blk ((g.args y).getD k 0)=b then (g.args y).getD k 0+1 else 0)≤y):=by
    by_cases e1:g.blk ((g.args y).getD k 0)=b
    ·have e2:g.blk y=b:=by
      rw[e1] at b2
      exact h.anti (h.blk y hy) hDy b2
     have:=b3 (by rw[e1,e2])
     rw[if_pos e1,if_pos e2]
     exact ⟨by omega,fun _=>by omega⟩
    rw[if_neg e1];exact ⟨Nat.zero_le _,fun _=>Nat.zero_le _⟩
   by_cases e1:g.blk x=b
   ·have:=m1.2 e1
    rw[if_pos e1] at hn
    omega
   have e2:g.blk y=b:=Classical.byContradiction fun h2=>h0 ⟨e1,h2⟩
   have:=m2.2 e2
   rw[if_pos e2] at hn
   omega
 intro x y hx hy e hDx hDy
 exact key _ x y (Nat.le_refl _) hx hy e hDx hDy
theorem GI (h:GoodG T g) (c:ClsC g cls) (m:Mv g cls f) (n:Nat) (old:Sta):runG g E n 0 0 old=runG (g.mv f) E n 0 0 old:=by
 refine run_eq (K:=KE g E cls) h (h.moved c m) (fun _ _=>rfl) (fun _ _=>rfl) (fun _ _=>rfl) (fun b edge old now hb hcm hs=>?_) n 0 0 old h.one (.inl rfl)
 have hK:=KE_step h c hb hcm hs
 refine ⟨hK,⟨hs.out,fun i hi hib ho=>?_,fun i hi hib ho=>?_⟩,fun hk=>?_⟩
 ·obtain ⟨h5,p,h6,h7,h8,h9⟩:=h.came hi hib ho hcm
  show now i=old (((g.args i).map f).getD edge 0)
  rw[hs.phi i hi hib ho,DJ f h5]
  have h1:=(h.args i hi edge h5).1
  exact (h8.eq _ _ (m.lt _ h1) h1 (m.cl _ h1) ((m.dom _ h1).trans h9) h9).symm
 ·show now i=E (g.op i) (g.aux i) (((g.args i).map f).map now)
  rw[hs.val i hi hib ho,List.map_map]
  congr 1
  refine List.map_congr_left fun a ha=>?_
  obtain ⟨k,hk,rfl⟩:=h.args_mem hi ha
  obtain ⟨h1,h2,_⟩:=h.argD hi ho hk
  rw[show g.blk i=b from hib] at h2
  exact (hK.eq _ _ (m.lt _ h1) h1 (m.cl _ h1) ((m.dom _ h1).trans h2) h2).symm
 show now ((g.ctrl b).getD 0 0)=now (((g.ctrl b).map f).getD 0 0)
 rcases h.ctrl b hb with ⟨h1,_⟩|⟨c',h1,h2,h3,h4,h5⟩
 ·exact absurd h1 hk
 rw[h1]
 exact (hK.eq _ _ (m.lt _ h3) h3 (m.cl _ h3) ((m.dom _ h3).trans h4) h4).symm
theorem FX {o:Int} (h0:0≤o) (h:comm o.toNat=true):o≠13∧o≠14∧o≠15:=by
 refine ⟨fun e=>?_,fun e=>?_,fun e=>?_⟩ <;> (subst e;exact absurd h (by decide))
theorem GoodG.swo (h:GoodG T g0) (s:SwO g0 g):GoodG T g:=by
 have hl:∀v,(g.args v).length=(g0.args v).length:=fun v=>by
  rcases s.args v with h1|⟨_,a,b,h1,h2⟩
  ·rw[h1]
  rw[h1,h2];rfl
 have hm:∀v k,v<g0.nv→k<(g.args v).length→(∃k',k'<(g0.args v).length∧(g.args v).getD k 0=(g0.args v).getD k' 0)∧((g.args v).getD k 0=(g0.args v).getD k 0∨(g0.op v≠13∧g0.op v≠14∧g0.op v≠15)):=fun v k hv hk=>by
  rcases s.args v with h1|⟨hc,a,b,h1,h2⟩
  ·rw[h1] at hk ⊢
   exact ⟨⟨k,hk,rfl⟩,.inl rfl⟩
  refine ⟨?_,.inr (FX (h.ops v hv).1 hc)⟩
  rw[h2] at hk ⊢
  rw[h1]
  match k,hk with
  |0,_=>exact ⟨1,by simp,rfl⟩
  |1,_=>exact ⟨0,by simp,rfl⟩
  |k+2,hk=>exact absurd (show k+2<2 from hk) (by omega)
 obtain ⟨A,hA⟩:∃A,A=g.args:=⟨_,rfl⟩
 have e:=s.eq
 rw[← hA] at hl hm e
 subst e
 refine { toGoodA:= { toFrm:=⟨h.one,h.nb,h.nv,h.blk,h.kind,h.likely,h.succs,h.rch,h.preds,h.bvals⟩,ops:=fun i hi=>?_,aux:=fun i hi=>?_,args:=fun i hi k hk=>?_ },tru:=fun i hi ho k hk=>?_,tr:=fun i hi=>?_,ctrl:=h.ctrl }
 ·have:=h.ops i hi
  refine ⟨this.1,this.2.1,?_⟩
  show ((A i).length:Int)=_
  rw[hl];exact this.2.2
 ·have:=h.aux i hi
  refine ⟨this.1,this.2.1,fun ho=>?_⟩
  show 0<(A i).length
  rw[hl];exact this.2.2 ho
 ·obtain ⟨⟨k',hk',e1⟩,h2⟩:=hm i k hi hk
  show (A i).getD k 0<g0.nv∧_
  have h3:=h.args i hi k' hk'
  refine ⟨by rw[e1];exact h3.1,?_⟩
  rcases h2 with h2|h2
  ·have h4:=(h.args i hi k (by rw[← hl];exact hk)).2
   rw[← h2] at h4
   exact h4
  have h4:=h3.2
  rw[← e1] at h4
  unfold B3 at h4 ⊢
  show if g0.op i=13 then _ else _
  rw[if_neg h2.1] at h4 ⊢
  exact h4
 ·obtain ⟨⟨k',hk',e1⟩,h2⟩:=hm i k hi hk
  show T ((A i).getD k 0)=decide (g0.op i=15∧k=2)
  rcases h2 with h2|h2
  ·rw[h2];exact h.tru i hi ho k (by rw[← hl];exact hk)
  rw[e1,h.tru i hi ho k' hk',decide_eq_false (fun h=>h2.2.2 h.1),decide_eq_false (fun h=>h2.2.2 h.1)]
 show T i=if isT (g0.op i) then true else if g0.op i=14 then T ((A i).getD 0 0) else false
 rw[h.tr i hi]
 by_cases h2:g0.op i=14
 ·obtain ⟨j,hj⟩:=h.copy1 hi h2
  obtain ⟨_,h3⟩:=hm i 0 hi (by rw[hl,hj];exact Nat.one_pos)
  rcases h3 with h3|h3
  ·rw[h3]
  exact absurd h2 h3.2.1
 rw[if_neg h2,if_neg h2]
theorem run_swo (h:GoodG T g0) (s:SwO g0 g) (hE:∀o a x y,0≤o→comm o.toNat=true→E o a [x,y]=E o a [y,x]) (n:Nat) (old:Sta):runG g0 E n 0 0 old=runG g E n 0 0 old:=by
 have h':=h.swo s
 have hpe:g.preds=g0.preds:=by rw[s.eq]
 have hse:g.succs=g0.succs:=by rw[s.eq]
 have hke:g.kind=g0.kind:=by rw[s.eq]
 have hce:g.ctrl=g0.ctrl:=by rw[s.eq]
 have hoe:g.op=g0.op:=by rw[s.eq]
 have hae:g.aux=g0.aux:=by rw[s.eq]
 have hbe:g.blk=g0.blk:=by rw[s.eq]
 have hne:g.nv=g0.nv:=by rw[s.eq]
 refine run_eq (K:=fun _ _=>True) h h' (fun b _=>by rw[hke]) (fun b _=>by rw[hse]) (fun b _=>by rw[hpe]) (fun b edge old now hb _ hs=>?_) n 0 0 old h.one (.inl rfl)
 refine ⟨trivial,⟨fun i hi=>hs.out i fun hin=>?_,fun i hi hbi ho=>?_,fun i hi hbi ho=>?_⟩,fun _=>by rw[hce]⟩
 ·rw[← hbe];exact hi (by omega)
 ·rw[hne] at hi
  rw[hbe] at hbi
  rw[hoe] at ho
  rw[hs.phi i hi hbi ho]
  rcases s.args i with h1|⟨hc,_⟩
  ·rw[h1]
  exact absurd ho (FX (h.ops i hi).1 hc).1
 rw[hne] at hi
 rw[hbe] at hbi
 rw[hoe] at ho
 rw[hs.val i hi hbi ho,hoe,hae]
 rcases s.args i with h1|⟨hc,a,b',h1,h2⟩
 ·rw[h1]
 rw[h1,h2]
 exact hE _ _ _ _ (h.ops i hi).1 hc
end
end Go.Proofs.YteepnepebilckaaGreatDoor
namespace Go.Proofs.YteepnepebilckaaGreatDoor
open Go Go.Eng Go.RowKit Go.Shelf
theorem GRep.cong {w:World} {B:Nat} {L:Lay} {g:Gph} (h:GRep w B L g) {A C:Nat→List Nat} (hA:∀v,v<g.nv→A v=g.args v) (hC:∀k,k<g.nb→C k=g.ctrl k):GRep w B L { g with args:=A,ctrl:=C }:=by
 refine ⟨fun τ=>?_,h.tags.same rfl rfl⟩
 have h1:=h.comp τ
 cases τ with
 |args i=>intro hi;show Row _ _ _ _ ((A i).map L.vp);rw[hA i hi];exact h1 hi
 |ctrl i=>intro hi;show Row _ _ _ _ ((C i).map L.vp);rw[hC i hi];exact h1 hi
 |_=>exact h1
theorem GE.ac {E:Nat} {L:Lay} {g:Gph} (h:GE E L g) (A C:Nat→List Nat):GE E L { g with args:=A,ctrl:=C }:=⟨h.fb,h.bb,h.vb,fun τ hτ hl=>h.sl τ hτ (by cases τ <;> exact hl)⟩
def fR (rw:Nat→Option Nat) (x:Nat):Nat:=(rw (x+1)).getD x
open Classical in
noncomputable def CM (g:Gph) (f:Nat→Nat) (S:List Nat):Nat→List Nat:=fun x=>if x∈S then (g.args x).map f else g.args x
def CE (g:Gph) (f:Nat→Nat) (k:Nat):Nat→List Nat:=fun x=>if x<k then (g.ctrl x).map f else g.ctrl x
def mpt (f:Nat→Nat) (l:List Nat) (a:Nat):List Nat:=(l.take a).map f ++ l.drop a
theorem mpt_len (f:Nat→Nat) (l:List Nat) (a:Nat):(mpt f l a).length=l.length:=by unfold mpt;simp;omega
theorem mpt_get (f:Nat→Nat) {l:List Nat} {a:Nat} (h:a<l.length):(mpt f l a).getD a 0=l.getD a 0:=by
 unfold mpt
 rw[List.getD_eq_getElem?_getD,List.getElem?_append_right (by simp;omega),List.getD_eq_getElem?_getD]
 simp [show min a l.length=a by omega]
theorem FT (f:Nat→Nat) (l:List Nat):mpt f l l.length=l.map f:=by unfold mpt;simp
theorem mpt_set (f:Nat→Nat) {l:List Nat} {a:Nat} (h:a<l.length):(mpt f l a).set a (f (l.getD a 0))=mpt f l (a+1):=by
 have hg:l.getD a 0=l[a]:=by rw[List.getD_eq_getElem?_getD,List.getElem?_eq_getElem h];rfl
 unfold mpt
 rw[List.set_append_right _ _ (by simp;omega),hg]
 have h6:a - ((l.take a).map f).length=0:=by simp;omega
 rw[h6,List.drop_eq_getElem_cons h,List.set_cons_zero,List.take_succ_eq_append_getElem h,List.map_append,List.append_assoc]
 rfl
theorem Fq (f:Nat→Nat) {l:List Nat} {a:Nat} (h:a<l.length) (e:f (l.getD a 0)=l.getD a 0):mpt f l a=mpt f l (a+1):=by
 have hg:l.getD a 0=l[a]:=by rw[List.getD_eq_getElem?_getD,List.getElem?_eq_getElem h];rfl
 rw[hg] at e
 unfold mpt
 rw[List.drop_eq_getElem_cons h,List.take_succ_eq_append_getElem h,List.map_append,List.append_assoc]
 show _=_ ++ ([f l[a]] ++ _)
 rw[e];rfl
noncomputable def BY (g:Gph) (f:Nat→Nat) (S:List Nat) (v a:Nat):Nat→List Nat:=fun x=>if x=v then mpt f (g.args v) a else CM g f S x
theorem Gs (g:Gph) (f:Nat→Nat) {S:List Nat} {v:Nat} (hv:v∉S):BY g f S v 0=CM g f S:=by
 funext x
 unfold BY CM
 by_cases e:x=v
 ·subst e;rw[if_pos rfl,if_neg hv];rfl
 rw[if_neg e]
theorem mapP_all (g:Gph) (f:Nat→Nat) {S:List Nat} {v:Nat}:BY g f S v (g.args v).length=CM g f (S ++ [v]):=by
 funext x
 unfold BY CM
 by_cases e:x=v
 ·subst e;rw[if_pos rfl,if_pos (by simp),FT]
 rw[if_neg e]
 by_cases h:x∈S
 ·rw[if_pos h,if_pos (by simp [h])]
 rw[if_neg h,if_neg (by simp [h,e])]
theorem Hq (g:Gph) (f:Nat→Nat) {S:List Nat} {v a:Nat} (h:a<(g.args v).length):(fun x=>if x=v then (BY g f S v a v).set a (f ((g.args v).getD a 0)) else BY g f S v a x)=BY g f S v (a+1):=by
 funext x
 by_cases e:x=v
 ·subst e
  rw[if_pos rfl]
  unfold BY
  rw[if_pos rfl,if_pos rfl]
  exact mpt_set f h
 rw[if_neg e]
 unfold BY
 rw[if_neg e,if_neg e]
theorem Gi (g:Gph) (f:Nat→Nat) {S:List Nat} {v a:Nat} (h:a<(g.args v).length) (e:f ((g.args v).getD a 0)=(g.args v).getD a 0):BY g f S v a=BY g f S v (a+1):=by
 funext x
 unfold BY
 rw[Fq f h e]
def Cb (g:Gph) (f:Nat→Nat) (k a:Nat):Nat→List Nat:=fun x=>if x=k then mpt f (g.ctrl k) a else CE g f k x
theorem ctrP_zero (g:Gph) (f:Nat→Nat) (k:Nat):Cb g f k 0=CE g f k:=by
 funext x
 unfold Cb CE
 by_cases e:x=k
 ·subst e;rw[if_pos rfl,if_neg (by omega)];rfl
 rw[if_neg e]
theorem ctrP_all (g:Gph) (f:Nat→Nat) (k:Nat):Cb g f k (g.ctrl k).length=CE g f (k+1):=by
 funext x
 unfold Cb CE
 by_cases e:x=k
 ·subst e;rw[if_pos rfl,if_pos (by omega),FT]
 rw[if_neg e]
 by_cases h:x<k
 ·rw[if_pos h,if_pos (by omega)]
 rw[if_neg h,if_neg (by omega)]
theorem Ha (g:Gph) (f:Nat→Nat) {k a:Nat} (h:a<(g.ctrl k).length):(fun x=>if x=k then (Cb g f k a k).set a (f ((g.ctrl k).getD a 0)) else Cb g f k a x)=Cb g f k (a+1):=by
 funext x
 by_cases e:x=k
 ·subst e
  rw[if_pos rfl]
  unfold Cb
  rw[if_pos rfl,if_pos rfl]
  exact mpt_set f h
 rw[if_neg e]
 unfold Cb
 rw[if_neg e,if_neg e]
theorem GQ (g:Gph) (f:Nat→Nat) {k a:Nat} (h:a<(g.ctrl k).length) (e:f ((g.ctrl k).getD a 0)=(g.ctrl k).getD a 0):Cb g f k a=Cb g f k (a+1):=by
 funext x
 unfold Cb
 rw[Fq f h e]
set_option maxHeartbeats 4000000
attribute [local irreducible] EC EL DL Ret thenQ blockQ Bi bodyQ onlyN execOp Sem.run World.cell? World.frozen? World.setCell World.alloc
theorem FK {w:World} {B E:Nat} {L:Lay} {g:Gph} (h:GRep w B L g) (hE:GE E L g) {i k j:Nat} (hi:i<g.nv) (hk:k<(g.args i).length):
 Ret Tryz.prog 69 #[L.vp i,.int .i64 (k:Int),L.vp j] w fun v w'=>v= .tuple #[]∧GRep w' B L (g.setArg i k j)∧Below B w w'∧Only (fun j=>j<E) w w':=by
 obtain ⟨b,cap,hv,hob,hc,hf⟩:=h.argsE hi hk
 have h1:=h.vArgs hi
 rw[hv] at h1
 have hlt:=(h.slLt (τ:=.args i) rfl hi b hob).1
 have hle:b<E:=hE.sl (.args i) rfl hi b hob
 refine ret_of_EC Tryz.func69 rfl rfl (Ac (Ab Ad rfl (Ab (Aw rfl) rfl (Ab (Ak rfl (Al rfl)) rfl (Ab (Ai rfl (Ag rfl) ‹_›) rfl ?_)))))
 refine Ab Ad rfl (Ab Ad rfl (Ab (x_index1 rfl rfl (An rfl) (by omega)) rfl (Bb (AV rfl rfl rfl (AK rfl) hc (hf _)) rfl (Af ?_))))
 refine Bw rfl rfl ⟨rfl,?_,Cn hlt,(Only.refl _ w).set (L.vp j) hle⟩
 rw[Nat.zero_add]
 exact h.setArg hi hk hob
theorem DQ {w:World} {B E:Nat} {L:Lay} {g:Gph} (h:GRep w B L g) (hE:GE E L g) {b k j:Nat} (hb:b<g.nb) (hk:k<(g.ctrl b).length):
 Ret Tryz.prog 71 #[L.bp b,.int .i64 (k:Int),L.vp j] w fun v w'=>v= .tuple #[]∧GRep w' B L (g.setCtrl b k j)∧Below B w w'∧Only (fun j=>j<E) w w':=by
 obtain ⟨b1,cap,hv,hob,hc,hf⟩:=h.ctrlE hb hk
 have h1:=h.bCtrl hb
 rw[hv] at h1
 have hlt:=(h.slLt (τ:=.ctrl b) rfl hb b1 hob).1
 have hle:b1<E:=hE.sl (.ctrl b) rfl hb b1 hob
 refine ret_of_EC Tryz.func71 rfl rfl (Ac (Ab Ad rfl (Ab (Aw rfl) rfl (Ab (Ak rfl (Al rfl)) rfl (Ab (Ai rfl (Ag rfl) ‹_›) rfl ?_)))))
 refine Ab Ad rfl (Ab Ad rfl (Ab (x_index1 rfl rfl (An rfl) (by omega)) rfl (Bb (AV rfl rfl rfl (AK rfl) hc (hf _)) rfl (Af ?_))))
 refine Bw rfl rfl ⟨rfl,?_,Cn hlt,(Only.refl _ w).set (L.vp j) hle⟩
 rw[Nat.zero_add]
 exact h.setCtrl hb hk hob
section
variable {w : World} {B E fbx RB : Nat} {L : Lay} {g : Gph} {Q : Exit → Env → World → Prop} {t : Nat → Value} {ds : List Deferred} {rw : Nat → Option Nat}
theorem cseG (h0:GRep w B L g) (hE:GE E L g) (hER:E≤RB) (hn:g.nv≤48) (hnb:g.nb≤9) (hbv:∀k,k<g.nb→∀v∈g.bvals k,v<g.nv) (hperm:(preK g g.nb).Perm (List.range g.nv)) (ha:∀v,v<g.nv→(g.args v).length≤1000∧∀x∈g.args v,x<g.nv)
 (hct:∀k,k<g.nb→(g.ctrl k).length≤1000∧∀c∈g.ctrl k,c<g.nv) (hop:∀v,v<g.nv→g.op v≤15) (hfb:w.heap[fbx]? =some (.cells #[L.fp] 71 (0,0))) (hR:w.heap[RB]? =some (.cells (cellsOf (fun i=>ptO L (rw i)) (g.nv+1)) 97 (0,0)))
 (h:∀t w',GRep w' B L (g.mv (fR rw))→Below B w w'→Only (fun j=>j<E) w w'→Q .normal (Env.sets ⟨t,ds⟩ []) w'):
 EC Tryz.prog Tryz.f41.ntmps (dropC 20 B5) Q (Env.sets ⟨t,ds⟩ [(1,.pointer (some ⟨fbx,0,none⟩)),(43,.slice (some ⟨RB,0,none⟩) (g.nv+1) (g.nv+1))]) w:=by
 obtain ⟨f,hf⟩:∃f,f=fR rw:=⟨_,rfl⟩
 rw[← hf] at h
 obtain ⟨fa,fc,hfs⟩:=h0.fblocksV
 have h1:=h0.fBlocks
 rw[hfs] at h1
 have h2:w.cell? ⟨fbx,0,none⟩=some L.fp:=Am hfb rfl
 have htot:(preK g g.nb).length=g.nv:=by rw[hperm.length_eq,List.length_range]
 have hnod:(preK g g.nb).Nodup:=hperm.nodup_iff.2 List.nodup_range
 have hRw:∀W,Only (fun j=>j<E) w W→W.heap[RB]? =some (.cells (cellsOf (fun i=>ptO L (rw i)) (g.nv+1)) 97 (0,0)):=fun W hO=>(hO.block RB (Bo hR) (by omega)).trans hR
 have hBw:B≤w.heap.size:=h0.baseLe
 have hgn:∀{W W':World},Gn W W'→Only (fun j=>j<E) w W→Below B w W→Only (fun j=>j<E) w W'∧Below B w W':=fun hG hO hb=>by
  have:=hO.size
  exact ⟨hO.bel this hG.below,hb.trans (hG.below.mono (by omega))⟩
 refine Ae (Ac (Ab (Ai rfl (Ag rfl) ‹_›) rfl ?_))
 refine Ab (Aw rfl) rfl (Ab (Ak rfl (Al rfl)) rfl (Ab (Ai rfl (Ag rfl) ‹_›) rfl ?_))
 refine Ab (AM rfl (An rfl)) rfl (Ab Ad rfl (Af (Aa (Ap ?_))))
 refine EC_loop (fun m e w1=>∃k,k≤g.nb∧GRep w1 B L { g with args:=CM g f (preK g k),ctrl:=CE g f k }∧Below B w w1∧Only (fun j=>j<E) w w1∧AtD e ds [(1,.pointer (some ⟨fbx,0,none⟩)),(43,.slice (some ⟨RB,0,none⟩) (g.nv+1) (g.nv+1)),(525,.slice fa g.nb fc),(526,.int .i64 (g.nb:Int)),(527,.int .i64 (k:Int))]∧m=g.nb - k) g.nb
  ⟨0,Nat.zero_le _,h0.cong (fun v _=>if_neg (by simp [preK])) (fun k _=>if_neg (Nat.not_lt_zero _)),Below.refl _ _,Only.refl _ _,AW rfl ⟨rfl,rfl,rfl,rfl,rfl,trivial⟩,rfl⟩ ?_
 clear h1 h2 hfb
 rintro m e w1 ⟨k,hk,hg,hbl,hO,⟨t,rfl⟩,rfl⟩
 refine Ae (Ac (Ab (AY rfl rfl) rfl (Af (Aa (Ae ?_)))))
 refine AF rfl rfl (fun hlt=>?_) (fun hge=>?_)
 rotate_left
 ·have hkn:k=g.nb:=by omega
  rw[hkn] at hg
  refine AJ (Az (AB (Ay ?_)))
  refine h _ w1 ?_ hbl hO
  exact hg.cong (A:=fun v=>(g.args v).map f) (C:=fun b=>(g.ctrl b).map f) (fun v hv=>(if_pos (hperm.mem_iff.2 (List.mem_range.2 hv))).symm) fun b hb=>(if_pos hb).symm
 have hkn:k<g.nb:=by omega
 refine Ar (Aa ?_)
 obtain ⟨fb,fcc,e1,_,hbc,_⟩:=hg.fblocksE hkn
 rw[hfs] at e1
 injection e1 with e1 _ e3
 subst e1
 obtain ⟨va,vc,hvs⟩:=Row.len (hg.comp (.bvals k) hkn)
 obtain ⟨nk,hnk⟩:∃nk,nk=(g.bvals k).length:=⟨_,rfl⟩
 rw[show ({ g with args:=CM g f (preK g k),ctrl:=CE g f k }:Gph).bvals k=g.bvals k from rfl,← hnk] at hvs
 have hkl:nk≤1000:=by
  have h3:=preK_lt g (n:=g.nb) hkn (i:=nk - 1)
  rw[htot,List.length_append,List.length_take] at h3
  by_cases h4:nk=0
  ·omega
  have:=h3 (by omega);omega
 have h1:=hg.bVals hkn
 rw[hvs] at h1
 refine Ae (Ap (Ae (Ac (Ab (x_index1 rfl rfl (An rfl) (by omega)) rfl (Ab (Ai rfl (Ag rfl) ‹_›) rfl ?_)))))
 refine Ab Ah rfl (Af (Aa ?_))
 refine A4 (fun e w2=>GRep w2 B L { g with args:=CM g f (preK g (k+1)),ctrl:=CE g f k }∧Below B w w2∧Only (fun j=>j<E) w w2∧AtD e ds [(1,.pointer (some ⟨fbx,0,none⟩)),(43,.slice (some ⟨RB,0,none⟩) (g.nv+1) (g.nv+1)),(525,.slice (some ⟨fb,0,none⟩) g.nb fc),(526,.int .i64 (g.nb:Int)),(527,.int .i64 (k:Int)),(51,L.bp k)]) ?_ ?_
 ·refine Ae (Ac (Ab Ad rfl (Ab (Aw rfl) rfl (Ab (Ak rfl (Al rfl)) rfl (Ab (Ai rfl (Ag rfl) ‹_›) rfl ?_)))))
  refine Ab (AM rfl (An rfl)) rfl (Ab Ad rfl (Af (Aa (Ap ?_))))
  refine EC_loop (fun m e w2=>∃i,i≤nk∧GRep w2 B L { g with args:=CM g f (preK g k ++ (g.bvals k).take i),ctrl:=CE g f k }∧Below B w w2∧Only (fun j=>j<E) w w2∧AtD e ds [(1,.pointer (some ⟨fbx,0,none⟩)),(43,.slice (some ⟨RB,0,none⟩) (g.nv+1) (g.nv+1)),(525,.slice (some ⟨fb,0,none⟩) g.nb fc),(526,.int .i64 (g.nb:Int)),(527,.int .i64 (k:Int)),(51,L.bp k),(534,.slice va nk vc),(535,.int .i64 (nk:Int)),(536,.int .i64 (i:Int))]∧m=nk - i) nk
   ⟨0,Nat.zero_le _,by simpa using hg,hbl,hO,AW rfl ⟨rfl,rfl,rfl,rfl,rfl,rfl,rfl,rfl,rfl,trivial⟩,rfl⟩ ?_
  clear h1 hg hbl hO hbc
  rintro m e w2 ⟨i,hi,hg,hbl,hO,⟨t,rfl⟩,rfl⟩
  refine Ae (Ac (Ab (AY rfl rfl) rfl (Af (Aa (Ae ?_)))))
  refine AF rfl rfl (fun hlt=>?_) (fun hge=>?_)
  rotate_left
  ·have hin:i=nk:=by omega
   have e:preK g k ++ (g.bvals k).take i=preK g (k+1):=by rw[hin,hnk,List.take_length,Cy]
   rw[e] at hg
   refine AJ (Az (AB (Ay ?_)))
   exact AS ⟨hg,hbl,hO,AW rfl ⟨rfl,rfl,rfl,rfl,rfl,rfl,trivial⟩⟩
  have hin:i<nk:=by omega
  refine Ar (Aa ?_)
  obtain ⟨vb,vcc,e2,_,hvc,_⟩:=Row.elem (hg.comp (.bvals k) hkn) (k:=i) (by show i<(g.bvals k).length;omega)
  rw[show ({ g with args:=CM g f (preK g k ++ (g.bvals k).take i),ctrl:=CE g f k }:Gph).bvals k=g.bvals k from rfl] at e2 hvc
  rw[hvs] at e2
  injection e2 with e2 _ e4
  subst e2
  obtain ⟨v,hve⟩:∃v,v=(g.bvals k).getD i 0:=⟨_,rfl⟩
  rw[← hve] at hvc
  have hvn:v<g.nv:=by rw[hve];exact hbv k hkn _ (Bh (by omega))
  obtain ⟨S,hS⟩:∃S,S=preK g k ++ (g.bvals k).take i:=⟨_,rfl⟩
  have hnext:preK g k ++ (g.bvals k).take (i+1)=S ++ [v]:=by
   rw[List.take_add_one,← List.append_assoc,← hS]
   congr 1
   rw[hve,List.getD_eq_getElem?_getD,List.getElem?_eq_getElem (by omega)];rfl
  have hvS:v∉S:=by
   have h3:(S ++ [v]).Sublist (preK g g.nb):=by
    rw[← hnext]
    refine (List.Sublist.append_left (List.take_sublist _ _) _).trans ?_
    rw[← Cy]
    obtain ⟨d,hd⟩:∃d,g.nb=k+1+d:=⟨g.nb - (k+1),by omega⟩
    have e:List.range (k+1+d)=List.range (k+1) ++ (List.range d).map (k+1+ ·):=List.range_add ..
    show ((List.range (k+1)).flatMap g.bvals).Sublist ((List.range g.nb).flatMap g.bvals)
    rw[hd,e,List.flatMap_append]
    exact List.sublist_append_left _ _
   have h4:=h3.nodup hnod
   intro hm
   exact (List.nodup_append.1 h4).2.2 v hm v (.head _) rfl
  rw[← hS] at hg
  obtain ⟨na,hna⟩:∃na,na=(g.args v).length:=⟨_,rfl⟩
  have hnal:na≤1000:=by rw[hna];exact (ha v hvn).1
  have hg0:GRep w2 B L { g with args:=BY g f S v 0,ctrl:=CE g f k }:=by rw[Gs g f hvS];exact hg
  obtain ⟨aa,ac,has⟩:=hg0.argsV hvn
  have hl0:(({ g with args:=BY g f S v 0,ctrl:=CE g f k }:Gph).args v).length=na:=by
   show (BY g f S v 0 v).length=na
   unfold BY
   rw[if_pos rfl,mpt_len,hna]
  rw[hl0] at has
  have hva:=hg0.vArgs hvn
  rw[has] at hva
  refine Ae (Ap (Ae (Ac (Ab (x_index1 rfl rfl (An rfl) (by omega)) rfl (Ab (Ai rfl (Ag rfl) ‹_›) rfl ?_)))))
  refine Ab Ah rfl (Af (Aa (Ae (Ac (Ab Ad rfl (Ab (Aw rfl) rfl (Ab (Ak rfl (Al rfl)) rfl (Ab (Ai rfl (Ag rfl) ‹_›) rfl ?_))))))))
  refine Ab (AM rfl (An rfl)) rfl (Ab Ad rfl (Af (Aa (Ap ?_))))
  refine EC_loop (fun m e w3=>∃a,a≤na∧GRep w3 B L { g with args:=BY g f S v a,ctrl:=CE g f k }∧Below B w w3∧Only (fun j=>j<E) w w3∧AtD e ds [(1,.pointer (some ⟨fbx,0,none⟩)),(43,.slice (some ⟨RB,0,none⟩) (g.nv+1) (g.nv+1)),(525,.slice (some ⟨fb,0,none⟩) g.nb fc),(526,.int .i64 (g.nb:Int)),(527,.int .i64 (k:Int)),(51,L.bp k),(534,.slice (some ⟨vb,0,none⟩) nk vc),(535,.int .i64 (nk:Int)),(536,.int .i64 (i:Int)),(53,L.vp v),(543,.slice aa na ac),(544,.int .i64 (na:Int)),(545,.int .i64 (a:Int))]∧m=na - a) na
   ⟨0,Nat.zero_le _,hg0,hbl,hO,AW rfl ⟨rfl,rfl,rfl,rfl,rfl,rfl,rfl,rfl,rfl,rfl,rfl,rfl,rfl,trivial⟩,rfl⟩ ?_
  clear hg hg0 hbl hO hvc hva
  rintro m e w3 ⟨a,haa,hg,hbl,hO,⟨t,rfl⟩,rfl⟩
  refine Ae (Ac (Ab (AY rfl rfl) rfl (Af (Aa (Ae ?_)))))
  refine AF rfl rfl (fun hlt=>?_) (fun hge=>?_)
  rotate_left
  ·have han:a=na:=by omega
   rw[han,hna,mapP_all,← hnext] at hg
   refine AJ (Az (AB (Ay (Ao (Aa (Ac (Ab (x_inc rfl rfl (by omega)) rfl (Ab Ad rfl (Af ?_)))))))))
   exact Av (nk - (i+1)) (by omega) ⟨i+1,by omega,hg,hbl,hO,AW rfl ⟨rfl,rfl,rfl,rfl,rfl,rfl,rfl,rfl,rfl,trivial⟩,rfl⟩
  have han:a<na:=by omega
  refine Ar (Aa ?_)
  have hlen:(({ g with args:=BY g f S v a,ctrl:=CE g f k }:Gph).args v).length=na:=by
   show (BY g f S v a v).length=na
   unfold BY
   rw[if_pos rfl,mpt_len,hna]
  obtain ⟨y,hy⟩:∃y,y=(g.args v).getD a 0:=⟨_,rfl⟩
  have hyn:y<g.nv:=by rw[hy];exact (ha v hvn).2 _ (Bh (by omega))
  obtain ⟨ab,acc,e5,_,hac,_⟩:=hg.argsE (k:=a) hvn (by rw[hlen];exact han)
  have hgy:(({ g with args:=BY g f S v a,ctrl:=CE g f k }:Gph).args v).getD a 0=y:=by
   show (BY g f S v a v).getD a 0=y
   unfold BY
   rw[if_pos rfl,mpt_get f (by omega),hy]
  rw[hgy] at hac
  rw[hlen,has] at e5
  injection e5 with e5 _ e6
  subst e5
  have hRc:w3.cell? ⟨RB,0+(y+1),none⟩=some (ptO L (rw (y+1))):=Am (hRw w3 hO) (by rw[Nat.zero_add];exact Bd _ (by omega))
  have hid:=hg.vID (i:=y) hyn
  refine Ae (Ap (Ae (Ac (Ab Ad rfl (Ab (x_index1 rfl rfl (An rfl) (by omega)) rfl (Ab (Ai rfl (Ag rfl) ‹_›) rfl ?_))))))
  refine Ab Ah rfl (Ab Ah rfl (Af (Aa (Ae (Ac (Ab Ad rfl (Ab Ad rfl (Ab (Aw rfl) rfl (Ab (Ak rfl (Al rfl)) rfl (Ab (Ai rfl (Ag rfl) hid) rfl (Ab (Bg (i:=y+1) rfl rfl (by omega) (An rfl) (by omega)) rfl ?_)))))))))))
  refine Ab (Ai rfl (Ag rfl) hRc) rfl (Ab Ah rfl (Af (Aa ?_)))
  have hfy:f y=(rw (y+1)).getD y:=by rw[hf];rfl
  cases hrw:rw (y+1) with
  |none=>
   rw[hrw] at hfy
   refine Ae (Ac (Ab Ad rfl (Ab (Cp (p:=none) rfl rfl (BA rfl)) rfl (Af (Aa (Bj rfl rfl (Ar (Ao (Aa (Ac (Ab (x_inc rfl rfl (by omega)) rfl ?_)))))))))))
   refine Ab Ad rfl (Af ?_)
   rw[Gi g f (by omega) (by rw[← hy];exact hfy)] at hg
   exact Av (na - (a+1)) (by omega) ⟨a+1,by omega,hg,hbl,hO,AW rfl ⟨rfl,rfl,rfl,rfl,rfl,rfl,rfl,rfl,rfl,rfl,rfl,rfl,rfl,trivial⟩,rfl⟩
  |some z=>
   rw[hrw] at hfy
   have hfy:f y=z:=hfy
   refine Ae (Ac (Ab Ad rfl (Ab (Cp (p:=some ⟨L.vb z,0,none⟩) rfl rfl (BA rfl)) rfl (Af (Aa (Bn rfl rfl (Ae (Ae (Ac (Ab Ad rfl (Ab (Aw rfl) rfl ?_)))))))))))
   refine Ab (FZ rfl (hg.val (i:=y) hyn)) rfl (Ab (Es rfl) rfl (Bc (AG Tryz.func64 rfl rfl rfl rfl) rfl DG ?_))
   rintro _ w4 ⟨rfl,hG4⟩
   obtain ⟨hO4,hb4⟩:=hgn hG4 hO hbl
   have hg4:=hg.on hG4.below
   refine Ab (A6 (a:=0) (b:=1) rfl rfl) rfl ?_
   rw[show decide ((0:Int)=1)=false from rfl]
   refine Ab Ad rfl (AH rfl rfl (AH rfl rfl (AH rfl rfl (AH rfl rfl (AH rfl rfl (Ab (AN rfl) rfl (Af (Aa (Bj rfl rfl (Ar (Aa ?_)))))))))))
   refine Ac (Ab Ad rfl (Ab Ad rfl (Ab Ad rfl (Bc (AG Tryz.func69 rfl rfl rfl rfl) rfl (FK (j:=z) hg4 (hE.ac _ _) hvn (by rw[hlen];exact han)) ?_))))
   rintro _ w5 ⟨rfl,hg5,hb5,hO5⟩
   refine Af (Ao (Aa (Ac (Ab (x_inc rfl rfl (by omega)) rfl (Ab Ad rfl (Af ?_))))))
   have hg6:GRep w5 B L { g with args:=BY g f S v (a+1),ctrl:=CE g f k }:=by
    rw[← Hq g f (by omega),← hy,hfy]
    exact hg5
   exact Av (na - (a+1)) (by omega) ⟨a+1,by omega,hg6,hb4.trans hb5,hO4.trans hO5,AW rfl ⟨rfl,rfl,rfl,rfl,rfl,rfl,rfl,rfl,rfl,rfl,rfl,rfl,rfl,trivial⟩,rfl⟩
 clear h1 hg hbl hO hbc
 rintro e w2 ⟨hg,hbl,hO,⟨t,rfl⟩⟩
 obtain ⟨cn,hcn⟩:∃cn,cn=(g.ctrl k).length:=⟨_,rfl⟩
 have hcnl:cn≤1000:=by rw[hcn];exact (hct k hkn).1
 have hg0:GRep w2 B L { g with args:=CM g f (preK g (k+1)),ctrl:=Cb g f k 0 }:=by rw[ctrP_zero];exact hg
 have hlen:∀a,(({ g with args:=CM g f (preK g (k+1)),ctrl:=Cb g f k a }:Gph).ctrl k).length=cn:=fun a=>by
  show (Cb g f k a k).length=cn
  unfold Cb
  rw[if_pos rfl,mpt_len,hcn]
 obtain ⟨ca,cc,hcs⟩:=hg0.ctrlV hkn
 rw[hlen] at hcs
 refine Ae (Ac (Ab Ad rfl (Bc (AG Tryz.func70 rfl rfl rfl rfl) rfl (Dc hg0 (b:=k) hkn) ?_)))
 rintro _ wx ⟨rfl,ew⟩
 rw[ew,hcs]
 clear ew wx
 refine Ab (AM rfl (An rfl)) rfl (Ab Ad rfl (Af (Aa (Ap ?_))))
 refine EC_loop (fun m e w3=>∃a,a≤cn∧GRep w3 B L { g with args:=CM g f (preK g (k+1)),ctrl:=Cb g f k a }∧Below B w w3∧Only (fun j=>j<E) w w3∧AtD e ds [(1,.pointer (some ⟨fbx,0,none⟩)),(43,.slice (some ⟨RB,0,none⟩) (g.nv+1) (g.nv+1)),(525,.slice (some ⟨fb,0,none⟩) g.nb fc),(526,.int .i64 (g.nb:Int)),(527,.int .i64 (k:Int)),(51,L.bp k),(617,.slice ca cn cc),(618,.int .i64 (cn:Int)),(619,.int .i64 (a:Int))]∧m=cn - a) cn
  ⟨0,Nat.zero_le _,hg0,hbl,hO,AW rfl ⟨rfl,rfl,rfl,rfl,rfl,rfl,rfl,rfl,rfl,trivial⟩,rfl⟩ ?_
 clear hg hg0 hbl hO
 rintro m e w3 ⟨a,haa,hg,hbl,hO,⟨t,rfl⟩,rfl⟩
 refine Ae (Ac (Ab (AY rfl rfl) rfl (Af (Aa (Ae ?_)))))
 refine AF rfl rfl (fun hlt=>?_) (fun hge=>?_)
 rotate_left
 ·have han:a=cn:=by omega
  rw[han,hcn,ctrP_all] at hg
  refine AJ (Az (AB (Ay (Ao (Aa (Ac (Ab (x_inc rfl rfl (by omega)) rfl (Ab Ad rfl (Af ?_)))))))))
  exact Av (g.nb - (k+1)) (by omega) ⟨k+1,by omega,hg,hbl,hO,AW rfl ⟨rfl,rfl,rfl,rfl,rfl,trivial⟩,rfl⟩
 have han:a<cn:=by omega
 refine Ar (Aa ?_)
 obtain ⟨y,hy⟩:∃y,y=(g.ctrl k).getD a 0:=⟨_,rfl⟩
 have hyn:y<g.nv:=by rw[hy];exact (hct k hkn).2 _ (Bh (by omega))
 obtain ⟨ab,acc,e5,_,hac,_⟩:=hg.ctrlE (k:=a) hkn (by rw[hlen];exact han)
 have hgy:(({ g with args:=CM g f (preK g (k+1)),ctrl:=Cb g f k a }:Gph).ctrl k).getD a 0=y:=by
  show (Cb g f k a k).getD a 0=y
  unfold Cb
  rw[if_pos rfl,mpt_get f (by omega),hy]
 rw[hgy] at hac
 rw[hlen,hcs] at e5
 injection e5 with e5 _ e6
 subst e5
 have hRc:w3.cell? ⟨RB,0+(y+1),none⟩=some (ptO L (rw (y+1))):=Am (hRw w3 hO) (by rw[Nat.zero_add];exact Bd _ (by omega))
 have hid:=hg.vID (i:=y) hyn
 refine Ae (Ap (Ae (Ac (Ab Ad rfl (Ab (x_index1 rfl rfl (An rfl) (by omega)) rfl (Ab (Ai rfl (Ag rfl) ‹_›) rfl ?_))))))
 refine Ab Ah rfl (Ab Ah rfl (Af (Aa (Ae (Ac (Ab Ad rfl (Ab Ad rfl (Ab (Aw rfl) rfl (Ab (Ak rfl (Al rfl)) rfl (Ab (Ai rfl (Ag rfl) hid) rfl (Ab (Bg (i:=y+1) rfl rfl (by omega) (An rfl) (by omega)) rfl ?_)))))))))))
 refine Ab (Ai rfl (Ag rfl) hRc) rfl (Ab Ah rfl (Af (Aa ?_)))
 have hfy:f y=(rw (y+1)).getD y:=by rw[hf];rfl
 cases hrw:rw (y+1) with
 |none=>
  rw[hrw] at hfy
  refine Ae (Ac (Ab Ad rfl (Ab (Cp (p:=none) rfl rfl (BA rfl)) rfl (Af (Aa (Bj rfl rfl (Ar (Ao (Aa (Ac (Ab (x_inc rfl rfl (by omega)) rfl ?_)))))))))))
  refine Ab Ad rfl (Af ?_)
  rw[GQ g f (by omega) (by rw[← hy];exact hfy)] at hg
  exact Av (cn - (a+1)) (by omega) ⟨a+1,by omega,hg,hbl,hO,AW rfl ⟨rfl,rfl,rfl,rfl,rfl,rfl,rfl,rfl,rfl,trivial⟩,rfl⟩
 |some z=>
  rw[hrw] at hfy
  have hfy:f y=z:=hfy
  have hoy:=hg.vOp (i:=y) hyn
  have hoy2:g.op y≤15:=hop y hyn
  refine Ae (Ac (Ab Ad rfl (Ab (Cp (p:=some ⟨L.vb z,0,none⟩) rfl rfl (BA rfl)) rfl (Af (Aa (Bn rfl rfl (Ae (Ae (Ac (Ab Ad rfl (Ab (Aw rfl) rfl ?_)))))))))))
  refine Ab (Ak rfl (Al rfl)) rfl (Ab (Ai rfl (Ag rfl) hoy) rfl (Ab (A6 rfl rfl) rfl (Af (Aa ?_))))
  refine AF rfl rfl (fun h17=>?_) (fun h17=>?_)
  ·exfalso
   have h17:g.op y=17:=h17
   omega
  refine Ar (Aa (Ac (Ab Ad rfl (Ab Ad rfl (Ab Ad rfl (Bc (AG Tryz.func71 rfl rfl rfl rfl) rfl (DQ (j:=z) hg (hE.ac _ _) hkn (by rw[hlen];exact han)) ?_))))))
  rintro _ w5 ⟨rfl,hg5,hb5,hO5⟩
  refine Af (Ao (Aa (Ac (Ab (x_inc rfl rfl (by omega)) rfl (Ab Ad rfl (Af ?_))))))
  have hg6:GRep w5 B L { g with args:=CM g f (preK g (k+1)),ctrl:=Cb g f k (a+1) }:=by
   rw[← Ha g f (by omega),← hy,hfy]
   exact hg5
  exact Av (cn - (a+1)) (by omega) ⟨a+1,by omega,hg6,hbl.trans hb5,hO.trans hO5,AW rfl ⟨rfl,rfl,rfl,rfl,rfl,rfl,rfl,rfl,rfl,trivial⟩,rfl⟩
end
end Go.Proofs.YteepnepebilckaaGreatDoor
