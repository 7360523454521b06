/- The law FnCseOver returns true for every input in which the opcode table reads as laid, and its argument reads as it did, the table being tied to the text of the program. -/
import Derived.Test.YteepnepebilckaaGreatDoorCV14
namespace Go.Proofs.YteepnepebilckaaGreatDoor
open Go Go.Eng Go.RowKit
section
variable {w : World} {base sz n : Nat} {el : TypeId} {xs : List Value}
theorem rowN_form {v:Value} {k:Nat} (h:w.ownsRow base el sz v n xs) (hk:k<n * sz):
 ∃g cap,v= .slice (some ⟨g,0,none⟩) n cap∧base≤g∧g<w.heap.size∧n≤cap∧(∀o,w.frozen? ⟨g,o,none⟩=false)∧∀k u,xs[k]? =some u→w.cell? ⟨g,k,none⟩=some u:=by
 rcases h.2 with ⟨rfl,h0⟩|⟨g,cap,cur,rfl,hb,hg,h1,h2,h3,h4⟩
 ·subst h0;omega
 refine ⟨g,cap,rfl,hb,(Array.getElem?_eq_some_iff.1 hg).1,h1,fun o=>AQ hg,fun k u hu=>?_⟩
 rw[cell_of_row w g _ cur el (0,0) hg]
 rw[← h4,List.getElem?_take] at hu
 split at hu
 ·rwa [Array.getElem?_toList] at hu
 cases hu
theorem GB {g cap k:Nat} {u:Value} (h:w.ownsRow base el sz (.slice (some ⟨g,0,none⟩) n cap) n xs):
 (w.setCell ⟨g,k,none⟩ u).ownsRow base el sz (.slice (some ⟨g,0,none⟩) n cap) n (xs.set k u):=by
 rcases h.2 with ⟨h0,_⟩|⟨g',cap',cur,e,hb,hg,h1,h2,h3,h4⟩
 ·cases h0
 injection e with e1 e2 e3
 injection e1 with e1
 injection e1 with e1 _ _
 subst e1
 subst e3
 have hs:=AC (o:=k) (u:=u) hg
 refine ⟨by rw[List.length_set];exact h.1,.inr ⟨g,cap,cur.setIfInBounds k u,rfl,hb,hs,h1,h2,by simpa using h3,?_⟩⟩
 rw[Array.toList_setIfInBounds,List.take_set,h4]
theorem rowN_take {g cap k:Nat} (h:w.ownsRow base el sz (.slice (some ⟨g,0,none⟩) n cap) n xs) (hk:k≤n):
 w.ownsRow base el sz (.slice (some ⟨g,0,none⟩) k cap) k (xs.take (k * sz)):=by
 have hl:=h.1
 rcases h.2 with ⟨h0,_⟩|⟨g',cap',cur,e,hb,hg,h1,h2,h3,h4⟩
 ·cases h0
 injection e with e1 e2 e3
 injection e1 with e1
 injection e1 with e1 _ _
 subst e1
 subst e3
 have hks:k * sz≤n * sz:=Nat.mul_le_mul_right _ hk
 refine ⟨by rw[List.length_take];omega,.inr ⟨g,cap,cur,rfl,hb,hg,by omega,h2,h3,?_⟩⟩
 rw[← h4,List.take_take]
 congr 1
 omega
end
section
variable {w : World} {ρ : Operand → Value} {d : Option Tmp} {ty : TypeId} {pos : String} {af : Array Edge} {g : Option (Nat × Bool)}
theorem FL {x0:Operand} {p:Option Addr} (h0:ρ x0= .pointer p):
 (execOp ρ ⟨d,.build 206 #[(0,x0)],ty,pos,af,g⟩).run Tryz.prog w= .ok (.value (.agg #[.pointer p,.int .i64 0])) w:=by
 have key:(Instr.build 206 #[(0,Value.pointer p)]).run Tryz.prog w= .ok (.agg #[.pointer p,.int .i64 0]) w:=by kernel_rfl
 simp [execOp,h0,key]
theorem Gc {x0:Operand} {p:Option Addr} (h0:ρ x0= .agg #[.pointer p,.int .i64 0]):
 (execOp ρ ⟨d,.buildSlice 204 1 #[(0,x0)],ty,pos,af,g⟩).run Tryz.prog w= .ok (.value (.slice (some ⟨w.heap.size,0,none⟩) 1 1)) (w.alloc (.cells #[.pointer p,.int .i64 0] 206)):=by
 have key:(Instr.buildSlice 204 1 #[(0,Value.agg #[.pointer p,.int .i64 0])]).run Tryz.prog w= .ok (.slice (some ⟨w.heap.size,0,none⟩) 1 1) (w.alloc (.cells #[.pointer p,.int .i64 0] 206)):=by kernel_rfl
 simp [execOp,h0,key]
theorem G2:Bu Tryz.prog 206 #[.pointer none,.int .i64 0]:=by unfold Bu;kernel_rfl
theorem x_make0N {P:Program} {t el:TypeId} {y z0:Operand} {z:Value} {bytes n sz:Nat} (ht:P.underlying t=some (.slice el)) (hi:(P.info? el).map (fun i=>(i.zero,i.size,i.bytes))=some (some z,sz,bytes))
 (hx:ρ z0= .int .i64 0) (hy:ρ y= .int .i64 (n:Int)) (hb:bytes * n≤281474976710656) (h63:n≤9223372036854775807):
 (execOp ρ ⟨d,.makeSlice t z0 y,ty,pos,af,g⟩).run P w= .ok (.value (.slice (some ⟨w.heap.size,0,none⟩) 0 n)) (w.alloc (.cells (madeCells z.cells (n * sz)) el)):=by
 obtain ⟨i,hi1,hi2,hi3,hi4⟩:=info_parts hi
 have:=run_make w t el i z ht hi1 hi2 .i64 .i64 0 (n:Int) (by omega) (by omega) (by rw[hi4];omega) (by omega)
 simp only [Int.toNat_natCast,hi3,Int.toNat_zero] at this
 simp [execOp,hx,hy,this]
theorem Fz {u:TypeId} {x y:Operand} (hx:ρ x= .slice none 0 0) (hy:ρ y= .slice none 0 0):
 (execOp ρ ⟨d,.binOp .neq 114 x y u,ty,pos,af,g⟩).run Tryz.prog w= .ok (.value (.bool false)) w:=by
 have key:(Op.equal 114 (.slice none 0 0) (.slice none 0 0)).run Tryz.prog w= .ok true w:=by kernel_rfl
 simp [execOp,hx,hy,eqGuard,binOp,key]
end
structure PO (nb:Nat) (S:Nat→List Nat) (seen:Nat→Bool) (stk:List (Nat×Nat)) (ord:List Nat):Prop where
 nd:(stk.map (·.1) ++ ord).Nodup
 mem:∀b,b<nb→(seen b=true↔b∈stk.map (·.1) ++ ord)
 lt:∀b∈stk.map (·.1) ++ ord,b<nb
 ordc:∀b∈ord,∀s∈S b,seen s=true
 stkc:∀x∈stk,x.2≤(S x.1).length∧∀s∈(S x.1).take x.2,seen s=true
section
variable {nb : Nat} {S : Nat → List Nat} {seen : Nat → Bool} {stk : List (Nat × Nat)} {ord : List Nat} {b i : Nat}
theorem PO.start (hn:1≤nb):PO nb S (fun x=>decide (x=0)) [(0,0)] []:=
 ⟨by simp,fun b _=>by simp,fun b hb=>by simp at hb;omega,fun b hb=>(by cases hb),fun x hx=>by
   have:x=(0,0):=by simpa using hx
   subst this
   exact ⟨Nat.zero_le _,fun s hs=>by simp at hs⟩⟩
theorem PO.skip (h:PO nb S seen (stk ++ [(b,i)]) ord) (hi:i<(S b).length) (hs:seen ((S b).getD i 0)=true):PO nb S seen (stk ++ [(b,i+1)]) ord:=by
 have e:(stk ++ [(b,i+1)]).map (·.1)=(stk ++ [(b,i)]).map (·.1):=by simp
 refine ⟨by rw[e];exact h.nd,by rw[e];exact h.mem,by rw[e];exact h.lt,h.ordc,fun x hx=>?_⟩
 rcases List.mem_append.1 hx with k|k
 ·exact h.stkc x (List.mem_append.2 (.inl k))
 have:x=(b,i+1):=by simpa using k
 subst this
 obtain ⟨_,h2⟩:=h.stkc (b,i) (List.mem_append.2 (.inr (.head _)))
 refine ⟨hi,fun s hs2=>?_⟩
 have hs2:s∈(S b).take (i+1):=hs2
 rw[List.take_add_one,List.getElem?_eq_getElem hi] at hs2
 rcases List.mem_append.1 hs2 with k|k
 ·exact h2 s k
 have:s=(S b)[i]:=by simpa using k
 rw[this]
 rwa [List.getD_eq_getElem?_getD,List.getElem?_eq_getElem hi] at hs
theorem PO.push (h:PO nb S seen (stk ++ [(b,i)]) ord) (hi:i<(S b).length) (hl:(S b).getD i 0<nb) (hs:seen ((S b).getD i 0)=false):
 PO nb S (fun x=>if x=(S b).getD i 0 then true else seen x) (stk ++ [(b,i+1)] ++ [((S b).getD i 0,0)]) ord:=by
 have e:((stk ++ [(b,i+1)] ++ [((S b).getD i 0,0)]:List (Nat×Nat))).map (·.1)=(stk ++ [(b,i)]).map (·.1) ++ [(S b).getD i 0]:=by simp
 have hnot:(S b).getD i 0∉(stk ++ [(b,i)]).map (·.1) ++ ord:=fun k=>by rw[(h.mem _ hl).2 k] at hs;cases hs
 have hmono:∀x,seen x=true→(if x=(S b).getD i 0 then true else seen x)=true:=fun x hx=>by split <;> simp [hx]
 refine ⟨?_,fun x hx=>?_,fun x hx=>?_,fun x hx s hs2=>hmono s (h.ordc x hx s hs2),fun x hx=>?_⟩
 ·rw[e,List.append_assoc,List.nodup_append]
  obtain ⟨h1,h2,h3⟩:=List.nodup_append.1 h.nd
  refine ⟨h1,List.nodup_cons.2 ⟨fun k=>hnot (List.mem_append.2 (.inr k)),h2⟩,fun x hx y hy=>?_⟩
  rcases List.mem_cons.1 hy with k|k
  ·intro e2;rw[e2,k] at hx;exact hnot (List.mem_append.2 (.inl hx))
  exact h3 x hx y k
 ·rw[e]
  show (if x=(S b).getD i 0 then true else seen x)=true↔_
  by_cases e2:x=(S b).getD i 0
  ·rw[if_pos e2]
   exact ⟨fun _=>by rw[e2];simp,fun _=>rfl⟩
  rw[if_neg e2,h.mem x hx]
  simp only [List.mem_append,List.mem_singleton]
  constructor
  ·rintro (k|k)
   ·exact .inl (.inl k)
   exact .inr k
  rintro ((k|k)|k)
  ·exact .inl k
  ·exact absurd k e2
  exact .inr k
 ·rw[e] at hx
  rcases List.mem_append.1 hx with k|k
  ·rcases List.mem_append.1 k with k|k
   ·exact h.lt x (List.mem_append.2 (.inl k))
   have:x=(S b).getD i 0:=by simpa using k
   rw[this];exact hl
  exact h.lt x (List.mem_append.2 (.inr k))
 rcases List.mem_append.1 hx with k|k
 ·rcases List.mem_append.1 k with k|k
  ·obtain ⟨h1,h2⟩:=h.stkc x (List.mem_append.2 (.inl k))
   exact ⟨h1,fun s hs2=>hmono s (h2 s hs2)⟩
  have:x=(b,i+1):=by simpa using k
  subst this
  obtain ⟨_,h2⟩:=h.stkc (b,i) (List.mem_append.2 (.inr (.head _)))
  refine ⟨hi,fun s hs2=>?_⟩
  have hs2:s∈(S b).take (i+1):=hs2
  rw[List.take_add_one,List.getElem?_eq_getElem hi] at hs2
  rcases List.mem_append.1 hs2 with k|k
  ·exact hmono s (h2 s k)
  have:s=(S b)[i]:=by simpa using k
  refine if_pos ?_
  rw[this,List.getD_eq_getElem?_getD,List.getElem?_eq_getElem hi];rfl
 have:x=((S b).getD i 0,0):=by simpa using k
 subst this
 exact ⟨Nat.zero_le _,fun s hs2=>by simp at hs2⟩
theorem PO.pop (h:PO nb S seen (stk ++ [(b,i)]) ord) (hi:(S b).length≤i):PO nb S seen stk (ord ++ [b]):=by
 have e:∀x,x∈stk.map (·.1) ++ (ord ++ [b])↔x∈(stk ++ [(b,i)]).map (·.1) ++ ord:=fun x=>by
  simp only [List.map_append,List.map_cons,List.map_nil,List.mem_append,List.mem_singleton]
  constructor
  ·rintro (k|k|k)
   ·exact .inl (.inl k)
   ·exact .inr k
   exact .inl (.inr k)
  rintro ((k|k)|k)
  ·exact .inl k
  ·exact .inr (.inr k)
  exact .inr (.inl k)
 refine ⟨?_,fun x hx=>by rw[e];exact h.mem x hx,fun x hx=>h.lt x ((e x).1 hx),fun x hx s hs=>?_,fun x hx=>h.stkc x (List.mem_append.2 (.inl hx))⟩
 ·have h0:=h.nd
  rw[List.map_append,List.append_assoc] at h0
  refine (List.Perm.nodup_iff ?_).1 h0
  exact List.Perm.append_left _ (List.perm_append_comm)
 rcases List.mem_append.1 hx with k|k
 ·exact h.ordc x k s hs
 have:x=b:=by simpa using k
 subst this
 obtain ⟨h1,h2⟩:=h.stkc (x,i) (List.mem_append.2 (.inr (.head _)))
 refine h2 s ?_
 rw[List.take_of_length_le (by show (S x).length≤i;exact hi)]
 exact hs
theorem PO.done (h:PO nb S seen [] ord) (h0:seen 0=true) (hS:∀b,b<nb→∀s∈S b,s<nb) (h1:1≤nb) {w:Nat} (hr:∀b,b<nb→RchS S w b):ord.Nodup∧∀b,b∈ord↔b<nb:=by
 have key:∀b,RchS S w b→b<nb∧b∈ord:=fun b hb=>by
  induction hb with
  |entry _=>exact ⟨h1,by simpa using (h.mem 0 h1).1 h0⟩
  | @step b s _ hs _ ih=>
    have hsn:=hS b ih.1 s hs
    exact ⟨hsn,by simpa using (h.mem s hsn).1 (h.ordc b ih.2 s hs)⟩
 exact ⟨by simpa using h.nd,fun b=>⟨fun hb=>h.lt b (by simpa using hb),fun hb=>(key b (hr b hb)).2⟩⟩
def leftN (S:Nat→List Nat) (stk:List (Nat×Nat)):Nat:=(stk.map fun x=>(S x.1).length - x.2+1).sum
theorem leftN_append (a c:List (Nat×Nat)):leftN S (a ++ c)=leftN S a+leftN S c:=by simp [leftN]
theorem leftN_one (x:Nat×Nat):leftN S [x]=(S x.1).length - x.2+1:=by simp [leftN]
end
def biC (L:Lay) (stk:List (Nat×Nat)):List Value:=stk.flatMap fun x=>[L.bp x.1,.int .i64 ((x.2:Nat):Int)]
theorem biC_append (L:Lay) (a c:List (Nat×Nat)):biC L (a ++ c)=biC L a ++ biC L c:=List.flatMap_append
theorem biC_len (L:Lay):∀stk:List (Nat×Nat),(biC L stk).length=stk.length * 2
 | []=>rfl
 |x :: r=>by
  have:=biC_len L r
  show (_ :: _ :: biC L r).length=_
  simp only [List.length_cons,this];omega
def dfo (v:Value):Deferred:=⟨.fn (.func 138) #[],#[.agg #[],v]⟩
theorem idle1 (u:Value):∀D∈ [dfo u],Idle Tryz.prog D:=fun D hD=>by
 have:D=dfo u:=by simpa using hD
 subst this;exact FE u
def sI (seen:Nat→Bool):Nat→Bool
 |0=>false
 |j+1=>seen j
theorem Hb (m:Nat):bools (fun _=>false) m=bools (sI fun _=>false) m:=by
 congr 1
 funext j
 cases j <;> rfl
theorem sI_set (seen:Nat→Bool) (m b:Nat):bools (fun x=>if x=b+1 then true else sI seen x) m=bools (sI fun x=>if x=b then true else seen x) m:=by
 congr 1
 funext j
 cases j with
 |zero=>rfl
 |succ j=>
  show (if j+1=b+1 then true else seen j)=if j=b then true else seen j
  by_cases e:j=b
  ·rw[if_pos e,if_pos (by omega)]
  rw[if_neg e,if_neg (by omega)]
theorem ownsRow_low {w:World} {base base':Nat} {el:TypeId} {sz n:Nat} {v:Value} {xs:List Value} (h:w.ownsRow base el sz v n xs) (hb:base'≤base):w.ownsRow base' el sz v n xs:=by
 refine ⟨h.1,?_⟩
 rcases h.2 with k|⟨g,cap,cur,h1,h2,h3⟩
 ·exact .inl k
 exact .inr ⟨g,cap,cur,h1,by omega,h3⟩
theorem leftN_ge {S:Nat→List Nat}:∀stk:List (Nat×Nat),stk.length≤leftN S stk
 | []=>Nat.le_refl _
 |x :: r=>by
  have:=leftN_ge (S:=S) r
  have e:=leftN_append (S:=S) [x] r
  rw[leftN_one] at e
  show r.length+1≤leftN S ([x] ++ r)
  omega
section
variable {P : Program} {w : World} {ρ : Operand → Value} {d : Option Tmp} {ty : TypeId} {pos : String} {af : Array Edge} {g : Option (Nat × Bool)}
theorem x_sliceKN {t el:TypeId} {x:Operand} {b o n cap k sz:Nat} {z:Value} {bytes:Nat} (ht:P.underlying t=some (.slice el)) (hi:(P.info? el).map (fun i=>(i.zero,i.size,i.bytes))=some (some z,sz,bytes))
 (hx:ρ x= .slice (some ⟨b,o,none⟩) n cap) {c:Operand} (hc:ρ c= .int .i64 (k:Int)) (hk:k≤cap):
 (execOp ρ ⟨d,.slice t x none (some c) none,ty,pos,af,g⟩).run P w= .ok (.value (.slice (some ⟨b,o,none⟩) k cap)) w:=by
 obtain ⟨i,hi1,_,hi3,_⟩:=info_parts hi
 have:(Instr.slice t (.slice (some ⟨b,o,none⟩) n cap) none (some (.int .i64 (k:Int))) none).run P w= .ok (.slice (some ⟨b,o,none⟩) k cap) w:=by
  unfold Instr.slice Instr.sliceBounds Instr.sliceBound
  simp only [Sem.run_bind,run_underlying ht,Result.andThen_ok,Sem.run_pure,asIntOf]
  have h1:(0:Int)≤(k:Int)∧(k:Int)≤(cap:Int):=by omega
  simp only [if_pos h1,Sem.run_pure,Result.andThen_ok,sizeOf,typeInfo,Sem.run_bind]
  simp [hi1,hi3,Addr.add]
 simp [execOp,hx,hc,Instr.sliceAt,run_underlying ht,this]
end
set_option maxHeartbeats 4000000
attribute [local irreducible] EC EL DL Ret thenQ blockQ Bi bodyQ onlyN execOp Sem.run World.cell? World.frozen? World.setCell World.alloc
theorem eblock_ret {w:World} {p:Value}:Ret Tryz.prog 139 #[.agg #[p]] w fun v w'=>v=p∧Below w.heap.size w w':=by
 refine ret_of_EC Tryz.func139 rfl rfl ?_
 obtain ⟨B,hBd⟩:∃B,B=w.heap.size:=⟨_,rfl⟩
 refine Ae (Ac (Ab (Bv (v:=.agg #[p]) rfl) rfl (el_new (.cells #[p] 103) B (by omega) fun wa hN1 hO1 hZ1 hB1 hK1=>(Ab Ah rfl (Af (Aa ?_))))))
 have hc:wa.cell? ⟨w.heap.size,0+0,none⟩=some p:=Am hN1 rfl
 refine Ae (Ac (Ab (Al rfl (Ak rfl)) rfl (Ab (Ai rfl (Ag rfl) ‹_›) rfl ?_)))
 refine Ab Ah rfl (Af (Aa (AE ?_)))
 exact Az rfl rfl rfl ⟨rfl,by rw[← hBd];exact hB1⟩
theorem postorder0_ret {w:World} {B0:Nat} {L:Lay} {g:Gph} (hg:GRep w B0 L g) (hn:1≤g.nb∧g.nb≤9) (hent:L.entry=some ⟨L.bb 0,0,none⟩) (hsu:∀x,x<g.nb→(g.succs x).length≤2∧∀s∈g.succs x,s<g.nb)
 (hre:∀x,x<g.nb→RchS g.succs g.nb x):
 Ret Tryz.prog 134 #[L.fp,.slice none 0 0] w fun v w'=>∃ord:List Nat,w'.ownsRow w.heap.size 74 1 v (ord.map L.bp).length (ord.map L.bp)∧ord.Nodup∧(∀b,b∈ord↔b<g.nb)∧Below w.heap.size w w':=by
 refine D4 Tryz.func134 rfl rfl ?_
 obtain ⟨m,hm⟩:∃m,m=g.nb+1:=⟨_,rfl⟩
 obtain ⟨B,hBd⟩:∃B,B=w.heap.size:=⟨_,rfl⟩
 rw[← hBd]
 refine Ae (Ac (Ab Ah rfl (Af (Aa (Ae (AY mixed (fun W=>GRep W B0 L g) [(0,false),(1,false),(2,false),(3,false),(4,false),(5,true),(6,true),(7,false)] (by kernel_rfl) hg.drew ?_))))))
 have hgd:=hg.drew
 have hbd:Below B w w.drew:=⟨rfl,rfl,rfl,Nat.le_refl _,fun _ _=>rfl⟩
 have hszd:w.drew.heap.size=B:=hBd.symm
 generalize w.drew=wd at hgd hbd hszd ⊢
 refine Aj rfl (fun _ _=>Ad) (Aj rfl (fun _ _=>Au rfl) (Aj rfl (fun _ hS=>B3 rfl (GRep.comp hS .fn)) (Aj rfl (fun _ _=>B4 rfl) (Aj rfl (fun _ _=>Ad) (BO rfl (AG Tryz.func105 rfl rfl rfl rfl) (NumBlocks_ret hgd hn.2) ?_)))))
 rintro _ wx ⟨rfl,ew⟩
 rw[← hm,ew]
 refine ⟨.inr hgd,?_⟩
 refine BO rfl (AG Tryz.func137 rfl rfl rfl rfl) (allocBool_ret (by omega)) ?_
 rintro _ w1 ⟨G,rfl,hG,hGw,hb1⟩
 have hg1:=hgd.on hb1
 refine ⟨.inr hg1,?_⟩
 refine Aj rfl (fun _ _=>Ah) (AP (Aa ?_))
 have hb1:Below B w w1:=hbd.trans (hb1.mono (by omega))
 have hs1:=hb1.size
 have hG1:G<w1.heap.size:=(Array.getElem?_eq_some_iff.1 hGw).1
 refine BV [(0,L.fp),(1,.slice none 0 0),(5,.slice (some ⟨G,0,none⟩) m m)] rfl ⟨rfl,rfl,rfl,trivial⟩ fun t=>(Ae (Ac (Ab Ad rfl (Ab (Au rfl) rfl (Ab (B3 rfl (hg1.comp .fn)) rfl (Ab (B4 rfl) rfl (Ab Ad rfl (EL_d (Dj rfl rfl) rfl (Af (Aa ?_))))))))))
 obtain ⟨fa,fc,hfs⟩:=hg.fblocksV
 have hfl:=hg1.fBlocks
 rw[hfs] at hfl
 refine Bj [dfo (.slice (some ⟨G,0,none⟩) m m)] [(0,L.fp),(1,.slice none 0 0),(5,.slice (some ⟨G,0,none⟩) m m)] rfl ⟨rfl,rfl,rfl,trivial⟩ fun t=>(Ae (Ac (Ab Ad rfl (Ab (Au rfl) rfl (Ab (Al rfl (Ak rfl)) rfl (Ab (Ai rfl (Ag rfl) ‹_›) rfl ?_))))))
 refine Ab (AN rfl (An rfl)) rfl (Ab (x_make0 (n:=g.nb) Tryz.underlying75 CF rfl rfl (by omega) (by omega)) rfl ?_)
 have hBle:B≤w1.heap.size:=by omega
 refine el_new (.cells (madeCells (Value.cells (.pointer none)) g.nb) 74) B (by omega) fun w2 hN2 hO2 hZ2 hB2 hK2=>?_
 obtain ⟨O,hO⟩:∃O,O=w1.heap.size:=⟨_,rfl⟩
 rw[← hO] at hN2 ⊢
 refine Ab Ah rfl (Af (Aa ?_))
 have hrowo:w2.ownsRow O 74 1 (.slice (some ⟨O,0,none⟩) 0 g.nb) 0 []:=⟨rfl,.inr ⟨O,g.nb,_,rfl,Nat.le_refl _,hN2,Nat.zero_le _,by unfold maxLen;omega,by simp [madeCells,Value.cells],by simp⟩⟩
 refine Ae (Ac (Ab (x_make0N (n:=32) Tryz.underlying204 D2 rfl rfl (by omega) (by omega)) rfl ?_))
 have hBle:B≤w2.heap.size:=by omega
 refine el_new (.cells (madeCells (Value.cells (.agg #[.pointer none,.int .i64 0])) (32 * 2)) 206) B (by omega) fun w3 hN3 hO3 hZ3 hB3 hK3=>?_
 obtain ⟨K,hK⟩:∃K,K=w2.heap.size:=⟨_,rfl⟩
 rw[← hK] at hN3 ⊢
 refine Ab Ah rfl (Af (Aa ?_))
 have hb3:Below B w w3:=(hb1.trans hB2).trans hB3
 have hrows:w3.ownsRow O 206 2 (.slice (some ⟨K,0,none⟩) 0 32) 0 []:=⟨rfl,.inr ⟨K,32,_,rfl,by omega,hN3,Nat.zero_le _,by unfold maxLen;omega,by simp [madeCells,Value.cells],by simp⟩⟩
 have hrowo3:=Ax hrowo (w':=w3) fun k e=>hO3 k (As hrowo k e).2
 have hg3:=hg.on (hb3.mono (by omega))
 have hent3:=hg3.fEntry
 rw[hent] at hent3
 refine Bj [dfo (.slice (some ⟨G,0,none⟩) m m)] [(0,L.fp),(1,.slice none 0 0),(5,.slice (some ⟨G,0,none⟩) m m),(6,.slice (some ⟨O,0,none⟩) 0 g.nb),(7,.slice (some ⟨K,0,none⟩) 0 32)] rfl ⟨rfl,rfl,rfl,rfl,rfl,trivial⟩ fun t=>(Ae (Ac (Ab Ad rfl (Ab Ad rfl (Ab (Au rfl) rfl (Ab (Al rfl (Ak rfl)) rfl (Ab (Ai rfl (Ag rfl) ‹_›) rfl ?_)))))))
 refine Ab (FL rfl) rfl (Ab (Gc rfl) rfl ?_)
 have hBle:B≤w3.heap.size:=by omega
 refine el_new (.cells #[.pointer (some ⟨L.bb 0,0,none⟩),.int .i64 0] 206) B (by omega) fun w4 hN4 hO4 hZ4 hB4 hK4=>?_
 have hrows4:=Ax hrows (w':=w4) fun k e=>hO4 k (As hrows k e).2
 have hnew4:∀j u,(biC L [(0,0)])[j]? =some u→w4.cell? ((⟨w3.heap.size,0,none⟩:Addr).add j)=some u:=fun j u hj=>by
  rw[Addr.add_lit]
  rcases j with _|_|j
  ·refine Am hN4 ?_;exact hj
  ·refine Am hN4 ?_;exact hj
  simp [biC] at hj
 refine Cz (news:=biC L [(0,0)]) (m:=1) hrows4 hnew4 (fun u hu=>by
  simp [biC] at hu
  rcases hu with rfl|rfl <;> rfl) rfl (by omega) (by decide) (by omega) Tryz.underlying204 D2 rfl (by decide) rfl rfl rfl ?_
 intro v5 w5 hrow5 hgr5 hwh5
 refine Ab Ah rfl (Af (Aa ?_))
 have hb5:Below B w w5:=(hb3.trans hB4).grown hgr5 (by omega) (fun j e=>by have:=As hrows4 j e;omega)
 have hrow5:w5.ownsRow O 206 2 v5 [(0,0)].length (biC L [(0,0)]):=hrow5
 have hst5:∀j,j<K→w5.heap[j]? =w3.heap[j]? :=fun j hj=>by
  rw[hgr5.block j (by omega) (fun e=>by have e2:K=j:=Option.some.inj e.symm;omega),hO4 j (by omega)]
 have hrowo5:=Ax hrowo3 (w':=w5) fun k e=>hst5 k (by have e2:O=k:=Option.some.inj e;omega)
 have hG5:w5.heap[G]? =some (.cells (bools (sI fun _=>false) m) 4 (0,0)):=by
  rw[hst5 G (by omega),hO3 G (by omega),hO2 G hG1,hGw,Hb]
 have hdis5:∀k,v5.ownBlock=some k→(Value.slice (some ⟨O,0,none⟩) 0 g.nb).ownBlock≠some k:=fun k e e2=>by
  have e2:O=k:=Option.some.inj e2
  rcases hwh5 with e3|e3
  ·rw[e3] at e
   have e:K=k:=Option.some.inj e
   omega
  rw[e3] at e
  have e:=Option.some.inj e
  omega
 have hg5:=hg.on (hb5.mono (by omega))
 have hent5:=hg5.fEntry
 rw[hent] at hent5
 have hid0:w5.cell? ⟨L.bb 0,0+0,none⟩=some (.int .i32 ((0+1:Nat):Int)):=hg5.bID (by omega)
 refine Bj [dfo (.slice (some ⟨G,0,none⟩) m m)] [(0,L.fp),(1,.slice none 0 0),(5,.slice (some ⟨G,0,none⟩) m m),(6,.slice (some ⟨O,0,none⟩) 0 g.nb),(7,v5)] rfl ⟨rfl,rfl,rfl,rfl,rfl,trivial⟩ fun t=>(Ae (Ac (Ab Ad rfl (Ab Ad rfl (Ab (Au rfl) rfl (Ab (Al rfl (Ak rfl)) rfl (Ab (Ai rfl (Ag rfl) ‹_›) rfl ?_)))))))
 refine Ab (Au rfl) rfl (Ab (Al rfl (Ak rfl)) rfl (Ab (Ai rfl (Ag rfl) ‹_›) rfl ?_))
 refine Ab (x_index1 rfl rfl (An rfl) (by omega)) rfl (Bc (AU rfl rfl rfl (AH rfl) (Am (o:=0+(0+1)) hG5 (by rw[Nat.zero_add];exact BM _ (by omega))) (AQ hG5)) rfl ?_)
 refine Af (Aa ?_)
 have hG6:=AC (o:=0+(0+1)) (u:=.bool true) hG5
 rw[bools_set,Nat.zero_add,sI_set] at hG6
 have hO6:∀j,j≠G→(w5.setCell ⟨G,0+1,none⟩ (.bool true)).heap[j]? =w5.heap[j]? :=fun j hj=>Below.heap_setCell _ _ _ _ hj
 have hb6:Below B w (w5.setCell ⟨G,0+1,none⟩ (.bool true)):=hb5.setCell (by show B≤G;omega) _
 have hrow6:=Ax hrow5 (w':=w5.setCell ⟨G,0+1,none⟩ (.bool true)) fun k e=>hO6 k (by have:=(As hrow5 k e).1;omega)
 have hrowo6:=Ax hrowo5 (w':=w5.setCell ⟨G,0+1,none⟩ (.bool true)) fun k e=>hO6 k (by have:=(As hrowo5 k e).1;omega)
 change EC _ _ _ _ _ (w5.setCell ⟨G,0+1,none⟩ (.bool true))
 generalize w5.setCell ⟨G,0+1,none⟩ (.bool true)=w6 at hG6 hb6 hrow6 hrowo6 ⊢
 have hGO:G<O:=by omega
 have hBO:B≤O:=by omega
 refine Ae (Ao ?_)
 refine EC_loop (fun n e wr=>∃seen stk ord vs vo,AtD e [dfo (.slice (some ⟨G,0,none⟩) m m)] [(1,.slice none 0 0),(5,.slice (some ⟨G,0,none⟩) m m),(6,vo),(7,vs)]∧wr.ownsRow O 206 2 vs stk.length (biC L stk)∧wr.ownsRow O 74 1 vo (ord.map L.bp).length (ord.map L.bp)∧
  (∀k,vs.ownBlock=some k→vo.ownBlock≠some k)∧wr.heap[G]? =some (.cells (bools (sI seen) m) 4 (0,0))∧Below B w wr∧O≤wr.heap.size∧PO g.nb g.succs seen stk ord∧seen 0=true∧n=4 * cnt seen g.nb+leftN g.succs stk∧ord.length+n≤100) (4 * cnt (fun x=>if x=0 then true else false) g.nb+leftN g.succs [(0,0)])
  ⟨_,[(0,0)],[],v5,_,AT rfl ⟨rfl,rfl,rfl,rfl,trivial⟩,hrow6,hrowo6,hdis5,hG6,hb6,by have:=(As hrowo6 O rfl).2;omega,by
    have:=PO.start (S:=g.succs) hn.1
    simpa using this,rfl,rfl,by
    have h1:=cnt_le (fun x=>if x=0 then true else false) g.nb
    have h2:=(hsu 0 (by omega)).1
    have h3:=leftN_one (S:=g.succs) (0,0)
    simp only at h3
    simp only [List.length_nil]
    omega⟩ ?_
 rintro n e wr ⟨seen,stk,ord,vs,vo,⟨t,rfl⟩,hrs,hro,hdis,hG,hb,hOw,hPO,hs0,hn1,hn2⟩
 have hge:=leftN_ge (S:=g.succs) stk
 refine Ae ?_
 obtain ⟨va,vc,rfl⟩:=Bx hrs
 rcases List.eq_nil_or_concat stk with rfl|⟨A,⟨b,i⟩,rfl⟩
 ·refine Ae (Ac (Ab Ad rfl (Ab (AN rfl (An rfl)) rfl (Ab (BE rfl rfl) rfl (Af (Aa ?_))))))
  refine AI rfl rfl (fun hp=>absurd (show (0:Int)<((0:Nat):Int) from hp) (by decide)) (fun _=>?_)
  refine AK (AB (AD (AA (Aa (Ae (Ac (Ab Ad rfl (Ab Ah rfl (Af (Aa (AE ?_)))))))))))
  refine Ei rfl rfl (idle1 _) fun w' hb'=>?_
  obtain ⟨h1,h2⟩:=hPO.done hs0 (fun b hb=>(hsu b hb).2) hn.1 hre
  exact ⟨ord,ownsRow_low (Ax hro fun k e=>hb'.block k (As hro k e).2) (by omega),h1,h2,hb.trans (hb'.mono (by have:=hb.size;omega))⟩
 simp only [List.concat_eq_append] at hrs hPO hn1 hge ⊢
 have hl:(A ++ [(b,i)]).length=A.length+1:=by rw[List.length_append];rfl
 have hbn:b<g.nb:=hPO.lt b (by simp)
 obtain ⟨hil,_⟩:=hPO.stkc (b,i) (List.mem_append.2 (.inr (.head _)))
 have hil:i≤(g.succs b).length:=hil
 obtain ⟨hsl2,hsn⟩:=hsu b hbn
 have hcl:biC L (A ++ [(b,i)])=biC L A ++ [L.bp b,.int .i64 ((i:Nat):Int)]:=biC_append L A [(b,i)]
 have hAl:=biC_len L A
 obtain ⟨g7,c7,hve,hg7,hg7s,hg7c,hg7f,hg7e⟩:=rowN_form (k:=0) hrs (by omega)
 injection hve with hve1 hve2 hve3
 subst hve1
 subst hve3
 have he0:wr.cell? ⟨g7,A.length * 2+0,none⟩=some (L.bp b):=hg7e _ _ (by rw[hcl,List.getElem?_append_right (by omega),hAl];simp)
 have he1:wr.cell? ⟨g7,A.length * 2+1,none⟩=some (.int .i64 ((i:Nat):Int)):=hg7e _ _ (by rw[hcl,List.getElem?_append_right (by omega),hAl];simp)
 have hce:CellsAt wr g7 (0+A.length * 2) [L.bp b,.int .i64 ((i:Nat):Int)]:=fun j u hj=>by
  rw[Nat.zero_add]
  rcases j with _|_|j
  ·simp at hj;subst hj;exact he0
  ·simp at hj;subst hj;exact he1
  simp at hj
 refine Ae (Ac (Ab Ad rfl (Ab (AN rfl (An rfl)) rfl (Ab (BE rfl rfl) rfl (Af (Aa ?_))))))
 refine AI rfl rfl (fun _=>?_) (fun hp=>absurd (show (0:Int)<(((A ++ [(b,i)]).length:Nat):Int) from by omega) hp)
 refine Aq (Aa (Ao (Ae (Ac (Ab Ad rfl (Ab (AN rfl (An rfl)) rfl (Ab (CQ (c:=(A.length:Int)) rfl rfl (by rw[hl,IntWalk.i64_in _ (by omega)];omega)) rfl ?_)))))))
 refine Ab Ah rfl (Af (Aa (Ae (Ac (Ab Ad rfl (Ab Ad rfl (Ab (A5 (n:=2) (i:=A.length) rfl rfl (An rfl) (by omega)) rfl (Ab (A4 (cs:=[L.bp b,.int .i64 ((i:Nat):Int)]) rfl (A0 rfl) hce) rfl (Ab (A9 G2) rfl (Bc (Bb rfl rfl (A7 rfl) rfl rfl) rfl (Af ?_)))))))))))
 refine Aa ?_
 have hBle:B≤wr.heap.size:=by omega
 refine ec_new (.cells #[L.bp b,.int .i64 ((i:Nat):Int)] 206) B (by omega) fun ws hN7 hO7 hZ7 hB7 hK7=>?_
 have hbs:Below B w ws:=hb.trans hB7
 have hrss:=Ax hrs (w':=ws) fun j e=>hO7 j (As hrs j e).2
 have hros:=Ax hro (w':=ws) fun j e=>hO7 j (As hro j e).2
 have hGs:=(hO7 G (by omega)).trans hG
 have hgs:=hg.on (hbs.mono (by omega))
 have hx0:ws.cell? ⟨wr.heap.size,0+0,none⟩=some (L.bp b):=Am hN7 rfl
 have hx1:ws.cell? ⟨wr.heap.size,0+1,none⟩=some (.int .i64 ((i:Nat):Int)):=Am hN7 rfl
 have hOs:O≤ws.heap.size:=by omega
 obtain ⟨sa,sc,hss⟩:=hgs.succsV hbn
 have hfs:=hgs.bSuccs hbn
 rw[hss] at hfs
 refine Ae (Ac (Ab (Al rfl (Ak rfl)) rfl (Ab (Ai rfl (Ag rfl) ‹_›) rfl ?_)))
 refine Ab Ah rfl (Af (Aa (Ae (Ae (Ac (Ab (Al rfl (Ak rfl)) rfl (Ab (Ai rfl (Ag rfl) ‹_›) rfl ?_)))))))
 refine Ab Ah rfl (Af (Aa (Bj [dfo (.slice (some ⟨G,0,none⟩) m m)] [(1,.slice none 0 0),(5,.slice (some ⟨G,0,none⟩) m m),(6,vo),(7,.slice (some ⟨g7,0,none⟩) (A ++ [(b,i)]).length vc),(8,.int .i64 ((A.length:Nat):Int)),(10,L.bp b),(11,.int .i64 ((i:Nat):Int))] rfl ⟨rfl,rfl,rfl,rfl,rfl,rfl,rfl,trivial⟩ fun t=>(Ae (Ac (Ab Ad rfl (Ab Ad rfl (Ab (Au rfl) rfl (Ab (Al rfl (Ak rfl)) rfl (Ab (Ai rfl (Ag rfl) ‹_›) rfl ?_))))))))))
 refine Ab (AN rfl (An rfl)) rfl (Ab (AX rfl rfl) rfl (Af (Aa ?_)))
 refine AI rfl rfl (fun hlt=>?_) (fun hge2=>?_)
 rotate_left
 ·have hge2:(g.succs b).length≤i:=by omega
  have hie:i=(g.succs b).length:=by omega
  refine Aq (Aa ?_)
  have hpop:=hPO.pop hge2
  have hlA:leftN g.succs (A ++ [(b,i)])=leftN g.succs A+1:=by
   rw[leftN_append,leftN_one]
   simp only
   omega
  refine Ae (Ac (Ab Ad rfl (Ab Ad rfl (Ab (x_sliceKN (k:=A.length) Tryz.underlying204 D2 rfl rfl (by omega)) rfl (Ab Ah rfl (Af (Aa ?_)))))))
  have hrst:=rowN_take (k:=A.length) hrss (by omega)
  rw[hcl,List.take_append_of_le_length (by omega),List.take_of_length_le (by omega)] at hrst
  refine Bj [dfo (.slice (some ⟨G,0,none⟩) m m)] [(1,.slice none 0 0),(5,.slice (some ⟨G,0,none⟩) m m),(6,vo),(7,.slice (some ⟨g7,0,none⟩) A.length vc),(10,L.bp b)] rfl ⟨rfl,rfl,rfl,rfl,rfl,trivial⟩ fun t=>(Ae (Ae (Ac (Ab Ad rfl (Ab (Fz rfl rfl) rfl (Af (Aa (Bh rfl rfl (Aq (Aa (Ac ?_)))))))))))
  have hBle:B≤ws.heap.size:=by omega
  refine Ab Ad rfl (Ab Ad rfl (Ab (Bo (v:=L.bp b) rfl rfl Tryz.underlying75 (by kernel_rfl) (z:=.pointer none) rfl) rfl (el_new (.cells #[L.bp b] 74) B (by omega) fun wx hN9 hO9 hZ9 hB9 hK9=>?_)))
  have hrsx:=Ax hrst (w':=wx) fun k e=>hO9 k (As hrst k e).2
  have hrox:=Ax hros (w':=wx) fun k e=>hO9 k (As hros k e).2
  have hlow:=As hrox
  have hol:(ord.map L.bp).length=ord.length:=List.length_map ..
  refine BD hrox (Am hN9 rfl) rfl (by omega) (by decide) (by omega) Tryz.underlying75 CF rfl rfl rfl rfl ?_
  intro v10 w10 hrow10 hgr10 hwh10
  refine Ab Ah rfl (Af (Ap ?_))
  have hb10:Below B w w10:=(hbs.trans hB9).grown hgr10 (by omega) (fun j e=>by have:=(hlow j e).1;omega)
  have hrow10:w10.ownsRow O 74 1 v10 ((ord ++ [b]).map L.bp).length ((ord ++ [b]).map L.bp):=by
   rw[List.map_append,List.length_append];exact hrow10
  have hrs10:=Ax hrsx (w':=w10) fun k e=>hgr10.block k (As hrsx k e).2 (fun e2=>hdis k e e2.symm)
  have hG10:w10.heap[G]? =_:=(hgr10.block G (by omega) (fun e=>by have:=(hlow G e.symm).1;omega)).trans ((hO9 G (by omega)).trans hGs)
  have hdis10:∀k,(Value.slice (some ⟨g7,0,none⟩) A.length vc).ownBlock=some k→v10.ownBlock≠some k:=fun k e e2=>by
   rcases hwh10 with e3|e3
   ·exact hdis k e (e3 ▸ e2)
   rw[e3] at e2
   have e2:=Option.some.inj e2
   have e:g7=k:=Option.some.inj e
   omega
  exact Aw (4 * cnt seen g.nb+leftN g.succs A) (by omega) ⟨seen,A,ord ++ [b],_,v10,AT rfl ⟨rfl,rfl,rfl,rfl,trivial⟩,hrs10,hrow10,hdis10,hG10,hb10,by have:=hgr10.size;omega,hpop,hs0,rfl,by rw[List.length_append];show ord.length+1+_≤100;omega⟩
 have hlt:i<(g.succs b).length:=by omega
 have hsy:=hsn _ (Bq hlt)
 have hes1:ws.cell? ⟨g7,0+A.length * 2+1,none⟩=some (.int .i64 ((i:Nat):Int)):=by
  rw[Nat.zero_add]
  obtain ⟨_,_,e1,_,_,_,_,h9⟩:=rowN_form (k:=0) hrss (by omega)
  injection e1 with e1
  injection e1 with e1
  injection e1 with e1 _ _
  subst e1
  exact h9 _ _ (by rw[hcl,List.getElem?_append_right (by omega),hAl];simp)
 refine Ae (Ac (Ab Ad rfl (Ab Ad rfl (Ab (A5 (n:=2) (i:=A.length) rfl rfl (An rfl) (by omega)) rfl (Ab (Al rfl (Ak rfl)) rfl (Ab (Ai rfl (Ag rfl) ‹_›) rfl ?_))))))
 refine Ab (x_inc rfl rfl (by omega)) rfl (Ab (A5 (n:=2) (i:=A.length) rfl rfl (An rfl) (by omega)) rfl (Ab (Al rfl (Ak rfl)) rfl ?_))
 refine Bc (AU rfl rfl rfl (AH rfl) hes1 (by
  obtain ⟨_,_,e1,_,_,_,h9,_⟩:=rowN_form (k:=0) hrss (by omega)
  injection e1 with e1
  injection e1 with e1
  injection e1 with e1 _ _
  subst e1
  exact h9 _)) rfl ?_
 refine Af (Aa ?_)
 have hrst:=GB (k:=0+A.length * 2+1) (u:=.int .i64 ((i+1:Nat):Int)) hrss
 have hset:(biC L (A ++ [(b,i)])).set (0+A.length * 2+1) (.int .i64 ((i+1:Nat):Int))=biC L (A ++ [(b,i+1)]):=by
  rw[hcl,biC_append,List.set_append_right _ _ (by omega),show 0+A.length * 2+1 - (biC L A).length=1 by omega]
  rfl
 rw[hset] at hrst
 have hOt:∀j,j≠g7→(ws.setCell ⟨g7,0+A.length * 2+1,none⟩ (.int .i64 ((i+1:Nat):Int))).heap[j]? =ws.heap[j]? :=fun j hj=>Below.heap_setCell _ _ _ _ hj
 have hbt:Below B w (ws.setCell ⟨g7,0+A.length * 2+1,none⟩ (.int .i64 ((i+1:Nat):Int))):=hbs.setCell (by show B≤g7;omega) _
 have hrot:=Ax hros (w':=ws.setCell ⟨g7,0+A.length * 2+1,none⟩ (.int .i64 ((i+1:Nat):Int))) fun k e=>hOt k (fun e2=>hdis g7 rfl (e2 ▸ e))
 have hGt:=(hOt G (by omega)).trans hGs
 have hszt:=Bp (w:=ws) ⟨g7,0+A.length * 2+1,none⟩ (.int .i64 ((i+1:Nat):Int))
 change EC _ _ _ _ _ (ws.setCell ⟨g7,0+A.length * 2+1,none⟩ (.int .i64 ((i+1:Nat):Int)))
 generalize ws.setCell ⟨g7,0+A.length * 2+1,none⟩ (.int .i64 ((i+1:Nat):Int))=wt at hrst hbt hrot hGt hszt ⊢
 have hgt:=hg.on (hbt.mono (by omega))
 have hfst:=hgt.bSuccs hbn
 rw[hss] at hfst
 obtain ⟨eb,ec,hse,_,hce2,_⟩:=hgt.succsE hbn hlt
 rw[hss] at hse
 injection hse with e1 e2 e3
 subst e1
 have hskip:=hPO.skip hlt
 have hpush:=hPO.push hlt hsy
 generalize (g.succs b).getD i 0=y at hsy hce2 hskip hpush
 have hce3:CellsAt wt eb (0+i) [L.bp y]:=fun j u hj=>by
  cases j with
  |zero=>simp at hj;subst hj;exact hce2
  |succ j=>simp at hj
 have hlen1:(A ++ [(b,i+1)]).length=A.length+1:=by rw[List.length_append];rfl
 have hlen2:(A ++ [(b,i)]).length=(A ++ [(b,i+1)]).length:=by rw[hl,hlen1]
 rw[hlen2] at hrst
 have hleft:leftN g.succs (A ++ [(b,i+1)])+1=leftN g.succs (A ++ [(b,i)]):=by
  rw[leftN_append,leftN_append,leftN_one,leftN_one]
  simp only
  omega
 refine Bj [dfo (.slice (some ⟨G,0,none⟩) m m)] [(1,.slice none 0 0),(5,.slice (some ⟨G,0,none⟩) m m),(6,vo),(7,.slice (some ⟨g7,0,none⟩) (A ++ [(b,i+1)]).length vc),(8,.int .i64 ((A.length:Nat):Int)),(10,L.bp b),(11,.int .i64 ((i:Nat):Int))] rfl ⟨rfl,rfl,rfl,by rw[← hlen2];rfl,rfl,rfl,rfl,trivial⟩ fun t=>?_
 refine Ae (Ac (Ab Ad rfl (Ab (Au rfl) rfl (Ab (Al rfl (Ak rfl)) rfl (Ab (Ai rfl (Ag rfl) ‹_›) rfl ?_)))))
 refine Ab Ad rfl (Ab (x_index1 rfl rfl (An rfl) (by omega)) rfl (Ab (A4 (cs:=[L.bp y]) rfl (A0 rfl) hce3) rfl (Be (AG Tryz.func139 rfl rfl rfl rfl) rfl eblock_ret ?_)))
 rintro _ wu ⟨rfl,hbu⟩
 refine Ab Ah rfl (Af (Aa ?_))
 have hszu:=hbu.size
 have hbU:Below B w wu:=hbt.trans (hbu.mono (by omega))
 have hrsu:=Ax hrst (w':=wu) fun j e=>hbu.block j (As hrst j e).2
 have hrou:=Ax hrot (w':=wu) fun j e=>hbu.block j (As hrot j e).2
 have hGu:=(hbu.block G (by omega)).trans hGt
 have hgu:=hg.on (hbU.mono (by omega))
 have hidy:wu.cell? ⟨L.bb y,0+0,none⟩=some (.int .i32 ((y+1:Nat):Int)):=hgu.bID hsy
 have hcy:wu.cell? ⟨G,0+(y+1),none⟩=some (.bool (seen y)):=Am hGu (by rw[Nat.zero_add];exact BM _ (by omega))
 have hOu:O≤wu.heap.size:=by omega
 have hym:y+1<m:=by omega
 refine Ae (Ae (Ac (Ab Ad rfl (Ab Ad rfl (Ab (Au rfl) rfl (Ab (Al rfl (Ak rfl)) rfl (Ab (Ai rfl (Ag rfl) ‹_›) rfl ?_)))))))
 refine Ab (x_index1 rfl rfl (An rfl) (by omega)) rfl (Ab (Ai rfl (Ag rfl) ‹_›) rfl ?_)
 refine Ab (BS rfl) rfl (Af (Aa ?_))
 cases hsny:seen y with
 |true=>
  refine Bh rfl rfl (Aq (Aa (AK (AB (AA ?_)))))
  exact Aw (4 * cnt seen g.nb+leftN g.succs (A ++ [(b,i+1)])) (by omega) ⟨seen,A ++ [(b,i+1)],ord,_,vo,AT rfl ⟨rfl,rfl,rfl,rfl,trivial⟩,hrsu,hrou,hdis,hGu,hbU,hOu,hskip hsny,hs0,rfl,by omega⟩
 |false=>
  refine Bm rfl rfl ?_
  have hcn:=cnt_set (S:=seen) hsy hsny
  have hPU:=hpush hsny
  refine Ae (Ac (Ab Ad rfl (Ab Ad rfl (Ab (Au rfl) rfl (Ab (Al rfl (Ak rfl)) rfl (Ab (Ai rfl (Ag rfl) ‹_›) rfl ?_))))))
  refine Ab (x_index1 rfl rfl (An rfl) (by omega)) rfl (Bc (AU rfl rfl rfl (AH rfl) hcy (AQ hGu)) rfl (Af (Aa ?_)))
  have hGv:=AC (o:=0+(y+1)) (u:=.bool true) hGu
  rw[bools_set,Nat.zero_add,sI_set] at hGv
  have hOv:∀j,j≠G→(wu.setCell ⟨G,y+1,none⟩ (.bool true)).heap[j]? =wu.heap[j]? :=fun j hj=>Below.heap_setCell _ _ _ _ hj
  have hbv:Below B w (wu.setCell ⟨G,y+1,none⟩ (.bool true)):=hbU.setCell (by show B≤G;omega) _
  have hrsv:=Ax hrsu (w':=wu.setCell ⟨G,y+1,none⟩ (.bool true)) fun k e=>hOv k (by have:=(As hrsu k e).1;omega)
  have hrov:=Ax hrou (w':=wu.setCell ⟨G,y+1,none⟩ (.bool true)) fun k e=>hOv k (by have:=(As hrou k e).1;omega)
  have hszv:=Bp (w:=wu) ⟨G,y+1,none⟩ (.bool true)
  change EC _ _ _ _ _ (wu.setCell ⟨G,0+(y+1),none⟩ (.bool true))
  rw[Nat.zero_add (y+1)]
  generalize wu.setCell ⟨G,y+1,none⟩ (.bool true)=wv at hGv hbv hrsv hrov hszv ⊢
  refine Bj [dfo (.slice (some ⟨G,0,none⟩) m m)] [(1,.slice none 0 0),(5,.slice (some ⟨G,0,none⟩) m m),(6,vo),(7,.slice (some ⟨g7,0,none⟩) (A ++ [(b,i+1)]).length vc),(12,L.bp y)] rfl ⟨rfl,rfl,rfl,rfl,rfl,trivial⟩ fun t=>(Ac (Ab Ad rfl (Ab Ad rfl (Ab (FL (p:=some ⟨L.bb y,0,none⟩) rfl) rfl (Ab (Gc rfl) rfl ?_)))))
  have hBle:B≤wv.heap.size:=by omega
  refine el_new (.cells #[.pointer (some ⟨L.bb y,0,none⟩),.int .i64 0] 206) B (by omega) fun wx hN9 hO9 hZ9 hB9 hK9=>?_
  have hrsx:=Ax hrsv (w':=wx) fun k e=>hO9 k (As hrsv k e).2
  have hrox:=Ax hrov (w':=wx) fun k e=>hO9 k (As hrov k e).2
  have hnewx:∀j u,(biC L [(y,0)])[j]? =some u→wx.cell? ((⟨wv.heap.size,0,none⟩:Addr).add j)=some u:=fun j u hj=>by
   rw[Addr.add_lit]
   rcases j with _|_|j
   ·refine Am hN9 ?_;exact hj
   ·refine Am hN9 ?_;exact hj
   simp [biC] at hj
  have hlow:=As hrsx
  refine Cz (news:=biC L [(y,0)]) (m:=1) hrsx hnewx (fun u hu=>by
   simp [biC] at hu
   rcases hu with rfl|rfl <;> rfl) rfl (by omega) (by decide) (by omega) Tryz.underlying204 D2 rfl (by decide) rfl rfl rfl ?_
  intro v10 w10 hrow10 hgr10 hwh10
  refine Ab Ah rfl (Af (Aa ?_))
  have hb10:Below B w w10:=(hbv.trans hB9).grown hgr10 (by omega) (fun j e=>by have:=(hlow j e).1;omega)
  have hrow10:w10.ownsRow O 206 2 v10 (A ++ [(b,i+1)] ++ [(y,0)]).length (biC L (A ++ [(b,i+1)] ++ [(y,0)])):=by
   rw[List.length_append,biC_append];exact hrow10
  have hro10:=Ax hrox (w':=w10) fun k e=>hgr10.block k (As hrox k e).2 (fun e2=>by
   have e2:g7=k:=Option.some.inj e2.symm
   exact hdis g7 rfl (e2 ▸ e))
  have hG10:w10.heap[G]? =_:=(hgr10.block G (by omega) (fun e=>by have:=(hlow G e.symm).1;omega)).trans ((hO9 G (by omega)).trans hGv)
  have hdis10:∀k,v10.ownBlock=some k→vo.ownBlock≠some k:=fun k e e2=>by
   rcases hwh10 with e3|e3
   ·exact hdis k (e3 ▸ e) e2
   rw[e3] at e
   have e:=Option.some.inj e
   have:=(As hrov k e2).2
   omega
  refine AK (AB (AA ?_))
  refine Aw (4 * cnt (fun x=>if x=y then true else seen x) g.nb+leftN g.succs (A ++ [(b,i+1)] ++ [(y,0)])) ?_ ⟨_,_,ord,v10,vo,AT rfl ⟨rfl,rfl,rfl,rfl,trivial⟩,hrow10,hro10,hdis10,hG10,hb10,by have:=hgr10.size;omega,hPU,by show (if 0=y then true else seen 0)=true;split;rfl;exact hs0,rfl,?_⟩
  ·rw[leftN_append,leftN_one]
   have:=(hsu y hsy).1
   simp only
   omega
  rw[leftN_append,leftN_one]
  have:=(hsu y hsy).1
  simp only
  omega
theorem Ez {w:World} {B0:Nat} {L:Lay} {g:Gph} (hg:GRep w B0 L g) (hn:1≤g.nb∧g.nb≤9) (hent:L.entry=some ⟨L.bb 0,0,none⟩) (hsu:∀x,x<g.nb→(g.succs x).length≤2∧∀s∈g.succs x,s<g.nb)
 (hre:∀x,x<g.nb→RchS g.succs g.nb x):
 Ret Tryz.prog 123 #[L.fp] w fun v w'=>∃ord:List Nat,w'.ownsRow w.heap.size 74 1 v (ord.map L.bp).length (ord.map L.bp)∧ord.Nodup∧(∀b,b∈ord↔b<g.nb)∧Below w.heap.size w w':=by
 refine ret_of_EC Tryz.func123 rfl rfl (Ae (Ac (Ab Ah rfl (Af (Aa (Ae (Ac (Ab Ad rfl (Be (AG Tryz.func134 rfl rfl rfl rfl) rfl (postorder0_ret hg hn hent hsu hre) ?_)))))))))
 rintro v w1 ⟨ord,h1,h2,h3,h4⟩
 refine Ab Ah rfl (Af (Aa (AE ?_)))
 exact Az rfl rfl rfl ⟨ord,h1,h2,h3,h4⟩
theorem EQ {w:World} {B0:Nat} {L:Lay} {g:Gph} (hg:GRep w B0 L g) (hn:1≤g.nb∧g.nb≤9) (hent:L.entry=some ⟨L.bb 0,0,none⟩) (hsu:∀x,x<g.nb→(g.succs x).length≤2∧∀s∈g.succs x,s<g.nb)
 (hre:∀x,x<g.nb→RchS g.succs g.nb x):
 Ret Tryz.prog 104 #[L.fp] w fun v w'=>∃ord:List Nat,w'.ownsRow w.heap.size 74 1 v (ord.map L.bp).length (ord.map L.bp)∧ord.Nodup∧(∀b,b∈ord↔b<g.nb)∧Below w.heap.size w w':=by
 refine ret_of_EC Tryz.func104 rfl rfl (Ae (Ac (Ab Ah rfl (Af (Aa (Ae (Ac (Ab Ad rfl (Be (AG Tryz.func123 rfl rfl rfl rfl) rfl (Ez hg hn hent hsu hre) ?_)))))))))
 rintro v w1 ⟨ord,h1,h2,h3,h4⟩
 refine Ab Ah rfl (Af (Aa (AE ?_)))
 exact Az rfl rfl rfl ⟨ord,h1,h2,h3,h4⟩
end Go.Proofs.YteepnepebilckaaGreatDoor
