/- The law FnCseOver returns true for every input in which the opcode table reads as laid, and its argument reads as it did, the table being tied to the text of the program. -/
import Derived.Test.YteepnepebilckaaGreatDoorCV04
namespace Go.Proofs.YteepnepebilckaaGreatDoor
open Go Go.Eng Go.RowKit
inductive Rch (f:Fn) (wo:Int):Nat→Prop where
 |entry:wo≠0→Rch f wo 0
 |step {b:Nat} {s:Int}:Rch f wo b→s∈(f.b b).succs→s≠wo→Rch f wo s.toNat
structure Shp (f:Fn):Prop where
 one:1≤f.blks.length
 nb:f.blks.length≤9
 succs:∀b,b<f.blks.length→(f.b b).succs.length≤2∧∀s∈(f.b b).succs,0≤s∧s<f.blks.length
def bools (S:Nat→Bool) (n:Nat):Array Value:=((List.range n).map fun i=>Value.bool (S i)).toArray
theorem BM (S:Nat→Bool) {n i:Nat} (h:i<n):(bools S n)[i]? =some (.bool (S i)):=by
 simp [bools,List.getElem?_range h]
theorem CK (S:Nat→Bool) (n:Nat):(bools S n).size=n:=by simp [bools]
theorem bools_set (S:Nat→Bool) (n s:Nat) (v:Bool):(bools S n).setIfInBounds s (.bool v)=bools (fun x=>if x=s then v else S x) n:=by
 apply Array.ext_getElem?
 intro i
 rw[Array.getElem?_setIfInBounds,CK]
 by_cases hi:i<n
 ·rw[BM _ hi,BM _ hi]
  by_cases e:s=i
  ·subst e;simp [hi]
  rw[if_neg e]
  have:¬ i=s:=fun h=>e h.symm
  simp [this]
 have h1:(bools S n)[i]? =none:=by rw[Array.getElem?_eq_none];rw[CK];omega
 have h2:(bools (fun x=>if x=s then v else S x) n)[i]? =none:=by rw[Array.getElem?_eq_none];rw[CK];omega
 rw[h1,h2]
 split
 ·rw[if_neg (by omega)]
 rfl
theorem Eg (n:Nat):madeCells #[.bool false] n=bools (fun _=>false) n:=by
 simp [madeCells,bools]
 apply Array.ext
 ·simp
 intro i h1 h2
 simp [Nat.mod_one]
def cnt (S:Nat→Bool):Nat→Nat
 |0=>0
 |n+1=>cnt S n+if S n then 0 else 1
theorem cnt_le (S:Nat→Bool):∀n,cnt S n≤n
 |0=>Nat.le_refl _
 |n+1=>by
  have:=cnt_le S n
  show cnt S n+_≤_
  split <;> omega
theorem cnt_congr {S S':Nat→Bool}:∀{n:Nat},(∀i,i<n→S i=S' i)→cnt S n=cnt S' n
 |0,_=>rfl
 |n+1,h=>by
  show cnt S n+_=cnt S' n+_
  rw[cnt_congr fun i hi=>h i (by omega),h n (by omega)]
theorem cnt_set {S:Nat→Bool}:∀{n s:Nat},s<n→S s=false→cnt (fun x=>if x=s then true else S x) n+1=cnt S n
 |0,s,h,_=>absurd h (Nat.not_lt_zero _)
 |n+1,s,h,hs=>by
  show cnt (fun x=>if x=s then true else S x) n+(if (if n=s then true else S n)=true then 0 else 1)+1=cnt S n+_
  by_cases e:s=n
  ·subst e
   rw[cnt_congr (S':=S) fun i hi=>if_neg (by omega)]
   simp [hs]
  have ih:=cnt_set (S:=S) (n:=n) (s:=s) (by omega) hs
  have hne:¬ n=s:=fun h=>e h.symm
  rw[if_neg hne]
  omega
structure RI (f:Fn) (wo:Int) (S:Nat→Bool) (q:List Int):Prop where
 snd:∀i,i<f.blks.length→S i=true→Rch f wo i
 que:∀x∈q,∃i:Nat,x=(i:Int)∧i<f.blks.length∧S i=true
 ent:S 0=true
 clo:∀i,i<f.blks.length→S i=true→(i:Int)∈q∨∀s∈(f.b i).succs,s≠wo→S s.toNat=true
structure RJ (f:Fn) (wo:Int) (b k:Nat) (S:Nat→Bool) (q:List Int):Prop where
 snd:∀i,i<f.blks.length→S i=true→Rch f wo i
 que:∀x∈q,∃i:Nat,x=(i:Int)∧i<f.blks.length∧S i=true
 ent:S 0=true
 bs:b<f.blks.length∧S b=true
 clo:∀i,i<f.blks.length→S i=true→(i:Int)∈q∨i=b∨∀s∈(f.b i).succs,s≠wo→S s.toNat=true
 don:∀j,j<k→(f.b b).succs.getD j 0≠wo→S ((f.b b).succs.getD j 0).toNat=true
section
variable {f : Fn} {wo : Int} {S : Nat → Bool} {q : List Int} {b k : Nat}
theorem RI.pop {x:Int} (h:RI f wo S (x :: q)):∃b:Nat,x=(b:Int)∧RJ f wo b 0 S q:=by
 obtain ⟨b,rfl,hb,hs⟩:=h.que x (.head _)
 refine ⟨b,rfl,h.snd,fun y hy=>h.que y (.tail _ hy),h.ent,⟨hb,hs⟩,fun i hi hS=>?_,fun j hj=>absurd hj (Nat.not_lt_zero _)⟩
 rcases h.clo i hi hS with h1|h1
 ·rcases List.mem_cons.1 h1 with h2|h2
  ·exact .inr (.inl (by omega))
  exact .inl h2
 exact .inr (.inr h1)
theorem RJ.skip (h:RJ f wo b k S q) (hs:(f.b b).succs.getD k 0≠wo→S ((f.b b).succs.getD k 0).toNat=true):RJ f wo b (k+1) S q:=
 ⟨h.snd,h.que,h.ent,h.bs,h.clo,fun j hj=>by
   by_cases e:j=k
   ·subst e;exact hs
   exact h.don j (by omega)⟩
theorem RJ.add (h:RJ f wo b k S q) {s:Int} (hs:s=(f.b b).succs.getD k 0) (hk:k<(f.b b).succs.length) (hr:0≤s∧s<f.blks.length) (hw:s≠wo):
 RJ f wo b (k+1) (fun x=>if x=s.toNat then true else S x) (q ++ [s]):=by
 have hmem:s∈(f.b b).succs:=by rw[hs,List.getD_eq_getElem?_getD,List.getElem?_eq_getElem hk];simp
 have hmono:∀i,S i=true→(if i=s.toNat then true else S i)=true:=fun i hi=>by split <;> simp [hi]
 refine ⟨fun i hi hS=>?_,fun x hx=>?_,hmono _ h.ent,⟨h.bs.1,hmono _ h.bs.2⟩,fun i hi hS=>?_,fun j hj hne=>?_⟩
 ·by_cases e:i=s.toNat
  ·subst e;exact .step (h.snd b h.bs.1 h.bs.2) hmem hw
  simp only [if_neg e] at hS;exact h.snd i hi hS
 ·rcases List.mem_append.1 hx with h1|h1
  ·obtain ⟨i,e,hi,hS⟩:=h.que x h1
   exact ⟨i,e,hi,hmono i hS⟩
  simp at h1
  subst h1
  exact ⟨x.toNat,by omega,by omega,by simp⟩
 ·by_cases e:i=s.toNat
  ·left;subst e;rw[List.mem_append];right;simp;omega
  simp only [if_neg e] at hS
  rcases h.clo i hi hS with h1|h1|h1
  ·exact .inl (List.mem_append.2 (.inl h1))
  ·exact .inr (.inl h1)
  exact .inr (.inr fun y hy hyw=>hmono _ (h1 y hy hyw))
 by_cases e:j=k
 ·subst e;rw[← hs];simp
 exact hmono _ (h.don j (by omega) hne)
theorem RJ.done (h:RJ f wo b (f.b b).succs.length S q):RI f wo S q:=
 ⟨h.snd,h.que,h.ent,fun i hi hS=>by
   rcases h.clo i hi hS with h1|h1|h1
   ·exact .inl h1
   ·subst h1
    right
    intro s hs hw
    obtain ⟨j,hj,rfl⟩:=List.getElem_of_mem hs
    have:=h.don j hj
    rw[List.getD_eq_getElem?_getD,List.getElem?_eq_getElem hj] at this
    exact this hw
   exact .inr h1⟩
theorem RI.fin (sh:Shp f) (h:RI f wo S []):∀i,i<f.blks.length→(S i=true↔Rch f wo i):=by
 intro i hi
 refine ⟨h.snd i hi,fun hr=>?_⟩
 have key:i<f.blks.length∧S i=true:=by
  clear hi
  induction hr with
  |entry _=>exact ⟨sh.one,h.ent⟩
  | @step b s _ hs hw ih=>
    have h1:=(sh.succs b ih.1).2 s hs
    refine ⟨by omega,?_⟩
    rcases h.clo b ih.1 ih.2 with h2|h2
    ·simp at h2
    exact h2 s hs hw
 exact key.2
theorem Gy (f:Fn) (i:Nat):¬ Rch f 0 i:=by
 intro h
 induction h with
 |entry h=>exact h rfl
 |step _ _ _ ih=>exact ih
end
theorem Ea {B:Nat} {w0 w:World} (h:Below B w0 w) (hB:w0.heap.size≤B):Keep w0 w:=Keep.of_below h hB
set_option maxHeartbeats 4000000
attribute [local irreducible] EC EL DL Ret thenQ blockQ Bi bodyQ onlyN execOp Sem.run World.cell? World.frozen? World.setCell World.alloc
theorem reach_ret {w:World} {x:Value} {f:Fn} (hx:FnV w x f) (sh:Shp f) (wo:Int):
 Ret Tryz.prog 34 #[x,.int .i64 wo] w fun v w'=>∃G S,v= .slice (some ⟨G,0,none⟩) f.blks.length f.blks.length∧w.heap.size≤G∧w'.heap[G]? =some (.cells (bools S f.blks.length) 4 (0,0))∧
  (∀i,i<f.blks.length→(S i=true↔Rch f wo i))∧Below w.heap.size w w':=by
 obtain ⟨xv,xb,rfl,hvals,hblks⟩:=hx
 refine ret_of_EC Tryz.func34 rfl rfl ?_
 obtain ⟨ab,cb,rfl,hbl⟩:=hblks
 obtain ⟨B,hBd⟩:∃B,B=w.heap.size:=⟨_,rfl⟩
 have hnb:=sh.nb
 have hone:=sh.one
 refine Ae (Ac (Ab (Bv (v:=.agg #[xv,.slice ab f.blks.length cb]) rfl) rfl (el_new (.cells #[xv,.slice ab f.blks.length cb] 30) B (by omega) fun wa hN1 hO1 hZ1 hB1 hK1=>(Ab Ah rfl (Af (Aa ?_))))))
 obtain ⟨b1,hb1⟩:∃b1,b1=w.heap.size:=⟨_,rfl⟩
 rw[← hb1] at hN1 ⊢
 have g1:wa.cell? ⟨b1,0+1,none⟩=some (.slice ab f.blks.length cb):=Am hN1 rfl
 refine Ae (Ac (Ab (Al rfl (Ak rfl)) rfl (Ab (Ai rfl (Ag rfl) ‹_›) rfl ?_)))
 refine Ab (AN rfl (An rfl)) rfl (Ab (C2 Tryz.underlying49 info4 rfl rfl rfl (by omega) (by omega)) rfl ?_)
 rw[Eg]
 have hBle:B≤wa.heap.size:=by omega
 refine el_new (.cells (bools (fun _=>false) f.blks.length) 4) B (by omega) fun wb hN2 hO2 hZ2 hB2 hK2=>?_
 obtain ⟨G,hG⟩:∃G,G=wa.heap.size:=⟨_,rfl⟩
 rw[← hG] at hN2 ⊢
 refine Ab Ah rfl (Af (Aa ?_))
 have hbelB:Below B w wb:=hB1.trans hB2
 have hbx:wb.heap[b1]? =some (.cells #[xv,.slice ab f.blks.length cb] 30 (0,0)):=(hO2 _ (by omega)).trans hN1
 refine Ae (Ae (Ac (Ab Ad rfl (Ab (Bn rfl rfl) rfl (Af (Aa ?_))))))
 refine AI rfl rfl (fun hw0=>?_) (fun hw0=>?_)
 ·refine Ae (Ac (Ab Ad rfl (Ab Ah rfl (Af (Aa (AE (AO ?_)))))))
  refine Az rfl rfl rfl ⟨G,fun _=>false,rfl,by omega,hN2,fun i hi=>?_,by rw[hb1,← hBd];exact hbelB⟩
  rw[hw0]
  exact ⟨fun h=>(by cases h),fun h=>absurd h (Gy f i)⟩
 refine Aq (Aa (Ae (Ac (Ab Ad rfl (Ab (x_index0 rfl rfl (An rfl) (by omega)) rfl ?_)))))
 have hold:wb.cell? ⟨G,0+0,none⟩=some (.bool false):=Am hN2 (BM _ hone)
 refine Bc (AU rfl rfl rfl (AH rfl) hold (AQ hN2)) rfl (Af (Aa ?_))
 have hM:=AC (o:=0+0) (u:=.bool true) hN2
 rw[bools_set] at hM
 have hMo:∀j,j<G→(wb.setCell ⟨G,0+0,none⟩ (.bool true)).heap[j]? =wb.heap[j]? :=fun j hj=>Below.heap_setCell _ _ _ _ (by show j≠G;omega)
 have hbelM:Below B w (wb.setCell ⟨G,0+0,none⟩ (.bool true)):=hbelB.setCell (by show B≤G;omega) _
 have hMz:(wb.setCell ⟨G,0+0,none⟩ (.bool true)).heap.size=G+1:=by rw[Bp];omega
 change EC _ _ _ _ _ (wb.setCell ⟨G,0+0,none⟩ (.bool true))
 generalize wb.setCell ⟨G,0+0,none⟩ (.bool true)=wm at hM hMo hbelM hMz ⊢
 refine Ae (Ac ?_)
 have hBle:B≤wm.heap.size:=by omega
 refine Ab (Bo (v:=.int .i64 0) rfl rfl Tryz.underlying35 (by kernel_rfl) (z:=.int .i64 0) rfl) rfl (el_new (.cells #[.int .i64 0] 3) B (by omega) fun wq hN3 hO3 hZ3 hB3 hK3=>(Ab Ah rfl (Af (Aa ?_))))
 have hQ0:Qu wq (G+1) 3 (.slice (some ⟨wm.heap.size,0,none⟩) 1 1) ([(0:Int)].map (.int .i64)):=
  ⟨wm.heap.size,0,1,#[.int .i64 0],rfl,by omega,hN3,by simp,by simp,by decide,fun k u hk=>by
    cases k with
    |zero=>simpa using hk
    |succ k=>simp at hk⟩
 have hS0:wq.heap[G]? =some (.cells (bools (fun x=>if x=0 then true else false) f.blks.length) 4 (0,0)):=(hO3 _ (by omega)).trans hM
 have hst0:∀j,j<G→wq.heap[j]? =wb.heap[j]? :=fun j hj=>(hO3 _ (by omega)).trans (hMo j hj)
 have hbel0:Below B w wq:=hbelM.trans hB3
 have hRI0:RI f wo (fun x=>if x=0 then true else false) [0]:=⟨fun i _ hS=>by
  by_cases e:i=0
  ·subst e;exact .entry hw0
  simp [e] at hS,
  fun x hx=>by simp at hx;exact ⟨0,by simpa using hx,hone,rfl⟩,rfl,fun i _ hS=>by
   by_cases e:i=0
   ·subst e;exact .inl (.head _)
   simp [e] at hS⟩
 have hszq:G+1≤wq.heap.size:=by omega
 refine AW (fun e wr=>∃S v,At e [(1,.int .i64 wo),(2,.pointer (some ⟨b1,0,none⟩)),(5,.slice (some ⟨G,0,none⟩) f.blks.length f.blks.length),(6,v)]∧wr.heap[G]? =some (.cells (bools S f.blks.length) 4 (0,0))∧RI f wo S []∧Below B w wr) ?_ ?_
 ·refine Ao ?_
  refine EC_loop (fun n e wr=>∃(S:Nat→Bool) (v:Value) (q:List Int),At e [(1,.int .i64 wo),(2,.pointer (some ⟨b1,0,none⟩)),(5,.slice (some ⟨G,0,none⟩) f.blks.length f.blks.length),(6,v)]∧Qu wr (G+1) 3 v (q.map (.int .i64))∧wr.heap[G]? =some (.cells (bools S f.blks.length) 4 (0,0))∧RI f wo S q∧(∀j,j<G→wr.heap[j]? =wb.heap[j]?)∧G+1≤wr.heap.size∧Below B w wr∧q.length+cnt S f.blks.length≤1000∧n=2 * cnt S f.blks.length+q.length) (2 * cnt (fun x=>if x=0 then true else false) f.blks.length+1)
   ⟨_,_,[0],Ar rfl ⟨rfl,rfl,rfl,rfl,trivial⟩,hQ0,hS0,hRI0,hst0,hszq,hbel0,by have:=cnt_le (fun x=>if x=0 then true else false) f.blks.length;show 1+_≤1000;omega,rfl⟩ ?_
  rintro n e wr ⟨S,v,q,⟨t,rfl⟩,hQ,hS,hRI,hst,hsz,hb,hql,rfl⟩
  refine Ae ?_
  cases q with
  |nil=>
   obtain ⟨g6,o6,c6,cur6,rfl,_⟩:=id hQ
   refine Ae (Ac (Ab Ad rfl (Ab (AN rfl (An rfl)) rfl (Ab (BE rfl rfl) rfl (Af (Aa ?_))))))
   refine AI rfl rfl (fun hp=>absurd (show (0:Int)<((0:Nat):Int) from hp) (by decide)) (fun _=>?_)
   refine AK (AB (AD (AA ?_)))
   exact AR ⟨S,_,Ar rfl ⟨rfl,rfl,rfl,rfl,trivial⟩,hS,hRI,hb⟩
  |cons x q=>
   obtain ⟨z,hz,hRJ⟩:=hRI.pop
   obtain ⟨g6,o6,c6,rfl,hx6,hQ6⟩:=hQ.head
   rw[List.length_map] at hQ6 ⊢
   have hx6:wr.cell? ⟨g6,o6+0,none⟩=some (.int .i64 x):=hx6
   refine Ae (Ac (Ab Ad rfl (Ab (AN rfl (An rfl)) rfl (Ab (BE rfl rfl) rfl (Af (Aa ?_))))))
   refine AI rfl rfl (fun _=>?_) (fun hp=>absurd (show (0:Int)<((q.length+1:Nat):Int) from by omega) hp)
   refine Aq (Aa (Ao (Ae (Ac (Ab Ad rfl (Ab (x_index0 rfl rfl (An rfl) (by omega)) rfl (Ab (Ai rfl (Ag rfl) ‹_›) rfl ?_)))))))
   refine Ab Ah rfl (Af (Aa (Ae (Ac (Ab Ad rfl (Ab (x_slice1 (n:=q.length) Tryz.underlying35 Cb rfl rfl) rfl (Ab Ah rfl (Af (Aa ?_)))))))))
   have hzb:=hRJ.bs.1
   obtain ⟨bb,ob,rfl,hq⟩:=hbl.resolve_left (fun e=>by rw[e] at hzb;simp at hzb)
   obtain ⟨s0,hcells0,⟨sa,sc,rfl,hints⟩⟩:=hq z hzb
   have hKw:Keep w wr:=Keep.of_below hb (by omega)
   have hcells:=hcells0.keep hKw
   have h33:wr.cell? ⟨bb,ob+z * 4+2,none⟩=some (.slice sa (f.b z).succs.length sc):=hcells 2 _ rfl
   have hbxr:wr.heap[b1]? =some (.cells #[xv,.slice (some ⟨bb,ob,none⟩) f.blks.length cb] 30 (0,0)):=(hst b1 (by omega)).trans hbx
   have h29:wr.cell? ⟨b1,0+1,none⟩=some (.slice (some ⟨bb,ob,none⟩) f.blks.length cb):=Am hbxr rfl
   refine Ae (Ac (Ab (Al rfl (Ak rfl)) rfl (Ab (Ai rfl (Ag rfl) ‹_›) rfl ?_)))
   refine Ab Ad rfl (Ab (EZ (n:=4) rfl rfl hz (An rfl) hzb) rfl (Ab (Al rfl (Ak rfl)) rfl (Ab (Ai rfl (Ag rfl) ‹_›) rfl ?_)))
   refine Ab (AN rfl (An rfl)) rfl (Ab Ad rfl (Af (Aa ?_)))
   obtain ⟨hsl,hsm⟩:=sh.succs z hzb
   refine Ao ?_
   refine EC_loop (fun m e wi=>∃(S':Nat→Bool) (v:Value) (q':List Int) (k:Nat),k≤(f.b z).succs.length∧At e [(1,.int .i64 wo),(2,.pointer (some ⟨b1,0,none⟩)),(5,.slice (some ⟨G,0,none⟩) f.blks.length f.blks.length),(6,v),(33,.slice sa (f.b z).succs.length sc),(34,.int .i64 ((f.b z).succs.length:Int)),(35,.int .i64 (k:Int))]∧Qu wi (G+1) 3 v (q'.map (.int .i64))∧wi.heap[G]? =some (.cells (bools S' f.blks.length) 4 (0,0))∧RJ f wo z k S' q'∧(∀j,j<G→wi.heap[j]? =wb.heap[j]?)∧G+1≤wi.heap.size∧Below B w wi∧q'.length+cnt S' f.blks.length≤q.length+cnt S f.blks.length∧2 * cnt S' f.blks.length+q'.length≤2 * cnt S f.blks.length+q.length∧m=(f.b z).succs.length - k) (f.b z).succs.length
    ⟨S,_,q,0,Nat.zero_le _,Ar rfl ⟨rfl,rfl,rfl,rfl,rfl,rfl,rfl,trivial⟩,by simpa using hQ6,hS,hRJ,hst,hsz,hb,Nat.le_refl _,Nat.le_refl _,rfl⟩ ?_
   rintro m e wi ⟨S',v,q',k,hk,⟨t,rfl⟩,hQ,hS,hRJ,hst,hsz,hb,hm1,hm2,rfl⟩
   refine Ae (Ac (Ab (AX rfl rfl) rfl (Af (Aa (Ae ?_)))))
   refine AI rfl rfl (fun hlk=>?_) (fun hge=>?_)
   rotate_left
   ·have hk:k=(f.b z).succs.length:=by omega
    subst hk
    refine AK (AB (AD (AA (Ap ?_))))
    refine Aw (2 * cnt S' f.blks.length+q'.length) (by simp;omega) ⟨S',v,q',Ar rfl ⟨rfl,rfl,rfl,rfl,trivial⟩,hQ,hS,hRJ.done,hst,hsz,hb,?_,rfl⟩
    simp at hql;omega
   have hlk:k<(f.b z).succs.length:=by omega
   obtain ⟨_,_,e3,hintI⟩:IntsV wi (.slice sa (f.b z).succs.length sc) (f.b z).succs:=IntsV.keep ⟨sa,sc,rfl,hints⟩ (Ea hb (by omega))
   obtain ⟨bi,oi,rfl,hai⟩:=hintI.get hlk
   injection e3 with e4 e5 e6
   subst e4
   have hmem:(f.b z).succs.getD k 0∈(f.b z).succs:=by rw[List.getD_eq_getElem?_getD,List.getElem?_eq_getElem hlk];simp
   obtain ⟨hy0,hy1⟩:=hsm _ hmem
   have hskip:=hRJ.skip
   have hadd:=fun h=>hRJ.add (s:=(f.b z).succs.getD k 0) rfl hlk ⟨hy0,hy1⟩ h
   generalize (f.b z).succs.getD k 0=y at hai hy0 hy1 hskip hadd
   have hyy:y=((y.toNat:Nat):Int):=by omega
   have hyl:y.toNat<f.blks.length:=by omega
   have hcy:wi.cell? ⟨G,0+y.toNat,none⟩=some (.bool (S' y.toNat)):=Am hS (by rw[Nat.zero_add];exact BM _ hyl)
   have hno:∀(h:y=wo∨S' y.toNat=true),RJ f wo z (k+1) S' q':=fun h=>hskip fun hne=>h.resolve_left hne
   refine Aq (Aa (Ae (Ao (Ae (Ac (Ab (x_index1 rfl rfl (An rfl) (by omega)) rfl (Ab (Ai rfl (Ag rfl) ‹_›) rfl ?_)))))))
   refine Ab Ah rfl (Af (Aa (Ae (Ac (Ab Ad rfl (Ab Ad rfl (Ab (Bw rfl rfl) rfl (Ab Ad rfl ?_))))))))
   by_cases hyw:y=wo
   ·refine AF (congrArg some (decide_eq_false (fun h=>h hyw))) rfl (AF (congrArg some (decide_eq_false (fun h=>h hyw))) rfl (AF (congrArg some (decide_eq_false (fun h=>h hyw))) rfl (AF (congrArg some (decide_eq_false (fun h=>h hyw))) rfl (AF (congrArg some (decide_eq_false (fun h=>h hyw))) rfl (Ab (AM (congrArg Value.bool (decide_eq_false (fun h=>h hyw)))) rfl (Af (Aa (Bh rfl rfl (Aq (Ap (Aa ?_)))))))))))
    refine Ac (Ab (x_inc rfl rfl (by omega)) rfl (Ab Ad rfl (Af ?_)))
    exact Aw ((f.b z).succs.length - (k+1)) (by omega) ⟨S',v,q',k+1,by omega,Ar rfl ⟨rfl,rfl,rfl,rfl,rfl,rfl,rfl,trivial⟩,hQ,hS,hno (.inl hyw),hst,hsz,hb,hm1,hm2,rfl⟩
   have hty:=congrArg some (decide_eq_true hyw)
   refine Av hty rfl Ad rfl (Av hty rfl Ad rfl (Av hty rfl (Ba rfl rfl hyy (An rfl) hyl) rfl (Av hty rfl (Ai rfl (Ag rfl) hcy) rfl (Av hty rfl (BS rfl) rfl (Ab (AV (congrArg Value.bool (decide_eq_true hyw))) rfl (Af (Aa ?_)))))))
   rcases Bool.eq_false_or_eq_true (S' y.toNat) with hSy|hSy
   ·refine Bh (congrArg (fun b=>Value.bool (!b)) hSy) rfl (Aq (Ap (Aa (Ac (Ab (x_inc rfl rfl (by omega)) rfl (Ab Ad rfl (Af ?_)))))))
    exact Aw ((f.b z).succs.length - (k+1)) (by omega) ⟨S',v,q',k+1,by omega,Ar rfl ⟨rfl,rfl,rfl,rfl,rfl,rfl,rfl,trivial⟩,hQ,hS,hno (.inr hSy),hst,hsz,hb,hm1,hm2,rfl⟩
   refine Bm (congrArg (fun b=>Value.bool (!b)) hSy) rfl ?_
   have hcn:=cnt_set (S:=S') hyl hSy
   have hRJ':=hadd hyw
   refine Ae (Ac (Ab Ad rfl (Ab Ad rfl (Ab (Ba rfl rfl hyy (An rfl) hyl) rfl (Bc (AU (v:=.bool true) rfl rfl rfl (AH rfl) hcy (AQ hS)) rfl (Af (Aa ?_)))))))
   have hS2:=AC (o:=0+y.toNat) (u:=.bool true) hS
   rw[bools_set,Nat.zero_add] at hS2
   have hoM:∀j,j≠G→(wi.setCell ⟨G,0+y.toNat,none⟩ (.bool true)).heap[j]? =wi.heap[j]? :=fun j hj=>Below.heap_setCell _ _ _ _ hj
   have hbM:Below B w (wi.setCell ⟨G,0+y.toNat,none⟩ (.bool true)):=hb.setCell (by show B≤G;omega) _
   have hzM:=Bp (w:=wi) ⟨G,0+y.toNat,none⟩ (.bool true)
   rw[Nat.zero_add] at hoM hbM hzM
   change EC _ _ _ _ _ (wi.setCell ⟨G,0+y.toNat,none⟩ (.bool true))
   rw[Nat.zero_add]
   generalize wi.setCell ⟨G,y.toNat,none⟩ (.bool true)=ws at hS2 hoM hbM hzM ⊢
   have hQs:Qu ws (G+1) 3 v (q'.map (.int .i64)):=hQ.congr fun j e=>hoM j (by have:=hQ.lt j e;omega)
   refine Ac ?_
   have hBle:B≤ws.heap.size:=by omega
   refine Ab Ad rfl (Ab Ad rfl (Ab (Bo (v:=.int .i64 y) rfl rfl Tryz.underlying35 (by kernel_rfl) (z:=.int .i64 0) rfl) rfl (el_new (.cells #[.int .i64 y] 3) B (by omega) fun wt hN7 hO7 hZ7 hB7 hK7=>?_)))
   have hQt:Qu wt (G+1) 3 v (q'.map (.int .i64)):=hQs.congr fun j e=>hO7 j (hQs.lt j e).2
   have hlt:=hQt.lt
   have hq'l:q'.length≤1000:=by simp at hql;omega
   refine FA hQt (Am hN7 rfl) rfl (by rw[List.length_map];omega) (by decide) (by omega) Tryz.underlying35 Cb rfl rfl rfl rfl ?_
   intro v8 w8 hQ8 hgr8 _
   refine Ab Ah rfl (Af (Ap (Aa ?_)))
   have hS8:w8.heap[G]? =some (.cells (bools (fun x=>if x=y.toNat then true else S' x) f.blks.length) 4 (0,0)):=by
    rw[hgr8.block G (by omega) (fun e=>by have:=hlt G e.symm;omega),hO7 G (by omega)];exact hS2
   have hst8:∀j,j<G→w8.heap[j]? =wb.heap[j]? :=fun j hj=>by
    rw[hgr8.block j (by omega) (fun e=>by have:=hlt j e.symm;omega),hO7 j (by omega),hoM j (by omega)]
    exact hst j hj
   have hb8:Below B w w8:=(hbM.trans hB7).grown hgr8 (by omega) (fun j e=>by have:=hlt j e;omega)
   refine Ac (Ab (x_inc rfl rfl (by omega)) rfl (Ab Ad rfl (Af ?_)))
   exact Aw ((f.b z).succs.length - (k+1)) (by omega) ⟨_,v8,q' ++ [y],k+1,by omega,Ar rfl ⟨rfl,rfl,rfl,rfl,rfl,rfl,rfl,trivial⟩,by rw[List.map_append];exact hQ8,hS8,hRJ',hst8,by have:=hgr8.size;omega,hb8,by rw[List.length_append];show q'.length+1+_≤_;omega,by rw[List.length_append];show _+(q'.length+1)≤_;omega,rfl⟩
 rintro e wr ⟨S,v,⟨t,rfl⟩,hS,hRI,hb⟩
 refine Ae (Ac (Ab Ad rfl (Ab Ah rfl (Af (Aa (AE ?_))))))
 exact Az rfl rfl rfl ⟨G,S,rfl,by omega,hS,hRI.fin sh,by rw[hb1,← hBd];exact hb⟩
end Go.Proofs.YteepnepebilckaaGreatDoor
namespace Go.Proofs.YteepnepebilckaaGreatDoor
open Go Go.Eng
structure CInv (g:Gph) (r:Nat→Nat):Prop where
 closed:∀i,i<g.nv→∀a∈g.args i,a<g.nv
 copy:∀i,i<g.nv→g.op i=14→∃j,g.args i=[j]∧r j<r i
end Go.Proofs.YteepnepebilckaaGreatDoor
namespace Go.Proofs.YteepnepebilckaaGreatDoor
open Go Go.Eng Go.RowKit
set_option maxHeartbeats 4000000
attribute [local irreducible] EC EL DL Ret thenQ blockQ Bi bodyQ onlyN execOp Sem.run World.cell? World.frozen? World.setCell World.alloc
theorem Dv {B:Nat} {w:World} {p:Addr} {u:Value} (h:B≤p.block):Below B w (w.setCell p u):=(Below.refl B w).setCell h u
end Go.Proofs.YteepnepebilckaaGreatDoor
