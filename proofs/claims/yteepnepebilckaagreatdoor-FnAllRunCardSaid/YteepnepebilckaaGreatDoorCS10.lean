/- The law FnAllRun returns true for every input in which the opcode table reads as laid, and its arguments read as they did, the table being tied to the text of the program. -/
import Derived.Test.YteepnepebilckaaGreatDoorCS09
namespace Go.Proofs.YteepnepebilckaaGreatDoor
open Go Go.Eng Go.RowKit
def i32n (F:Nat→Nat):Nat→Value:=fun j=>.int .i32 ((F j:Nat):Int)
structure Scr (w:World) (b m:Nat) (a0 a1 a2 a3 a4 a5 a6:Nat→Nat):Prop where
 ex:∃F,w.heap[b]? =some (.cells (cellsOf (i32n F) (7 * m)) 88 (0,0))∧∀i,i<m→
  F (0 * m+i)=a0 i∧F (1 * m+i)=a1 i∧F (2 * m+i)=a2 i∧F (3 * m+i)=a3 i∧F (4 * m+i)=a4 i∧F (5 * m+i)=a5 i∧F (6 * m+i)=a6 i
def seg (b m k:Nat):Value:=.slice (some ⟨b,k * m,none⟩) m (7 * m - k * m)
section
variable {w w' : World} {b m : Nat} {a0 a1 a2 a3 a4 a5 a6 : Nat → Nat}
theorem Scr.free (h:Scr w b m a0 a1 a2 a3 a4 a5 a6) {o:Nat}:w.frozen? ⟨b,o,none⟩=false:=by
 obtain ⟨F,h1,_⟩:=h.ex
 exact AT h1
theorem Scr.stay (h:Scr w b m a0 a1 a2 a3 a4 a5 a6) (hk:w'.heap[b]? =w.heap[b]?):Scr w' b m a0 a1 a2 a3 a4 a5 a6:=by
 obtain ⟨F,h1,h2⟩:=h.ex
 exact ⟨F,hk.trans h1,h2⟩
theorem Scr.lt (h:Scr w b m a0 a1 a2 a3 a4 a5 a6):b<w.heap.size:=by
 obtain ⟨F,h1,_⟩:=h.ex
 exact (Array.getElem?_eq_some_iff.1 h1).1
theorem Scr.cell (h:Scr w b m a0 a1 a2 a3 a4 a5 a6) {i:Nat} (hi:i<m):
 w.cell? ⟨b,0 * m+i,none⟩=some (.int .i32 ((a0 i:Nat):Int))∧w.cell? ⟨b,1 * m+i,none⟩=some (.int .i32 ((a1 i:Nat):Int))∧w.cell? ⟨b,2 * m+i,none⟩=some (.int .i32 ((a2 i:Nat):Int))∧
 w.cell? ⟨b,3 * m+i,none⟩=some (.int .i32 ((a3 i:Nat):Int))∧w.cell? ⟨b,4 * m+i,none⟩=some (.int .i32 ((a4 i:Nat):Int))∧w.cell? ⟨b,5 * m+i,none⟩=some (.int .i32 ((a5 i:Nat):Int))∧
 w.cell? ⟨b,6 * m+i,none⟩=some (.int .i32 ((a6 i:Nat):Int)):=by
 obtain ⟨F,h1,h2⟩:=h.ex
 obtain ⟨e0,e1,e2,e3,e4,e5,e6⟩:=h2 i hi
 have key:∀j,j<7 * m→w.cell? ⟨b,j,none⟩=some (.int .i32 ((F j:Nat):Int)):=fun j hj=>Am h1 (Bd _ hj)
 refine ⟨?_,?_,?_,?_,?_,?_,?_⟩
 ·rw[key _ (by omega),e0]
 ·rw[key _ (by omega),e1]
 ·rw[key _ (by omega),e2]
 ·rw[key _ (by omega),e3]
 ·rw[key _ (by omega),e4]
 ·rw[key _ (by omega),e5]
 rw[key _ (by omega),e6]
theorem Scr.set (h:Scr w b m a0 a1 a2 a3 a4 a5 a6) {i:Nat} (hi:i<m) (v:Nat):
 Scr (w.setCell ⟨b,0 * m+i,none⟩ (.int .i32 (v:Int))) b m (LT.upd a0 i v) a1 a2 a3 a4 a5 a6∧
 Scr (w.setCell ⟨b,1 * m+i,none⟩ (.int .i32 (v:Int))) b m a0 (LT.upd a1 i v) a2 a3 a4 a5 a6∧
 Scr (w.setCell ⟨b,2 * m+i,none⟩ (.int .i32 (v:Int))) b m a0 a1 (LT.upd a2 i v) a3 a4 a5 a6∧
 Scr (w.setCell ⟨b,3 * m+i,none⟩ (.int .i32 (v:Int))) b m a0 a1 a2 (LT.upd a3 i v) a4 a5 a6∧
 Scr (w.setCell ⟨b,4 * m+i,none⟩ (.int .i32 (v:Int))) b m a0 a1 a2 a3 (LT.upd a4 i v) a5 a6∧
 Scr (w.setCell ⟨b,5 * m+i,none⟩ (.int .i32 (v:Int))) b m a0 a1 a2 a3 a4 (LT.upd a5 i v) a6∧
 Scr (w.setCell ⟨b,6 * m+i,none⟩ (.int .i32 (v:Int))) b m a0 a1 a2 a3 a4 a5 (LT.upd a6 i v):=by
 obtain ⟨F,h1,h2⟩:=h.ex
 have key:∀j,(w.setCell ⟨b,j,none⟩ (.int .i32 (v:Int))).heap[b]? =some (.cells (cellsOf (i32n (LT.upd F j v)) (7 * m)) 88 (0,0)):=fun j=>by
  have:=AD (o:=j) (u:=.int .i32 (v:Int)) h1
  rw[cellsOf_set] at this
  rw[this]
  congr 2
  refine BE fun x _=>?_
  show (if x=j then Value.int .i32 (v:Int) else i32n F x)= .int .i32 ((LT.upd F j v x:Nat):Int)
  unfold LT.upd i32n
  split <;> rfl
 have up:∀(a:Nat→Nat) (k x:Nat),F (k * m+x)=a x→LT.upd F (k * m+i) v (k * m+x)=LT.upd a i v x:=fun a k x e=>by
  unfold LT.upd
  by_cases e2:x=i
  ·rw[if_pos (by rw[e2]),if_pos e2]
  rw[if_neg (by omega),if_neg e2,e]
 have un:∀(a:Nat→Nat) (k l x:Nat),k * m+x≠l * m+i→F (k * m+x)=a x→LT.upd F (l * m+i) v (k * m+x)=a x:=fun a k l x hne e=>by
  unfold LT.upd;rw[if_neg hne,e]
 refine ⟨⟨_,key _,fun x hx=>?_⟩,⟨_,key _,fun x hx=>?_⟩,⟨_,key _,fun x hx=>?_⟩,⟨_,key _,fun x hx=>?_⟩,⟨_,key _,fun x hx=>?_⟩,⟨_,key _,fun x hx=>?_⟩,⟨_,key _,fun x hx=>?_⟩⟩ <;> obtain ⟨e0,e1,e2,e3,e4,e5,e6⟩:=h2 x hx
 ·exact ⟨up _ 0 x e0,un _ 1 0 x (by omega) e1,un _ 2 0 x (by omega) e2,un _ 3 0 x (by omega) e3,un _ 4 0 x (by omega) e4,un _ 5 0 x (by omega) e5,un _ 6 0 x (by omega) e6⟩
 ·exact ⟨un _ 0 1 x (by omega) e0,up _ 1 x e1,un _ 2 1 x (by omega) e2,un _ 3 1 x (by omega) e3,un _ 4 1 x (by omega) e4,un _ 5 1 x (by omega) e5,un _ 6 1 x (by omega) e6⟩
 ·exact ⟨un _ 0 2 x (by omega) e0,un _ 1 2 x (by omega) e1,up _ 2 x e2,un _ 3 2 x (by omega) e3,un _ 4 2 x (by omega) e4,un _ 5 2 x (by omega) e5,un _ 6 2 x (by omega) e6⟩
 ·exact ⟨un _ 0 3 x (by omega) e0,un _ 1 3 x (by omega) e1,un _ 2 3 x (by omega) e2,up _ 3 x e3,un _ 4 3 x (by omega) e4,un _ 5 3 x (by omega) e5,un _ 6 3 x (by omega) e6⟩
 ·exact ⟨un _ 0 4 x (by omega) e0,un _ 1 4 x (by omega) e1,un _ 2 4 x (by omega) e2,un _ 3 4 x (by omega) e3,up _ 4 x e4,un _ 5 4 x (by omega) e5,un _ 6 4 x (by omega) e6⟩
 ·exact ⟨un _ 0 5 x (by omega) e0,un _ 1 5 x (by omega) e1,un _ 2 5 x (by omega) e2,un _ 3 5 x (by omega) e3,un _ 4 5 x (by omega) e4,up _ 5 x e5,un _ 6 5 x (by omega) e6⟩
 exact ⟨un _ 0 6 x (by omega) e0,un _ 1 6 x (by omega) e1,un _ 2 6 x (by omega) e2,un _ 3 6 x (by omega) e3,un _ 4 6 x (by omega) e4,un _ 5 6 x (by omega) e5,up _ 6 x e6⟩
end
def VG (g:Gph) (v:Nat):Prop:=1≤v∧v≤g.nb
def SG (g:Gph) (v:Nat):List Nat:=(g.succs (v - 1)).map (· +1)
def Cz (num:Nat→Nat):Nat→Bool:=fun i=>decide (1≤num (i+1))
theorem Fu {num:Nat→Nat} {n b k:Nat} (hb:b<n) (h0:num (b+1)=0) (hk:1≤k):cnt (Cz (LT.upd num (b+1) k)) n+1=cnt (Cz num) n:=by
 rw[← cnt_set (S:=Cz num) hb (by unfold Cz;rw[h0];rfl)]
 congr 1
 refine cnt_congr fun i _=>?_
 unfold Cz LT.upd
 by_cases e:i=b
 ·subst e;simp [hk]
 simp [e]
theorem cnt_none {num:Nat→Nat} (h:∀v,num v=0):∀n,cnt (Cz num) n=n
 |0=>rfl
 |n+1=>by
  show cnt (Cz num) n+_=_
  rw[cnt_none h n,if_neg (by unfold Cz;rw[h];decide)]
def DS (g:Gph) (cn:Nat) (num vert par:Nat→Nat) (stk:List (Nat×Nat)):Prop:=
 (cn=0∧stk=[(1,0)]∧∀v,num v=0)∨(1≤cn∧LT.DI (VG g) (SG g) (fun v u=>u∈SG g v) cn num vert par stk)
def ptrs (L:Lay) (stk:List (Nat×Nat)):List Value:=stk.map fun x=>L.bp (x.1 - 1)
theorem VG.ex {g:Gph} {v:Nat} (h:VG g v):∃b,v=b+1∧b<g.nb:=⟨v - 1,by have:=h.1;omega,by have:=h.1;have:=h.2;omega⟩
theorem DS.top {g:Gph} {cn:Nat} {num vert par:Nat→Nat} {A:List (Nat×Nat)} {w q:Nat} (hn:1≤g.nb) (h:DS g cn num vert par (A ++ [(w,q)])):VG g w:=by
 rcases h with ⟨_,h2,_⟩|⟨_,h2⟩
 ·have:A ++ [(w,q)]=[] ++ [(1,0)]:=h2
  have:=List.append_inj_right' this rfl
  have:w=1:=by simpa using congrArg (·.map (·.1)) this
  subst this;exact ⟨Nat.le_refl _,hn⟩
 exact (h2.push (w,q) (by simp)).1
theorem DS.visit {g:Gph} {cn:Nat} {num vert par:Nat→Nat} {A:List (Nat×Nat)} {w q:Nat} (hn:1≤g.nb) (h:DS g cn num vert par (A ++ [(w,q)])) (hw:num w=0):
 LT.DI (VG g) (SG g) (fun v u=>v≠w∧u∈SG g v) (cn+1) (LT.upd num w (cn+1)) (LT.upd vert (cn+1) w) par A:=by
 rcases h with ⟨h1,h2,h3⟩|⟨h1,h2⟩
 ·have h2:A ++ [(w,q)]=[] ++ [(1,0)]:=h2
  have hA:=List.append_inj_left' h2 rfl
  have:=List.append_inj_right' h2 rfl
  have:w=1:=by simpa using congrArg (·.map (·.1)) this
  subst this;subst hA;subst h1
  exact LT.DI.start ⟨Nat.le_refl _,hn⟩ hn h3 fun w h=>h.1 rfl
 exact (h2.visit hw h1).1
set_option maxHeartbeats 4000000
attribute [local irreducible] EC EL DL Ret thenQ blockQ Bi bodyQ onlyN execOp Sem.run World.cell? World.frozen? World.setCell World.alloc
theorem dfs_ret {w0 w:World} {B0:Nat} {L:Lay} {g:Gph} {b:Nat} {vx:Value} (hg0:GRep w0 B0 L g) (hb0:Below w0.heap.size w0 w) (hbb:w0.heap.size≤b) (hn:1≤g.nb∧g.nb≤9)
 (hsu:∀x,x<g.nb→(g.succs x).length≤2∧∀s∈g.succs x,s<g.nb) (hs:Scr w b (g.nb+1) (fun _=>0) (fun _=>0) (fun _=>0) (fun _=>0) (fun _=>0) (fun _=>0) (fun _=>0)):
 Ret Tryz.prog 126 #[vx,L.bp 0,seg b (g.nb+1) 0,seg b (g.nb+1) 1,seg b (g.nb+1) 2,seg b (g.nb+1) 3] w fun v w'=>
  ∃cn num vert lab par,v= .int .i32 ((cn:Nat):Int)∧cn≤g.nb∧1≤cn∧Scr w' b (g.nb+1) num vert lab par (fun _=>0) (fun _=>0) (fun _=>0)∧
   LT.DI (VG g) (SG g) (fun v u=>u∈SG g v) cn num vert par []∧(∀v,1≤num v→lab v=v)∧Only (fun j=>j=b) w w':=by
 refine ret_of_EC Tryz.func126 rfl rfl ?_
 obtain ⟨m,hm⟩:∃m,m=g.nb+1:=⟨_,rfl⟩
 rw[← hm] at hs ⊢
 obtain ⟨B,hBd⟩:∃B,B=w.heap.size:=⟨_,rfl⟩
 have hbl:=hs.lt
 have hw0:=hb0.size
 refine Ae (Ac (Ab Ah rfl (Af (Aa (Ae (Ac (Ab Ah rfl (Af (Aa (Ae (Ac ?_)))))))))))
 refine Ab (x_make0 (n:=256) Tryz.underlying75 CZ rfl rfl (by omega) (by omega)) rfl (el_new (.cells (madeCells (Value.cells (.pointer none)) 256) 74) B (by omega) fun wa hN1 hO1 hZ1 hB1 hK1=>(Ab Ah rfl (Af (Aa ?_))))
 have hrow0:wa.ownsRow B 74 1 (.slice (some ⟨w.heap.size,0,none⟩) 0 256) 0 []:=⟨rfl,.inr ⟨w.heap.size,256,_,rfl,by omega,hN1,Nat.zero_le _,by unfold maxLen;omega,by simp [madeCells,Value.cells],by simp⟩⟩
 refine Ae (Ac ?_)
 have hBle:B≤wa.heap.size:=by omega
 refine Ab Ad rfl (Ab Ad rfl (Ab (Bp (v:=L.bp 0) rfl rfl Tryz.underlying75 (by kernel_rfl) (z:=.pointer none) rfl) rfl (el_new (.cells #[L.bp 0] 74) B (by omega) fun wb hN2 hO2 hZ2 hB2 hK2=>?_)))
 have hrow1:=AA hrow0 (w':=wb) fun k e=>hO2 k (Au hrow0 k e).2
 refine BC hrow1 (Am hN2 rfl) rfl (by omega) (by decide) (by omega) Tryz.underlying75 CZ rfl rfl rfl rfl ?_
 intro v3 w3 hrow3 hgr3 hwh3
 refine Ab Ah rfl (Af (Aa ?_))
 have hO3:Only (fun j=>j=b) w w3:=(((Only.refl _ w).bel (by omega) hB1).bel (by omega) hB2).grow hgr3 fun j e=>by have:=(Au hrow1 j e).1;omega
 have hs3:Scr w3 b m (fun _=>0) (fun _=>0) (fun _=>0) (fun _=>0) (fun _=>0) (fun _=>0) (fun _=>0):=hs.stay (by
  rw[hgr3.block b (by omega) (fun e=>by have:=(Au hrow1 b e.symm).1;omega),hO2 b (by omega),hO1 b (by omega)])
 have hrow3:w3.ownsRow B 74 1 v3 (ptrs L [(1,0)]).length (ptrs L [(1,0)]):=hrow3
 have hlenp:∀stk:List (Nat×Nat),(ptrs L stk).length=stk.length:=fun stk=>List.length_map ..
 refine Ae (Ap ?_)
 refine EC_loop (fun n e wr=>∃cn num vert lab par stk v,At e [(2,seg b m 0),(3,seg b m 1),(4,seg b m 2),(5,seg b m 3),(13,.int .i32 ((cn:Nat):Int)),(14,v)]∧wr.ownsRow B 74 1 v (ptrs L stk).length (ptrs L stk)∧
  Scr wr b m num vert lab par (fun _=>0) (fun _=>0) (fun _=>0)∧Only (fun j=>j=b) w wr∧DS g cn num vert par stk∧(∀v,1≤num v→lab v=v)∧cn+cnt (Cz num) g.nb=g.nb∧n=3 * cnt (Cz num) g.nb+stk.length∧n≤28) (3 * g.nb+1)
  ⟨0,_,_,_,_,[(1,0)],v3,Aq rfl ⟨rfl,rfl,rfl,rfl,rfl,rfl,trivial⟩,hrow3,hs3,hO3,.inl ⟨rfl,rfl,fun _=>rfl⟩,fun v h=>by simp at h,by rw[cnt_none fun _=>rfl];omega,by rw[cnt_none fun _=>rfl];rfl,by omega⟩ ?_
 rintro n e wr ⟨cn,num,vert,lab,par,stk,v,⟨t,rfl⟩,hrow,hs,hO,hD,hlab,hcn,hn1,hn2⟩
 refine Ae ?_
 obtain ⟨va,vc,rfl⟩:=BH hrow
 rw[hlenp] at hrow ⊢
 rcases List.eq_nil_or_concat stk with rfl|⟨stk,⟨u,q⟩,rfl⟩
 ·refine Ae (Ac (Ab Ad rfl (Ab (AM rfl (An rfl)) rfl (Ab (BF rfl rfl) rfl (Af (Aa ?_))))))
  refine AF rfl rfl (fun hp=>absurd (show (0:Int)<((0:Nat):Int) from hp) (by decide)) (fun _=>?_)
  refine AJ (Az (AB (Ay (Aa (Ae (Ac (Ab Ad rfl (Ab Ah rfl (Af (Aa (AC ?_)))))))))))
  rcases hD with ⟨_,h2,_⟩|⟨h1,h2⟩
  ·cases h2
  exact Ax rfl rfl rfl ⟨cn,num,vert,lab,par,rfl,by omega,h1,hs,h2,hlab,hO⟩
 simp only [List.concat_eq_append] at hrow hD hn1 ⊢
 have hl:(stk ++ [(u,q)]).length=stk.length+1:=by rw[List.length_append];rfl
 obtain ⟨x,rfl,hx⟩:=(hD.top hn.1).ex
 have hgr:∀W,Only (fun j=>j=b) w W→GRep W B0 L g:=fun W h=>hg0.on (hb0.trans (h.below hw0 (fun j e=>e ▸ hbb)))
 have hid:∀W,Only (fun j=>j=b) w W→∀x,x<g.nb→W.cell? ⟨L.bb x,0+0,none⟩=some (.int .i32 ((x+1:Nat):Int)):=fun W h x hx=>(hgr W h).bID hx
 have hxm:x+1<m:=by omega
 have hpa:ptrs L (stk ++ [(x+1,q)])=ptrs L stk ++ [L.bp x]:=List.map_append ..
 obtain ⟨g6,c6,hva,hg6,hg6s,hg6c,hg6e⟩:=row_form (k:=stk.length) (by rw[hlenp];exact hrow) (by rw[hlenp];omega)
 rw[hlenp] at hva hg6c
 injection hva with hva1 hva2 hva3
 subst hva1
 subst hva3
 have hg6e:wr.cell? ⟨g6,0+stk.length,none⟩=some (L.bp x):=by
  rw[hg6e]
  congr 1
  simp [ptrs]
 have hrowp:wr.ownsRow B 74 1 (.slice (some ⟨g6,0,none⟩) stk.length vc) (ptrs L stk).length (ptrs L stk):=by
  have e1:(stk ++ [(x+1,q)]).length=(ptrs L stk ++ [L.bp x]).length:=by rw[hl,List.length_append,hlenp];rfl
  rw[hpa,e1] at hrow
  have h2:=row_pop hrow
  rwa [hlenp] at h2 ⊢
 have hcx:=hs.cell hxm
 have hidr:=hid wr hO x hx
 refine Ae (Ac (Ab Ad rfl (Ab (AM rfl (An rfl)) rfl (Ab (BF rfl rfl) rfl (Af (Aa ?_))))))
 refine AF rfl rfl (fun _=>?_) (fun hp=>absurd (show (0:Int)<(((stk ++ [(x+1,q)]).length:Nat):Int) from by omega) hp)
 refine Ar (Aa (Ap (Ae (Ac (Ab Ad rfl (Ab Ad rfl (Ab (AM rfl (An rfl)) rfl (Ab (CX (c:=(stk.length:Int)) rfl rfl (by rw[hl,IntWalk.i64_in _ (by omega)];omega)) rfl ?_))))))))
 refine Ab (x_index1 (i:=stk.length) rfl rfl (An rfl) (by omega)) rfl (Ab (Ai rfl (Ag rfl) ‹_›) rfl ?_)
 refine Ab Ah rfl (Af (Aa (Ae (Ac (Ab Ad rfl (Ab Ad rfl (Ab (AM rfl (An rfl)) rfl (Ab (CX (c:=(stk.length:Int)) rfl rfl (by rw[hl,IntWalk.i64_in _ (by omega)];omega)) rfl ?_))))))))
 refine Ab (x_sliceK (k:=stk.length) Tryz.underlying75 CZ rfl rfl (by omega)) rfl (Ab Ah rfl (Af (Aa (Ae (Ae (Ac ?_))))))
 have hc0:=hcx.1
 refine Ab Ad rfl (Ab Ad rfl (Ab (Aw rfl) rfl (Ab (Ak rfl (Al rfl)) rfl (Ab (Ai rfl (Ag rfl) ‹_›) rfl ?_))))
 refine Ab (x_index1 rfl rfl (An rfl) (by omega)) rfl (Ab (Ai rfl (Ag rfl) ‹_›) rfl ?_)
 refine Ab (Bx rfl rfl) rfl (Af (Aa ?_))
 by_cases hvis:num (x+1)=0
 ·refine Bj (congrArg Value.bool (decide_eq_false (fun h=>h (by rw[hvis];rfl)))) rfl ?_
  refine Ar (Aa (BW [(2,seg b m 0),(3,seg b m 1),(4,seg b m 2),(5,seg b m 3),(13,.int .i32 ((cn:Nat):Int)),(14,.slice (some ⟨g6,0,none⟩) stk.length vc),(15,L.bp x)] rfl ⟨rfl,rfl,rfl,rfl,rfl,rfl,rfl,trivial⟩ fun t=>?_))
  have hvisit:=hD.visit hn.1 hvis
  have hcnt:=Fu (num:=num) (k:=cn+1) hx hvis (by omega)
  have hcm:cn+1<m:=by omega
  refine Ae (Ac (Ab Ad rfl (Ab (Cs (c:=((cn+1:Nat):Int)) rfl rfl (by rw[IntWalk.i32_in _ (by omega)];omega)) rfl ?_)))
  refine Ab Ah rfl (Af (Aa (Ae (Ac (Ab Ad rfl (Ab Ad rfl (Ab (Aw rfl) rfl (Ab (Ak rfl (Al rfl)) rfl (Ab (Ai rfl (Ag rfl) ‹_›) rfl ?_)))))))))
  refine Ab Ad rfl (Ab (x_index1 rfl rfl (An rfl) (by omega)) rfl (Bb (AV rfl rfl rfl (AK rfl) hc0 hs.free) rfl (Af (Aa ?_))))
  have hs1:=(hs.set hxm (cn+1)).1
  have hO1:=hO.set (o:=0 * m+(x+1)) (.int .i32 ((cn+1:Nat):Int)) (rfl:b=b)
  have hrow1:=AA hrowp (w':=wr.setCell ⟨b,0 * m+(x+1),none⟩ (.int .i32 ((cn+1:Nat):Int))) fun k e=>Below.heap_setCell _ _ _ _ (fun e2=>by have:=(Au hrowp k e).1;have e2:k=b:=e2;omega)
  change EC _ _ _ _ _ (wr.setCell ⟨b,0 * m+(x+1),none⟩ (.int .i32 ((cn+1:Nat):Int)))
  generalize wr.setCell ⟨b,0 * m+(x+1),none⟩ (.int .i32 ((cn+1:Nat):Int))=w1 at hs1 hO1 hrow1 ⊢
  refine BW [(2,seg b m 0),(3,seg b m 1),(4,seg b m 2),(5,seg b m 3),(13,.int .i32 ((cn+1:Nat):Int)),(14,.slice (some ⟨g6,0,none⟩) stk.length vc),(15,L.bp x)] rfl ⟨rfl,rfl,rfl,rfl,rfl,rfl,rfl,trivial⟩ fun t=>?_
  have hid1:=hid w1 hO1 x hx
  have hc1:=(hs1.cell hcm).2.1
  refine Ae (Ac (Ab Ad rfl (Ab Ad rfl (Ab Ad rfl (Ab (Aw rfl) rfl (Ab (Ak rfl (Al rfl)) rfl (Ab (Ai rfl (Ag rfl) ‹_›) rfl ?_)))))))
  refine Ab (x_index1 rfl rfl (An rfl) (by omega)) rfl (Bb (AV rfl rfl rfl (AK rfl) hc1 hs1.free) rfl (Af (Aa ?_)))
  have hs2:=(hs1.set hcm (x+1)).2.1
  have hO2:=hO1.set (o:=1 * m+(cn+1)) (.int .i32 ((x+1:Nat):Int)) (rfl:b=b)
  have hrow2:=AA hrow1 (w':=w1.setCell ⟨b,1 * m+(cn+1),none⟩ (.int .i32 ((x+1:Nat):Int))) fun k e=>Below.heap_setCell _ _ _ _ (fun e2=>by have:=(Au hrowp k e).1;have e2:k=b:=e2;omega)
  change EC _ _ _ _ _ (w1.setCell ⟨b,1 * m+(cn+1),none⟩ (.int .i32 ((x+1:Nat):Int)))
  generalize w1.setCell ⟨b,1 * m+(cn+1),none⟩ (.int .i32 ((x+1:Nat):Int))=w2 at hs2 hO2 hrow2 ⊢
  refine BW [(2,seg b m 0),(3,seg b m 1),(4,seg b m 2),(5,seg b m 3),(13,.int .i32 ((cn+1:Nat):Int)),(14,.slice (some ⟨g6,0,none⟩) stk.length vc),(15,L.bp x)] rfl ⟨rfl,rfl,rfl,rfl,rfl,rfl,rfl,trivial⟩ fun t=>?_
  have hid2:=hid w2 hO2 x hx
  have hc2:=(hs2.cell hxm).2.2.1
  refine Ae ?_
  have hcd:Cells [(⟨L.bb x,0+0,none⟩,.int .i32 ((x+1:Nat):Int))] w2.drew:=(Keep.drew w2).cells (.cons hid2 (.nil _))
  refine AX mixed _ [(0,false),(1,false),(2,false),(3,false),(4,false),(5,false),(6,false),(7,false),(8,false),(9,false),(10,true)] (by kernel_rfl) hcd ?_
  have hs2d:Scr w2.drew b m _ _ _ _ _ _ _:=hs2.stay rfl
  have hc2d:=(Keep.drew w2) _ _ hc2
  have hO2d:=hO2.drew
  have hrow2d:=AA hrow2 (w':=w2.drew) fun _ _=>rfl
  generalize w2.drew=w2d at hcd hs2d hc2d hO2d hrow2d ⊢
  refine Aj rfl (fun _ _=>Ad) (Aj rfl (fun _ _=>Ad) (Aj rfl (fun _ _=>Aw rfl) (Aj rfl (fun _ _=>Ak rfl (Al rfl)) (Aj rfl (fun _ hS=>Ai rfl (Ag rfl) (hS.get (by first|exact mm0|exact mm1|exact mm2|exact mm3|exact mm4|exact mm5|exact mm6|exact mm7))) ?_))))
  refine Aj rfl (fun _ _=>Ad) (Aj rfl (fun _ _=>Aw rfl) (Aj rfl (fun _ _=>Ak rfl (Al rfl)) (Aj rfl (fun _ hS=>Ai rfl (Ag rfl) (hS.get (by first|exact mm0|exact mm1|exact mm2|exact mm3|exact mm4|exact mm5|exact mm6|exact mm7))) ?_)))
  refine Aj rfl (fun _ _=>x_index1 rfl rfl (An rfl) (by omega)) (BR rfl (AV rfl rfl rfl (AK rfl) hc2d hs2d.free) (.inl rfl) (AP (Aa (BW [(2,seg b m 0),(3,seg b m 1),(4,seg b m 2),(5,seg b m 3),(13,.int .i32 ((cn+1:Nat):Int)),(14,.slice (some ⟨g6,0,none⟩) stk.length vc),(15,L.bp x)] rfl ⟨rfl,rfl,rfl,rfl,rfl,rfl,rfl,trivial⟩ fun t=>?_))))
  have hs3:=(hs2d.set hxm (x+1)).2.2.1
  have hO3:=hO2d.set (o:=2 * m+(x+1)) (.int .i32 ((x+1:Nat):Int)) (rfl:b=b)
  have hrow3:=AA hrow2d (w':=w2d.setCell ⟨b,2 * m+(x+1),none⟩ (.int .i32 ((x+1:Nat):Int))) fun k e=>Below.heap_setCell _ _ _ _ (fun e2=>by have:=(Au hrowp k e).1;have e2:k=b:=e2;omega)
  change EC _ _ _ _ _ (w2d.setCell ⟨b,2 * m+(x+1),none⟩ (.int .i32 ((x+1:Nat):Int)))
  generalize w2d.setCell ⟨b,2 * m+(x+1),none⟩ (.int .i32 ((x+1:Nat):Int))=w3 at hs3 hO3 hrow3 ⊢
  obtain ⟨sa,sc,hsl⟩:=(hgr w3 hO3).succsV hx
  have hfs:=(hgr w3 hO3).bSuccs hx
  rw[hsl] at hfs
  refine Ae (Ac (Ab Ad rfl (Ab (Aw rfl) rfl (Ab (Ak rfl (Al rfl)) rfl (Ab (Ai rfl (Ag rfl) ‹_›) rfl ?_)))))
  refine Ab (AM rfl (An rfl)) rfl (Ab Ad rfl (Af (Aa ?_)))
  have hlab3:∀v,1≤LT.upd num (x+1) (cn+1) v→LT.upd lab (x+1) (x+1) v=v:=fun v hv=>by
   unfold LT.upd at hv ⊢
   by_cases e:v=x+1
   ·rw[if_pos e];exact e.symm
   rw[if_neg e] at hv ⊢;exact hlab v hv
  have hvt:LT.upd vert (cn+1) (x+1) (cn+1)=x+1:=LT.upd_same ..
  obtain ⟨hsl2,hsn⟩:=hsu x hx
  have hSG:(SG g (x+1)).length=(g.succs x).length:=List.length_map ..
  generalize LT.upd num (x+1) (cn+1)=num3 at hs3 hvisit hcnt hlab3 ⊢
  generalize LT.upd vert (cn+1) (x+1)=vert3 at hs3 hvisit hvt ⊢
  generalize LT.upd lab (x+1) (x+1)=lab3 at hs3 hlab3 ⊢
  refine Ap ?_
  refine EC_loop (fun n2 e wi=>∃par stk' v' k,k≤(g.succs x).length∧At e [(2,seg b m 0),(3,seg b m 1),(4,seg b m 2),(5,seg b m 3),(13,.int .i32 ((cn+1:Nat):Int)),(14,v'),(15,L.bp x),(75,.slice sa (g.succs x).length sc),(76,.int .i64 ((g.succs x).length:Int)),(77,.int .i64 (k:Int))]∧
   wi.ownsRow B 74 1 v' (ptrs L stk').length (ptrs L stk')∧Scr wi b m num3 vert3 lab3 par (fun _=>0) (fun _=>0) (fun _=>0)∧Only (fun j=>j=b) w wi∧
   LT.DI (VG g) (SG g) (fun v u=>u∈SG g v∧(v=x+1→u∈(SG g (x+1)).take k)) (cn+1) num3 vert3 par stk'∧stk'.length≤stk.length+k∧n2=(g.succs x).length - k) (g.succs x).length
   ⟨par,stk,_,0,Nat.zero_le _,Aq rfl ⟨rfl,rfl,rfl,rfl,rfl,rfl,rfl,rfl,rfl,rfl,trivial⟩,hrow3,hs3,hO3,hvisit.mono fun v u h1 h2 ⟨h3,h4⟩=>⟨fun e=>by have:=h4 e;simp at this,h3⟩,Nat.le_refl _,rfl⟩ ?_
  rintro n2 e wi ⟨par,stk',v',k,hk,⟨t,rfl⟩,hrow,hs,hO,hDI,hlen2,rfl⟩
  refine Ae (Ac (Ab (AY rfl rfl) rfl (Af (Aa (Ae ?_)))))
  refine AF rfl rfl (fun hlk=>?_) (fun hge=>?_)
  rotate_left
  ·have hk:k=(g.succs x).length:=by omega
   subst hk
   refine AJ (Az (AB (Ay (Ao ?_))))
   refine Av (3 * cnt (Cz num3) g.nb+stk'.length) (by omega) ⟨cn+1,_,_,_,_,stk',v',Aq rfl ⟨rfl,rfl,rfl,rfl,rfl,rfl,trivial⟩,hrow,hs,hO,.inr ⟨by omega,hDI.mono fun v u h1 h2 h3=>⟨h3,fun e=>?_⟩⟩,hlab3,by omega,rfl,by omega⟩
   rw[← hSG,List.take_length]
   exact e ▸ h3
  have hlk:k<(g.succs x).length:=by omega
  refine Ar (Aa (Ae (Ap ?_)))
  obtain ⟨eb,ec,hse,_,hce,_⟩:=(hgr wi hO).succsE hx hlk
  rw[hsl] at hse
  injection hse with e1 e2 e3
  subst e1
  have hy:(g.succs x).getD k 0<g.nb:=hsn _ (Bh hlk)
  have hyk:(SG g (x+1)).take (k+1)=(SG g (x+1)).take k ++ [(g.succs x).getD k 0+1]:=by
   have h1:k<(SG g (x+1)).length:=by rw[hSG];exact hlk
   rw[List.take_add_one,List.getElem?_eq_getElem h1]
   simp only [Option.toList_some]
   congr 2
   simp [SG,List.getD,hlk]
  have hySG:(g.succs x).getD k 0+1∈SG g (x+1):=List.mem_map.2 ⟨_,Bh hlk,rfl⟩
  generalize (g.succs x).getD k 0=y at hce hy hyk hySG
  have hce':CellsAt wi eb (0+k) [L.bp y]:=fun j u hj=>by
   cases j with
   |zero=>simp at hj;subst hj;exact hce
   |succ j=>simp at hj
  refine Ae (Ac (Ab (x_index1 (i:=k) rfl rfl (An rfl) hlk) rfl (Ab (A0 (cs:=[L.bp y]) rfl (AU rfl) hce') rfl (Ab (A9 D0) rfl (Bb (Be rfl rfl (A7 rfl) rfl rfl) rfl (Af (Aa ?_)))))))
  have hBle:B≤wi.heap.size:=by have:=hO.size;omega
  refine ec_new (.cells #[L.bp y] 103) B (by omega) fun wj hN7 hO7 hZ7 hB7 hK7=>?_
  have hOj:=hO.bel (Nat.le_of_eq hBd.symm) hB7
  have hsj:=hs.stay (hO7 b (by have:=hO.size;omega))
  have hrowj:=AA hrow (w':=wj) fun j e=>hO7 j (Au hrow j e).2
  have hcj:wj.cell? ⟨wi.heap.size,0+0,none⟩=some (L.bp y):=Am hN7 rfl
  have hym:y+1<m:=by omega
  have hcy:=(hsj.cell hym).1
  have hidy:=hid wj hOj y hy
  refine Ae (Ac (Ab (Ak rfl (Al rfl)) rfl (Ab (Ai rfl (Ag rfl) ‹_›) rfl ?_)))
  refine Ab Ah rfl (Af (Aa (Ae (Ac (Ab Ad rfl (Ab Ad rfl (Ab (Aw rfl) rfl (Ab (Ak rfl (Al rfl)) rfl (Ab (Ai rfl (Ag rfl) ‹_›) rfl ?_)))))))))
  refine Ab (x_index1 rfl rfl (An rfl) (by omega)) rfl (Ab (Ai rfl (Ag rfl) ‹_›) rfl ?_)
  refine Ab (A6 rfl rfl) rfl (Af (Aa ?_))
  by_cases hsy:num3 (y+1)=0
  ·refine Bn (congrArg Value.bool (decide_eq_true (by rw[hsy];rfl))) rfl ?_
   have hbj:B≤wj.heap.size:=by have:=hOj.size;omega
   refine Ae (Ac ?_)
   have hBle:B≤wj.heap.size:=hbj
   refine Ab Ad rfl (Ab Ad rfl (Ab (Bp (v:=L.bp y) rfl rfl Tryz.underlying75 (by kernel_rfl) (z:=.pointer none) rfl) rfl (el_new (.cells #[L.bp y] 74) B (by omega) fun wk hN8 hO8 hZ8 hB8 hK8=>?_)))
   have hOk:=hOj.bel (Nat.le_of_eq hBd.symm) hB8
   have hsk:=hsj.stay (hO8 b (by have:=hOj.size;omega))
   have hrowk:=AA hrowj (w':=wk) fun j e=>hO8 j (Au hrowj j e).2
   have hlowk:=Au hrowk
   rw[hlenp] at hrowk
   refine BC hrowk (Am hN8 rfl) rfl (by omega) (by decide) (by omega) Tryz.underlying75 CZ rfl rfl rfl rfl ?_
   intro v9 w9 hrow9 hgr9 _
   refine Ab Ah rfl (Af (Aa (BW [(2,seg b m 0),(3,seg b m 1),(4,seg b m 2),(5,seg b m 3),(13,.int .i32 ((cn+1:Nat):Int)),(14,v9),(15,L.bp x),(18,L.bp y),(75,.slice (some ⟨eb,0,none⟩) (g.succs x).length sc),(76,.int .i64 ((g.succs x).length:Int)),(77,.int .i64 (k:Int))] rfl ⟨rfl,rfl,rfl,rfl,rfl,rfl,rfl,rfl,rfl,rfl,rfl,trivial⟩ fun t=>?_)))
   have hO9:=hOk.grow hgr9 fun j e=>by have:=(hlowk j e).1;omega
   have hs9:=hsk.stay (hgr9.block b (by have:=hOk.size;omega) (fun e=>by have:=(hlowk b e.symm).1;omega))
   have hrow9:w9.ownsRow B 74 1 v9 (ptrs L (stk' ++ [(y+1,x+1)])).length (ptrs L (stk' ++ [(y+1,x+1)])):=by
    have e1:ptrs L (stk' ++ [(y+1,x+1)])=ptrs L stk' ++ [L.bp y]:=List.map_append ..
    rw[e1,List.length_append,hlenp];exact hrow9
   have hidx9:=hid w9 hO9 x hx
   have hidy9:=hid w9 hO9 y hy
   have hcd:Cells [(⟨L.bb x,0+0,none⟩,.int .i32 ((x+1:Nat):Int)),(⟨L.bb y,0+0,none⟩,.int .i32 ((y+1:Nat):Int))] w9.drew:=(Keep.drew w9).cells (.cons hidx9 (.cons hidy9 (.nil _)))
   refine AX mixed _ [(0,false),(1,false),(2,false),(3,false),(4,false),(5,false),(6,false),(7,false),(8,false),(9,false),(10,true)] (by kernel_rfl) hcd ?_
   have hsd:Scr w9.drew b m _ _ _ _ _ _ _:=hs9.stay rfl
   have hOd:=hO9.drew
   have hrowd:=AA hrow9 (w':=w9.drew) fun _ _=>rfl
   generalize w9.drew=wd at hcd hsd hOd hrowd ⊢
   have hc3:=(hsd.cell hym).2.2.2.1
   refine Aj rfl (fun _ _=>Ad) (Aj rfl (fun _ _=>Ad) (Aj rfl (fun _ _=>Aw rfl) (Aj rfl (fun _ _=>Ak rfl (Al rfl)) (Aj rfl (fun _ hS=>Ai rfl (Ag rfl) (hS.get (by first|exact mm0|exact mm1|exact mm2|exact mm3|exact mm4|exact mm5|exact mm6|exact mm7))) ?_))))
   refine Aj rfl (fun _ _=>Ad) (Aj rfl (fun _ _=>Aw rfl) (Aj rfl (fun _ _=>Ak rfl (Al rfl)) (Aj rfl (fun _ hS=>Ai rfl (Ag rfl) (hS.get (by first|exact mm0|exact mm1|exact mm2|exact mm3|exact mm4|exact mm5|exact mm6|exact mm7))) ?_)))
   refine Aj rfl (fun _ _=>x_index1 rfl rfl (An rfl) (by omega)) (BR rfl (AV rfl rfl rfl (AK rfl) hc3 hsd.free) (.inl rfl) (AP (Ao (Aa (BW [(2,seg b m 0),(3,seg b m 1),(4,seg b m 2),(5,seg b m 3),(13,.int .i32 ((cn+1:Nat):Int)),(14,v9),(15,L.bp x),(75,.slice (some ⟨eb,0,none⟩) (g.succs x).length sc),(76,.int .i64 ((g.succs x).length:Int)),(77,.int .i64 (k:Int))] rfl ⟨rfl,rfl,rfl,rfl,rfl,rfl,rfl,rfl,rfl,rfl,trivial⟩ fun t=>?_)))))
   have hsf:=(hsd.set hym (x+1)).2.2.2.1
   have hOf:=hOd.set (o:=3 * m+(y+1)) (.int .i32 ((x+1:Nat):Int)) (rfl:b=b)
   have hrowf:=AA hrowd (w':=wd.setCell ⟨b,3 * m+(y+1),none⟩ (.int .i32 ((x+1:Nat):Int))) fun k e=>Below.heap_setCell _ _ _ _ (fun e2=>by have:=(Au hrowd k e).1;have e2:k=b:=e2;omega)
   change EC _ _ _ _ _ (wd.setCell ⟨b,3 * m+(y+1),none⟩ (.int .i32 ((x+1:Nat):Int)))
   generalize wd.setCell ⟨b,3 * m+(y+1),none⟩ (.int .i32 ((x+1:Nat):Int))=wf at hsf hOf hrowf ⊢
   refine Ac (Ab (x_inc rfl rfl (by omega)) rfl (Ab Ad rfl (Af ?_)))
   refine Av ((g.succs x).length - (k+1)) (by omega) ⟨_,_,v9,k+1,by omega,Aq rfl ⟨rfl,rfl,rfl,rfl,rfl,rfl,rfl,rfl,rfl,rfl,trivial⟩,hrowf,hsf,hOf,
    hDI.pushed hvt (by omega) hsy ⟨by omega,by omega⟩ hySG fun v u h1 h2 ⟨h3,h4⟩=>?_,by rw[List.length_append];show stk'.length+1≤_;omega,rfl⟩
   by_cases e:v=x+1
   ·have h5:=h4 e
    rw[hyk] at h5
    rcases List.mem_append.1 h5 with h6|h6
    ·exact .inl ⟨h3,fun _=>h6⟩
    exact .inr ⟨e,by simpa using h6⟩
   exact .inl ⟨h3,fun h=>absurd h e⟩
  refine Bj (congrArg Value.bool (decide_eq_false (fun h=>hsy (by have h:((num3 (y+1):Nat):Int)=0:=h;omega)))) rfl (Ar (Ao (Aa (Ac (Ab (x_inc rfl rfl (by omega)) rfl (Ab Ad rfl (Af ?_)))))))
  refine Av ((g.succs x).length - (k+1)) (by omega) ⟨_,_,v',k+1,by omega,Aq rfl ⟨rfl,rfl,rfl,rfl,rfl,rfl,rfl,rfl,rfl,rfl,trivial⟩,hrowj,hsj,hOj,hDI.mono fun v u h1 h2 ⟨h3,h4⟩=>⟨h3,fun e=>?_⟩,by omega,rfl⟩
  have h5:=h4 e
  rw[hyk] at h5
  rcases List.mem_append.1 h5 with h6|h6
  ·exact h6
  have:u=y+1:=by simpa using h6
  subst this
  exact absurd h2 hsy
 refine Bn (congrArg Value.bool (decide_eq_true (fun h=>hvis (by have h:((num (x+1):Nat):Int)=0:=h;omega)))) rfl (AJ (Az (Ay ?_)))
 refine Av (3 * cnt (Cz num) g.nb+stk.length) (by omega) ⟨cn,num,vert,lab,par,stk,_,Aq rfl ⟨rfl,rfl,rfl,rfl,rfl,rfl,trivial⟩,hrowp,hs,hO,?_,hlab,hcn,rfl,by omega⟩
 rcases hD with ⟨_,_,h3⟩|⟨h1,h2⟩
 ·exact absurd (h3 _) hvis
 exact .inr ⟨h1,h2.pop (by omega)⟩
end Go.Proofs.YteepnepebilckaaGreatDoor
namespace Go.Proofs.YteepnepebilckaaGreatDoor
open Go Go.Eng Go.RowKit
section
variable {V : Nat → Prop} {S : Nat → List Nat} {num par : Nat → Nat} {i : Nat} {sd a lab : Nat → Nat}
structure Cmp (V:Nat→Prop) (num par:Nat→Nat) (i:Nat) (sd a lab:Nat→Nat) (v:Nat) (a' lab':Nat→Nat):Prop where
 al:LT.AL V num par i sd a' lab'
 root:num (a' v)≤i
 out:∀u,V u→num v<num u→a' u=a u∧lab' u=lab u
end
set_option maxHeartbeats 4000000
attribute [local irreducible] EC EL DL Ret thenQ blockQ Bi bodyQ onlyN execOp Sem.run World.cell? World.frozen? World.setCell World.alloc
theorem compress_ret {b m:Nat} {V:Nat→Prop} {S:Nat→List Nat} {num par:Nat→Nat} {i:Nat} {sd vx px hh lx:Nat→Nat} (hd:LT.Dfs V S 1 num par) (hV:∀v,V v→1≤v∧v<m):
 ∀(n:Nat) (w:World) (a lab:Nat→Nat) (v:Nat),num v=n→V v→i<num v→Scr w b m sd vx lab px a hh lx→LT.AL V num par i sd a lab→
 Ret Tryz.prog 135 #[.int .i32 ((v:Nat):Int),seg b m 4,seg b m 0,seg b m 2] w fun _ w'=>∃a' lab',Scr w' b m sd vx lab' px a' hh lx∧Cmp V num par i sd a lab v a' lab'∧Only (fun j=>j=b) w w':=by
 intro n
 induction n using Nat.strongRecOn with
 |ind n ih=>
 intro w a lab v hnv hv hi hs hal
 refine ret_of_EC Tryz.func135 rfl rfl ?_
 obtain ⟨h1,h2,h3,h4,h5,h6⟩:=hal.lnk v hv hi
 have hvm:=hV v hv
 have ham:=hV _ h1
 have hcv:=hs.cell hvm.2
 have hca:=hs.cell ham.2
 have c4v:=hcv.2.2.2.2.1
 have c4a:=hca.2.2.2.2.1
 refine Ae (Ac (Ab Ad rfl (Ab Ad rfl (Ab Ad rfl (Ab (x_index1 rfl rfl (An rfl) (by omega)) rfl (Ab (Ai rfl (Ag rfl) ‹_›) rfl ?_))))))
 refine Ab (x_index1 rfl rfl (An rfl) (by omega)) rfl (Ab (Ai rfl (Ag rfl) ‹_›) rfl ?_)
 refine Ab (Bx rfl rfl) rfl (Af (Aa ?_))
 by_cases hroot:a (a v)=0
 ·refine Bj (congrArg Value.bool (decide_eq_false (fun h=>h (by rw[hroot];rfl)))) rfl ?_
  refine Ar ?_
  refine Bw rfl rfl ⟨a,lab,hs,⟨hal,?_,fun _ _ _=>⟨rfl,rfl⟩⟩,Only.refl _ w⟩
  rcases Nat.lt_or_ge i (num (a v)) with k|k
  ·have:=(hV _ (hal.lnk _ h1 k).1).1
   omega
  exact k
 refine Bn (congrArg Value.bool (decide_eq_true (fun h=>hroot (by have h:((a (a v):Nat):Int)=0:=h;omega)))) rfl ?_
 have hx:i<num (a v):=by
  rcases Nat.lt_or_ge i (num (a v)) with k|k
  ·exact k
  exact absurd (hal.unl _ h1 k) hroot
 refine Ae (Ac (Ab Ad rfl (Ab Ad rfl (Ab (x_index1 rfl rfl (An rfl) (by omega)) rfl (Ab (Ai rfl (Ag rfl) ‹_›) rfl ?_)))))
 refine Ab Ad rfl (Ab Ad rfl (Ab Ad rfl (Bc (AG Tryz.func135 rfl rfl rfl rfl) rfl (ih (num (a v)) (by omega) w a lab (a v) rfl h1 hx hs hal) ?_)))
 rintro _ w1 ⟨a1,lab1,hs1,hc1,hO1⟩
 refine Af (Aa ?_)
 obtain ⟨e1,e2⟩:=hc1.out v hv h3
 have hlv:=(hd.le hv h4).1
 obtain ⟨k1,k2,k3,k4,k5,k6⟩:=hc1.al.lnk _ h1 hx
 have hla:=(hd.le h1 k4).1
 have hsq:=hc1.al.squeeze hd hv hi (by rw[e1];exact hx)
 rw[e1,e2] at hsq
 have c4v:=(hs1.cell hvm.2).2.2.2.2.1
 rw[e1] at c4v
 have c2v:=(hs1.cell hvm.2).2.2.1
 rw[e2] at c2v
 have c2a:=(hs1.cell ham.2).2.2.1
 have c0l:=(hs1.cell (hV _ hlv).2).1
 have c0a:=(hs1.cell (hV _ hla).2).1
 have c4a:=(hs1.cell ham.2).2.2.2.2.1
 have ham2:=ham.2
 have hvm2:=hvm.2
 have hlm:=(hV _ hlv).2
 have hlm2:=(hV _ hla).2
 have hroot1:=hc1.root
 refine BW [(0,.int .i32 ((v:Nat):Int)),(1,seg b m 4),(2,seg b m 0),(3,seg b m 2)] rfl ⟨rfl,rfl,rfl,rfl,trivial⟩ fun t=>?_
 refine A4 (fun e w3=>At e [(0,.int .i32 ((v:Nat):Int)),(1,seg b m 4),(2,seg b m 0),(3,seg b m 2)]∧Scr w3 b m sd vx (LT.upd lab1 v (if sd (lab1 (a v))<sd (lab v) then lab1 (a v) else lab v)) px a1 hh lx∧Only (fun j=>j=b) w w3) ?_ ?_
 ·refine Ae ?_
  have hcd:Cells [(⟨b,4 * m+v,none⟩,.int .i32 ((a v:Nat):Int)),(⟨b,2 * m+a v,none⟩,.int .i32 ((lab1 (a v):Nat):Int)),(⟨b,0 * m+lab1 (a v),none⟩,.int .i32 ((sd (lab1 (a v)):Nat):Int)),
   (⟨b,2 * m+v,none⟩,.int .i32 ((lab v:Nat):Int)),(⟨b,0 * m+lab v,none⟩,.int .i32 ((sd (lab v):Nat):Int))] w1.drew:=(Keep.drew w1).cells (.cons c4v (.cons c2a (.cons c0a (.cons c2v (.cons c0l (.nil _))))))
  refine AX mixed _ [(0,false),(1,false),(2,false),(3,false),(4,false),(5,false),(6,false),(7,false),(8,false),(9,false),(10,false),(11,false),(12,false),(13,false),(14,false),(15,false),(16,false),(17,false)] (by kernel_rfl) hcd ?_
  have hs2:Scr w1.drew b m _ _ _ _ _ _ _:=hs1.stay rfl
  have hO2:=hO1.drew
  replace c4v:=(Keep.drew w1) _ _ c4v
  replace c2v:=(Keep.drew w1) _ _ c2v
  replace c2a:=(Keep.drew w1) _ _ c2a
  generalize w1.drew=w2 at hcd hs2 hO2 c4v c2v c2a ⊢
  refine Aj rfl (fun _ _=>Ad) (Aj rfl (fun _ _=>Ad) (Aj rfl (fun _ _=>Ad) (Aj rfl (fun _ _=>Ad) (Aj rfl (fun _ _=>x_index1 rfl rfl (An rfl) (by omega)) (Aj rfl (fun _ hS=>Ai rfl (Ag rfl) (hS.get (by first|exact mm0|exact mm1|exact mm2|exact mm3|exact mm4|exact mm5|exact mm6|exact mm7))) ?_)))))
  refine Aj rfl (fun _ _=>x_index1 rfl rfl (An rfl) (by omega)) (Aj rfl (fun _ hS=>Ai rfl (Ag rfl) (hS.get (by first|exact mm0|exact mm1|exact mm2|exact mm3|exact mm4|exact mm5|exact mm6|exact mm7))) ?_)
  refine Aj rfl (fun _ _=>x_index1 rfl rfl (An rfl) (by omega)) (Aj rfl (fun _ hS=>Ai rfl (Ag rfl) (hS.get (by first|exact mm0|exact mm1|exact mm2|exact mm3|exact mm4|exact mm5|exact mm6|exact mm7))) ?_)
  refine Aj rfl (fun _ _=>Ad) (Aj rfl (fun _ _=>Ad) (Aj rfl (fun _ _=>Ad) (Aj rfl (fun _ _=>x_index1 rfl rfl (An rfl) (by omega)) (Aj rfl (fun _ hS=>Ai rfl (Ag rfl) (hS.get (by first|exact mm0|exact mm1|exact mm2|exact mm3|exact mm4|exact mm5|exact mm6|exact mm7))) ?_))))
  refine Aj rfl (fun _ _=>x_index1 rfl rfl (An rfl) (by omega)) (Aj rfl (fun _ hS=>Ai rfl (Ag rfl) (hS.get (by first|exact mm0|exact mm1|exact mm2|exact mm3|exact mm4|exact mm5|exact mm6|exact mm7))) ?_)
  refine Aj rfl (fun _ _=>AY rfl rfl) (AP (Aa ?_))
  refine AF rfl rfl (fun hlt=>?_) (fun hge=>?_)
  rotate_left
  ·have hge:¬ sd (lab1 (a v))<sd (lab v):=by omega
   refine Ar ?_
   have e9:LT.upd lab1 v (lab v)=lab1:=by
    funext u
    unfold LT.upd
    split
    ·rename_i e;rw[e];exact e2.symm
    rfl
   rw[if_neg hge,e9]
   exact AS ⟨Aq rfl ⟨rfl,rfl,rfl,rfl,trivial⟩,hs2,hO2⟩
  have hlt:sd (lab1 (a v))<sd (lab v):=by omega
  refine Ac (Ab Ad rfl (Ab Ad rfl (Ab Ad rfl (Ab Ad rfl (Ab Ad rfl (Ab (x_index1 rfl rfl (An rfl) (by omega)) rfl (Ab (Ai rfl (Ag rfl) ‹_›) rfl ?_)))))))
  refine Ab (x_index1 rfl rfl (An rfl) (by omega)) rfl (Ab (Ai rfl (Ag rfl) ‹_›) rfl ?_)
  refine Ab (x_index1 rfl rfl (An rfl) (by omega)) rfl (Bb (AV rfl rfl rfl (AK rfl) c2v hs2.free) rfl (Af ?_))
  have h9:=(hs2.set hvm2 (lab1 (a v))).2.2.1
  rw[if_pos hlt]
  exact AS ⟨Aq rfl ⟨rfl,rfl,rfl,rfl,trivial⟩,h9,hO2.set _ rfl⟩
 rintro e w3 ⟨⟨t,rfl⟩,hs3,hO3⟩
 have c4v:=(hs3.cell hvm2).2.2.2.2.1
 rw[e1] at c4v
 have c4a:=(hs3.cell ham2).2.2.2.2.1
 refine Ac (Ab Ad rfl (Ab Ad rfl (Ab Ad rfl (Ab Ad rfl (Ab Ad rfl (Ab (x_index1 rfl rfl (An rfl) (by omega)) rfl (Ab (Ai rfl (Ag rfl) ‹_›) rfl ?_)))))))
 refine Ab (x_index1 rfl rfl (An rfl) (by omega)) rfl (Ab (Ai rfl (Ag rfl) ‹_›) rfl ?_)
 refine Ab (x_index1 rfl rfl (An rfl) (by omega)) rfl (Bb (AV rfl rfl rfl (AK rfl) c4v hs3.free) rfl (Af ?_))
 refine Bw rfl rfl ⟨_,_,(hs3.set hvm2 (a1 (a v))).2.2.2.2.1,⟨hsq,?_,fun u hu hlt=>?_⟩,hO3.set _ rfl⟩
 ·rw[LT.upd_same];exact hroot1
 have hne:u≠v:=fun e=>by subst e;omega
 obtain ⟨g1,g2⟩:=hc1.out u hu (by omega)
 rw[LT.upd_ne _ _ hne,LT.upd_ne _ _ hne]
 exact ⟨g1,g2⟩
theorem eval_ret {b m:Nat} {V:Nat→Prop} {S:Nat→List Nat} {num par:Nat→Nat} {i:Nat} {sd vx px hh lx:Nat→Nat} (hd:LT.Dfs V S 1 num par) (hV:∀v,V v→1≤v∧v<m)
 {w:World} {a lab:Nat→Nat} {v:Nat} (hv:V v) (hs:Scr w b m sd vx lab px a hh lx) (hal:LT.AL V num par i sd a lab):
 Ret Tryz.prog 127 #[.int .i32 ((v:Nat):Int),seg b m 4,seg b m 0,seg b m 2] w fun r w'=>∃u a' lab',r= .int .i32 ((u:Nat):Int)∧Scr w' b m sd vx lab' px a' hh lx∧LT.AL V num par i sd a' lab'∧Only (fun j=>j=b) w w'∧
  ((num v≤i∧u=v)∨(i<num v∧LT.Anc par 1 u v∧i<num u∧∀z,LT.Anc par 1 z v→i<num z→sd u≤sd z)):=by
 refine ret_of_EC Tryz.func127 rfl rfl ?_
 have hvm:=hV v hv
 have hvm2:=hvm.2
 have c4v:=(hs.cell hvm.2).2.2.2.2.1
 refine Ae (Ac (Ab Ah rfl (Af (Aa (Ae (Ae (Ac (Ab Ad rfl (Ab Ad rfl (Ab (x_index1 rfl rfl (An rfl) (by omega)) rfl (Ab (Ai rfl (Ag rfl) ‹_›) rfl ?_)))))))))))
 refine Ab (A6 rfl rfl) rfl (Af (Aa ?_))
 by_cases hi:num v≤i
 ·refine Bn (congrArg Value.bool (decide_eq_true (by rw[hal.unl v hv hi];rfl))) rfl ?_
  refine Ae (Ac (Ab Ad rfl (Ab Ah rfl (Af (Aa (AC (AE ?_)))))))
  exact Ax rfl rfl rfl ⟨v,a,lab,rfl,hs,hal,Only.refl _ w,.inl ⟨hi,rfl⟩⟩
 have hi:i<num v:=by omega
 have ha:=(hV _ (hal.lnk v hv hi).1).1
 refine Bj (congrArg Value.bool (decide_eq_false (fun h=>by have h:((a v:Nat):Int)=0:=h;omega))) rfl (Ar (Aa (Ae (Ac (Ab Ad rfl (Ab Ad rfl (Ab Ad rfl (Ab Ad rfl (Bc (AG Tryz.func135 rfl rfl rfl rfl) rfl (compress_ret hd hV (num v) w a lab v rfl hv hi hs hal) ?_)))))))))
 rintro _ w1 ⟨a1,lab1,hs1,hc1,hO1⟩
 refine Af (Aa ?_)
 have c2v:=(hs1.cell hvm.2).2.2.1
 refine Ae (Ac (Ab Ad rfl (Ab Ad rfl (Ab (x_index1 rfl rfl (An rfl) (by omega)) rfl (Ab (Ai rfl (Ag rfl) ‹_›) rfl ?_)))))
 refine Ab Ah rfl (Af (Aa (AC ?_)))
 exact Ax rfl rfl rfl ⟨lab1 v,a1,lab1,rfl,hs1,hc1.al,hO1,.inr ⟨hi,hc1.al.label hv hi hc1.root⟩⟩
theorem Hf {w:World} {b m x y:Nat} {a0 a1 a2 a3 a4 a5 a6:Nat→Nat} (hs:Scr w b m a0 a1 a2 a3 a4 a5 a6) (hy:y<m):
 Ret Tryz.prog 128 #[.int .i32 ((x:Nat):Int),.int .i32 ((y:Nat):Int),seg b m 4] w fun _ w'=>Scr w' b m a0 a1 a2 a3 (LT.upd a4 y x) a5 a6∧Only (fun j=>j=b) w w':=by
 refine ret_of_EC Tryz.func128 rfl rfl ?_
 have c4:=(hs.cell hy).2.2.2.2.1
 refine Ac (Ab Ad rfl (Ab Ad rfl (Ab Ad rfl (Ab (x_index1 rfl rfl (An rfl) (by omega)) rfl (Bb (AV rfl rfl rfl (AK rfl) c4 hs.free) rfl (Af ?_))))))
 exact Bw rfl rfl ⟨(hs.set hy x).2.2.2.2.1,(Only.refl _ w).set _ rfl⟩
end Go.Proofs.YteepnepebilckaaGreatDoor
