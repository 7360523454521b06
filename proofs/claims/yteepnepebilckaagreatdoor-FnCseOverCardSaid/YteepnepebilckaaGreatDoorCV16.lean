/- The law FnCseOver returns true for every input in which the opcode table reads as laid, and its argument reads as it did, the table being tied to the text of the program. -/
import Derived.Test.YteepnepebilckaaGreatDoorCV15
namespace Go.Proofs.YteepnepebilckaaGreatDoor
open Go Go.Eng Go.RowKit
inductive Ds (V:Nat→Prop) (d:Nat→Nat) (b:Nat):Nat→Prop where
 |refl:Ds V d b b
 |step {z:Nat}:V z→z≠1→Ds V d b (d z)→Ds V d b z
section
variable {V : Nat → Prop} {d num : Nat → Nat} {a b c z : Nat}
theorem Ds.trans (h:Ds V d a b) (k:Ds V d b c):Ds V d a c:=by
 induction k with
 |refl=>exact h
 |step h1 h2 _ ih=>exact .step h1 h2 ih
theorem Ds.up (h:Ds V d b z):z=b∨(V z∧z≠1∧Ds V d b (d z)):=by
 cases h with
 |refl=>exact .inl rfl
 |step h1 h2 h3=>exact .inr ⟨h1,h2,h3⟩
theorem Ds.le (hr:∀v,V v→v≠1→num (d v)<num v) (h:Ds V d b z):num b≤num z∧(b≠z→num b<num z):=by
 induction h with
 |refl=>exact ⟨Nat.le_refl _,fun e=>absurd rfl e⟩
 |step h1 h2 _ ih=>
  have:=hr _ h1 h2
  exact ⟨by omega,fun _=>by omega⟩
theorem Ds.cmp (h:Ds V d a z) (k:Ds V d b z):Ds V d a b∨Ds V d b a:=by
 induction h with
 |refl=>exact .inr k
 |step h1 h2 h3 ih=>
  rcases k.up with e|⟨_,_,k2⟩
  ·subst e;exact .inl (.step h1 h2 h3)
  exact ih k2
theorem Ds.apart (hr:∀v,V v→v≠1→num (d v)<num v) {x y p:Nat} (hx:V x∧x≠1∧d x=p) (hy:V y∧y≠1∧d y=p) (h:Ds V d x z) (k:Ds V d y z):x=y:=by
 have key:∀x y,(V x∧x≠1∧d x=p)→(V y∧y≠1∧d y=p)→Ds V d x y→x=y:=fun x y hx hy h=>by
  rcases h.up with e|⟨_,_,h2⟩
  ·exact e.symm
  rw[hy.2.2] at h2
  have h3:=(h2.le hr).1
  have:=hr x hx.1 hx.2.1
  rw[hx.2.2] at this
  omega
 rcases h.cmp k with e|e
 ·exact key x y hx hy e
 exact (key y x hy hx e).symm
theorem Ds.child (hc:V c∧c≠1∧d c=b) (h:Ds V d c z):Ds V d b z:=by
 refine Ds.trans ?_ h
 exact .step hc.1 hc.2.1 (hc.2.2 ▸ .refl)
theorem Ds.split (h:Ds V d b z) (hne:z≠b):∃c,V c∧c≠1∧d c=b∧Ds V d c z:=by
 induction h with
 |refl=>exact absurd rfl hne
 | @step z h1 h2 h3 ih=>
   by_cases e:d z=b
   ·exact ⟨z,h1,h2,e,.refl⟩
   obtain ⟨c,k1,k2,k3,k4⟩:=ih e
   exact ⟨c,k1,k2,k3,.step h1 h2 k4⟩
end
structure Nm (V:Nat→Prop) (d:Nat→Nat) (P:Nat→Prop) (lo hi:Nat) (en ex:Nat→Nat):Prop where
 rng:∀z,P z→lo<en z∧en z<ex z∧ex z<hi
 lam:∀x y,P x→P y→en x≤en y→ex y≤ex x→Ds V d x y
def unn (en:Nat→Nat) (n:Nat):Nat:=cnt (Cn en) n
structure TR (w:World) (L:Lay) (T m:Nat) (ch sb pr en ex:Nat→Nat):Prop where
 ex:∃F:Nat→Value,w.heap[T]? =some (.cells (cellsOf F (5 * m)) 153 (0,0))∧∀i,i<m→F (i * 5+0)=bpI L (ch i)∧F (i * 5+1)=bpI L (sb i)∧F (i * 5+2)=bpI L (pr i)∧
  F (i * 5+3)= .int .i32 ((en i:Nat):Int)∧F (i * 5+4)= .int .i32 ((ex i:Nat):Int)
section
variable {w w' : World} {L : Lay} {T m : Nat} {ch sb pr en ex : Nat → Nat}
theorem TR.free (h:TR w L T m ch sb pr en ex) {o:Nat}:w.frozen? ⟨T,o,none⟩=false:=by
 obtain ⟨F,h1,_⟩:=h.ex
 exact AQ h1
theorem TR.stay (h:TR w L T m ch sb pr en ex) (hk:w'.heap[T]? =w.heap[T]?):TR w' L T m ch sb pr en ex:=by
 obtain ⟨F,h1,h2⟩:=h.ex
 exact ⟨F,hk.trans h1,h2⟩
theorem TR.lt (h:TR w L T m ch sb pr en ex):T<w.heap.size:=by
 obtain ⟨F,h1,_⟩:=h.ex
 exact (Array.getElem?_eq_some_iff.1 h1).1
theorem TR.cell (h:TR w L T m ch sb pr en ex) {i:Nat} (hi:i<m):
 w.cell? ⟨T,0+i * 5+0,none⟩=some (bpI L (ch i))∧w.cell? ⟨T,0+i * 5+1,none⟩=some (bpI L (sb i))∧w.cell? ⟨T,0+i * 5+2,none⟩=some (bpI L (pr i))∧
 w.cell? ⟨T,0+i * 5+3,none⟩=some (.int .i32 ((en i:Nat):Int))∧w.cell? ⟨T,0+i * 5+4,none⟩=some (.int .i32 ((ex i:Nat):Int)):=by
 obtain ⟨F,h1,h2⟩:=h.ex
 obtain ⟨e0,e1,e2,e3,e4⟩:=h2 i hi
 have key:∀k,k<5→w.cell? ⟨T,0+i * 5+k,none⟩=some (F (i * 5+k)):=fun k hk=>by
  rw[Nat.zero_add]
  exact Am h1 (Bf _ (by omega))
 refine ⟨?_,?_,?_,?_,?_⟩
 ·rw[key 0 (by omega),e0]
 ·rw[key 1 (by omega),e1]
 ·rw[key 2 (by omega),e2]
 ·rw[key 3 (by omega),e3]
 rw[key 4 (by omega),e4]
theorem TR.set (h:TR w L T m ch sb pr en ex) {i:Nat} (v:Nat):
 TR (w.setCell ⟨T,0+i * 5+0,none⟩ (bpI L v)) L T m (LT.upd ch i v) sb pr en ex∧
 TR (w.setCell ⟨T,0+i * 5+1,none⟩ (bpI L v)) L T m ch (LT.upd sb i v) pr en ex∧
 TR (w.setCell ⟨T,0+i * 5+2,none⟩ (bpI L v)) L T m ch sb (LT.upd pr i v) en ex∧
 TR (w.setCell ⟨T,0+i * 5+3,none⟩ (.int .i32 (v:Int))) L T m ch sb pr (LT.upd en i v) ex∧
 TR (w.setCell ⟨T,0+i * 5+4,none⟩ (.int .i32 (v:Int))) L T m ch sb pr en (LT.upd ex i v):=by
 obtain ⟨F,h1,h2⟩:=h.ex
 have key:∀j u,(w.setCell ⟨T,0+j,none⟩ u).heap[T]? =some (.cells (cellsOf (fun x=>if x=j then u else F x) (5 * m)) 153 (0,0)):=fun j u=>by
  have:=AC (o:=0+j) (u:=u) h1
  rw[cellsOf_set] at this
  rw[this,Nat.zero_add]
 have up:∀(f:Nat→Nat) (g:Nat→Value) (k x:Nat),F (x * 5+k)=g (f x)→(if x * 5+k=i * 5+k then g v else F (x * 5+k))=g (LT.upd f i v x):=fun f g k x e=>by
  unfold LT.upd
  by_cases e2:x=i
  ·rw[if_pos (by rw[e2]),if_pos e2]
  rw[if_neg (by omega),if_neg e2,e]
 have un:∀(u u2:Value) (k l x:Nat),k<5→l<5→k≠l→F (x * 5+k)=u2→(if x * 5+k=i * 5+l then u else F (x * 5+k))=u2:=fun u u2 k l x h1 h2 hne e=>by
  rw[if_neg (by omega),e]
 refine ⟨⟨_,key (i * 5+0) _,fun x hx=>?_⟩,⟨_,key (i * 5+1) _,fun x hx=>?_⟩,⟨_,key (i * 5+2) _,fun x hx=>?_⟩,⟨_,key (i * 5+3) _,fun x hx=>?_⟩,⟨_,key (i * 5+4) _,fun x hx=>?_⟩⟩ <;> obtain ⟨e0,e1,e2,e3,e4⟩:=h2 x hx
 ·exact ⟨up ch (bpI L) 0 x e0,un _ _ 1 0 x (by decide) (by decide) (by decide) e1,un _ _ 2 0 x (by decide) (by decide) (by decide) e2,un _ _ 3 0 x (by decide) (by decide) (by decide) e3,un _ _ 4 0 x (by decide) (by decide) (by decide) e4⟩
 ·exact ⟨un _ _ 0 1 x (by decide) (by decide) (by decide) e0,up sb (bpI L) 1 x e1,un _ _ 2 1 x (by decide) (by decide) (by decide) e2,un _ _ 3 1 x (by decide) (by decide) (by decide) e3,un _ _ 4 1 x (by decide) (by decide) (by decide) e4⟩
 ·exact ⟨un _ _ 0 2 x (by decide) (by decide) (by decide) e0,un _ _ 1 2 x (by decide) (by decide) (by decide) e1,up pr (bpI L) 2 x e2,un _ _ 3 2 x (by decide) (by decide) (by decide) e3,un _ _ 4 2 x (by decide) (by decide) (by decide) e4⟩
 ·exact ⟨un _ _ 0 3 x (by decide) (by decide) (by decide) e0,un _ _ 1 3 x (by decide) (by decide) (by decide) e1,un _ _ 2 3 x (by decide) (by decide) (by decide) e2,up en (fun n=>.int .i32 ((n:Nat):Int)) 3 x e3,un _ _ 4 3 x (by decide) (by decide) (by decide) e4⟩
 exact ⟨un _ _ 0 4 x (by decide) (by decide) (by decide) e0,un _ _ 1 4 x (by decide) (by decide) (by decide) e1,un _ _ 2 4 x (by decide) (by decide) (by decide) e2,un _ _ 3 4 x (by decide) (by decide) (by decide) e3,up ex (fun n=>.int .i32 ((n:Nat):Int)) 4 x e4⟩
end
def Kids (V:Nat→Prop) (d ch sb:Nat→Nat):Prop:=∀p,V p→∃C,LT.Chn sb (ch p) C∧C.Nodup∧∀v,v∈C↔V v∧v≠1∧d v=p
set_option maxHeartbeats 4000000
attribute [local irreducible] EC EL DL Ret thenQ blockQ Bi bodyQ onlyN execOp Sem.run World.cell? World.frozen? World.setCell World.alloc
theorem number_ret {w0:World} {B0:Nat} {L:Lay} {g:Gph} {T m:Nat} {ch sb pr d num:Nat→Nat} (hg:GRep w0 B0 L g) (hT:w0.heap.size≤T) (hm:m=g.nb+1)
 (hr:∀v,VG g v→v≠1→num (d v)<num v) (hk:Kids (VG g) d ch sb) {R:Nat} (hR:∀v,VG g v→num v≤R):
 ∀(k:Nat) (w:World) (x n:Nat) (en ex:Nat→Nat),R - num (x+1)=k→x<g.nb→Below w0.heap.size w0 w→TR w L T m ch sb pr en ex→(∀z,Ds (VG g) d (x+1) z→en z=0)→n+6 * unn en g.nb≤100→
 Ret Tryz.prog 106 #[.slice (some ⟨T,0,none⟩) m m,L.bp x,.int .i32 ((n:Nat):Int)] w fun v w'=>∃n' en' ex',v= .int .i32 ((n':Nat):Int)∧TR w' L T m ch sb pr en' ex'∧n'+6 * unn en' g.nb=n+6 * unn en g.nb∧
  (∀z,¬ Ds (VG g) d (x+1) z→en' z=en z∧ex' z=ex z)∧Nm (VG g) d (Ds (VG g) d (x+1)) n n' en' ex'∧n≤n'∧Only (fun j=>j=T) w w':=by
 intro k
 induction k using Nat.strongRecOn with
 |ind k ih=>
 intro w x n en ex hkx hx hb0 hTR hz0 hnu
 refine ret_of_EC Tryz.func106 rfl rfl ?_
 have hxm:x+1<m:=by omega
 have hxV:VG g (x+1):=⟨by omega,by omega⟩
 have hid:∀W,Only (fun j=>j=T) w W→∀y,y<g.nb→W.cell? ⟨L.bb y,0+0,none⟩=some (.int .i32 ((y+1:Nat):Int)):=fun W h y hy=>(hg.on (hb0.trans (h.below hb0.size (fun j e=>e ▸ hT)))).bID hy
 have hx0:=hz0 _ .refl
 have hun:=EW (num:=en) (k:=n+1) hx hx0 (by omega)
 have hidw:=hid w (Only.refl _ w) x hx
 refine Ae (Ac (Ab Ah rfl (Af (Aa (Ae (Ac (Ab Ad rfl (Ab (Cq (c:=((n+1:Nat):Int)) rfl rfl (by rw[IntWalk.i32_in _ (by omega)];omega)) rfl ?_))))))))
 refine Ab Ah rfl (Af (Aa (Ae (Ac (Ab Ad rfl (Ab Ad rfl (Ab (Au rfl) rfl (Ab (Al rfl (Ak rfl)) rfl (Ab (Ai rfl (Ag rfl) ‹_›) rfl ?_)))))))))
 refine Ab Ad rfl (Ab (A5 (n:=5) (i:=x+1) rfl rfl (An rfl) hxm) rfl (Ab (Al rfl (Ak rfl)) rfl (Bc (AU rfl rfl rfl (AH rfl) (hTR.cell hxm).2.2.2.1 hTR.free) rfl (Af (Aa ?_)))))
 have hTR1:=(hTR.set (i:=x+1) (n+1)).2.2.2.1
 have hO1:=(Only.refl (fun j=>j=T) w).set (o:=0+(x+1) * 5+3) (.int .i32 ((n+1:Nat):Int)) (rfl:T=T)
 change EC _ _ _ _ _ (w.setCell ⟨T,0+(x+1) * 5+3,none⟩ (.int .i32 ((n+1:Nat):Int)))
 generalize w.setCell ⟨T,0+(x+1) * 5+3,none⟩ (.int .i32 ((n+1:Nat):Int))=w1 at hTR1 hO1 ⊢
 have hen1:LT.upd en (x+1) (n+1) (x+1)=n+1:=LT.upd_same ..
 have heno:∀z,z≠x+1→LT.upd en (x+1) (n+1) z=en z:=fun z hz=>LT.upd_ne _ _ hz
 have hun:unn (LT.upd en (x+1) (n+1)) g.nb+1=unn en g.nb:=hun
 generalize LT.upd en (x+1) (n+1)=en1 at hTR1 hen1 heno hun
 refine Ae (Ac (Ab Ad rfl (Ab (Cq (c:=((n+3:Nat):Int)) rfl rfl (by rw[IntWalk.i32_in _ (by omega)];omega)) rfl ?_)))
 refine Ab Ah rfl (Af (Aa ?_))
 obtain ⟨C,hC,hCn,hCm⟩:=hk _ hxV
 refine BV [(0,.slice (some ⟨T,0,none⟩) m m),(1,L.bp x),(2,.int .i32 ((n+3:Nat):Int))] rfl ⟨rfl,rfl,rfl,trivial⟩ fun t=>?_
 have hidw1:=hid w1 hO1 x hx
 have hcc:=(hTR1.cell hxm).1
 refine AW (fun e w2=>∃n1 en1 ex1,At e [(0,.slice (some ⟨T,0,none⟩) m m),(1,L.bp x),(2,.int .i32 ((n1:Nat):Int))]∧TR w2 L T m ch sb pr en1 ex1∧n1+6 * unn en1 g.nb+3=n+6 * unn en g.nb∧en1 (x+1)=n+1∧n+3≤n1∧
  (∀z,z≠x+1→(∀c∈C,¬ Ds (VG g) d c z)→en1 z=en z∧ex1 z=ex z)∧Nm (VG g) d (fun z=>∃c∈C,Ds (VG g) d c z) (n+1) n1 en1 ex1∧Only (fun j=>j=T) w w2) ?_ ?_
 ·refine Ae (Ac (Ab Ad rfl (Ab Ad rfl (Ab (Au rfl) rfl (Ab (Al rfl (Ak rfl)) rfl (Ab (Ai rfl (Ag rfl) ‹_›) rfl ?_))))))
  refine Ab (A5 (n:=5) (i:=x+1) rfl rfl (An rfl) hxm) rfl (Ab (Al rfl (Ak rfl)) rfl (Ab (Ai rfl (Ag rfl) ‹_›) rfl ?_))
  refine Ab Ah rfl (Af (Aa (Ao ?_)))
  refine EC_loop (fun n2 e w2=>∃done rest h n1 en1 ex1,C=done ++ rest∧LT.Chn sb h rest∧At e [(0,.slice (some ⟨T,0,none⟩) m m),(1,L.bp x),(2,.int .i32 ((n1:Nat):Int)),(7,bpI L h)]∧TR w2 L T m ch sb pr en1 ex1∧
   n1+6 * unn en1 g.nb+3=n+6 * unn en g.nb∧en1 (x+1)=n+1∧n+3≤n1∧(∀z,z≠x+1→(∀c∈done,¬ Ds (VG g) d c z)→en1 z=en z∧ex1 z=ex z)∧
   Nm (VG g) d (fun z=>∃c∈done,Ds (VG g) d c z) (n+1) n1 en1 ex1∧Only (fun j=>j=T) w w2∧n2=rest.length) C.length
   ⟨[],C,_,n+3,en1,ex,rfl,hC,Ar rfl ⟨rfl,rfl,rfl,rfl,trivial⟩,hTR1,by omega,hen1,Nat.le_refl _,fun z hz _=>⟨heno z hz,rfl⟩,⟨fun z ⟨c,hc,_⟩=>(by cases hc),fun x y ⟨c,hc,_⟩=>(by cases hc)⟩,hO1,rfl⟩ ?_
  clear hcc hidw1 hTR1 hO1 hen1 heno hun
  rintro n2 e w2 ⟨done,rest,h,n1,en1,ex1,hCe,hch,⟨t,rfl⟩,hTR1,hn1,hen1,hn3,hout,hNm,hO1,rfl⟩
  refine Ae ?_
  cases rest with
  |nil=>
   have hh:h=0:=hch
   subst hh
   rw[List.append_nil] at hCe
   subst hCe
   refine Ae (Ac (Ab Ad rfl (Ab (CB (p:=none) rfl rfl (BT rfl)) rfl (Af (Aa (Bh rfl rfl (AK (AB (AD (AA ?_))))))))))
   exact AR ⟨n1,en1,ex1,Ar rfl ⟨rfl,rfl,rfl,trivial⟩,hTR1,hn1,hen1,hn3,hout,hNm,hO1⟩
  |cons v rest=>
   obtain ⟨hv1,hv2,hch2⟩:=hch
   subst hv1
   have hhC:h∈C:=by rw[hCe];simp
   obtain ⟨hhV,hh1,hhd⟩:=(hCm h).1 hhC
   obtain ⟨y,rfl,hy⟩:=hhV.ex
   have hym:y+1<m:=by omega
   refine Ae (Ac (Ab Ad rfl (Ab (CB (p:=some ⟨L.bb y,0,none⟩) rfl rfl (BT rfl)) rfl (Af (Aa (Bm rfl rfl (Aq (Aa (Ae (Ao ?_))))))))))
   have hrk:=hr _ hhV hh1
   rw[hhd] at hrk
   have hRy:=hR _ hhV
   have hnotin:y+1∉done:=fun hd2=>by
    rw[hCe] at hCn
    exact (List.nodup_append.1 hCn).2.2 _ hd2 _ (.head _) rfl
   have hyk:(VG g (y+1)∧y+1≠1∧d (y+1)=x+1):=⟨hhV,hh1,hhd⟩
   have hdk:∀c∈done,VG g c∧c≠1∧d c=x+1:=fun c hc=>(hCm c).1 (by rw[hCe];simp [hc])
   have hap:∀z,Ds (VG g) d (y+1) z→z≠x+1∧∀c∈done,¬ Ds (VG g) d c z:=fun z hz=>by
    refine ⟨fun e=>?_,fun c hc h2=>?_⟩
    ·have:=(hz.le hr).1
     rw[e] at this;omega
    have:=Ds.apart hr (hdk c hc) hyk h2 hz
    exact hnotin (this ▸ hc)
   have hzy:∀z,Ds (VG g) d (y+1) z→en1 z=0:=fun z hz=>by
    obtain ⟨h1,h2⟩:=hap z hz
    rw[(hout z h1 h2).1]
    exact hz0 z (Ds.child hyk hz)
   refine Ac (Ab Ad rfl (Ab Ad rfl (Ab Ad rfl (Be (AG Tryz.func106 rfl rfl rfl rfl) rfl (ih (R - num (y+1)) (by omega) w2 y n1 en1 ex1 rfl hy (hb0.trans (hO1.below hb0.size (fun j e=>e ▸ hT))) hTR1 hzy (by omega)) ?_))))
   rintro _ w3 ⟨n3,en3,ex3,rfl,hTR3,hn4,hout3,hNm3,hle3,hO3⟩
   refine Ab Ah rfl (Af (Ap (Aa ?_)))
   have hO:=hO1.trans ⟨hO3.os,hO3.tape,hO3.output,hO3.size,hO3.block⟩
   have hcs:=(hTR3.cell hym).2.1
   have hidy:=hid w3 hO y hy
   refine BV [(0,.slice (some ⟨T,0,none⟩) m m),(1,L.bp x),(2,.int .i32 ((n3:Nat):Int)),(7,L.bp y)] rfl ⟨rfl,rfl,rfl,rfl,trivial⟩ fun t=>(Ac (Ab Ad rfl (Ab Ad rfl (Ab (Au rfl) rfl (Ab (Al rfl (Ak rfl)) rfl (Ab (Ai rfl (Ag rfl) ‹_›) rfl ?_))))))
   refine Ab (A5 (n:=5) (i:=y+1) rfl rfl (An rfl) hym) rfl (Ab (Al rfl (Ak rfl)) rfl (Ab (Ai rfl (Ag rfl) ‹_›) rfl ?_))
   refine Ab Ah rfl (Af ?_)
   have hx3:¬ Ds (VG g) d (y+1) (x+1):=fun h=>(hap _ h).1 rfl
   have hkeep:∀z c,c∈done→Ds (VG g) d c z→en3 z=en1 z∧ex3 z=ex1 z:=fun z c hc hz=>hout3 z fun h=>(hap z h).2 c hc hz
   refine Aw rest.length (by simp) ⟨done ++ [y+1],rest,_,n3,en3,ex3,by rw[hCe];simp,hch2,Ar rfl ⟨rfl,rfl,rfl,rfl,trivial⟩,hTR3,by omega,by rw[(hout3 _ hx3).1];exact hen1,by omega,fun z hz hzd=>?_,⟨fun z hz=>?_,fun p q hp hq h1 h2=>?_⟩,hO,rfl⟩
   ·obtain ⟨h1,h2⟩:=hout3 z (hzd (y+1) (by simp))
    obtain ⟨h3,h4⟩:=hout z hz fun c hc=>hzd c (by simp [hc])
    exact ⟨h1.trans h3,h2.trans h4⟩
   ·obtain ⟨c,hc,hz⟩:=hz
    rcases List.mem_append.1 hc with hc|hc
    ·obtain ⟨h1,h2⟩:=hkeep z c hc hz
     obtain ⟨h3,h4,h5⟩:=hNm.rng z ⟨c,hc,hz⟩
     omega
    have:c=y+1:=by simpa using hc
    subst this
    obtain ⟨h3,h4,h5⟩:=hNm3.rng z hz
    omega
   obtain ⟨c,hc,hz⟩:=hp
   obtain ⟨c',hc',hz'⟩:=hq
   rcases List.mem_append.1 hc with hc|hc <;> rcases List.mem_append.1 hc' with hc'|hc'
   ·obtain ⟨e1,e2⟩:=hkeep p c hc hz
    obtain ⟨e3,e4⟩:=hkeep q c' hc' hz'
    exact hNm.lam p q ⟨c,hc,hz⟩ ⟨c',hc',hz'⟩ (by omega) (by omega)
   ·have:c'=y+1:=by simpa using hc'
    subst this
    obtain ⟨e1,e2⟩:=hkeep p c hc hz
    have r1:=hNm.rng p ⟨c,hc,hz⟩
    have r2:=hNm3.rng q hz'
    omega
   ·have:c=y+1:=by simpa using hc
    subst this
    obtain ⟨e1,e2⟩:=hkeep q c' hc' hz'
    have r1:=hNm.rng q ⟨c',hc',hz'⟩
    have r2:=hNm3.rng p hz
    omega
   have:c=y+1:=by simpa using hc
   subst this
   have:c'=y+1:=by simpa using hc'
   subst this
   exact hNm3.lam p q hz hz' h1 h2
 clear hcc hidw1 hTR1 hO1 hen1 heno hun
 rintro e w2 ⟨n1,en1,ex1,⟨t,rfl⟩,hTR1,hn1,hen1,hn3,hout,hNm,hO1⟩
 have hidw2:=hid w2 hO1 x hx
 refine Ae (Ac (Ab Ad rfl (Ab (Cq (c:=((n1+1:Nat):Int)) rfl rfl (by rw[IntWalk.i32_in _ (by omega)];omega)) rfl ?_)))
 refine Ab Ah rfl (Af (Aa (Ae (Ac (Ab Ad rfl (Ab Ad rfl (Ab (Au rfl) rfl (Ab (Al rfl (Ak rfl)) rfl (Ab (Ai rfl (Ag rfl) ‹_›) rfl ?_)))))))))
 refine Ab Ad rfl (Ab (A5 (n:=5) (i:=x+1) rfl rfl (An rfl) hxm) rfl (Ab (Al rfl (Ak rfl)) rfl (Bc (AU rfl rfl rfl (AH rfl) (hTR1.cell hxm).2.2.2.2 hTR1.free) rfl (Af (Aa ?_)))))
 have hTR2:=(hTR1.set (i:=x+1) (n1+1)).2.2.2.2
 have hO2:=hO1.set (o:=0+(x+1) * 5+4) (.int .i32 ((n1+1:Nat):Int)) (rfl:T=T)
 refine Ae (Ac (Ab Ad rfl (Ab (Cq (c:=((n1+3:Nat):Int)) rfl rfl (by rw[IntWalk.i32_in _ (by omega)];omega)) rfl ?_)))
 refine Ab Ah rfl (Af (Aa (AE ?_)))
 have hsp:∀z,Ds (VG g) d (x+1) z→z≠x+1→∃c∈C,Ds (VG g) d c z:=fun z hz hne=>by
  obtain ⟨c,k1,k2,k3,k4⟩:=hz.split hne
  exact ⟨c,(hCm c).2 ⟨k1,k2,k3⟩,k4⟩
 have hxs:LT.upd ex1 (x+1) (n1+1) (x+1)=n1+1:=LT.upd_same ..
 have hxo:∀z,z≠x+1→LT.upd ex1 (x+1) (n1+1) z=ex1 z:=fun z hz=>LT.upd_ne _ _ hz
 refine Az rfl rfl rfl ⟨n1+3,en1,_,rfl,hTR2,by omega,fun z hz=>?_,⟨fun z hz=>?_,fun p q hp hq h1 h2=>?_⟩,by omega,hO2⟩
 ·have hne:z≠x+1:=fun e=>hz (e ▸ .refl)
  rw[hxo z hne]
  exact hout z hne fun c hc h=>hz (Ds.child ((hCm c).1 hc) h)
 ·by_cases e:z=x+1
  ·subst e
   rw[hxs,hen1]
   omega
  rw[hxo z e]
  obtain ⟨h1,h2,h3⟩:=hNm.rng z (hsp z hz e)
  omega
 by_cases e:p=x+1
 ·subst e;exact hq
 rw[hxo p e] at h2
 by_cases e2:q=x+1
 ·subst e2
  rw[hxs] at h2
  have:=hNm.rng p (hsp p hp e)
  omega
 rw[hxo q e2] at h2
 exact hNm.lam p q (hsp p hp e) (hsp q hq e2) h1 h2
section
variable {w : World} {ρ : Operand → Value} {d : Option Tmp} {ty : TypeId} {pos : String} {af : Array Edge} {g : Option (Nat × Bool)}
theorem x_makeN {P:Program} {t el:TypeId} {x y:Operand} {z:Value} {bytes n sz:Nat} (ht:P.underlying t=some (.slice el)) (hi:(P.info? el).map (fun i=>(i.zero,i.size,i.bytes))=some (some z,sz,bytes))
 (hx:ρ x= .int .i64 (n:Int)) (hy:ρ y= .int .i64 (n:Int)) (hb:bytes * n≤281474976710656) (h63:n≤9223372036854775807):
 (execOp ρ ⟨d,.makeSlice t x y,ty,pos,af,g⟩).run P w= .ok (.value (.slice (some ⟨w.heap.size,0,none⟩) n n)) (w.alloc (.cells (madeCells z.cells (n * sz)) el)):=by
 obtain ⟨i,hi1,hi2,hi3,hi4⟩:=info_parts hi
 have:=run_make w t el i z ht hi1 hi2 .i64 .i64 (n:Int) (n:Int) (by omega) (by omega) (by rw[hi4];omega) (by omega)
 simp only [Int.toNat_natCast,hi3] at this
 simp [execOp,hx,hy,this]
end
theorem made_ofN (z:Array Value) (n:Nat):madeCells z n=cellsOf (fun j=>z[j % z.size]!) n:=by
 apply Array.ext_getElem?
 intro i
 by_cases hi:i<n
 ·rw[Bf _ hi]
  simp [madeCells,hi]
 rw[Array.getElem?_eq_none (by simp [madeCells];omega),Array.getElem?_eq_none (by rw[Cl];omega)]
theorem bound_ex (f:Nat→Nat):∀n,∃R,∀v,v≤n→f v≤R
 |0=>⟨f 0,fun v hv=>by have:v=0:=by omega
                       subst this;exact Nat.le_refl _⟩
 |n+1=>by
  obtain ⟨R,hR⟩:=bound_ex f n
  refine ⟨R+f (n+1),fun v hv=>?_⟩
  by_cases e:v=n+1
  ·subst e;omega
  have:=hR v (by omega);omega
theorem rch_rh {g:Gph} {a b:Nat} (h:RchS g.succs a b):LT.Rh (SG g) 1 (a+1) (b+1):=by
 induction h with
 |entry h=>exact .entry (by omega)
 | @step b s _ hs hne ih=>exact .step ih (List.mem_map.2 ⟨s,hs,rfl⟩) (by omega)
theorem DomT.dom {g:Gph} {d:Nat→Nat} (h:DomT g d) {x y:Nat} (hs:Ds (VG g) d (x+1) (y+1)):Dom g.succs x y:=by
 have key:∀z,Ds (VG g) d (x+1) z→z≠0∧Dom g.succs x (z - 1):=fun z hz=>by
  induction hz with
  |refl=>exact ⟨by omega,Dom.rfl' _⟩
  | @step z h1 h2 _ ih=>
    obtain ⟨h3,h4⟩:=h.ok z h1 h2
    have hz0:=h1.1
    refine ⟨by omega,ih.2.trans fun hr=>h4 ?_⟩
    have:=rch_rh hr
    have e1:d z - 1+1=d z:=by have:=ih.1;omega
    have e2:z - 1+1=z:=by omega
    rwa [e1,e2] at this
 exact (key _ hs).2
theorem DomT.all {g:Gph} {d:Nat→Nat} (h:DomT g d):∀z,VG g z→Ds (VG g) d 1 z:=by
 obtain ⟨num,hr⟩:=h.rank
 have key:∀n z,num z=n→VG g z→Ds (VG g) d 1 z:=by
  intro n
  induction n using Nat.strongRecOn with
  |ind n ih=>
   intro z hn hz
   by_cases e:z=1
   ·subst e;exact .refl
   have:=hr z hz e
   exact .step hz e (ih _ (by omega) _ rfl (h.ok z hz e).1)
 exact fun z=>key _ z rfl
structure SdT (w:World) (L:Lay) (g:Gph) (T:Nat) (en ex:Nat→Nat):Prop where
 tr:∃ch sb pr,TR w L T (g.nb+1) ch sb pr en ex
 dom:∀x y,x<g.nb→y<g.nb→en (x+1)≤en (y+1)→ex (y+1)≤ex (x+1)→Dom g.succs x y
theorem sparse_ret {w:World} {B0:Nat} {L:Lay} {g:Gph} {IB:Nat} {d:Nat→Nat} (hg:GRep w B0 L g) (hn:1≤g.nb∧g.nb≤9) (hent:L.entry=some ⟨L.bb 0,0,none⟩) (hsu:∀x,x<g.nb→(g.succs x).length≤2∧∀s∈g.succs x,s<g.nb)
 (hre:∀x,x<g.nb→RchS g.succs g.nb x) (hIB:w.heap[IB]? =some (.cells (cellsOf (fun i=>bpI L (d i)) (g.nb+1)) 74 (0,0))) (hd:DomT g d):
 Ret Tryz.prog 83 #[L.fp,.slice (some ⟨IB,0,none⟩) (g.nb+1) (g.nb+1)] w fun v w'=>∃T en ex,v= .slice (some ⟨T,0,none⟩) (g.nb+1) (g.nb+1)∧w.heap.size≤T∧SdT w' L g T en ex∧Below w.heap.size w w':=by
 refine ret_of_EC Tryz.func83 rfl rfl ?_
 obtain ⟨m,hm⟩:∃m,m=g.nb+1:=⟨_,rfl⟩
 obtain ⟨B,hBd⟩:∃B,B=w.heap.size:=⟨_,rfl⟩
 rw[← hm] at hIB ⊢
 rw[← hBd]
 have hIBl:IB<B:=by rw[hBd];exact (Array.getElem?_eq_some_iff.1 hIB).1
 refine Ae (Ac (Ab Ah rfl (Af (Aa (Ae (Ac (Ab Ad rfl (Be (AG Tryz.func104 rfl rfl rfl rfl) rfl (EQ hg hn hent hsu hre) ?_))))))))
 rintro vo w1 ⟨ord,hro,hnd,hom,hb1⟩
 refine Ab Ah rfl (Af (Aa ?_))
 rw[← hBd] at hro hb1
 have hs1:=hb1.size
 have hg1:=hg.on (by rw[← hBd];exact hb1)
 have hol:(ord.map L.bp).length=ord.length:=List.length_map ..
 refine Ae (Ac (Ab Ad rfl (Be (AG Tryz.func105 rfl rfl rfl rfl) rfl (NumBlocks_ret hg1 hn.2) ?_)))
 rintro _ wx ⟨rfl,ew⟩
 rw[← hm,ew]
 refine Ab (x_makeN (n:=m) Tryz.underlying127 Hd rfl rfl (by omega) (by omega)) rfl ?_
 have hBle:B≤w1.heap.size:=by omega
 refine el_new (.cells (madeCells (Value.cells (.agg #[.pointer none,.pointer none,.pointer none,.int .i32 0,.int .i32 0])) (m * 5)) 153) B (by omega) fun w2 hN2 hO2 hZ2 hB2 hK2=>?_
 obtain ⟨T,hT⟩:∃T,T=w1.heap.size:=⟨_,rfl⟩
 rw[← hT] at hN2 ⊢
 refine Ab Ah rfl (Af (Aa ?_))
 have hb2:Below B w w2:=hb1.trans hB2
 have hTR2:TR w2 L T m (fun _=>0) (fun _=>0) (fun _=>0) (fun _=>0) (fun _=>0):=by
  refine ⟨_,hN2.trans (by rw[made_ofN,Nat.mul_comm m 5]),fun i hi=>?_⟩
  have key:∀k,k<5→(i * 5+k) % 5=k:=fun k hk=>by omega
  refine ⟨?_,?_,?_,?_,?_⟩
  ·show (Value.cells _)[(i * 5+0) % 5]! =_;rw[key 0 (by omega)];rfl
  ·show (Value.cells _)[(i * 5+1) % 5]! =_;rw[key 1 (by omega)];rfl
  ·show (Value.cells _)[(i * 5+2) % 5]! =_;rw[key 2 (by omega)];rfl
  ·show (Value.cells _)[(i * 5+3) % 5]! =_;rw[key 3 (by omega)];rfl
  show (Value.cells _)[(i * 5+4) % 5]! =_;rw[key 4 (by omega)];rfl
 have hro2:=Ax hro (w':=w2) fun k e=>hO2 k (As hro k e).2
 have hIB2:=(hb2.block IB hIBl).trans hIB
 obtain ⟨va,vc,hve⟩:=Bx hro2
 rw[hol] at hve
 subst hve
 have hgr:∀W,Only (fun j=>j=T) w2 W→GRep W B0 L g:=fun W h=>hg.on ((hb2.trans (h.below (by omega) (fun j e=>by omega))).mono (by omega))
 have hord:∀k,k<ord.length→ord.getD k 0<g.nb:=fun k hk=>(hom _).1 (Bq hk)
 have holn:ord.length≤1000000:=by
  have h1:=hnd
  have h2:∀b∈ord,b<g.nb:=fun b hb=>(hom b).1 hb
  have:=h1.length_le_of_subset (l₂:=List.range g.nb) fun b hb=>List.mem_range.2 (h2 b hb)
  rw[List.length_range] at this
  omega
 refine BV [(0,L.fp),(1,.slice (some ⟨IB,0,none⟩) m m),(5,.slice va ord.length vc),(6,.slice (some ⟨T,0,none⟩) m m)] rfl ⟨rfl,rfl,rfl,rfl,trivial⟩ fun t=>?_
 refine AW (fun e w3=>∃ch sb pr,At e [(0,L.fp),(1,.slice (some ⟨IB,0,none⟩) m m),(6,.slice (some ⟨T,0,none⟩) m m)]∧TR w3 L T m ch sb pr (fun _=>0) (fun _=>0)∧Kids (VG g) d ch sb∧Only (fun j=>j=T) w2 w3) ?_ ?_
 ·refine Ae (Ac (Ab Ad rfl (Ab (AN rfl (An rfl)) rfl (Ab Ad rfl (Af (Aa (Ao ?_)))))))
  refine EC_loop (fun n e w3=>∃k ch sb pr,k≤ord.length∧At e [(0,L.fp),(1,.slice (some ⟨IB,0,none⟩) m m),(6,.slice (some ⟨T,0,none⟩) m m),(16,.slice va ord.length vc),(17,.int .i64 ((ord.length:Nat):Int)),(18,.int .i64 (k:Int))]∧TR w3 L T m ch sb pr (fun _=>0) (fun _=>0)∧
   (∀p,VG g p→∃C,LT.Chn sb (ch p) C∧C.Nodup∧∀v,v∈C↔v∈(ord.take k).map (· +1)∧d v=p)∧Only (fun j=>j=T) w2 w3∧n=ord.length - k) ord.length
   ⟨0,_,_,_,Nat.zero_le _,Ar rfl ⟨rfl,rfl,rfl,rfl,rfl,rfl,trivial⟩,hTR2,fun p _=>⟨[],rfl,.nil,fun v=>⟨fun h=>(by cases h),fun ⟨h,_⟩=>(by simp at h)⟩⟩,Only.refl _ _,rfl⟩ ?_
  clear hTR2
  rintro n e w3 ⟨k,ch,sb,pr,hk,⟨t,rfl⟩,hTR,hK,hO,rfl⟩
  refine Ae (Ac (Ab (AX rfl rfl) rfl (Af (Aa (Ae ?_)))))
  refine AI rfl rfl (fun hlk=>?_) (fun hge=>?_)
  rotate_left
  ·have hk:k=ord.length:=by omega
   subst hk
   refine AK (AB (AD (AA ?_)))
   refine AR ⟨ch,sb,pr,Ar rfl ⟨rfl,rfl,rfl,trivial⟩,hTR,fun p hp=>?_,hO⟩
   obtain ⟨C,h1,h2,h3⟩:=hK p hp
   refine ⟨C,h1,h2,fun v=>?_⟩
   rw[h3,List.take_length]
   constructor
   ·rintro ⟨h4,h5⟩
    obtain ⟨z,hz,rfl⟩:=List.mem_map.1 h4
    have:=(hom z).1 hz
    refine ⟨⟨by omega,by omega⟩,fun e=>?_,h5⟩
    rw[e,hd.root] at h5
    have:=hp.1
    omega
   rintro ⟨h4,_,h5⟩
   obtain ⟨z,rfl,hz⟩:=h4.ex
   exact ⟨List.mem_map.2 ⟨z,(hom z).2 hz,rfl⟩,h5⟩
  have hlk:k<ord.length:=by omega
  refine Aq (Aa (Ae (Ao ?_)))
  have hg3:=hgr w3 hO
  have hb3:Below B w w3:=hb2.trans (hO.below (by omega) (fun j e=>by omega))
  have hro3:=Ax hro2 (w':=w3) fun j e=>hO.block j (As hro2 j e).2 (fun e2=>by
   have h1:=As hro j e
   omega)
  have hbn:=hord k hlk
  obtain ⟨rg,rc,hre,_,_,_,hce⟩:=row_form (k:=k) hro3 (by rw[hol];exact hlk)
  rw[hol] at hre
  injection hre with e1 e2 e3
  subst e1
  have hce:w3.cell? ⟨rg,0+k,none⟩=some (L.bp (ord.getD k 0)):=by
   rw[hce,List.getElem_map,List.getD_eq_getElem?_getD,List.getElem?_eq_getElem hlk];rfl
  have htk:(ord.take (k+1)).map (· +1)=(ord.take k).map (· +1) ++ [ord.getD k 0+1]:=by
   rw[List.take_add_one,List.getElem?_eq_getElem hlk,List.map_append,List.getD_eq_getElem?_getD,List.getElem?_eq_getElem hlk];rfl
  have hnew:ord.getD k 0+1∉(ord.take k).map (· +1):=fun h=>by
   obtain ⟨z,hz,e⟩:=List.mem_map.1 h
   have e:z=ord.getD k 0:=by omega
   subst e
   obtain ⟨i,hi,he⟩:=List.getElem_of_mem hz
   rw[List.getElem_take,List.getD_eq_getElem?_getD,List.getElem?_eq_getElem hlk] at he
   have hik:i<k:=by rw[List.length_take] at hi;omega
   have:=(List.getElem_inj (h₀:=by omega) (h₁:=hlk) hnd).1 he
   omega
  generalize ord.getD k 0=b at hbn hce htk hnew
  have hbV:VG g (b+1):=⟨by omega,by omega⟩
  have hbm:b+1<m:=by omega
  have hidb:w3.cell? ⟨L.bb b,0+0,none⟩=some (.int .i32 ((b+1:Nat):Int)):=hg3.bID hbn
  have hcib:w3.cell? ⟨IB,0+(b+1),none⟩=some (bpI L (d (b+1))):=Am ((hb3.block IB hIBl).trans hIB) (by rw[Nat.zero_add];exact Bf _ hbm)
  refine Ae (Ac (Ab (x_index1 rfl rfl (An rfl) (by omega)) rfl (Ab (Ai rfl (Ag rfl) ‹_›) rfl ?_)))
  refine Ab Ah rfl (Af (Aa (Ae (Ac (Ab Ad rfl (Ab Ad rfl (Ab (Au rfl) rfl (Ab (Al rfl (Ak rfl)) rfl (Ab (Ai rfl (Ag rfl) ‹_›) rfl ?_)))))))))
  refine Ab (A5 (n:=5) (i:=b+1) rfl rfl (An rfl) hbm) rfl (Ab Ah rfl (Af (Aa (BV [(0,L.fp),(1,.slice (some ⟨IB,0,none⟩) m m),(6,.slice (some ⟨T,0,none⟩) m m),(16,.slice (some ⟨rg,0,none⟩) ord.length vc),(17,.int .i64 ((ord.length:Nat):Int)),(18,.int .i64 (k:Int)),(8,L.bp b),(9,.pointer (some ⟨T,0+(b+1) * 5,none⟩))] rfl ⟨rfl,rfl,rfl,rfl,rfl,rfl,rfl,rfl,trivial⟩ fun t=>?_))))
  have hnotC:∀(p:Nat) (C:List Nat),(∀v,v∈C↔v∈(ord.take k).map (· +1)∧d v=p)→b+1∉C:=fun p C h hm=>hnew ((h _).1 hm).1
  cases hdv:d (b+1) with
  |zero=>
   rw[hdv] at hcib
   have hcib:w3.cell? ⟨IB,0+(b+1),none⟩=some (.pointer none):=hcib
   refine Ae (Ac (Ab Ad rfl (Ab Ad rfl (Ab (Au rfl) rfl (Ab (Al rfl (Ak rfl)) rfl (Ab (Ai rfl (Ag rfl) ‹_›) rfl ?_))))))
   refine Ab (x_index1 rfl rfl (An rfl) (by omega)) rfl (Ab (Ai rfl (Ag rfl) ‹_›) rfl ?_)
   refine Ab Ah rfl (Af (Aa (Ae (Ac (Ab Ad rfl (Ab (CB (p:=none) rfl rfl (BT rfl)) rfl (Af (Aa (Bh rfl rfl (Aq (Ap ?_)))))))))))
   refine Aa (Ac (Ab (x_inc rfl rfl (by omega)) rfl (Ab Ad rfl (Af ?_))))
   refine Aw (ord.length - (k+1)) (by omega) ⟨k+1,ch,sb,pr,by omega,Ar rfl ⟨rfl,rfl,rfl,rfl,rfl,rfl,trivial⟩,hTR,fun p hp=>?_,hO,rfl⟩
   obtain ⟨C,h1,h2,h3⟩:=hK p hp
   refine ⟨C,h1,h2,fun v=>?_⟩
   rw[h3,htk,List.mem_append]
   constructor
   ·rintro ⟨h4,h5⟩
    exact ⟨.inl h4,h5⟩
   rintro ⟨h4|h4,h5⟩
   ·exact ⟨h4,h5⟩
   have:v=b+1:=by simpa using h4
   subst this
   rw[hdv] at h5
   have:=hp.1
   omega
  |succ y=>
   rw[hdv] at hcib
   have hcib:w3.cell? ⟨IB,0+(b+1),none⟩=some (L.bp y):=hcib
   have hb1:b+1≠1:=fun e=>by rw[e,hd.root] at hdv;cases hdv
   have hyV:=(hd.ok _ hbV hb1).1
   rw[hdv] at hyV
   have hy:y<g.nb:=by have:=hyV.2;omega
   have hym:y+1<m:=by omega
   refine Ae (Ac (Ab Ad rfl (Ab Ad rfl (Ab (Au rfl) rfl (Ab (Al rfl (Ak rfl)) rfl (Ab (Ai rfl (Ag rfl) ‹_›) rfl ?_))))))
   refine Ab (x_index1 rfl rfl (An rfl) (by omega)) rfl (Ab (Ai rfl (Ag rfl) ‹_›) rfl ?_)
   refine Ab Ah rfl (Af (Aa (Ae (Ac (Ab Ad rfl (Ab (CB (p:=some ⟨L.bb y,0,none⟩) rfl rfl (BT rfl)) rfl (Af (Aa (Bm rfl rfl (BV [(0,L.fp),(1,.slice (some ⟨IB,0,none⟩) m m),(6,.slice (some ⟨T,0,none⟩) m m),(16,.slice (some ⟨rg,0,none⟩) ord.length vc),(17,.int .i64 ((ord.length:Nat):Int)),(18,.int .i64 (k:Int)),(8,L.bp b),(9,.pointer (some ⟨T,0+(b+1) * 5,none⟩)),(10,L.bp y)] rfl ⟨rfl,rfl,rfl,rfl,rfl,rfl,rfl,rfl,rfl,trivial⟩ fun t=>(Ae ?_)))))))))))
   refine Ac (Ab Ad rfl (Ab Ad rfl (Ab (Au rfl) rfl (Ab (Al rfl (Ak rfl)) rfl (Bc (AU rfl rfl rfl (AH rfl) (hTR.cell hbm).2.2.1 hTR.free) rfl (Af (Aa ?_)))))))
   have hTR1:=(hTR.set (i:=b+1) (y+1)).2.2.1
   have hO1:=hO.set (o:=0+(b+1) * 5+2) (bpI L (y+1)) (rfl:T=T)
   change EC _ _ _ _ _ (w3.setCell ⟨T,0+(b+1) * 5+2,none⟩ (bpI L (y+1)))
   generalize w3.setCell ⟨T,0+(b+1) * 5+2,none⟩ (bpI L (y+1))=w4 at hTR1 hO1 ⊢
   have hidy:w4.cell? ⟨L.bb y,0+0,none⟩=some (.int .i32 ((y+1:Nat):Int)):=(hgr w4 hO1).bID hy
   have hcc:=(hTR1.cell hym).1
   refine Ae (Ac (Ab Ad rfl (Ab Ad rfl (Ab Ad rfl (Ab (Au rfl) rfl (Ab (Al rfl (Ak rfl)) rfl (Ab (Ai rfl (Ag rfl) ‹_›) rfl ?_)))))))
   refine Ab (A5 (n:=5) (i:=y+1) rfl rfl (An rfl) hym) rfl (Ab (Al rfl (Ak rfl)) rfl (Ab (Ai rfl (Ag rfl) ‹_›) rfl ?_))
   refine Ab (Au rfl) rfl (Ab (Al rfl (Ak rfl)) rfl (Bc (AU rfl rfl (DW L (ch (y+1))) (AH rfl) (hTR1.cell hbm).2.1 hTR1.free) rfl (Af (Aa ?_))))
   have hTR2:=(hTR1.set (i:=b+1) (ch (y+1))).2.1
   have hO2:=hO1.set (o:=0+(b+1) * 5+1) (bpI L (ch (y+1))) (rfl:T=T)
   change EC _ _ _ _ _ (w4.setCell ⟨T,0+(b+1) * 5+1,none⟩ (bpI L (ch (y+1))))
   generalize w4.setCell ⟨T,0+(b+1) * 5+1,none⟩ (bpI L (ch (y+1)))=w5 at hTR2 hO2 ⊢
   refine BV [(0,L.fp),(1,.slice (some ⟨IB,0,none⟩) m m),(6,.slice (some ⟨T,0,none⟩) m m),(16,.slice (some ⟨rg,0,none⟩) ord.length vc),(17,.int .i64 ((ord.length:Nat):Int)),(18,.int .i64 (k:Int)),(8,L.bp b),(10,L.bp y)] rfl ⟨rfl,rfl,rfl,rfl,rfl,rfl,rfl,rfl,trivial⟩ fun t=>?_
   have hidy:w5.cell? ⟨L.bb y,0+0,none⟩=some (.int .i32 ((y+1:Nat):Int)):=(hgr w5 hO2).bID hy
   refine Ac (Ab Ad rfl (Ab Ad rfl (Ab (Au rfl) rfl (Ab (Al rfl (Ak rfl)) rfl (Ab (Ai rfl (Ag rfl) ‹_›) rfl ?_)))))
   refine Ab Ad rfl (Ab (A5 (n:=5) (i:=y+1) rfl rfl (An rfl) hym) rfl (Ab (Al rfl (Ak rfl)) rfl (Bc (AU rfl rfl rfl (AH rfl) (hTR2.cell hym).1 hTR2.free) rfl (Af (Ap (Aa ?_))))))
   have hTR3:=(hTR2.set (i:=y+1) (b+1)).1
   have hO3:=hO2.set (o:=0+(y+1) * 5+0) (bpI L (b+1)) (rfl:T=T)
   change EC _ _ _ _ _ (w5.setCell ⟨T,0+(y+1) * 5+0,none⟩ (bpI L (b+1)))
   generalize w5.setCell ⟨T,0+(y+1) * 5+0,none⟩ (bpI L (b+1))=w6 at hTR3 hO3 ⊢
   refine Ac (Ab (x_inc rfl rfl (by omega)) rfl (Ab Ad rfl (Af ?_)))
   refine Aw (ord.length - (k+1)) (by omega) ⟨k+1,_,_,_,by omega,Ar rfl ⟨rfl,rfl,rfl,rfl,rfl,rfl,trivial⟩,hTR3,fun p hp=>?_,hO3,rfl⟩
   obtain ⟨C,h1,h2,h3⟩:=hK p hp
   have hn:=hnotC p C h3
   have h1':LT.Chn (LT.upd sb (b+1) (ch (y+1))) (ch p) C:=h1.congr fun v hv=>LT.upd_ne _ _ fun e=>hn (e ▸ hv)
   by_cases e:p=y+1
   ·subst e
    refine ⟨(b+1) :: C,⟨LT.upd_same ..,by rw[LT.upd_same];omega,by rw[LT.upd_same];exact h1'⟩,List.nodup_cons.2 ⟨hn,h2⟩,fun v=>?_⟩
    rw[List.mem_cons,h3,htk,List.mem_append]
    constructor
    ·rintro (rfl|⟨h4,h5⟩)
     ·exact ⟨.inr (.head _),hdv⟩
     exact ⟨.inl h4,h5⟩
    rintro ⟨h4|h4,h5⟩
    ·exact .inr ⟨h4,h5⟩
    exact .inl (by simpa using h4)
   refine ⟨C,by rw[LT.upd_ne _ _ e];exact h1',h2,fun v=>?_⟩
   rw[h3,htk,List.mem_append]
   constructor
   ·rintro ⟨h4,h5⟩
    exact ⟨.inl h4,h5⟩
   rintro ⟨h4|h4,h5⟩
   ·exact ⟨h4,h5⟩
   have:v=b+1:=by simpa using h4
   subst this
   exact absurd (h5.symm.trans hdv) e
 rintro e w3 ⟨ch,sb,pr,⟨t,rfl⟩,hTR,hK,hO⟩
 have hg3:=hgr w3 hO
 have hb3:Below B w w3:=hb2.trans (hO.below (by omega) (fun j e=>by omega))
 have hfe:=hg3.fEntry
 rw[hent] at hfe
 obtain ⟨num,hr⟩:=hd.rank
 obtain ⟨R,hR⟩:=bound_ex num g.nb
 refine Ae (Ac (Ab Ad rfl (Ab Ad rfl (Ab (Au rfl) rfl (Ab (Al rfl (Ak rfl)) rfl (Ab (Ai rfl (Ag rfl) ‹_›) rfl ?_))))))
 refine Be (AG Tryz.func106 rfl rfl rfl rfl) rfl (number_ret (num:=num) hg (by omega) hm hr hK (fun v hv=>hR v hv.2) _ w3 0 1 _ _ rfl hn.1 (hb3.mono (by omega)) hTR (fun _ _=>rfl) (by
  have:=cnt_none (num:=fun _=>0) (fun _=>rfl) g.nb
  unfold unn;omega)) ?_
 rintro _ w4 ⟨n',en,ex,rfl,hTR4,_,_,hNm,_,hO4⟩
 refine Af (Aa (Ae (Ac (Ab Ad rfl (Ab Ah rfl (Af (Aa (AE ?_))))))))
 refine Az rfl rfl rfl ⟨T,en,ex,rfl,by omega,⟨⟨ch,sb,pr,by rw[← hm];exact hTR4⟩,fun x y hx hy h1 h2=>hd.dom (hNm.lam _ _ (hd.all _ ⟨by omega,by omega⟩) (hd.all _ ⟨by omega,by omega⟩) h1 h2)⟩,hb3.trans (hO4.below (by have:=hO.size;omega) (fun j e=>by omega))⟩
theorem GU {w:World} {B0:Nat} {L:Lay} {g:Gph} (hg:GRep w B0 L g) (hn:1≤g.nb∧g.nb≤9) (hent:L.entry=some ⟨L.bb 0,0,none⟩) (hsu:∀x,x<g.nb→(g.succs x).length≤2∧∀s∈g.succs x,s<g.nb)
 (hpr:∀x,x<g.nb→g.preds x=predsL g.succs g.nb x) (hre:∀x,x<g.nb→RchS g.succs g.nb x):
 Ret Tryz.prog 84 #[L.fp] w fun v w'=>∃IB d,v= .slice (some ⟨IB,0,none⟩) (g.nb+1) (g.nb+1)∧w.heap.size≤IB∧
  w'.heap[IB]? =some (.cells (cellsOf (fun i=>bpI L (d i)) (g.nb+1)) 74 (0,0))∧DomT g d∧Below w.heap.size w w':=by
 refine ret_of_EC Tryz.func84 rfl rfl ?_
 have hfe:=hg.fEntry
 rw[hent] at hfe
 refine Ae (Ac (Ab Ah rfl (Af (Aa (Ae (Ac (Ab Ad rfl (Ab Ad rfl (Ab (Au rfl) rfl (Ab (Al rfl (Ak rfl)) rfl (Ab (Ai rfl (Ag rfl) ‹_›) rfl ?_)))))))))))
 refine Be (AG Tryz.func107 rfl rfl rfl rfl) rfl (dominators_ret hg hn hsu hpr hre) ?_
 rintro v w1 ⟨IB,d,rfl,h1,h2,h3,h4⟩
 refine Ab Ah rfl (Af (Aa (AE ?_)))
 exact Az rfl rfl rfl ⟨IB,d,rfl,h1,h2,h3,h4⟩
theorem Sdom_ret {w:World} {B0:Nat} {L:Lay} {g:Gph} (hg:GRep w B0 L g) (hn:1≤g.nb∧g.nb≤9) (hent:L.entry=some ⟨L.bb 0,0,none⟩) (hsu:∀x,x<g.nb→(g.succs x).length≤2∧∀s∈g.succs x,s<g.nb)
 (hpr:∀x,x<g.nb→g.preds x=predsL g.succs g.nb x) (hre:∀x,x<g.nb→RchS g.succs g.nb x):
 Ret Tryz.prog 59 #[L.fp] w fun v w'=>∃T en ex,v= .slice (some ⟨T,0,none⟩) (g.nb+1) (g.nb+1)∧w.heap.size≤T∧SdT w' L g T en ex∧Below w.heap.size w w':=by
 refine ret_of_EC Tryz.func59 rfl rfl (Ae (Ac (Ab Ah rfl (Af (Aa (Ae (Ac (Ab Ad rfl (Ab Ad rfl (Be (AG Tryz.func84 rfl rfl rfl rfl) rfl (GU hg hn hent hsu hpr hre) ?_))))))))))
 rintro _ w1 ⟨IB,d,rfl,h1,h2,h3,h4⟩
 refine Be (AG Tryz.func83 rfl rfl rfl rfl) rfl (sparse_ret (hg.on h4) hn hent hsu hre h2 h3) ?_
 rintro _ w2 ⟨T,en,ex,rfl,h5,h6,h7⟩
 refine Ab Ah rfl (Af (Aa (AE ?_)))
 exact Az rfl rfl rfl ⟨T,en,ex,rfl,by have:=h4.size;omega,h6,h4.trans (h7.mono h4.size)⟩
theorem SdT.stay {w w':World} {L:Lay} {g:Gph} {T:Nat} {en ex:Nat→Nat} (h:SdT w L g T en ex) (hk:w'.heap[T]? =w.heap[T]?):SdT w' L g T en ex:=by
 obtain ⟨ch,sb,pr,h1⟩:=h.tr
 exact ⟨⟨ch,sb,pr,h1.stay hk⟩,h.dom⟩
theorem domorder_ret {w:World} {B0:Nat} {L:Lay} {g:Gph} {T x:Nat} {en ex:Nat→Nat} (hg:GRep w B0 L g) (h:SdT w L g T en ex) (hx:x<g.nb):
 Ret Tryz.prog 62 #[.slice (some ⟨T,0,none⟩) (g.nb+1) (g.nb+1),L.bp x] w fun v w'=>v= .int .i32 ((en (x+1):Nat):Int)∧w'=w:=by
 refine ret_of_EC Tryz.func62 rfl rfl ?_
 obtain ⟨ch,sb,pr,hT⟩:=h.tr
 have hid:w.cell? ⟨L.bb x,0+0,none⟩=some (.int .i32 ((x+1:Nat):Int)):=hg.bID hx
 have hc:=(hT.cell (i:=x+1) (by omega)).2.2.2.1
 refine Ae (Ac (Ab Ah rfl (Af (Aa (Ae (Ac (Ab Ad rfl (Ab Ad rfl (Ab (Au rfl) rfl (Ab (Al rfl (Ak rfl)) rfl (Ab (Ai rfl (Ag rfl) ‹_›) rfl ?_)))))))))))
 refine Ab (A5 (n:=5) (i:=x+1) rfl rfl (An rfl) (by omega)) rfl (Ab (Al rfl (Ak rfl)) rfl (Ab (Ai rfl (Ag rfl) ‹_›) rfl ?_))
 refine Ab Ah rfl (Af (Aa (AE ?_)))
 exact Az rfl rfl rfl ⟨rfl,rfl⟩
theorem ancestor_ret {w:World} {B0:Nat} {L:Lay} {g:Gph} {T x y:Nat} {en ex:Nat→Nat} (hg:GRep w B0 L g) (h:SdT w L g T en ex) (hx:x<g.nb) (hy:y<g.nb):
 Ret Tryz.prog 65 #[.slice (some ⟨T,0,none⟩) (g.nb+1) (g.nb+1),L.bp x,L.bp y] w fun v w'=>∃b,v= .bool b∧(b=true→Dom g.succs x y)∧Only (fun _=>False) w w':=by
 refine ret_of_EC Tryz.func65 rfl rfl ?_
 obtain ⟨ch,sb,pr,hT⟩:=h.tr
 have hidx:w.cell? ⟨L.bb x,0+0,none⟩=some (.int .i32 ((x+1:Nat):Int)):=hg.bID hx
 have hidy:w.cell? ⟨L.bb y,0+0,none⟩=some (.int .i32 ((y+1:Nat):Int)):=hg.bID hy
 have hcx:=hT.cell (i:=x+1) (by omega)
 have hcy:=hT.cell (i:=y+1) (by omega)
 refine Ae (Ac (Ab Ah rfl (Af (Aa (Ae (Ae (Ac (Ab Ad rfl (Ab Ad rfl (Ab (x_eqlp (a:=⟨L.bb x,0,none⟩) (b:=⟨L.bb y,0,none⟩) rfl rfl (BT rfl) (hg.bPlain hx) (hg.bPlain hy)) rfl (Af ?_)))))))))))
 refine Aa ?_
 refine AI rfl rfl (fun he=>?_) (fun hne=>?_)
 ·refine Ae (Ac (Ab Ah rfl (Af (Aa (AE (AO ?_))))))
  refine Az rfl rfl rfl ⟨true,rfl,fun _=>?_,Only.refl _ _⟩
  injection he with he
  have:=Gi hg hx hy he
  subst this
  exact Dom.rfl' _
 refine Aq (Aa (Ae (Ac (Ab Ad rfl (Ab Ad rfl (Ab (Au rfl) rfl (Ab (Al rfl (Ak rfl)) rfl (Ab (Ai rfl (Ag rfl) ‹_›) rfl ?_))))))))
 refine Ab (A5 (n:=5) (i:=x+1) rfl rfl (An rfl) (by omega)) rfl (Ab Ah rfl (Af (Aa (Ae (Ac (Ab Ad rfl (Ab Ad rfl (Ab (Au rfl) rfl (Ab (Al rfl (Ak rfl)) rfl (Ab (Ai rfl (Ag rfl) ‹_›) rfl ?_))))))))))
 refine Ab (A5 (n:=5) (i:=y+1) rfl rfl (An rfl) (by omega)) rfl (Ab Ah rfl (Af (Aa (Ae ?_))))
 have hcd:Cells [(⟨T,0+(x+1) * 5+3,none⟩,.int .i32 ((en (x+1):Nat):Int)),(⟨T,0+(y+1) * 5+3,none⟩,.int .i32 ((en (y+1):Nat):Int)),(⟨T,0+(x+1) * 5+4,none⟩,.int .i32 ((ex (x+1):Nat):Int)),(⟨T,0+(y+1) * 5+4,none⟩,.int .i32 ((ex (y+1):Nat):Int))] w.drew:=
  (Keep.drew w).cells (.cons hcx.2.2.2.1 (.cons hcy.2.2.2.1 (.cons hcx.2.2.2.2 (.cons hcy.2.2.2.2 (.nil _)))))
 refine AY mixed _ [(0,false),(1,false),(2,false),(3,false),(4,false),(5,false),(6,false),(7,false),(8,false),(9,false),(10,false),(11,false),(12,false),(13,false),(14,false),(15,false),(16,false),(17,false),(18,false),(19,false),(20,false)] (by kernel_rfl) hcd (Aj rfl (fun _ _=>Ad) (Aj rfl (fun _ _=>Au rfl) (Aj rfl (fun _ _=>Al rfl (Ak rfl)) (Aj rfl (fun _ hS=>Ai rfl (Ag rfl) (hS.get (by first|exact mm0|exact mm1|exact mm2|exact mm3|exact mm4|exact mm5|exact mm6|exact mm7))) ?_))))
 refine Aj rfl (fun _ _=>Ad) (Aj rfl (fun _ _=>Au rfl) (Aj rfl (fun _ _=>Al rfl (Ak rfl)) (Aj rfl (fun _ hS=>Ai rfl (Ag rfl) (hS.get (by first|exact mm0|exact mm1|exact mm2|exact mm3|exact mm4|exact mm5|exact mm6|exact mm7))) ?_)))
 refine Aj rfl (fun _ _=>C7 rfl rfl) (Aj rfl (fun _ _=>Ad) ?_)
 by_cases h1:((en (x+1):Nat):Int)≤((en (y+1):Nat):Int)
 ·rw[decide_eq_true h1]
  refine Ay rfl rfl (fun _ _=>Ad) (Ay rfl rfl (fun _ _=>Au rfl) (Ay rfl rfl (fun _ _=>Al rfl (Ak rfl)) (Ay rfl rfl (fun _ hS=>Ai rfl (Ag rfl) (hS.get (by first|exact mm0|exact mm1|exact mm2|exact mm3|exact mm4|exact mm5|exact mm6|exact mm7))) ?_)))
  refine Ay rfl rfl (fun _ _=>Ad) (Ay rfl rfl (fun _ _=>Au rfl) (Ay rfl rfl (fun _ _=>Al rfl (Ak rfl)) (Ay rfl rfl (fun _ hS=>Ai rfl (Ag rfl) (hS.get (by first|exact mm0|exact mm1|exact mm2|exact mm3|exact mm4|exact mm5|exact mm6|exact mm7))) ?_)))
  refine Ay rfl rfl (fun _ _=>C7 rfl rfl) (Aj rfl (fun _ _=>AV rfl) (Aj rfl (fun _ _=>Ah) (AP (Aa (AE ?_)))))
  refine Az rfl rfl rfl ⟨_,rfl,fun hb=>h.dom x y hx hy (by omega) ?_,(Only.refl _ _).drew⟩
  have:=of_decide_eq_true hb
  omega
 rw[decide_eq_false h1]
 refine AJ rfl rfl (AJ rfl rfl (AJ rfl rfl (AJ rfl rfl (AJ rfl rfl (AJ rfl rfl (AJ rfl rfl (AJ rfl rfl (AJ rfl rfl (Aj rfl (fun _ _=>AM rfl) (Aj rfl (fun _ _=>Ah) (AP ?_)))))))))))
 refine Aa (AE ?_)
 exact Az rfl rfl rfl ⟨_,rfl,fun hb=>(by cases hb),(Only.refl _ _).drew⟩
end Go.Proofs.YteepnepebilckaaGreatDoor
namespace Go.Proofs.YteepnepebilckaaGreatDoor
open Go Go.Eng Go.RowKit Go.Shelf
def laySort_ren:Go.Shelf.Ren:=⟨fun|6=>76|15=>81|14=>80|28=>101|29=>102|20=>93|21=>94|22=>95|23=>96|24=>97|25=>98|26=>99|27=>100|46=>109|47=>110|48=>111|49=>112|50=>113|57=>129|n=>n,fun|22=>78|24=>97|25=>124|3=>3|39=>132|0=>0|53=>121|55=>171|4=>4|46=>163|45=>162|50=>167|5=>5|9=>9|66=>177|70=>181|76=>194|77=>195|n=>n,fun|n=>n⟩
set_option maxRecDepth 100000 in
theorem Er:Go.Proofs.SlLaysF.n6 Tryz.prog laySort_ren:= {
 mixed:=by kernel_rfl,
 f6:=⟨Tryz.f76.name,by decide,Tryz.func76.trans (congrArg some (by kernel_rfl))⟩,
 f14:=⟨Tryz.f80.name,by decide,Tryz.func80.trans (congrArg some (by kernel_rfl))⟩,
 f15:=Tryz.func81.trans (congrArg some (by kernel_rfl)),
 f20:=⟨Tryz.f93.name,by decide,Tryz.func93.trans (congrArg some (by kernel_rfl))⟩,
 f21:=⟨Tryz.f94.name,by decide,Tryz.func94.trans (congrArg some (by kernel_rfl))⟩,
 f22:=⟨Tryz.f95.name,by decide,Tryz.func95.trans (congrArg some (by kernel_rfl))⟩,
 f23:=⟨Tryz.f96.name,by decide,Tryz.func96.trans (congrArg some (by kernel_rfl))⟩,
 f24:=⟨Tryz.f97.name,by decide,Tryz.func97.trans (congrArg some (by kernel_rfl))⟩,
 f25:=⟨Tryz.f98.name,by decide,Tryz.func98.trans (congrArg some (by kernel_rfl))⟩,
 f26:=⟨Tryz.f99.name,by decide,Tryz.func99.trans (congrArg some (by kernel_rfl))⟩,
 f27:=⟨Tryz.f100.name,by decide,Tryz.func100.trans (congrArg some (by kernel_rfl))⟩,
 f28:=Tryz.func101.trans (congrArg some (by kernel_rfl)),
 f29:=Tryz.func102.trans (congrArg some (by kernel_rfl)),
 f46:=⟨Tryz.f109.name,by decide,Tryz.func109.trans (congrArg some (by kernel_rfl))⟩,
 f47:=Tryz.func110.trans (congrArg some (by kernel_rfl)),
 f48:=Tryz.func111.trans (congrArg some (by kernel_rfl)),
 f49:=⟨Tryz.f112.name,by decide,Tryz.func112.trans (congrArg some (by kernel_rfl))⟩,
 f50:=⟨Tryz.f113.name,by decide,Tryz.func113.trans (congrArg some (by kernel_rfl))⟩,
 f57:=⟨Tryz.f129.name,by decide,Tryz.func129.trans (congrArg some (by kernel_rfl))⟩,
 t0:=Tryz.underlying0,
 a0:=Tryz.isAgg0,
 z0:=Tryz.sizeOf0,
 v0:=Tryz.zeroValue0,
 t3:=Tryz.underlying3,
 a3:=Tryz.isAgg3,
 z3:=Tryz.sizeOf3,
 v3:=Tryz.zeroValue3,
 t4:=Tryz.underlying4,
 a4:=Tryz.isAgg4,
 z4:=Tryz.sizeOf4,
 v4:=Tryz.zeroValue4,
 t5:=Tryz.underlying5,
 a5:=Tryz.isAgg5,
 z5:=Tryz.sizeOf5,
 v5:=Tryz.zeroValue5,
 t9:=Tryz.underlying9,
 a9:=Tryz.isAgg9,
 z9:=Tryz.sizeOf9,
 v9:=Tryz.zeroValue9,
 t22:=Tryz.underlying78,
 a22:=Tryz.isAgg78,
 z22:=Tryz.sizeOf78,
 v22:=Tryz.zeroValue78,
 a24:=Tryz.isAgg97,
 z24:=Tryz.sizeOf97,
 t25:=Tryz.underlying124,
 a25:=Tryz.isAgg124,
 z25:=Tryz.sizeOf124,
 v25:=Tryz.zeroValue124,
 t39:=Tryz.underlying132,
 a39:=Tryz.isAgg132,
 z39:=Tryz.sizeOf132,
 v39:=Tryz.zeroValue132,
 t45:=Tryz.underlying162,
 a45:=Tryz.isAgg162,
 z45:=Tryz.sizeOf162,
 v45:=Tryz.zeroValue162,
 t46:=Tryz.underlying163,
 a46:=Tryz.isAgg163,
 z46:=Tryz.sizeOf163,
 v46:=Tryz.zeroValue163,
 t50:=Tryz.underlying167,
 a50:=Tryz.isAgg167,
 z50:=Tryz.sizeOf167,
 v50:=Tryz.zeroValue167,
 t53:=Tryz.underlying121,
 a53:=Tryz.isAgg121,
 z53:=Tryz.sizeOf121,
 v53:=Tryz.zeroValue121,
 t55:=Tryz.underlying171,
 a55:=Tryz.isAgg171,
 z55:=Tryz.sizeOf171,
 v55:=Tryz.zeroValue171,
 t66:=Tryz.underlying177,
 a66:=Tryz.isAgg177,
 z66:=Tryz.sizeOf177,
 v66:=Tryz.zeroValue177,
 t70:=Tryz.underlying181,
 a70:=Tryz.isAgg181,
 z70:=Tryz.sizeOf181,
 v70:=Tryz.zeroValue181,
 t76:=Tryz.underlying194,
 a76:=Tryz.isAgg194,
 z76:=Tryz.sizeOf194,
 v76:=Tryz.zeroValue194,
 t77:=Tryz.underlying195,
 a77:=Tryz.isAgg195,
 z77:=Tryz.sizeOf195,
 v77:=Tryz.zeroValue195}
def layInts_ren:Go.Shelf.Ren:=⟨fun|5=>82|8=>81|7=>103|19=>101|20=>102|10=>114|11=>115|12=>116|13=>117|14=>118|15=>119|16=>120|17=>121|18=>122|30=>130|31=>110|32=>111|33=>131|34=>132|35=>133|40=>136|n=>n,fun|23=>35|25=>3|3=>3|32=>132|22=>35|0=>0|44=>121|46=>171|4=>4|36=>163|35=>162|41=>167|5=>5|9=>9|53=>177|57=>181|63=>194|64=>195|n=>n,fun|n=>n⟩
set_option maxRecDepth 100000 in
theorem GY:Go.Proofs.SlLaysM.n5 Tryz.prog layInts_ren:= {
 mixed:=by kernel_rfl,
 f5:=⟨Tryz.f82.name,by decide,Tryz.func82.trans (congrArg some (by kernel_rfl))⟩,
 f7:=⟨Tryz.f103.name,by decide,Tryz.func103.trans (congrArg some (by kernel_rfl))⟩,
 f8:=Tryz.func81.trans (congrArg some (by kernel_rfl)),
 f10:=⟨Tryz.f114.name,by decide,Tryz.func114.trans (congrArg some (by kernel_rfl))⟩,
 f11:=⟨Tryz.f115.name,by decide,Tryz.func115.trans (congrArg some (by kernel_rfl))⟩,
 f12:=⟨Tryz.f116.name,by decide,Tryz.func116.trans (congrArg some (by kernel_rfl))⟩,
 f13:=⟨Tryz.f117.name,by decide,Tryz.func117.trans (congrArg some (by kernel_rfl))⟩,
 f14:=⟨Tryz.f118.name,by decide,Tryz.func118.trans (congrArg some (by kernel_rfl))⟩,
 f15:=⟨Tryz.f119.name,by decide,Tryz.func119.trans (congrArg some (by kernel_rfl))⟩,
 f16:=⟨Tryz.f120.name,by decide,Tryz.func120.trans (congrArg some (by kernel_rfl))⟩,
 f17:=⟨Tryz.f121.name,by decide,Tryz.func121.trans (congrArg some (by kernel_rfl))⟩,
 f18:=⟨Tryz.f122.name,by decide,Tryz.func122.trans (congrArg some (by kernel_rfl))⟩,
 f19:=Tryz.func101.trans (congrArg some (by kernel_rfl)),
 f20:=Tryz.func102.trans (congrArg some (by kernel_rfl)),
 f30:=⟨Tryz.f130.name,by decide,Tryz.func130.trans (congrArg some (by kernel_rfl))⟩,
 f31:=Tryz.func110.trans (congrArg some (by kernel_rfl)),
 f32:=Tryz.func111.trans (congrArg some (by kernel_rfl)),
 f33:=⟨Tryz.f131.name,by decide,Tryz.func131.trans (congrArg some (by kernel_rfl))⟩,
 f34:=⟨Tryz.f132.name,by decide,Tryz.func132.trans (congrArg some (by kernel_rfl))⟩,
 f35:=⟨Tryz.f133.name,by decide,Tryz.func133.trans (congrArg some (by kernel_rfl))⟩,
 f40:=⟨Tryz.f136.name,by decide,Tryz.func136.trans (congrArg some (by kernel_rfl))⟩,
 t0:=Tryz.underlying0,
 a0:=Tryz.isAgg0,
 z0:=Tryz.sizeOf0,
 v0:=Tryz.zeroValue0,
 t3:=Tryz.underlying3,
 a3:=Tryz.isAgg3,
 z3:=Tryz.sizeOf3,
 v3:=Tryz.zeroValue3,
 t4:=Tryz.underlying4,
 a4:=Tryz.isAgg4,
 z4:=Tryz.sizeOf4,
 v4:=Tryz.zeroValue4,
 t5:=Tryz.underlying5,
 a5:=Tryz.isAgg5,
 z5:=Tryz.sizeOf5,
 v5:=Tryz.zeroValue5,
 t9:=Tryz.underlying9,
 a9:=Tryz.isAgg9,
 z9:=Tryz.sizeOf9,
 v9:=Tryz.zeroValue9,
 t22:=Tryz.underlying35,
 a22:=Tryz.isAgg35,
 z22:=Tryz.sizeOf35,
 v22:=Tryz.zeroValue35,
 t23:=Tryz.underlying35,
 a23:=Tryz.isAgg35,
 z23:=Tryz.sizeOf35,
 v23:=Tryz.zeroValue35,
 t25:=Tryz.underlying3,
 a25:=Tryz.isAgg3,
 z25:=Tryz.sizeOf3,
 v25:=Tryz.zeroValue3,
 t32:=Tryz.underlying132,
 a32:=Tryz.isAgg132,
 z32:=Tryz.sizeOf132,
 v32:=Tryz.zeroValue132,
 t35:=Tryz.underlying162,
 a35:=Tryz.isAgg162,
 z35:=Tryz.sizeOf162,
 v35:=Tryz.zeroValue162,
 t36:=Tryz.underlying163,
 a36:=Tryz.isAgg163,
 z36:=Tryz.sizeOf163,
 v36:=Tryz.zeroValue163,
 t41:=Tryz.underlying167,
 a41:=Tryz.isAgg167,
 z41:=Tryz.sizeOf167,
 v41:=Tryz.zeroValue167,
 t44:=Tryz.underlying121,
 a44:=Tryz.isAgg121,
 z44:=Tryz.sizeOf121,
 v44:=Tryz.zeroValue121,
 t46:=Tryz.underlying171,
 a46:=Tryz.isAgg171,
 z46:=Tryz.sizeOf171,
 v46:=Tryz.zeroValue171,
 t53:=Tryz.underlying177,
 a53:=Tryz.isAgg177,
 z53:=Tryz.sizeOf177,
 v53:=Tryz.zeroValue177,
 t57:=Tryz.underlying181,
 a57:=Tryz.isAgg181,
 z57:=Tryz.sizeOf181,
 v57:=Tryz.zeroValue181,
 t63:=Tryz.underlying194,
 a63:=Tryz.isAgg194,
 z63:=Tryz.sizeOf194,
 v63:=Tryz.zeroValue194,
 t64:=Tryz.underlying195,
 a64:=Tryz.isAgg195,
 z64:=Tryz.sizeOf195,
 v64:=Tryz.zeroValue195}
end Go.Proofs.YteepnepebilckaaGreatDoor
