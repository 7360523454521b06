/- The law FnAllRun returns true for every input in which the opcode table reads as laid, and its arguments read as they did, the table being tied to the text of the program. -/
import Derived.Test.YteepnepebilckaaGreatDoorCS04
namespace Go.Proofs.YteepnepebilckaaGreatDoor
open Go Go.Eng
structure CInv (g:Gph) (r:Nat→Nat):Prop where
 closed:∀i,i<g.nv→∀a∈g.args i,a<g.nv
 copy:∀i,i<g.nv→g.op i=14→∃j,g.args i=[j]∧r j<r i
inductive Src (g:Gph):Nat→Nat→Prop where
 |here {i:Nat}:g.op i≠14→Src g i i
 |step {i j s:Nat}:g.op i=14→g.args i=[j]→Src g j s→Src g i s
inductive Chain (g:Gph):Nat→Nat→Prop where
 |refl (i:Nat):Chain g i i
 |step {i j s:Nat}:g.op i=14→g.args i=[j]→Chain g j s→Chain g i s
inductive Step (g:Gph):Gph→Prop where
 |red {i k c d:Nat}:i<g.nv→k<(g.args i).length→(g.args i).getD k 0=c→g.op c=14→g.args c=[d]→Step g (g.setArg i k d)
 |phi {i x:Nat}:i<g.nv→g.op i=13→x∈g.args i→x≠i→(∀a∈g.args i,a=i∨a=x)→Step g ((g.setOp i 14).setArgs i [x])
inductive Red (g:Gph):Gph→Prop where
 |refl:Red g g
 |step {g':Gph} {i k c d:Nat}:Red g g'→i<g'.nv→k<(g'.args i).length→(g'.args i).getD k 0=c→g'.op c=14→g'.args c=[d]→Red g (g'.setArg i k d)
inductive Steps (g:Gph):Gph→Prop where
 |refl:Steps g g
 |step {g' g'':Gph}:Steps g g'→Step g' g''→Steps g g''
theorem Steps.trans {a b c:Gph} (h:Steps a b) (k:Steps b c):Steps a c:=by
 induction k with
 |refl=>exact h
 |step _ s ih=>exact .step ih s
theorem Red.trans {a b c:Gph} (h:Red a b) (k:Red b c):Red a c:=by
 induction k with
 |refl=>exact h
 |step _ h1 h2 h3 h4 h5 ih=>exact .step ih h1 h2 h3 h4 h5
theorem Red.steps {a b:Gph} (h:Red a b):Steps a b:=by
 induction h with
 |refl=>exact .refl
 |step _ h1 h2 h3 h4 h5 ih=>exact .step ih (.red h1 h2 h3 h4 h5)
section
variable {g g' : Gph} {r : Nat → Nat}
theorem Chain.trans {a b c:Nat} (h:Chain g a b) (k:Chain g b c):Chain g a c:=by
 induction h with
 |refl=>exact k
 |step h1 h2 _ ih=>exact .step h1 h2 (ih k)
theorem Chain.src {a b s:Nat} (h:Chain g a b) (k:Src g b s):Src g a s:=by
 induction h with
 |refl=>exact k
 |step h1 h2 _ ih=>exact .step h1 h2 (ih k)
theorem CInv.next (hc:CInv g r) {i j:Nat} (hi:i<g.nv) (h1:g.op i=14) (h2:g.args i=[j]):j<g.nv∧r j<r i:=by
 obtain ⟨j',h3,h4⟩:=hc.copy i hi h1
 rw[h2] at h3
 have:j=j':=by simpa using h3
 subst this
 exact ⟨hc.closed i hi j (by rw[h2];simp),h4⟩
theorem Chain.rank (hc:CInv g r) {a b:Nat} (h:Chain g a b) (ha:a<g.nv):b<g.nv∧r b≤r a∧(a≠b→r b<r a):=by
 induction h with
 |refl=>exact ⟨ha,Nat.le_refl _,fun h=>absurd rfl h⟩
 |step h1 h2 _ ih=>
  obtain ⟨hj,h4⟩:=hc.next ha h1 h2
  obtain ⟨k1,k2,_⟩:=ih hj
  exact ⟨k1,by omega,fun _=>by omega⟩
theorem setArg_args (i k d x:Nat):(g.setArg i k d).args x=if x=i then (g.args i).set k d else g.args x:=rfl
theorem D2 (i k d x:Nat):(g.setArg i k d).op x=g.op x:=rfl
theorem Src.setArg (hc:CInv g r) {a s u k d:Nat} (h:Src g a s) (ha:a<g.nv) (hu:r a<r u):Src (g.setArg u k d) a s:=by
 induction h with
 |here h=>exact .here h
 | @step i j s h1 h2 _ ih=>
   obtain ⟨hj,h4⟩:=hc.next ha h1 h2
   have hne:i≠u:=fun e=>by rw[e] at hu;omega
   exact .step h1 (by rw[setArg_args,if_neg hne];exact h2) (ih hj (by omega))
theorem CInv.red (hc:CInv g r) {i k c d:Nat} (hi:i<g.nv) (hk:k<(g.args i).length) (hcd:(g.args i).getD k 0=c) (h1:g.op c=14) (h2:g.args c=[d]):CInv (g.setArg i k d) r:=by
 have hcm:c∈g.args i:=by rw[← hcd,List.getD_eq_getElem?_getD,List.getElem?_eq_getElem hk];simp
 have hcl:=hc.closed i hi c hcm
 obtain ⟨hd,h4⟩:=hc.next hcl h1 h2
 refine ⟨fun x hx a ha=>?_,fun x hx hox=>?_⟩
 ·rw[setArg_args] at ha
  by_cases e:x=i
  ·rw[if_pos e] at ha
   rcases List.mem_or_eq_of_mem_set ha with h|h
   ·exact hc.closed i hi a h
   rw[h];exact hd
  rw[if_neg e] at ha
  exact hc.closed x hx a ha
 obtain ⟨j,h5,h6⟩:=hc.copy x hx hox
 rw[setArg_args]
 by_cases e:x=i
 ·subst e
  rw[if_pos rfl,h5]
  rw[h5] at hk hcd
  have hk0:k=0:=by simp at hk;exact hk
  subst hk0
  have hjc:j=c:=by simpa using hcd
  exact ⟨d,rfl,by rw[← hjc] at h4;omega⟩
 rw[if_neg e]
 exact ⟨j,h5,h6⟩
theorem CInv.reds (hc:CInv g r) (h:Red g g'):CInv g' r:=by
 induction h with
 |refl=>exact hc
 |step _ h1 h2 h3 h4 h5 ih=>exact ih.red h1 h2 h3 h4 h5
theorem Red.same (h:Red g g'):g'.nv=g.nv∧g'.nb=g.nb∧g'.op=g.op∧g'.ty=g.ty∧g'.aux=g.aux∧g'.blk=g.blk∧g'.kind=g.kind∧g'.likely=g.likely∧g'.succs=g.succs∧g'.preds=g.preds∧g'.bvals=g.bvals∧g'.ctrl=g.ctrl:=by
 induction h with
 |refl=>simp
 |step _ _ _ _ _ _ ih=>exact ih
theorem Red.len (h:Red g g') (x:Nat):(g'.args x).length=(g.args x).length:=by
 induction h with
 |refl=>rfl
 |step _ _ _ _ _ _ ih=>
  rw[setArg_args]
  split
  ·rename_i e;subst e;simpa using ih
  exact ih
theorem Red.stay (h:Red g g') {x k:Nat} (hx:g.op ((g.args x).getD k 0)≠14):(g'.args x).getD k 0=(g.args x).getD k 0:=by
 induction h with
 |refl=>rfl
 | @step g1 i k' c d h0 h1 h2 h3 h4 h5 ih=>
   rw[setArg_args]
   by_cases e:x=i
   ·subst e
    rw[if_pos rfl]
    by_cases ek:k'=k
    ·subst ek
     exfalso
     rw[ih] at h3
     rw[h3] at hx
     rw[h0.same.2.2.1] at h4
     exact hx h4
    rw[List.getD_eq_getElem?_getD,List.getElem?_set_ne ek,← List.getD_eq_getElem?_getD]
    exact ih
   rw[if_neg e];exact ih
theorem Red.back (h:Red g g') {a s:Nat} (hs:Src g' a s):Src g a s:=by
 induction h generalizing a s with
 |refl=>exact hs
 | @step g1 i k c d h0 h1 h2 h3 h4 h5 ih=>
   apply ih
   clear ih
   induction hs with
   |here h=>exact .here h
   | @step x y s hx hy _ ih2=>
     rw[setArg_args] at hy
     by_cases e:x=i
     ·subst e
      rw[if_pos rfl] at hy
      have hlen:(g1.args x).length=1:=by
       have:=congrArg List.length hy
       simpa using this
      have hk0:k=0:=by omega
      subst hk0
      obtain ⟨z,hz⟩:=List.length_eq_one_iff.1 hlen
      rw[hz] at hy h3
      have hdy:d=y:=by simpa using hy
      have hzc:z=c:=by simpa using h3
      subst hdy;subst hzc
      exact .step hx hz (.step h4 h5 ih2)
     rw[if_neg e] at hy
     exact .step hx hy ih2
theorem F4 (i k a b:Nat):(g.setArg i k a).setArg i k b=g.setArg i k b:=by
 simp only [Gph.setArg]
 congr 1
 funext x
 by_cases e:x=i
 ·simp [e]
 simp [e]
theorem Gg {i k a:Nat} (hk:k<(g.args i).length) (h:(g.args i).getD k 0=a):g.setArg i k a=g:=by
 cases g
 simp only [Gph.setArg]
 congr 1
 funext x
 by_cases e:x=i
 ·subst e
  rw[if_pos rfl]
  dsimp only at h hk
  apply List.ext_getElem (by simp)
  intro n h1 h2
  rw[List.getElem_set]
  split
  ·rename_i e;subst e
   rw[← h,List.getD_eq_getElem?_getD,List.getElem?_eq_getElem h2];rfl
  rfl
 rw[if_neg e]
theorem Red.toSrc (hc:CInv g r) {i k a s:Nat} (hi:i<g.nv) (hk:k<(g.args i).length) (ha:(g.args i).getD k 0=a) (hsrc:Src g a s) (hia:g.op i=14→r a<r i):Red g (g.setArg i k s):=by
 have key:∀{a s:Nat},Src g a s→a<g.nv→(g.op i=14→r a<r i)→∀g1,Red g g1→g1=g.setArg i k a→Red g (g.setArg i k s):=by
  intro a s h
  induction h with
  |here _=>intro _ _ g1 h1 e;rw[← e];exact h1
  | @step a j s h1 h2 _ ih=>
    intro hal hr g1 hg1 e
    obtain ⟨hj,h4⟩:=hc.next hal h1 h2
    refine ih hj (fun h=>by have:=hr h;omega) (g1.setArg i k j) ?_ (by rw[e,F4])
    have hne:a≠i:=by
     intro e;subst e
     have:=hr h1;omega
    refine .step hg1 (by rw[e];exact hi) ?_ (c:=a) ?_ (by rw[e];exact h1) ?_
    ·rw[e,setArg_args,if_pos rfl];simpa using hk
    ·rw[e,setArg_args,if_pos rfl,List.getD_eq_getElem?_getD,List.getElem?_set_self hk];rfl
    rw[e,setArg_args,if_neg hne];exact h2
 have hcm:a∈g.args i:=by rw[← ha,List.getD_eq_getElem?_getD,List.getElem?_eq_getElem hk];simp
 exact key hsrc (hc.closed i hi a hcm) hia g .refl (Gg hk ha).symm
end
end Go.Proofs.YteepnepebilckaaGreatDoor
namespace Go.Proofs.YteepnepebilckaaGreatDoor
open Go Go.Eng Go.RowKit
set_option maxHeartbeats 4000000
attribute [local irreducible] EC EL DL Ret thenQ blockQ Bi bodyQ onlyN execOp Sem.run World.cell? World.frozen? World.setCell World.alloc
theorem Cn {B:Nat} {w:World} {p:Addr} {u:Value} (h:B≤p.block):Below B w (w.setCell p u):=(Below.refl B w).setCell h u
theorem EK {w:World} {B:Nat} {L:Lay} {g:Gph} (h:GRep w B L g) {i k j:Nat} (hi:i<g.nv) (hk:k<(g.args i).length):
 Ret Tryz.prog 69 #[L.vp i,.int .i64 (k:Int),L.vp j] w fun _ w'=>GRep w' B L (g.setArg i k j)∧Below B w w':=by
 obtain ⟨b,cap,hv,hob,hc,hf⟩:=h.argsE hi hk
 have h1:=h.vArgs hi
 rw[hv] at h1
 have hlt:=(h.slLt (τ:=.args i) rfl hi b hob).1
 refine ret_of_EC Tryz.func69 rfl rfl (Ac (Ab Ad rfl (Ab (Aw rfl) rfl (Ab (Ak rfl (Al rfl)) rfl (Ab (Ai rfl (Ag rfl) ‹_›) rfl ?_)))))
 refine Ab Ad rfl (Ab Ad rfl (Ab (x_index1 rfl rfl (An rfl) (by omega)) rfl (Bb (AV rfl rfl rfl (AK rfl) hc (hf _)) rfl (Af ?_))))
 refine Bw rfl rfl ⟨?_,Cn hlt⟩
 rw[Nat.zero_add]
 exact h.setArg hi hk hob
theorem setArgs1_ret {w:World} {B:Nat} {L:Lay} {g:Gph} (h:GRep w B L g) {i j:Nat} (hi:i<g.nv) (hB:B≤w.heap.size):
 Ret Tryz.prog 89 #[L.vp i,L.vp j] w fun _ w'=>∃L',L'.vp=L.vp∧L'.bp=L.bp∧L'.fb=L.fb∧(∀τ,τ≠ .args i→L'.sl τ=L.sl τ)∧GRep w' B L' (g.setArgs i [j])∧Below B w w':=by
 have h0:=h.alloc (.cells #[L.vp j] 97)
 have h1:=h0.vArgs hi
 have hnew:(w.alloc (.cells #[L.vp j] 97)).heap[w.heap.size]? =some (.cells #[L.vp j] 97):=heap_alloc_new w _
 refine ret_of_EC Tryz.func89 rfl rfl (Ac (Ab Ad rfl (Ab Ad rfl (Ab (Bp rfl rfl Tryz.underlying78 (by kernel_rfl) (z:=.pointer none) rfl) rfl (Ab (Aw rfl) rfl (Ab (Ak rfl (Al rfl)) rfl (Bb (AV rfl rfl rfl (AK rfl) h1 (h0.vFree hi)) rfl (Af ?_))))))))
 refine Bw rfl rfl ⟨L.setSl (.args i) (.slice (some ⟨w.heap.size,0,none⟩) 1 1) w.heap.size,rfl,rfl,rfl,fun τ hτ=>if_neg hτ,?_,?_⟩
 ·refine GRep.setL (τ:=.args i) (ys:=[j]) (w1:=w.alloc (.cells #[L.vp j] 97)) h rfl hi ?_ (fun k hk _=>Below.heap_alloc _ _ _ hk) (fun k hk=>.inr ?_)
  ·exact ⟨rfl,.inr ⟨w.heap.size,1,#[L.vp j],rfl,hB,hnew,Nat.le_refl _,by decide,rfl,rfl⟩⟩
  have:w.heap.size=k:=Option.some.inj hk
  omega
 exact ((Below.refl B w).alloc hB _).setCell (h.tags.vbB i hi) _
theorem copySource_ret {w:World} {B:Nat} {L:Lay} {g:Gph} {r:Nat→Nat} (h:GRep w B L g) (hc:CInv g r) {i:Nat} (hi:i<g.nv) (ho:g.op i=14):
 Ret Tryz.prog 88 #[L.vp i] w fun v w'=>∃s g',v=L.vp s∧GRep w' B L g'∧Red g g'∧Src g' i s∧s<g.nv∧g.op s≠14∧
  (∀u,g'.args u≠g.args u→g.op u=14∧r u≤r i)∧Below B w w':=by
 obtain ⟨j,ha,hr⟩:=hc.copy i hi ho
 have hj:j<g.nv:=hc.closed i hi j (by rw[ha];simp)
 have arg1:∀{w:World} {g:Gph},GRep w B L g→∀{x y:Nat},x<g.nv→g.args x=[y]→∃b cap,w.cell? ⟨L.vb x,0+5,none⟩=some (.slice (some ⟨b,0,none⟩) 1 cap)∧w.cell? ⟨b,0+0,none⟩=some (L.vp y):=by
  intro w g h x y hx hy
  obtain ⟨b,cap,hv,_,hcell,_⟩:=h.argsE hx (k:=0) (by rw[hy];simp)
  have h1:=h.vArgs hx
  rw[hv,hy] at h1
  rw[hy] at hcell
  exact ⟨b,cap,h1,hcell⟩
 obtain ⟨b0,c0,f1,f2⟩:=arg1 h hi ha
 refine ret_of_EC Tryz.func88 rfl rfl (Ae (Ac (Ab Ah rfl (Af (Aa (Ae (Ac (Ab Ad rfl (Ab (Aw rfl) rfl (Ab (Ak rfl (Al rfl)) rfl (Ab (Ai rfl (Ag rfl) ‹_›) rfl ?_)))))))))))
 refine Ab (x_index0 rfl rfl (An rfl) (by omega)) rfl (Ab (Ai rfl (Ag rfl) ‹_›) rfl ?_)
 refine Ab Ah rfl (Af (Aa (Ae (Ac (Ab Ad rfl (Ab Ah rfl (Af (Aa (Ae (Ac (Ab Ah rfl ?_)))))))))))
 refine Af (Aa (Ae (Ap ?_)))
 refine EC_loop (fun n e w'=>∃x y b,w'=w∧At e [(0,L.vp i),(3,L.vp x),(4,L.vp y),(5,.bool b)]∧Chain g j y∧Chain g y x∧n=r x) (r j)
  ⟨j,j,false,rfl,Aq rfl ⟨rfl,rfl,rfl,rfl,trivial⟩,.refl j,.refl j,rfl⟩ ?_
 rintro n e w' ⟨x,y,b,rfl,⟨t,rfl⟩,hjy,hyx,rfl⟩
 have hy:y<g.nv:=(hjy.rank hc hj).1
 have hx:x<g.nv:=(hyx.rank hc hy).1
 have fx:=h.vOp hx
 refine Ae (Ae (Ac (Ab Ad rfl (Ab (Aw rfl) rfl (Ab (Ak rfl (Al rfl)) rfl (Ab (Ai rfl (Ag rfl) ‹_›) rfl ?_))))))
 refine Ab (A6 rfl rfl) rfl (Af (Aa ?_))
 refine AF rfl rfl (fun hox=>?_) (fun hox=>?_)
 ·-- one step on
  obtain ⟨x',hx',hrx⟩:=hc.copy x hx hox
  have hx'l:x'<g.nv:=hc.closed x hx x' (by rw[hx'];simp)
  obtain ⟨b1,c1,f3,f4⟩:=arg1 h hx hx'
  refine Ar (Aa (Ap (Ae (Ac (Ab Ad rfl (Ab (Aw rfl) rfl (Ab (Ak rfl (Al rfl)) rfl (Ab (Ai rfl (Ag rfl) ‹_›) rfl ?_))))))))
  refine Ab (x_index0 rfl rfl (An rfl) (by omega)) rfl (Ab (Ai rfl (Ag rfl) ‹_›) rfl ?_)
  refine Ab Ah rfl (Af (Aa ?_))
  have hne:x'≠y:=by
   intro e
   have h1:=(hyx.rank hc hy).2.1
   rw[← e] at h1;omega
  refine Ae (Ae (Ac (Ab Ad rfl (Ab Ad rfl (Ab (EJ rfl rfl (BA rfl) (h.vPlain hx'l) (h.vPlain hy)) rfl (Af (Aa ?_)))))))
  refine AF rfl rfl (fun hp=>?_) (fun _=>?_)
  ·exfalso
   injection hp with hp
   exact hne (Ft h hx'l hy hp)
  refine Ar (Aa (Ae (Ae (Ac (Ab Ad rfl (Af (Aa ?_)))))))
  refine Df rfl rfl (fun hb=>?_) (fun hb=>?_)
  ·-- the slow one goes on,too
   have hoy:g.op y=14∧∃y',g.args y=[y']∧Chain g y' x':=by
    cases hyx with
    |refl=>exact ⟨hox,x',hx',.refl x'⟩
    |step h1 h2 h3=>exact ⟨h1,_,h2,h3.trans (.step hox hx' (.refl x'))⟩
   obtain ⟨hoy,y',hy',hch⟩:=hoy
   obtain ⟨b2,c2,f5,f6⟩:=arg1 h hy hy'
   refine Ac (Ab Ad rfl (Ab (Aw rfl) rfl (Ab (Ak rfl (Al rfl)) rfl (Ab (Ai rfl (Ag rfl) ‹_›) rfl ?_))))
   refine Ab (x_index0 rfl rfl (An rfl) (by omega)) rfl (Ab (Ai rfl (Ag rfl) ‹_›) rfl ?_)
   refine Ab Ah rfl (Af (Aa (Ac (Ab Ad rfl (Ab (BS rfl) rfl (Ab Ah rfl (Af (Ao ?_))))))))
   refine Av (r x') hrx ⟨x',y',!b,rfl,Aq rfl ⟨rfl,rfl,rfl,rfl,trivial⟩,hjy.trans (.step hoy hy' (.refl y')),hch,rfl⟩
  refine Ar (Aa (Ac (Ab Ad rfl (Ab (BS rfl) rfl (Ab Ah rfl (Af (Ao ?_)))))))
  refine Av (r x') hrx ⟨x',y,!b,rfl,Aq rfl ⟨rfl,rfl,rfl,rfl,trivial⟩,hjy,hyx.trans (.step hox hx' (.refl x')),rfl⟩
 refine AJ (Az (AB (Ay (Aa (Ae (Ap ?_))))))
 have hsrc0:Src g i x:=.step ho ha ((hjy.trans hyx).src (.here hox))
 refine EC_loop (fun n e w1=>∃u g1,At e [(0,L.vp u),(3,L.vp x)]∧GRep w1 B L g1∧Red g g1∧u<g.nv∧Src g1 u x∧(Src g1 i x)∧(∀z,g1.args z≠g.args z→g.op z=14∧r z≤r i)∧r u≤r i∧(u≠i→g1.args i=[x])∧Below B w' w1∧n=r u) (r i)
  ⟨i,g,Aq rfl ⟨rfl,rfl,trivial⟩,h,.refl,hi,hsrc0,hsrc0,fun z hz=>absurd rfl hz,Nat.le_refl _,fun h=>absurd rfl h,Below.refl _ _,rfl⟩ ?_
 rintro n e w1 ⟨u,g1,⟨t,rfl⟩,h1,hred,hu,hsrc,hsrci,hch,hri,hti,hb,rfl⟩
 have hc1:=hc.reds hred
 have hsm:=hred.same
 have hu1:u<g1.nv:=by rw[hsm.1];exact hu
 have hx1:x<g1.nv:=by rw[hsm.1];exact hx
 refine Ae (Ae (Ac (Ab Ad rfl (Ab Ad rfl (Ab (Gl rfl rfl (BA rfl) (h1.vPlain hu1) (h1.vPlain hx1)) rfl (Af (Aa ?_)))))))
 refine Df rfl rfl (fun hp=>?_) (fun hp=>?_)
 ·have hne:u≠x:=by
   intro e;subst e;simp at hp
  have hstep:g1.op u=14∧∃u',g1.args u=[u']∧Src g1 u' x:=by
   cases hsrc with
   |here h=>exact absurd rfl hne
   |step h1 h2 h3=>exact ⟨h1,_,h2,h3⟩
  obtain ⟨hou,u',hu',hsrc'⟩:=hstep
  obtain ⟨hul,hur⟩:=hc1.next hu1 hou hu'
  obtain ⟨b3,c3,f7,f8⟩:=arg1 h1 hu1 hu'
  refine Ar (Aa (Ap (Ae (Ac (Ab Ad rfl (Ab (Aw rfl) rfl (Ab (Ak rfl (Al rfl)) rfl (Ab (Ai rfl (Ag rfl) ‹_›) rfl ?_))))))))
  refine Ab (x_index0 rfl rfl (An rfl) (by omega)) rfl (Ab (Ai rfl (Ag rfl) ‹_›) rfl ?_)
  refine Ab Ah rfl (Af (Aa (Ae (Ac (Ab Ad rfl (Ab Ad rfl (Bc (AG Tryz.func69 rfl rfl rfl rfl) rfl (EK (k:=0) (j:=x) h1 hu1 (by rw[hu'];simp)) ?_)))))))
  rintro _ w2 ⟨h2,hb2⟩
  refine Af (Aa (Ac (Ab Ad rfl (Ab Ah rfl (Af (Ao ?_))))))
  have hargs:∀z,(g1.setArg u 0 x).args z=if z=u then [x] else g1.args z:=by
   intro z
   rw[setArg_args,hu'];rfl
  have hred2:Red g (g1.setArg u 0 x):=hred.trans (Red.toSrc hc1 hu1 (by rw[hu'];simp) rfl (by rw[hu'];exact hsrc') (fun _=>by rw[hu'];exact hur))
  refine Av (r u') (by omega) ⟨u',g1.setArg u 0 x,Aq rfl ⟨rfl,rfl,trivial⟩,h2,hred2,by rw[← hsm.1];exact hul,hsrc'.setArg hc1 hul hur,?_,?_,by omega,?_,hb.trans hb2,rfl⟩
  ·by_cases e:i=u
   ·subst e
    exact .step hou (by rw[hargs,if_pos rfl]) (.here (by rw[D2,hsm.2.2.1];exact hox))
   have:=hti (fun e'=>e e'.symm)
   exact .step (by rw[D2,hsm.2.2.1];exact ho) (by rw[hargs,if_neg e];exact this) (.here (by rw[D2,hsm.2.2.1];exact hox))
  ·intro z hz
   rw[hargs] at hz
   by_cases e:z=u
   ·subst e
    exact ⟨by rw[← hsm.2.2.1];exact hou,hri⟩
   rw[if_neg e] at hz
   exact hch z hz
  intro _
  rw[hargs]
  by_cases e:i=u
  ·rw[if_pos e]
  rw[if_neg e];exact hti (fun e'=>e e'.symm)
 refine AJ (Az (AB (Ay (Aa (Ae (Ac (Ab Ad rfl (Ab Ah rfl (Af (Aa (AC ?_)))))))))))
 exact Ax rfl rfl rfl ⟨x,g1,rfl,h1,hred,hsrci,hx,hox,hch,hb⟩
end Go.Proofs.YteepnepebilckaaGreatDoor
