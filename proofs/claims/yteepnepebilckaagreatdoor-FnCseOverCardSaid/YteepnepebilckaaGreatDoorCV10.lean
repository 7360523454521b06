/- The law FnCseOver returns true for every input in which the opcode table reads as laid, and its argument reads as it did, the table being tied to the text of the program. -/
import Derived.Test.YteepnepebilckaaGreatDoorCV09
namespace Go.Proofs.YteepnepebilckaaGreatDoor
open Go Go.Eng Go.RowKit
section
variable {V : Nat → Prop} {S : Nat → List Nat} {num par : Nat → Nat} {i : Nat} {sd a lab : Nat → Nat}
structure Cmp (V:Nat→Prop) (num par:Nat→Nat) (i:Nat) (sd a lab:Nat→Nat) (v:Nat) (a' lab':Nat→Nat):Prop where
 al:LT.AL V num par i sd a' lab'
 root:num (a' v)≤i
 out:∀u,V u→num v<num u→a' u=a u∧lab' u=lab u
end
set_option maxHeartbeats 4000000
attribute [local irreducible] EC EL DL Ret thenQ blockQ Bi bodyQ onlyN execOp Sem.run World.cell? World.frozen? World.setCell World.alloc
theorem compress_ret {b m:Nat} {V:Nat→Prop} {S:Nat→List Nat} {num par:Nat→Nat} {i:Nat} {sd vx px hh lx:Nat→Nat} (hd:LT.Dfs V S 1 num par) (hV:∀v,V v→1≤v∧v<m):
 ∀(n:Nat) (w:World) (a lab:Nat→Nat) (v:Nat),num v=n→V v→i<num v→Scr w b m sd vx lab px a hh lx→LT.AL V num par i sd a lab→
 Ret Tryz.prog 135 #[.int .i32 ((v:Nat):Int),seg b m 4,seg b m 0,seg b m 2] w fun _ w'=>∃a' lab',Scr w' b m sd vx lab' px a' hh lx∧Cmp V num par i sd a lab v a' lab'∧Only (fun j=>j=b) w w':=by
 intro n
 induction n using Nat.strongRecOn with
 |ind n ih=>
 intro w a lab v hnv hv hi hs hal
 refine ret_of_EC Tryz.func135 rfl rfl ?_
 obtain ⟨h1,h2,h3,h4,h5,h6⟩:=hal.lnk v hv hi
 have hvm:=hV v hv
 have ham:=hV _ h1
 have hcv:=hs.cell hvm.2
 have hca:=hs.cell ham.2
 have c4v:=hcv.2.2.2.2.1
 have c4a:=hca.2.2.2.2.1
 refine Ae (Ac (Ab Ad rfl (Ab Ad rfl (Ab Ad rfl (Ab (x_index1 rfl rfl (An rfl) (by omega)) rfl (Ab (Ai rfl (Ag rfl) ‹_›) rfl ?_))))))
 refine Ab (x_index1 rfl rfl (An rfl) (by omega)) rfl (Ab (Ai rfl (Ag rfl) ‹_›) rfl ?_)
 refine Ab (Bw rfl rfl) rfl (Af (Aa ?_))
 by_cases hroot:a (a v)=0
 ·refine Bh (congrArg Value.bool (decide_eq_false (fun h=>h (by rw[hroot];rfl)))) rfl ?_
  refine Aq ?_
  refine BF rfl rfl ⟨a,lab,hs,⟨hal,?_,fun _ _ _=>⟨rfl,rfl⟩⟩,Only.refl _ w⟩
  rcases Nat.lt_or_ge i (num (a v)) with k|k
  ·have:=(hV _ (hal.lnk _ h1 k).1).1
   omega
  exact k
 refine Bm (congrArg Value.bool (decide_eq_true (fun h=>hroot (by have h:((a (a v):Nat):Int)=0:=h;omega)))) rfl ?_
 have hx:i<num (a v):=by
  rcases Nat.lt_or_ge i (num (a v)) with k|k
  ·exact k
  exact absurd (hal.unl _ h1 k) hroot
 refine Ae (Ac (Ab Ad rfl (Ab Ad rfl (Ab (x_index1 rfl rfl (An rfl) (by omega)) rfl (Ab (Ai rfl (Ag rfl) ‹_›) rfl ?_)))))
 refine Ab Ad rfl (Ab Ad rfl (Ab Ad rfl (Be (AG Tryz.func135 rfl rfl rfl rfl) rfl (ih (num (a v)) (by omega) w a lab (a v) rfl h1 hx hs hal) ?_)))
 rintro _ w1 ⟨a1,lab1,hs1,hc1,hO1⟩
 refine Af (Aa ?_)
 obtain ⟨e1,e2⟩:=hc1.out v hv h3
 have hlv:=(hd.le hv h4).1
 obtain ⟨k1,k2,k3,k4,k5,k6⟩:=hc1.al.lnk _ h1 hx
 have hla:=(hd.le h1 k4).1
 have hsq:=hc1.al.squeeze hd hv hi (by rw[e1];exact hx)
 rw[e1,e2] at hsq
 have c4v:=(hs1.cell hvm.2).2.2.2.2.1
 rw[e1] at c4v
 have c2v:=(hs1.cell hvm.2).2.2.1
 rw[e2] at c2v
 have c2a:=(hs1.cell ham.2).2.2.1
 have c0l:=(hs1.cell (hV _ hlv).2).1
 have c0a:=(hs1.cell (hV _ hla).2).1
 have c4a:=(hs1.cell ham.2).2.2.2.2.1
 have ham2:=ham.2
 have hvm2:=hvm.2
 have hlm:=(hV _ hlv).2
 have hlm2:=(hV _ hla).2
 have hroot1:=hc1.root
 refine BV [(0,.int .i32 ((v:Nat):Int)),(1,seg b m 4),(2,seg b m 0),(3,seg b m 2)] rfl ⟨rfl,rfl,rfl,rfl,trivial⟩ fun t=>?_
 refine AW (fun e w3=>At e [(0,.int .i32 ((v:Nat):Int)),(1,seg b m 4),(2,seg b m 0),(3,seg b m 2)]∧Scr w3 b m sd vx (LT.upd lab1 v (if sd (lab1 (a v))<sd (lab v) then lab1 (a v) else lab v)) px a1 hh lx∧Only (fun j=>j=b) w w3) ?_ ?_
 ·refine Ae ?_
  have hcd:Cells [(⟨b,4 * m+v,none⟩,.int .i32 ((a v:Nat):Int)),(⟨b,2 * m+a v,none⟩,.int .i32 ((lab1 (a v):Nat):Int)),(⟨b,0 * m+lab1 (a v),none⟩,.int .i32 ((sd (lab1 (a v)):Nat):Int)),
   (⟨b,2 * m+v,none⟩,.int .i32 ((lab v:Nat):Int)),(⟨b,0 * m+lab v,none⟩,.int .i32 ((sd (lab v):Nat):Int))] w1.drew:=(Keep.drew w1).cells (.cons c4v (.cons c2a (.cons c0a (.cons c2v (.cons c0l (.nil _))))))
  refine AY mixed _ [(0,false),(1,false),(2,false),(3,false),(4,false),(5,false),(6,false),(7,false),(8,false),(9,false),(10,false),(11,false),(12,false),(13,false),(14,false),(15,false),(16,false),(17,false)] (by kernel_rfl) hcd ?_
  have hs2:Scr w1.drew b m _ _ _ _ _ _ _:=hs1.stay rfl
  have hO2:=hO1.drew
  replace c4v:=(Keep.drew w1) _ _ c4v
  replace c2v:=(Keep.drew w1) _ _ c2v
  replace c2a:=(Keep.drew w1) _ _ c2a
  generalize w1.drew=w2 at hcd hs2 hO2 c4v c2v c2a ⊢
  refine Aj rfl (fun _ _=>Ad) (Aj rfl (fun _ _=>Ad) (Aj rfl (fun _ _=>Ad) (Aj rfl (fun _ _=>Ad) (Aj rfl (fun _ _=>x_index1 rfl rfl (An rfl) (by omega)) (Aj rfl (fun _ hS=>Ai rfl (Ag rfl) (hS.get (by first|exact mm0|exact mm1|exact mm2|exact mm3|exact mm4|exact mm5|exact mm6|exact mm7))) ?_)))))
  refine Aj rfl (fun _ _=>x_index1 rfl rfl (An rfl) (by omega)) (Aj rfl (fun _ hS=>Ai rfl (Ag rfl) (hS.get (by first|exact mm0|exact mm1|exact mm2|exact mm3|exact mm4|exact mm5|exact mm6|exact mm7))) ?_)
  refine Aj rfl (fun _ _=>x_index1 rfl rfl (An rfl) (by omega)) (Aj rfl (fun _ hS=>Ai rfl (Ag rfl) (hS.get (by first|exact mm0|exact mm1|exact mm2|exact mm3|exact mm4|exact mm5|exact mm6|exact mm7))) ?_)
  refine Aj rfl (fun _ _=>Ad) (Aj rfl (fun _ _=>Ad) (Aj rfl (fun _ _=>Ad) (Aj rfl (fun _ _=>x_index1 rfl rfl (An rfl) (by omega)) (Aj rfl (fun _ hS=>Ai rfl (Ag rfl) (hS.get (by first|exact mm0|exact mm1|exact mm2|exact mm3|exact mm4|exact mm5|exact mm6|exact mm7))) ?_))))
  refine Aj rfl (fun _ _=>x_index1 rfl rfl (An rfl) (by omega)) (Aj rfl (fun _ hS=>Ai rfl (Ag rfl) (hS.get (by first|exact mm0|exact mm1|exact mm2|exact mm3|exact mm4|exact mm5|exact mm6|exact mm7))) ?_)
  refine Aj rfl (fun _ _=>AX rfl rfl) (AP (Aa ?_))
  refine AI rfl rfl (fun hlt=>?_) (fun hge=>?_)
  rotate_left
  ·have hge:¬ sd (lab1 (a v))<sd (lab v):=by omega
   refine Aq ?_
   have e9:LT.upd lab1 v (lab v)=lab1:=by
    funext u
    unfold LT.upd
    split
    ·rename_i e;rw[e];exact e2.symm
    rfl
   rw[if_neg hge,e9]
   exact AR ⟨Ar rfl ⟨rfl,rfl,rfl,rfl,trivial⟩,hs2,hO2⟩
  have hlt:sd (lab1 (a v))<sd (lab v):=by omega
  refine Ac (Ab Ad rfl (Ab Ad rfl (Ab Ad rfl (Ab Ad rfl (Ab Ad rfl (Ab (x_index1 rfl rfl (An rfl) (by omega)) rfl (Ab (Ai rfl (Ag rfl) ‹_›) rfl ?_)))))))
  refine Ab (x_index1 rfl rfl (An rfl) (by omega)) rfl (Ab (Ai rfl (Ag rfl) ‹_›) rfl ?_)
  refine Ab (x_index1 rfl rfl (An rfl) (by omega)) rfl (Bc (AU rfl rfl rfl (AH rfl) c2v hs2.free) rfl (Af ?_))
  have h9:=(hs2.set hvm2 (lab1 (a v))).2.2.1
  rw[if_pos hlt]
  exact AR ⟨Ar rfl ⟨rfl,rfl,rfl,rfl,trivial⟩,h9,hO2.set _ rfl⟩
 rintro e w3 ⟨⟨t,rfl⟩,hs3,hO3⟩
 have c4v:=(hs3.cell hvm2).2.2.2.2.1
 rw[e1] at c4v
 have c4a:=(hs3.cell ham2).2.2.2.2.1
 refine Ac (Ab Ad rfl (Ab Ad rfl (Ab Ad rfl (Ab Ad rfl (Ab Ad rfl (Ab (x_index1 rfl rfl (An rfl) (by omega)) rfl (Ab (Ai rfl (Ag rfl) ‹_›) rfl ?_)))))))
 refine Ab (x_index1 rfl rfl (An rfl) (by omega)) rfl (Ab (Ai rfl (Ag rfl) ‹_›) rfl ?_)
 refine Ab (x_index1 rfl rfl (An rfl) (by omega)) rfl (Bc (AU rfl rfl rfl (AH rfl) c4v hs3.free) rfl (Af ?_))
 refine BF rfl rfl ⟨_,_,(hs3.set hvm2 (a1 (a v))).2.2.2.2.1,⟨hsq,?_,fun u hu hlt=>?_⟩,hO3.set _ rfl⟩
 ·rw[LT.upd_same];exact hroot1
 have hne:u≠v:=fun e=>by subst e;omega
 obtain ⟨g1,g2⟩:=hc1.out u hu (by omega)
 rw[LT.upd_ne _ _ hne,LT.upd_ne _ _ hne]
 exact ⟨g1,g2⟩
theorem eval_ret {b m:Nat} {V:Nat→Prop} {S:Nat→List Nat} {num par:Nat→Nat} {i:Nat} {sd vx px hh lx:Nat→Nat} (hd:LT.Dfs V S 1 num par) (hV:∀v,V v→1≤v∧v<m)
 {w:World} {a lab:Nat→Nat} {v:Nat} (hv:V v) (hs:Scr w b m sd vx lab px a hh lx) (hal:LT.AL V num par i sd a lab):
 Ret Tryz.prog 127 #[.int .i32 ((v:Nat):Int),seg b m 4,seg b m 0,seg b m 2] w fun r w'=>∃u a' lab',r= .int .i32 ((u:Nat):Int)∧Scr w' b m sd vx lab' px a' hh lx∧LT.AL V num par i sd a' lab'∧Only (fun j=>j=b) w w'∧
  ((num v≤i∧u=v)∨(i<num v∧LT.Anc par 1 u v∧i<num u∧∀z,LT.Anc par 1 z v→i<num z→sd u≤sd z)):=by
 refine ret_of_EC Tryz.func127 rfl rfl ?_
 have hvm:=hV v hv
 have hvm2:=hvm.2
 have c4v:=(hs.cell hvm.2).2.2.2.2.1
 refine Ae (Ac (Ab Ah rfl (Af (Aa (Ae (Ae (Ac (Ab Ad rfl (Ab Ad rfl (Ab (x_index1 rfl rfl (An rfl) (by omega)) rfl (Ab (Ai rfl (Ag rfl) ‹_›) rfl ?_)))))))))))
 refine Ab (Bn rfl rfl) rfl (Af (Aa ?_))
 by_cases hi:num v≤i
 ·refine Bm (congrArg Value.bool (decide_eq_true (by rw[hal.unl v hv hi];rfl))) rfl ?_
  refine Ae (Ac (Ab Ad rfl (Ab Ah rfl (Af (Aa (AE (AO ?_)))))))
  exact Az rfl rfl rfl ⟨v,a,lab,rfl,hs,hal,Only.refl _ w,.inl ⟨hi,rfl⟩⟩
 have hi:i<num v:=by omega
 have ha:=(hV _ (hal.lnk v hv hi).1).1
 refine Bh (congrArg Value.bool (decide_eq_false (fun h=>by have h:((a v:Nat):Int)=0:=h;omega))) rfl (Aq (Aa (Ae (Ac (Ab Ad rfl (Ab Ad rfl (Ab Ad rfl (Ab Ad rfl (Be (AG Tryz.func135 rfl rfl rfl rfl) rfl (compress_ret hd hV (num v) w a lab v rfl hv hi hs hal) ?_)))))))))
 rintro _ w1 ⟨a1,lab1,hs1,hc1,hO1⟩
 refine Af (Aa ?_)
 have c2v:=(hs1.cell hvm.2).2.2.1
 refine Ae (Ac (Ab Ad rfl (Ab Ad rfl (Ab (x_index1 rfl rfl (An rfl) (by omega)) rfl (Ab (Ai rfl (Ag rfl) ‹_›) rfl ?_)))))
 refine Ab Ah rfl (Af (Aa (AE ?_)))
 exact Az rfl rfl rfl ⟨lab1 v,a1,lab1,rfl,hs1,hc1.al,hO1,.inr ⟨hi,hc1.al.label hv hi hc1.root⟩⟩
theorem GC {w:World} {b m x y:Nat} {a0 a1 a2 a3 a4 a5 a6:Nat→Nat} (hs:Scr w b m a0 a1 a2 a3 a4 a5 a6) (hy:y<m):
 Ret Tryz.prog 128 #[.int .i32 ((x:Nat):Int),.int .i32 ((y:Nat):Int),seg b m 4] w fun _ w'=>Scr w' b m a0 a1 a2 a3 (LT.upd a4 y x) a5 a6∧Only (fun j=>j=b) w w':=by
 refine ret_of_EC Tryz.func128 rfl rfl ?_
 have c4:=(hs.cell hy).2.2.2.2.1
 refine Ac (Ab Ad rfl (Ab Ad rfl (Ab Ad rfl (Ab (x_index1 rfl rfl (An rfl) (by omega)) rfl (Bc (AU rfl rfl rfl (AH rfl) c4 hs.free) rfl (Af ?_))))))
 exact BF rfl rfl ⟨(hs.set hy x).2.2.2.2.1,(Only.refl _ w).set _ rfl⟩
end Go.Proofs.YteepnepebilckaaGreatDoor
