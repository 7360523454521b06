/- The law FnCseOver returns true for every input in which the opcode table reads as laid, and its argument reads as it did, the table being tied to the text of the program. -/
import Derived.Test.YteepnepebilckaaGreatDoorCV27
namespace Go.Proofs.YteepnepebilckaaGreatDoor
open Go Go.Eng Go.RowKit
def CI (o:Int):Prop:=o=2∨o=4∨(5≤o∧o≤7)∨o=11∨o=12
instance (o:Int):Decidable (CI o):=inferInstanceAs (Decidable (_∨_))
theorem comm_I {o:Int} (h0:0≤o):comm o.toNat=true↔CI o:=by
 obtain ⟨k,rfl⟩:∃k:Nat,o=(k:Int):=⟨_,(Int.toNat_of_nonneg h0).symm⟩
 unfold CI comm
 simp
 omega
theorem EX {w:World} {v:Value} {c:Nat→Int} {n:Nat} (h:IntsV w v ((List.range n).map c)) {k:Nat} (hk:k<n):∃b o cap,v= .slice (some ⟨b,o,none⟩) n cap∧w.cell? ⟨b,o+k,none⟩=some (.int .i64 (c k)):=by
 obtain ⟨a,cap,rfl,hc⟩:=h
 obtain ⟨b,o,rfl,h1⟩:=hc.get (k:=k) (by simpa using hk)
 refine ⟨b,o,cap,by simp,?_⟩
 rw[h1,List.getD_eq_getElem?_getD,List.getElem?_map,List.getElem?_range hk];rfl
set_option maxHeartbeats 4000000
attribute [local irreducible] EC EL DL Ret thenQ blockQ Bi bodyQ onlyN execOp Sem.run World.cell? World.frozen? World.setCell World.alloc
theorem EY {w:World} (o:Int):Ret Tryz.prog 14 #[.int .i64 o] w fun v w'=>v= .bool (decide (CI o))∧w'=w:=by
 refine ret_of_EC Tryz.func14 rfl rfl (Ae (Ac (Ab Ah rfl (Af (Aa (Ae (Ac (Ab Ad rfl (Ab (Bn rfl rfl) rfl (Ab Ad rfl ?_))))))))))
 have yes:CI o→Value.bool true=Value.bool (decide (CI o)):=fun h=>congrArg Value.bool (decide_eq_true h).symm
 by_cases h2:o=2
 ·rw[decide_eq_true h2]
  refine AF rfl rfl (AF rfl rfl (Ab (AV rfl) rfl (Ab Ad rfl (AF rfl rfl (AF rfl rfl (AF rfl rfl (Bz rfl rfl (Bz rfl rfl (AF rfl rfl (Ab (AV rfl) rfl (Ab Ad rfl ?_)))))))))))
  refine AF rfl rfl (AF rfl rfl (Ab (AV rfl) rfl (Ab Ad rfl (AF rfl rfl (AF rfl rfl (Ab (AV rfl) rfl (Ab Ah rfl (Af (Aa (AE ?_))))))))))
  exact Az rfl rfl rfl ⟨yes (.inl h2),rfl⟩
 rw[decide_eq_false h2]
 refine Av rfl rfl Ad rfl (Av rfl rfl (Bn rfl rfl) rfl (Ab (AM rfl) rfl (Ab Ad rfl ?_)))
 by_cases h4:o=4
 ·rw[decide_eq_true h4]
  refine AF rfl rfl (AF rfl rfl (AF rfl rfl (Bz rfl rfl (Bz rfl rfl (AF rfl rfl (Ab (AV rfl) rfl (Ab Ad rfl (AF rfl rfl (AF rfl rfl (Ab (AV rfl) rfl (Ab Ad rfl ?_)))))))))))
  refine AF rfl rfl (AF rfl rfl (Ab (AV rfl) rfl (Ab Ah rfl (Af (Aa (AE ?_))))))
  exact Az rfl rfl rfl ⟨yes (.inr (.inl h4)),rfl⟩
 rw[decide_eq_false h4]
 refine Av rfl rfl Ad rfl (Av rfl rfl (CJ rfl rfl) rfl (Av rfl rfl Ad rfl ?_))
 have fin:¬ (5≤o∧o≤7)→(o=11→Value.bool true=Value.bool (decide (CI o)))∧(o=12→Value.bool true=Value.bool (decide (CI o)))∧(¬ o=11→¬ o=12→Value.bool false=Value.bool (decide (CI o))):=fun h5=>
  ⟨fun h=>yes (.inr (.inr (.inr (.inl h)))),fun h=>yes (.inr (.inr (.inr (.inr h)))),fun h11 h12=>congrArg Value.bool (decide_eq_false fun h=>h.elim h2 fun h=>h.elim h4 fun h=>h.elim h5 fun h=>h.elim h11 h12).symm⟩
 by_cases h5:5≤o
 ·rw[decide_eq_true h5]
  refine Av rfl rfl Ad rfl (Av rfl rfl (C7 rfl rfl) rfl (Av rfl rfl (AV rfl) rfl (Ab (AM rfl) rfl (Ab Ad rfl ?_))))
  by_cases h7:o≤7
  ·rw[decide_eq_true h7]
   refine AF rfl rfl (AF rfl rfl (Ab (AV rfl) rfl (Ab Ad rfl (AF rfl rfl (AF rfl rfl (Ab (AV rfl) rfl (Ab Ah rfl (Af (Aa (AE ?_))))))))))
   exact Az rfl rfl rfl ⟨yes (.inr (.inr (.inl ⟨h5,h7⟩))),rfl⟩
  rw[decide_eq_false h7]
  have fin:=fin fun h=>h7 h.2
  refine Av rfl rfl Ad rfl (Av rfl rfl (Bn rfl rfl) rfl (Ab (AM rfl) rfl (Ab Ad rfl ?_)))
  by_cases h11:o=11
  ·rw[decide_eq_true h11]
   refine AF rfl rfl (AF rfl rfl (Ab (AV rfl) rfl (Ab Ah rfl (Af (Aa (AE ?_))))))
   exact Az rfl rfl rfl ⟨fin.1 h11,rfl⟩
  rw[decide_eq_false h11]
  refine Av rfl rfl Ad rfl (Av rfl rfl (Bn rfl rfl) rfl (Ab (AM rfl) rfl (Ab Ah rfl (Af (Aa ?_)))))
  by_cases h12:o=12
  ·rw[decide_eq_true h12]
   refine AE ?_
   exact Az rfl rfl rfl ⟨fin.2.1 h12,rfl⟩
  rw[decide_eq_false h12]
  refine AE ?_
  exact Az rfl rfl rfl ⟨fin.2.2 h11 h12,rfl⟩
 rw[decide_eq_false h5]
 have fin:=fin fun h=>h5 h.1
 refine AF rfl rfl (AF rfl rfl (Av rfl rfl (AM rfl) rfl (Ab (AM rfl) rfl (Ab Ad rfl (Av rfl rfl Ad rfl (Av rfl rfl (Bn rfl rfl) rfl (Ab (AM rfl) rfl (Ab Ad rfl ?_))))))))
 by_cases h11:o=11
 ·rw[decide_eq_true h11]
  refine AF rfl rfl (AF rfl rfl (Ab (AV rfl) rfl (Ab Ah rfl (Af (Aa (AE ?_))))))
  exact Az rfl rfl rfl ⟨fin.1 h11,rfl⟩
 rw[decide_eq_false h11]
 refine Av rfl rfl Ad rfl (Av rfl rfl (Bn rfl rfl) rfl (Ab (AM rfl) rfl (Ab Ah rfl (Af (Aa ?_)))))
 by_cases h12:o=12
 ·rw[decide_eq_true h12]
  refine AE ?_
  exact Az rfl rfl rfl ⟨fin.2.1 h12,rfl⟩
 rw[decide_eq_false h12]
 refine AE ?_
 exact Az rfl rfl rfl ⟨fin.2.2 h11 h12,rfl⟩
end Go.Proofs.YteepnepebilckaaGreatDoor
namespace Go.Proofs.YteepnepebilckaaGreatDoor
open Go Go.Eng Go.RowKit
set_option maxHeartbeats 4000000
attribute [local irreducible] EC EL DL Ret thenQ blockQ Bi bodyQ onlyN execOp Sem.run World.cell? World.frozen? World.setCell World.alloc
end Go.Proofs.YteepnepebilckaaGreatDoor
namespace Go.Proofs.YteepnepebilckaaGreatDoor
open Go Go.Eng Go.RowKit
structure ClsL (n:Nat) (xss:List (List Int)):Prop where
 len:xss.length≤1000
 long:∀k,k<xss.length→2≤(xss.getD k []).length∧(xss.getD k []).length≤1000
 rng:∀k,k<xss.length→∀z∈xss.getD k [],0≤z∧z<n
 asc:∀k,k<xss.length→(xss.getD k []).Pairwise (· < ·)
 one:∀k q,k<xss.length→q<xss.length→∀z,z∈xss.getD k []→z∈xss.getD q []→k=q
structure CNum (n:Nat) (xss:List (List Int)) (k i:Nat) (c:Nat→Int):Prop where
 old:∀q,q<k→∀z∈xss.getD q [],c z.toNat=q
 cur:∀z∈(xss.getD k []).take i,c z.toNat=k
 out:∀z,z<n→(∀q,q<k→((z:Nat):Int)∉xss.getD q [])→((z:Nat):Int)∉(xss.getD k []).take i→c z= -1 - (z:Int)
theorem getI {l:List Int} {i:Nat} (h:i<l.length):l[i]=l.getD i 0:=by
 rw[List.getD_eq_getElem?_getD,List.getElem?_eq_getElem h];rfl
theorem EE {l:List Int} {i:Nat} (h:i<l.length):l.take (i+1)=l.take i ++ [l.getD i 0]:=by
 rw[List.take_succ_eq_append_getElem h,List.getD_eq_getElem?_getD,List.getElem?_eq_getElem h];rfl
theorem CNum.fresh {n:Nat} {xss:List (List Int)} (hx:ClsL n xss) {k i:Nat} (hk:k<xss.length) (hi:i<(xss.getD k []).length):(∀q,q<k→(xss.getD k []).getD i 0∉xss.getD q [])∧(xss.getD k []).getD i 0∉(xss.getD k []).take i:=by
 have hm:=CR hi
 refine ⟨fun q hq h=>?_,fun h=>?_⟩
 ·have:=hx.one k q hk (by omega) _ hm h;omega
 obtain ⟨j,hj,e⟩:=List.getElem_of_mem h
 rw[List.length_take] at hj
 rw[List.getElem_take] at e
 have h1:=List.pairwise_iff_getElem.1 (hx.asc k hk) j i (by omega) hi (by omega)
 rw[e,List.getD_eq_getElem?_getD,List.getElem?_eq_getElem hi] at h1
 exact absurd h1 (Int.lt_irrefl _)
theorem CNum.next {n:Nat} {xss:List (List Int)} {k i:Nat} {c:Nat→Int} (h:CNum n xss k i c) (hx:ClsL n xss) (hk:k<xss.length) (hi:i<(xss.getD k []).length) {z:Nat} (hz:(xss.getD k []).getD i 0=(z:Int)):
 CNum n xss k (i+1) (fun x=>if x=z then (k:Int) else c x):=by
 obtain ⟨f1,f2⟩:=CNum.fresh hx hk hi
 rw[hz] at f1 f2
 refine ⟨fun q hq y hy=>?_,fun y hy=>?_,fun y hy h1 h2=>?_⟩
 ·have hr:=hx.rng q (by omega) y hy
  show (if y.toNat=z then (k:Int) else c y.toNat)=q
  rw[if_neg (fun e=>f1 q hq (by rw[← e,Int.toNat_of_nonneg hr.1];exact hy))]
  exact h.old q hq y hy
 ·show (if y.toNat=z then (k:Int) else c y.toNat)=k
  by_cases e:y.toNat=z
  ·rw[if_pos e]
  rw[if_neg e]
  rw[EE hi,hz] at hy
  rcases List.mem_append.1 hy with h3|h3
  ·exact h.cur y h3
  exact absurd (by rw[List.mem_singleton.1 h3];rfl) e
 rw[EE hi,hz] at h2
 show (if y=z then (k:Int) else c y)=_
 rw[if_neg (fun e=>h2 (by rw[e];exact List.mem_append_right _ (.head _)))]
 exact h.out y hy h1 fun h3=>h2 (List.mem_append_left _ h3)
theorem CNum.roll {n:Nat} {xss:List (List Int)} {k:Nat} {c:Nat→Int} (h:CNum n xss k (xss.getD k []).length c):CNum n xss (k+1) 0 c:=by
 have hc:=h.cur
 have ho:=h.out
 rw[List.take_length] at hc ho
 refine ⟨fun q hq y hy=>?_,fun y hy=>(by cases hy),fun y hy h1 _=>ho y hy (fun q hq=>h1 q (by omega)) (h1 k (by omega))⟩
 by_cases e:q=k
 ·subst e;exact hc y hy
 exact h.old q (by omega) y hy
theorem Gq {n k:Nat} (c:Nat→Int) (hk:k<n) (z:Int):(((List.range n).map fun i=>Value.int .i64 (c i)).set k (.int .i64 z))=(List.range n).map fun i=>.int .i64 (if i=k then z else c i):=by
 refine List.ext_getElem (by simp) fun j h1 h2=>?_
 rw[List.getElem_set,List.getElem_map,List.getElem_map,List.getElem_range]
 by_cases e:k=j
 ·subst e;rw[if_pos rfl,if_pos rfl]
 rw[if_neg e,if_neg (fun h=>e h.symm)]
set_option maxHeartbeats 4000000
attribute [local irreducible] EC EL DL Ret thenQ blockQ Bi bodyQ onlyN execOp Sem.run World.cell? World.frozen? World.setCell World.alloc
theorem classes_ret {w:World} {base:Nat} {v:Value} {us:List Value} {xss:List (List Int)} {n:Nat} (hL:LLs w base v us xss) (hx:ClsL n xss) (hn:n≤48):
 Ret Tryz.prog 12 #[v,.int .i64 (n:Int)] w fun r w'=>∃cv c,r= .tuple #[cv,.bool true]∧IntsV w' cv ((List.range n).map c)∧CNum n xss xss.length 0 c∧Below w.heap.size w w':=by
 refine ret_of_EC Tryz.func12 rfl rfl ?_
 obtain ⟨B,hBd⟩:∃B,B=w.heap.size:=⟨_,rfl⟩
 have key0:∀{W:World} {ρ:Operand→Value} {d:Option Tmp} {ty:TypeId} {pos:String} {af:Array Edge} {g:Option (Nat×Bool)},(execOp ρ ⟨d,.buildSlice 35 0 #[],ty,pos,af,g⟩).run Tryz.prog W= .ok (.value (.slice (some ⟨W.heap.size,0,none⟩) 0 0)) (W.alloc (.cells #[] 3)):=by
  intro W ρ d ty pos af g
  have key:(Instr.buildSlice 35 0 #[]).run Tryz.prog W= .ok (.slice (some ⟨W.heap.size,0,none⟩) 0 0) (W.alloc (.cells #[] 3)):=by kernel_rfl
  simp [execOp,key]
 refine Ae (Ac (Ab Ah rfl (Ab Ah rfl (Af (Aa (Ae (Ac (Ab key0 rfl ?_))))))))
 have hBle:B≤w.heap.size:=by omega
 refine el_new (.cells #[] 3) B (by omega) fun wa hN1 hO1 hZ1 hB1 hK1=>(Ab Ah rfl (Af (Aa ?_)))
 have hrow0:wa.ownsRow B 3 1 (.slice (some ⟨w.heap.size,0,none⟩) 0 0) 0 []:=⟨rfl,.inr ⟨w.heap.size,0,#[],rfl,by omega,hN1,Nat.le_refl _,by decide,rfl,rfl⟩⟩
 refine AW (fun e W=>∃vo,At e [(0,v),(1,.int .i64 (n:Int)),(6,vo)]∧Below B w W∧W.ownsRow B 3 1 vo n ((List.range n).map fun i:Nat=>.int .i64 (-1 - (i:Int)))) ?_ ?_
 ·refine Ae (Ac (Ab Ad rfl (Ab Ad rfl (Af (Aa (Ao ?_))))))
  refine EC_loop (fun m e W=>∃i vo,i≤n∧At e [(0,v),(1,.int .i64 (n:Int)),(6,vo),(13,.int .i64 (n:Int)),(14,.int .i64 (i:Int))]∧Below B w W∧W.ownsRow B 3 1 vo i ((List.range i).map fun i:Nat=>.int .i64 (-1 - (i:Int)))∧m=n - i) n
   ⟨0,_,Nat.zero_le _,Ar rfl ⟨rfl,rfl,rfl,rfl,rfl,trivial⟩,hB1,hrow0,rfl⟩ ?_
  clear hrow0 hN1
  rintro m e W ⟨i,vo,hi,⟨t,rfl⟩,hb,hrow,rfl⟩
  refine Ae (Ac (Ab (AX rfl rfl) rfl (Af (Aa (Ae ?_)))))
  refine AI rfl rfl (fun hlt=>?_) (fun hge=>?_)
  rotate_left
  ·have hin:i=n:=by omega
   subst hin
   refine AK (AB (AD (AA ?_)))
   exact AR ⟨vo,Ar rfl ⟨rfl,rfl,rfl,trivial⟩,hb,hrow⟩
  have hin:i<n:=by omega
  refine Aq (Aa (Ae (Ao (Ae (Ac (Ab Ad rfl (Ab Ah rfl (Af (Aa (Ac (Ab Ad rfl ?_)))))))))))
  refine Ab Ad rfl (Ab (Ch (a:= -1) (b:=(i:Int)) rfl rfl (by omega)) rfl (Ab (Bo (v:=.int .i64 (-1 - (i:Int))) rfl rfl Tryz.underlying35 (by kernel_rfl) (z:=.int .i64 0) rfl) rfl ?_))
  have hz:=hb.size
  have hBle:B≤W.heap.size:=by omega
  refine el_new (.cells #[.int .i64 (-1 - (i:Int))] 3) B (by omega) fun W5 hN6 hO6 hZ6 hB6 hK6=>?_
  have hrow6:=Ax hrow (w':=W5) fun k e=>hO6 k (As hrow k e).2
  have hlow:=As hrow6
  refine BD hrow6 (Am hN6 rfl) rfl (by omega) (by decide) (by omega) Tryz.underlying35 Cb rfl rfl rfl rfl ?_
  intro v7 w7 hrow7 hgr7 hwh7
  refine Ab Ah rfl (Af (Ap (Aa ?_)))
  have hb7:Below B w w7:=(hb.trans ⟨hB6.os,hB6.tape,hB6.output,hB6.size,fun j hj=>hO6 j (by omega)⟩).grown hgr7 (by omega) (fun j e=>(hlow j e).1)
  refine Ac (Ab (x_inc rfl rfl (by omega)) rfl (Ab Ad rfl (Af ?_)))
  refine Aw (n - (i+1)) (by omega) ⟨i+1,v7,by omega,Ar rfl ⟨rfl,rfl,rfl,rfl,rfl,trivial⟩,hb7,?_,rfl⟩
  rw[List.range_succ,List.map_append]
  exact hrow7
 clear hrow0 hN1 hO1 hZ1 hB1 hK1
 rintro e W0 ⟨vo,⟨t,rfl⟩,hb0,hrow0⟩
 have hul:us.length=xss.length:=hL.len
 obtain ⟨va,vcap,hvl⟩:=Bx hL.row
 rw[hul] at hvl
 have hLk:∀{W:World},Below B w W→LLs W base v us xss:=fun h=>hL.on fun k _ hk=>h.block k (by omega)
 refine Ae (Ae (Ac (Ab Ad rfl (Ab (AN hvl (An rfl)) rfl (Ab Ad rfl (Af (Aa (Ao ?_))))))))
 refine EC_loop (fun m e W=>∃k c,k≤xss.length∧At e [(0,v),(1,.int .i64 (n:Int)),(6,vo),(23,v),(24,.int .i64 (xss.length:Int)),(25,.int .i64 (k:Int))]∧Below B w W∧W.ownsRow B 3 1 vo n ((List.range n).map fun i=>.int .i64 (c i))∧CNum n xss k 0 c∧m=xss.length - k) xss.length
  ⟨0,fun i=> -1 - (i:Int),Nat.zero_le _,Ar rfl ⟨rfl,rfl,rfl,rfl,rfl,rfl,trivial⟩,hb0,hrow0,⟨fun q hq=>absurd hq (Nat.not_lt_zero _),fun z hz=>(by cases hz),fun _ _ _ _=>rfl⟩,rfl⟩ ?_
 clear hrow0 hb0
 rintro m e W ⟨k,c,hk,⟨t,rfl⟩,hb,hrow,hC,rfl⟩
 have hxl:=hx.len
 refine Ae (Ac (Ab (AX rfl rfl) rfl (Af (Aa (Ae ?_)))))
 refine AI rfl rfl (fun hlt=>?_) (fun hge=>?_)
 rotate_left
 ·have hkx:k=xss.length:=by omega
  subst hkx
  refine AK (AB (AD (AA (Aa (Ae (Ac (Ab Ad rfl (Ab Ah rfl (Ab Ah rfl (Af (Aa ?_)))))))))))
  refine AE ?_
  refine F1 rfl rfl rfl rfl ⟨vo,c,rfl,BY (base:=B) (el:=3) (by rw[List.length_map,List.length_range,List.map_map];exact hrow),hC,by rw[← hBd];exact hb⟩
 have hkx:k<xss.length:=by omega
 refine Aq (Aa ?_)
 have hLW:=hLk hb
 obtain ⟨gb,capb,e1,_,_,_,hcell⟩:=row_form (w:=W) (base:=base) (el:=35) (v:=v) (xs:=us) hLW.row (k:=k) (by omega)
 rw[hul] at e1
 have hg:us[k]'(by omega)=us.getD k nilS:=by rw[List.getD_eq_getElem?_getD,List.getElem?_eq_getElem (by omega)];rfl
 rw[hg] at hcell
 obtain ⟨m,hm⟩:∃m,m=(xss.getD k []).length:=⟨_,rfl⟩
 have hmm:=hx.long k hkx
 rw[← hm] at hmm
 obtain ⟨ya,ycap,hya⟩:=Bx (hLW.ints k hkx)
 rw[← hm] at hya
 refine Ae (Ao (Ae (Ac (Ab Ad rfl (Ab (x_index1 (i:=k) e1 rfl (An rfl) (by omega)) rfl (Ab (Ai rfl (Ag rfl) hcell) rfl (Ab Ah rfl (Ab Ah rfl (Af (Aa ?_))))))))))
 refine AW (fun e W=>∃c,At e [(0,v),(1,.int .i64 (n:Int)),(6,vo),(23,v),(24,.int .i64 (xss.length:Int)),(25,.int .i64 (k:Int)),(9,us.getD k nilS)]∧Below B w W∧W.ownsRow B 3 1 vo n ((List.range n).map fun i=>.int .i64 (c i))∧CNum n xss (k+1) 0 c) ?_ ?_
 ·refine Ae (Ac (Ab Ad rfl (Ab (AN hya (An rfl)) rfl (Ab Ad rfl (Af (Aa (Ao ?_)))))))
  refine EC_loop (fun q e W=>∃i c,i≤m∧At e [(0,v),(1,.int .i64 (n:Int)),(6,vo),(23,v),(24,.int .i64 (xss.length:Int)),(25,.int .i64 (k:Int)),(8,.int .i64 (k:Int)),(9,us.getD k nilS),(30,us.getD k nilS),(31,.int .i64 (m:Int)),(32,.int .i64 (i:Int))]∧Below B w W∧W.ownsRow B 3 1 vo n ((List.range n).map fun i=>.int .i64 (c i))∧CNum n xss k i c∧q=m - i) m
   ⟨0,c,Nat.zero_le _,Ar rfl ⟨rfl,rfl,rfl,rfl,rfl,rfl,rfl,rfl,rfl,rfl,rfl,trivial⟩,hb,hrow,hC,rfl⟩ ?_
  clear hb hrow hC hLW hcell
  rintro q e W ⟨i,c,hi,⟨t,rfl⟩,hb,hrow,hC,rfl⟩
  refine Ae (Ac (Ab (AX rfl rfl) rfl (Af (Aa (Ae ?_)))))
  refine AI rfl rfl (fun hlt=>?_) (fun hge=>?_)
  rotate_left
  ·have him:i=m:=by omega
   rw[him,hm] at hC
   refine AK (AB (AD (AA ?_)))
   exact AR ⟨c,Ar rfl ⟨rfl,rfl,rfl,rfl,rfl,rfl,rfl,trivial⟩,hb,hrow,hC.roll⟩
  have him:i<m:=by omega
  refine Aq (Aa ?_)
  have hLW:=hLk hb
  obtain ⟨z,hz⟩:∃z:Nat,(xss.getD k []).getD i 0=(z:Int):=⟨_,(Int.toNat_of_nonneg (hx.rng k hkx _ (CR (by omega))).1).symm⟩
  have hzn:z<n:=by
   have:=(hx.rng k hkx _ (CR (l:=xss.getD k []) (k:=i) (by omega))).2
   omega
  have elt:∀i,i<m→∃yb yc,us.getD k nilS= .slice (some ⟨yb,0,none⟩) m yc∧W.cell? ⟨yb,0+i,none⟩=some (.int .i64 ((xss.getD k []).getD i 0)):=fun i hi=>by
   obtain ⟨yb,yc,e2,_,_,_,hyc⟩:=row_form (w:=W) (base:=base) (el:=3) (v:=us.getD k nilS) (xs:=(xss.getD k []).map (Value.int .i64)) (by rw[List.length_map];exact hLW.ints k hkx) (k:=i) (by rw[List.length_map,← hm];exact hi)
   rw[List.length_map,← hm] at e2
   rw[List.getElem_map] at hyc
   refine ⟨yb,yc,e2,hyc.trans ?_⟩
   exact congrArg (fun z=>some (Value.int .i64 z)) (getI (by omega))
  obtain ⟨yb,yc,e2,hyc⟩:=elt i him
  rw[hz] at hyc
  obtain ⟨ob,oc,e3,_,_,_,hoc⟩:=row_form (w:=W) (base:=B) (el:=3) (v:=vo) (xs:=(List.range n).map fun i=>.int .i64 (c i)) (by rw[List.length_map,List.length_range];exact hrow) (k:=z) (by rw[List.length_map,List.length_range];exact hzn)
  rw[List.length_map,List.length_range] at e3
  rw[List.getElem_map,List.getElem_range] at hoc
  obtain ⟨f1,f2⟩:=CNum.fresh hx hkx (i:=i) (by omega)
  rw[hz] at f1 f2
  have hcz:=hC.out z hzn f1 f2
  refine Ae (Ao (Ae (Ac (Ab Ad rfl (Ab (x_index1 (i:=i) e2 rfl (An rfl) him) rfl (Ab (Ai rfl (Ag rfl) hyc) rfl (Ab Ah rfl (Ab Ah rfl (Af (Aa ?_))))))))))
  refine AW (fun e W'=>W'=W∧At e [(0,v),(1,.int .i64 (n:Int)),(6,vo),(23,v),(24,.int .i64 (xss.length:Int)),(25,.int .i64 (k:Int)),(8,.int .i64 (k:Int)),(9,us.getD k nilS),(30,us.getD k nilS),(31,.int .i64 (m:Int)),(32,.int .i64 (i:Int)),(10,.int .i64 (i:Int)),(11,.int .i64 (z:Int))]) ?_ ?_
  ·refine Ae (Ac (Ab Ad rfl (Ab (AX rfl rfl) rfl (Ab Ad rfl ?_))))
   rw[decide_eq_false (show ¬ ((z:Int)<0) by omega)]
   refine Av rfl rfl Ad rfl (Av rfl rfl Ad rfl (Av rfl rfl (CJ rfl rfl) rfl (Ab (AM rfl) rfl (Ab Ad rfl ?_))))
   rw[decide_eq_false (show ¬ ((n:Int)≤(z:Int)) by omega)]
   refine Av rfl rfl Ad rfl (Av rfl rfl Ad rfl (Av rfl rfl (x_index1 (i:=z) e3 rfl (An rfl) hzn) rfl (Av rfl rfl (Ai rfl (Ag rfl) hoc) rfl (Av rfl rfl (CJ rfl rfl) rfl (Ab (AM rfl) rfl (Ab Ad rfl ?_))))))
   rw[decide_eq_false (show ¬ ((0:Int)≤c z) by omega)]
   refine Av rfl rfl Ad rfl (Av rfl rfl (BE rfl rfl) rfl (Av rfl rfl Ad rfl ?_))
   by_cases hi0:(0:Int)<(i:Int)
   ·rw[decide_eq_true hi0]
    obtain ⟨yb',yc',e2',hyp⟩:=elt (i - 1) (by omega)
    have hasc:(xss.getD k []).getD (i - 1) 0<(z:Int):=by
     have h1:=List.pairwise_iff_getElem.1 (hx.asc k hkx) (i - 1) i (by omega) (by omega) (by omega)
     rw[getI (l:=xss.getD k []) (i:=i - 1) (by omega),getI (l:=xss.getD k []) (i:=i) (by omega),hz] at h1
     exact h1
    refine Av rfl rfl Ad rfl (Av rfl rfl Ad rfl (Av rfl rfl (Ch (a:=(i:Int)) (b:=1) rfl rfl (by omega)) rfl (Av rfl rfl (Ba (i:=i - 1) e2' rfl (by omega) (An rfl) (by omega)) rfl (Av rfl rfl (Ai rfl (Ag rfl) hyp) rfl (Av rfl rfl Ad rfl (Av rfl rfl (CJ rfl rfl) rfl (Av rfl rfl (AV rfl) rfl (Ab (AM rfl) rfl (Af (Aa ?_))))))))))
    rw[decide_eq_false (show ¬ ((z:Int)≤(xss.getD k []).getD (i - 1) 0) by omega)]
    refine Bh rfl rfl (Aq ?_)
    exact AR ⟨rfl,Ar rfl ⟨rfl,rfl,rfl,rfl,rfl,rfl,rfl,rfl,rfl,rfl,rfl,rfl,rfl,trivial⟩⟩
   rw[decide_eq_false hi0]
   refine AF rfl rfl (AF rfl rfl (AF rfl rfl (AF rfl rfl (AF rfl rfl (AF rfl rfl (AF rfl rfl (Av rfl rfl (AM rfl) rfl (Ab (AM rfl) rfl (Af (Aa (Bh rfl rfl ?_)))))))))))
   refine Aq ?_
   exact AR ⟨rfl,Ar rfl ⟨rfl,rfl,rfl,rfl,rfl,rfl,rfl,rfl,rfl,rfl,rfl,rfl,rfl,trivial⟩⟩
  rintro e W' ⟨rfl,⟨t,rfl⟩⟩
  have hlow:=As hrow
  subst e3
  have hob:B≤ob:=(hlow ob rfl).1
  have hof:W'.frozen? ⟨ob,0+z,none⟩=false:=by
   rcases hrow.2 with ⟨h0,_⟩|⟨g',cap',cur,e4,_,hg',_⟩
   ·cases h0
   injection e4 with e5 _ _
   injection e5 with e5
   injection e5 with e5 _ _
   subst e5
   exact AQ hg'
  refine Ac (Ab Ad rfl (Ab Ad rfl (Ab Ad rfl (Ab (x_index1 (i:=z) rfl rfl (An rfl) hzn) rfl (Bc (AU (v:=.int .i64 (k:Int)) rfl rfl rfl (AH rfl) hoc hof) rfl (Af (Ap (Aa ?_))))))))
  have hrow2:=Fk (xs:=(List.range n).map fun i=>.int .i64 (c i)) (by rw[List.length_map,List.length_range];exact hrow) (k:=z) (by rw[List.length_map,List.length_range];exact hzn) (.int .i64 (k:Int))
  rw[List.length_set,List.length_map,List.length_range,Gq c hzn] at hrow2
  have hb2:Below B w (W'.setCell ⟨ob,0+z,none⟩ (.int .i64 (k:Int))):=hb.setCell (show B≤ob from hob) _
  change EC _ _ _ _ _ (W'.setCell ⟨ob,0+z,none⟩ (.int .i64 (k:Int)))
  generalize W'.setCell ⟨ob,0+z,none⟩ (.int .i64 (k:Int))=W2 at hrow2 hb2 ⊢
  refine Ac (Ab (x_inc rfl rfl (by omega)) rfl (Ab Ad rfl (Af ?_)))
  exact Aw (m - (i+1)) (by omega) ⟨i+1,_,by omega,Ar rfl ⟨rfl,rfl,rfl,rfl,rfl,rfl,rfl,rfl,rfl,rfl,rfl,trivial⟩,hb2,hrow2,hC.next hx hkx (by omega) hz,rfl⟩
 clear hb hrow hC hLW hcell
 rintro e W ⟨c,⟨t,rfl⟩,hb,hrow,hC⟩
 refine Ae (Ac (Ab Ad rfl (Ab (AN hya (An rfl)) rfl (Ab (AX rfl rfl) rfl (Af (Aa ?_))))))
 refine AI rfl rfl (fun h2=>?_) (fun h2=>?_)
 ·exfalso;omega
 refine Aq (Ap (Aa (Ac (Ab (x_inc rfl rfl (by omega)) rfl (Ab Ad rfl (Af ?_))))))
 exact Aw (xss.length - (k+1)) (by omega) ⟨k+1,c,by omega,Ar rfl ⟨rfl,rfl,rfl,rfl,rfl,rfl,trivial⟩,hb,hrow,hC,rfl⟩
end Go.Proofs.YteepnepebilckaaGreatDoor
namespace Go.Proofs.YteepnepebilckaaGreatDoor
open Go Go.Eng Go.RowKit
end Go.Proofs.YteepnepebilckaaGreatDoor
namespace Go.Proofs.YteepnepebilckaaGreatDoor
open Go Go.Eng Go.RowKit
set_option maxHeartbeats 4000000
attribute [local irreducible] EC EL DL Ret thenQ blockQ Bi bodyQ onlyN execOp Sem.run World.cell? World.frozen? World.setCell World.alloc
theorem fits3_ret {w:World} {x y z:Int} {a:Option Addr} {n c:Nat}:
 Ret Tryz.prog 37 #[.agg #[.int .i64 x,.int .i64 y,.slice a n c,.int .i64 z]] w fun v w'=>(∃b,v= .bool b)∧Below w.heap.size w w':=by
 refine ret_of_EC Tryz.func37 rfl rfl ?_
 obtain ⟨B,hBd⟩:∃B,B=w.heap.size:=⟨_,rfl⟩
 refine Ae (Ac (Ab (Bv (v:=.agg #[.int .i64 x,.int .i64 y,.slice a n c,.int .i64 z]) rfl) rfl (el_new (.cells #[.int .i64 x,.int .i64 y,.slice a n c,.int .i64 z] 48) B (by omega) fun wa hN1 hO1 hZ1 hB1 hK1=>(Ab Ah rfl (Af (Aa ?_))))))
 have g2:wa.cell? ⟨w.heap.size,0+2,none⟩=some (.slice a n c):=Am hN1 rfl
 rw[← hBd] at g2 ⊢
 refine Ae (Ae (Ac (Ab (Al rfl (Ak rfl)) rfl (Ab (Ai rfl (Ag rfl) ‹_›) rfl ?_))))
 refine Ab (AN rfl (An rfl)) rfl (Ab (BE rfl rfl) rfl (Af (Aa ?_)))
 refine AI rfl rfl (fun h=>?_) (fun h=>?_)
 ·refine Ae (Ac (Ab Ah rfl (Af (Aa (AE (AO ?_))))))
  exact Az rfl rfl rfl ⟨⟨_,rfl⟩,hB1⟩
 refine Aq (Aa (Ae (Ac (Ab Ah rfl (Af (Aa (AE ?_)))))))
 exact Az rfl rfl rfl ⟨⟨_,rfl⟩,hB1⟩
theorem Gj {w:World} {x y z:Int} {a:Option Addr} {n c:Nat}:
 Ret Tryz.prog 38 #[.agg #[.int .i64 x,.int .i64 y,.slice a n c,.int .i64 z]] w fun v w'=>(∃b,v= .bool b)∧Below w.heap.size w w':=by
 refine ret_of_EC Tryz.func38 rfl rfl ?_
 obtain ⟨B,hBd⟩:∃B,B=w.heap.size:=⟨_,rfl⟩
 refine Ae (Ac (Ab (Bv (v:=.agg #[.int .i64 x,.int .i64 y,.slice a n c,.int .i64 z]) rfl) rfl (el_new (.cells #[.int .i64 x,.int .i64 y,.slice a n c,.int .i64 z] 53) B (by omega) fun wa hN1 hO1 hZ1 hB1 hK1=>(Ab Ah rfl (Af (Aa ?_))))))
 have g2:wa.cell? ⟨w.heap.size,0+2,none⟩=some (.slice a n c):=Am hN1 rfl
 rw[← hBd] at g2 ⊢
 refine Ae (Ae (Ac (Ab (Al rfl (Ak rfl)) rfl (Ab (Ai rfl (Ag rfl) ‹_›) rfl ?_))))
 refine Ab (AN rfl (An rfl)) rfl (Ab (BE rfl rfl) rfl (Af (Aa ?_)))
 refine AI rfl rfl (fun h=>?_) (fun h=>?_)
 ·refine Ae (Ac (Ab Ah rfl (Af (Aa (AE (AO ?_))))))
  exact Az rfl rfl rfl ⟨⟨_,rfl⟩,hB1⟩
 refine Aq (Aa (Ae (Ac (Ab Ah rfl (Af (Aa (AE ?_)))))))
 exact Az rfl rfl rfl ⟨⟨_,rfl⟩,hB1⟩
theorem fits2_ret {w:World} {x:Value} {l:List Vl} (hx:ValsV w x l):
 Ret Tryz.prog 22 #[x] w fun v w'=>∃b,v= .bool b∧(b=true→l.length≤2147483647)∧Below w.heap.size w w':=by
 obtain ⟨av,cv,rfl,hvl⟩:=hx
 refine ret_of_EC Tryz.func22 rfl rfl ?_
 obtain ⟨B,hBd⟩:∃B,B=w.heap.size:=⟨_,rfl⟩
 refine Ae (Ac (Ab Ah rfl (Af (Aa (Ae (Ae (Ac (Ab Ad rfl (Ab (AN rfl (An rfl)) rfl (Ab (BE rfl rfl) rfl (Af ?_)))))))))))
 refine Aa ?_
 refine AI rfl rfl (fun h=>?_) (fun h=>?_)
 ·refine Ae (Ac (Ab Ah rfl (Af (Aa (AE (AO ?_))))))
  exact Az rfl rfl rfl ⟨false,rfl,fun h=>(by cases h),Below.refl _ _⟩
 refine Aq (Aa ?_)
 have hlen:l.length≤2147483647:=by omega
 refine Ae (Ae (Ac (Ab Ad rfl (Ab (AN rfl (An rfl)) rfl (Ab Ad rfl (Af (Aa (Ao ?_))))))))
 refine EC_loop (fun n e wr=>∃k,k≤l.length∧At e [(8,.slice av l.length cv),(9,.int .i64 (l.length:Int)),(10,.int .i64 (k:Int))]∧Below B w wr∧n=l.length - k) l.length
  ⟨0,Nat.zero_le _,Ar rfl ⟨rfl,rfl,rfl,trivial⟩,Below.refl _ _,rfl⟩ ?_
 rintro n e wr ⟨k,hk,⟨t,rfl⟩,hb,rfl⟩
 refine Ae (Ac (Ab (AX rfl rfl) rfl (Af (Aa (Ae ?_)))))
 refine AI rfl rfl (fun hlt=>?_) (fun hge=>?_)
 rotate_left
 ·have hk:k=l.length:=by omega
  subst hk
  refine AK (AB (AD (AA (Aa (Ae (Ac (Ab Ah rfl (Af (Aa (AE ?_))))))))))
  exact Az rfl rfl rfl ⟨true,rfl,fun _=>hlen,by rw[← hBd];exact hb⟩
 have hlt:k<l.length:=by omega
 obtain ⟨bb,ob,rfl,hq⟩:=hvl.resolve_left (fun e=>by rw[e] at hlt;simp at hlt)
 obtain ⟨s0,hcells0,⟨sa,sc,rfl,hints⟩⟩:=hq k hlt
 have hcells:=hcells0.keep (Keep.of_below hb (by omega))
 have hszr:=hb.size
 refine Aq (Aa (Ae (Ao (Ae (Ac (Ab (A5 (n:=4) rfl rfl (An rfl) hlt) rfl (Ab (A4 rfl (A0 rfl) hcells) rfl (Ab (A9 DV) rfl (Bc (Bb rfl rfl (A7 rfl) rfl rfl) rfl (Af (Aa ?_)))))))))))
 have hBle:B≤wr.heap.size:=by omega
 refine ec_new (.cells #[.int .i64 (l.getD k default).op,.int .i64 (l.getD k default).blk,.slice sa (l.getD k default).args.length sc,.int .i64 (l.getD k default).aux] 48) B (by omega) fun X hN3 hO3 hZ3 hB3 hK3=>?_
 obtain ⟨V,hV⟩:∃V,V=wr.heap.size:=⟨_,rfl⟩
 rw[← hV] at hN3 ⊢
 have hbX:Below B w X:=hb.trans hB3
 refine Ae (Ac (Ab (A4 (cs:=[.int .i64 (l.getD k default).op,.int .i64 (l.getD k default).blk,.slice sa (l.getD k default).args.length sc,.int .i64 (l.getD k default).aux]) rfl (A0 rfl) (A3 hN3)) rfl (Be (AG Tryz.func37 rfl rfl rfl rfl) rfl fits3_ret ?_)))
 rintro _ Y ⟨⟨b,rfl⟩,hbY⟩
 have hbY:Below B w Y:=hbX.trans (hbY.mono (by omega))
 refine Ab (BS rfl) rfl (Af (Aa ?_))
 cases b with
 |false=>
  refine Bm rfl rfl (Ae (Ac (Ab Ah rfl (Af (Aa (AE (AS (AO (Bt (AS (AO ?_)))))))))))
  exact Az rfl rfl rfl ⟨false,rfl,fun h=>(by cases h),by rw[← hBd];exact hbY⟩
 |true=>
  refine Bh rfl rfl (Aq (Ap (Aa (Ac (Ab (x_inc rfl rfl (by omega)) rfl (Ab Ad rfl (Af ?_)))))))
  exact Aw (l.length - (k+1)) (by omega) ⟨k+1,by omega,Ar rfl ⟨rfl,rfl,rfl,trivial⟩,hbY,rfl⟩
theorem fits4_ret {w:World} {x:Value} {l:List Bk} (hx:BlksV w x l):
 Ret Tryz.prog 23 #[x] w fun v w'=>∃b,v= .bool b∧(b=true→l.length≤2147483647)∧Below w.heap.size w w':=by
 obtain ⟨av,cv,rfl,hvl⟩:=hx
 refine ret_of_EC Tryz.func23 rfl rfl ?_
 obtain ⟨B,hBd⟩:∃B,B=w.heap.size:=⟨_,rfl⟩
 refine Ae (Ac (Ab Ah rfl (Af (Aa (Ae (Ae (Ac (Ab Ad rfl (Ab (AN rfl (An rfl)) rfl (Ab (BE rfl rfl) rfl (Af ?_)))))))))))
 refine Aa ?_
 refine AI rfl rfl (fun h=>?_) (fun h=>?_)
 ·refine Ae (Ac (Ab Ah rfl (Af (Aa (AE (AO ?_))))))
  exact Az rfl rfl rfl ⟨false,rfl,fun h=>(by cases h),Below.refl _ _⟩
 refine Aq (Aa ?_)
 have hlen:l.length≤2147483647:=by omega
 refine Ae (Ae (Ac (Ab Ad rfl (Ab (AN rfl (An rfl)) rfl (Ab Ad rfl (Af (Aa (Ao ?_))))))))
 refine EC_loop (fun n e wr=>∃k,k≤l.length∧At e [(8,.slice av l.length cv),(9,.int .i64 (l.length:Int)),(10,.int .i64 (k:Int))]∧Below B w wr∧n=l.length - k) l.length
  ⟨0,Nat.zero_le _,Ar rfl ⟨rfl,rfl,rfl,trivial⟩,Below.refl _ _,rfl⟩ ?_
 rintro n e wr ⟨k,hk,⟨t,rfl⟩,hb,rfl⟩
 refine Ae (Ac (Ab (AX rfl rfl) rfl (Af (Aa (Ae ?_)))))
 refine AI rfl rfl (fun hlt=>?_) (fun hge=>?_)
 rotate_left
 ·have hk:k=l.length:=by omega
  subst hk
  refine AK (AB (AD (AA (Aa (Ae (Ac (Ab Ah rfl (Af (Aa (AE ?_))))))))))
  exact Az rfl rfl rfl ⟨true,rfl,fun _=>hlen,by rw[← hBd];exact hb⟩
 have hlt:k<l.length:=by omega
 obtain ⟨bb,ob,rfl,hq⟩:=hvl.resolve_left (fun e=>by rw[e] at hlt;simp at hlt)
 obtain ⟨s0,hcells0,⟨sa,sc,rfl,hints⟩⟩:=hq k hlt
 have hcells:=hcells0.keep (Keep.of_below hb (by omega))
 have hszr:=hb.size
 refine Aq (Aa (Ae (Ao (Ae (Ac (Ab (A5 (n:=4) rfl rfl (An rfl) hlt) rfl (Ab (A4 rfl (A0 rfl) hcells) rfl (Ab (A9 Ep) rfl (Bc (Bb rfl rfl (A7 rfl) rfl rfl) rfl (Af (Aa ?_)))))))))))
 have hBle:B≤wr.heap.size:=by omega
 refine ec_new (.cells #[.int .i64 (l.getD k default).kind,.int .i64 (l.getD k default).ctrl,.slice sa (l.getD k default).succs.length sc,.int .i64 (l.getD k default).likely] 53) B (by omega) fun X hN3 hO3 hZ3 hB3 hK3=>?_
 obtain ⟨V,hV⟩:∃V,V=wr.heap.size:=⟨_,rfl⟩
 rw[← hV] at hN3 ⊢
 have hbX:Below B w X:=hb.trans hB3
 refine Ae (Ac (Ab (A4 (cs:=[.int .i64 (l.getD k default).kind,.int .i64 (l.getD k default).ctrl,.slice sa (l.getD k default).succs.length sc,.int .i64 (l.getD k default).likely]) rfl (A0 rfl) (A3 hN3)) rfl (Be (AG Tryz.func38 rfl rfl rfl rfl) rfl Gj ?_)))
 rintro _ Y ⟨⟨b,rfl⟩,hbY⟩
 have hbY:Below B w Y:=hbX.trans (hbY.mono (by omega))
 refine Ab (BS rfl) rfl (Af (Aa ?_))
 cases b with
 |false=>
  refine Bm rfl rfl (Ae (Ac (Ab Ah rfl (Af (Aa (AE (AS (AO (Bt (AS (AO ?_)))))))))))
  exact Az rfl rfl rfl ⟨false,rfl,fun h=>(by cases h),by rw[← hBd];exact hbY⟩
 |true=>
  refine Bh rfl rfl (Aq (Ap (Aa (Ac (Ab (x_inc rfl rfl (by omega)) rfl (Ab Ad rfl (Af ?_)))))))
  exact Aw (l.length - (k+1)) (by omega) ⟨k+1,by omega,Ar rfl ⟨rfl,rfl,rfl,trivial⟩,hbY,rfl⟩
theorem fits1_ret {w:World} {x:Value} {f:Fn} (hx:FnV w x f):
 Ret Tryz.prog 8 #[x] w fun v w'=>∃b,v= .bool b∧(b=true→f.vals.length<4294967296∧f.blks.length<4294967296)∧Below w.heap.size w w':=by
 obtain ⟨xv,xb,rfl,hvals,hblks⟩:=hx
 refine ret_of_EC Tryz.func8 rfl rfl ?_
 have hx0:FnV w (.agg #[xv,xb]) f:=⟨xv,xb,rfl,hvals,hblks⟩
 have hvals0:=hvals
 have hblks0:=hblks
 obtain ⟨ab,cb,rfl,hbl⟩:=hblks
 obtain ⟨av,cv,rfl,hvl⟩:=hvals
 obtain ⟨B,hBd⟩:∃B,B=w.heap.size:=⟨_,rfl⟩
 refine Ae (Ac (Ab (Bv (v:=.agg #[.slice av f.vals.length cv,.slice ab f.blks.length cb]) rfl) rfl (el_new (.cells #[.slice av f.vals.length cv,.slice ab f.blks.length cb] 25) B (by omega) fun wa hN1 hO1 hZ1 hB1 hK1=>(Ab Ah rfl (Af (Aa ?_))))))
 have g0:wa.cell? ⟨w.heap.size,0+0,none⟩=some (.slice av f.vals.length cv):=Am hN1 rfl
 have g1:wa.cell? ⟨w.heap.size,0+1,none⟩=some (.slice ab f.blks.length cb):=Am hN1 rfl
 refine Ae (Ae (Ac (Ab (Al rfl (Ak rfl)) rfl (Ab (Ai rfl (Ag rfl) ‹_›) rfl ?_))))
 refine Be (AG Tryz.func22 rfl rfl rfl rfl) rfl (fits2_ret (hvals0.keep hK1)) ?_
 rintro _ w1 ⟨b,rfl,hb,hbl1⟩
 refine Ab (BS rfl) rfl (Af (Aa ?_))
 have hK2:Keep wa w1:=Keep.of_below hbl1 (Nat.le_refl _)
 have g1':=hK2 _ _ g1
 cases b with
 |false=>
  refine Bm rfl rfl (Ae (Ac (Ab Ah rfl (Af (Aa (AE (AO ?_)))))))
  exact Az rfl rfl rfl ⟨false,rfl,fun h=>(by cases h),by rw[← hBd];exact hB1.trans (hbl1.mono (by omega))⟩
 |true=>
 refine Bh rfl rfl (Aq (Aa (Ae (Ae (Ac (Ab (Al rfl (Ak rfl)) rfl (Ab (Ai rfl (Ag rfl) ‹_›) rfl ?_)))))))
 refine Be (AG Tryz.func23 rfl rfl rfl rfl) rfl (fits4_ret ((hblks0.keep hK1).keep hK2)) ?_
 rintro _ w2 ⟨b2,rfl,hb2,hbl2⟩
 refine Ab (BS rfl) rfl (Af (Aa ?_))
 have hsz1:=hbl1.size
 have hbF:Below w.heap.size w w2:=by rw[← hBd];exact (hB1.trans (hbl1.mono (by omega))).trans (hbl2.mono (by omega))
 cases b2 with
 |false=>
  refine Bm rfl rfl (Ae (Ac (Ab Ah rfl (Af (Aa (AE (AO ?_)))))))
  exact Az rfl rfl rfl ⟨false,rfl,fun h=>(by cases h),hbF⟩
 |true=>
  refine Bh rfl rfl (Aq (Aa (Ae (Ac (Ab Ah rfl (Af (Aa (AE ?_))))))))
  exact Az rfl rfl rfl ⟨true,rfl,fun _=>⟨by have:=hb rfl;omega,by have:=hb2 rfl;omega⟩,hbF⟩
end Go.Proofs.YteepnepebilckaaGreatDoor
namespace Go.Proofs.YteepnepebilckaaGreatDoor
open Go Go.Eng Go.RowKit
section
variable {g : Gph} {fw : Prop} {A : Nat → List Nat} {arr : Nat → Nat} {cls : Nat → Int} {P : List (Nat × Nat)} {rw : Nat → Option Nat}
theorem C4 (arr:Nat→Nat) (p:Nat×Nat) (z:Int):z∈BL (clsL arr p)↔∃j,j<p.2∧z=((arr (p.1+j):Nat):Int):=by
 unfold BL clsL
 rw[List.mem_mergeSort,List.mem_map]
 constructor
 ·rintro ⟨j,hj,rfl⟩
  exact ⟨j,List.mem_range.1 hj,rfl⟩
 rintro ⟨j,hj,rfl⟩
 exact ⟨j,List.mem_range.2 hj,rfl⟩
theorem CM {P:List (Nat×Nat)} {arr:Nat→Nat} {k:Nat} (hk:k<P.length):(P.map fun p=>BL (clsL arr p)).getD k []=BL (clsL arr P[k]):=by
 rw[List.getD_eq_getElem?_getD,List.getElem?_map,List.getElem?_eq_getElem hk];rfl
theorem CseR.clsL (h:CseR g fw A arr cls P rw) (hn:g.nv≤48):ClsL g.nv (P.map fun p=>BL (clsL arr p)):=by
 obtain ⟨pn,hj⟩:=h.pj
 have pk:=hj.pi.pk
 have hlen:∀p:Nat×Nat,(BL (Go.Proofs.YteepnepebilckaaGreatDoor.clsL arr p)).length=p.2:=fun p=>by
  rw[EB];unfold Go.Proofs.YteepnepebilckaaGreatDoor.clsL;simp
 refine ⟨?_,fun k hk=>?_,fun k hk z hz=>?_,fun k hk=>?_,fun k q hk hq z h1 h2=>?_⟩
 ·have h1:(P.map fun p=>p.1).Nodup:=by
   refine List.nodup_iff_pairwise_ne.2 (List.pairwise_map.2 (hj.pi.apart.imp_of_mem fun {a b} ha hb hab e=>?_))
   have:=hj.pi.long a ha
   have:=hj.pi.long b hb
   omega
  have h2:=h1.length_le_of_subset (l₂:=List.range g.nv) fun x hx=>by
   obtain ⟨p,hp,rfl⟩:=List.mem_map.1 hx
   have:=hj.pi.long p hp
   exact List.mem_range.2 (show p.1<g.nv by have h3:p.1+p.2≤g.nv:=this.2;omega)
  rw[List.length_map,List.length_range] at h2
  rw[List.length_map];omega
 ·rw[List.length_map] at hk
  rw[CM hk,hlen]
  have:=hj.pi.long _ (List.getElem_mem hk)
  have h3:P[k].1+P[k].2≤g.nv:=this.2
  omega
 ·rw[List.length_map] at hk
  rw[CM hk] at hz
  obtain ⟨j,hj2,rfl⟩:=(C4 _ _ _).1 hz
  have:=hj.pi.long _ (List.getElem_mem hk)
  have h3:P[k].1+P[k].2≤g.nv:=this.2
  have:=BR hj.pi.perm (i:=P[k].1+j) (show P[k].1+j<g.nv by omega)
  exact ⟨by omega,Int.ofNat_lt.2 this⟩
 ·rw[List.length_map] at hk
  rw[CM hk]
  have hl:=hj.pi.long _ (List.getElem_mem hk)
  have h3:P[k].1+P[k].2≤g.nv:=hl.2
  have hs:(BL (Go.Proofs.YteepnepebilckaaGreatDoor.clsL arr P[k])).Pairwise fun a b=>decide (a≤b)=true:=List.pairwise_mergeSort (le:=fun x y:Int=>decide (x≤y)) (fun a b c h1 h2=>decide_eq_true (Int.le_trans (of_decide_eq_true h1) (of_decide_eq_true h2))) (fun a b=>by
   rcases Int.le_total a b with h|h <;> simp [h]) _
  have hnd:(BL (Go.Proofs.YteepnepebilckaaGreatDoor.clsL arr P[k])).Nodup:=by
   refine (List.mergeSort_perm _ _).nodup_iff.2 ?_
   unfold Go.Proofs.YteepnepebilckaaGreatDoor.clsL
   refine List.nodup_iff_pairwise_ne.2 (List.pairwise_map.2 (List.Pairwise.imp_of_mem (fun {a b} ha hb hab e=>?_) List.nodup_range))
   have ha:=List.mem_range.1 ha
   have hb:=List.mem_range.1 hb
   have:=Cj hj.pi.perm (i:=P[k].1+a) (j:=P[k].1+b) (by omega) (by omega) (Int.ofNat_inj.1 e)
   exact hab (by omega)
  refine (hs.and (List.nodup_iff_pairwise_ne.1 hnd)).imp fun {a b} h=>?_
  have h1:=of_decide_eq_true h.1
  have h2:=h.2
  omega
 rw[List.length_map] at hk hq
 rw[CM hk] at h1
 rw[CM hq] at h2
 obtain ⟨j,hj1,rfl⟩:=(C4 _ _ _).1 h1
 obtain ⟨j',hj2,e⟩:=(C4 _ _ _).1 h2
 have e:=Int.ofNat_inj.1 e
 have c1:=pk.cin _ (List.getElem_mem hk) j hj1
 have c2:=pk.cin _ (List.getElem_mem hq) j' hj2
 rw[e,c2] at c1
 exact (List.getElem_inj pk.nodup).1 (pk.cne _ (List.getElem_mem hk) _ (List.getElem_mem hq) c1.symm)
theorem CseR.num (h:CseR g fw A arr cls P rw) {c:Nat→Int} (hc:CNum g.nv (P.map fun p=>BL (Go.Proofs.YteepnepebilckaaGreatDoor.clsL arr p)) (P.map fun p=>BL (Go.Proofs.YteepnepebilckaaGreatDoor.clsL arr p)).length 0 c) {x y:Nat} (hx:x<g.nv) (hy:y<g.nv):c x=c y↔cls (x+1)=cls (y+1):=by
 obtain ⟨pn,hj⟩:=h.pj
 have pk:=hj.pi.pk
 have inn:∀{x},(∃p∈P,∃i,i<p.2∧x=arr (p.1+i))→∃k,∃hk:k<P.length,c x=k∧cls (x+1)=cls (arr P[k].1+1):=fun {x} hx=>by
  obtain ⟨p,hp,i,hi,rfl⟩:=hx
  obtain ⟨k,hk,rfl⟩:=List.getElem_of_mem hp
  refine ⟨k,hk,?_,pk.cin _ hp i hi⟩
  have:=hc.old k (by rw[List.length_map];exact hk) ((arr (P[k].1+i):Nat):Int) (by rw[CM hk];exact (C4 _ _ _).2 ⟨i,hi,rfl⟩)
  exact this
 have outn:∀{x},x<g.nv→(¬ ∃p∈P,∃i,i<p.2∧x=arr (p.1+i))→c x= -1 - (x:Int)∧cls (x+1)= -((x:Int)+1):=fun {x} hx hno=>by
  refine ⟨hc.out x hx (fun q hq hm=>?_) (by rw[List.take_zero];exact fun h=>by cases h),?_⟩
  ·rw[List.length_map] at hq
   rw[CM hq] at hm
   obtain ⟨j,hj2,e⟩:=(C4 _ _ _).1 hm
   exact hno ⟨_,List.getElem_mem hq,j,hj2,Int.ofNat_inj.1 e⟩
  obtain ⟨i,hi,rfl⟩:=CX hj.pi.perm hx
  exact pk.cout i hi fun p hp hpi=>hno ⟨p,hp,i - p.1,by omega,by rw[show p.1+(i - p.1)=i by omega]⟩
 by_cases hxi:∃p∈P,∃i,i<p.2∧x=arr (p.1+i) <;> by_cases hyi:∃p∈P,∃i,i<p.2∧y=arr (p.1+i)
 ·obtain ⟨k,hk,a1,a2⟩:=inn hxi
  obtain ⟨q,hq,b1,b2⟩:=inn hyi
  rw[a1,b1,a2,b2]
  constructor
  ·intro e
   have e:=Int.ofNat_inj.1 e
   subst e;rfl
  intro e
  have:=(List.getElem_inj pk.nodup).1 (pk.cne _ (List.getElem_mem hk) _ (List.getElem_mem hq) e)
  rw[this]
 ·obtain ⟨k,hk,a1,a2⟩:=inn hxi
  obtain ⟨b1,b2⟩:=outn hy hyi
  have:=(pk.cpos _ (List.getElem_mem hk)).1
  rw[a1,b1,a2,b2]
  constructor <;> intro e <;> omega
 ·obtain ⟨k,hk,a1,a2⟩:=inn hyi
  obtain ⟨b1,b2⟩:=outn hx hxi
  have:=(pk.cpos _ (List.getElem_mem hk)).1
  rw[a1,b1,a2,b2]
  constructor <;> intro e <;> omega
 obtain ⟨a1,a2⟩:=outn hx hxi
 obtain ⟨b1,b2⟩:=outn hy hyi
 rw[a1,b1,a2,b2]
 constructor <;> intro e <;> omega
end
theorem har_of {f:Fn} (hP:GoodP f):∀i,i<f.vals.length→(f.v i).args.length≤100∧∀z∈(f.v i).args,0≤z∧z<f.vals.length:=fun i hi=>by
 have:=hP.wf.args i hi
 exact ⟨by omega,this.2⟩
section
variable {P : Program} {w : World} {ρ : Operand → Value} {d : Option Tmp} {ty : TypeId} {pos : String} {af : Array Edge} {g : Option (Nat × Bool)}
theorem x_ex0 {x:Operand} {a b:Value} (hx:ρ x= .tuple #[a,b]):(execOp ρ ⟨d,.extract x 0,ty,pos,af,g⟩).run P w= .ok (.value a) w:=by
 have key:(Instr.extract (.tuple #[a,b]) 0).run P w= .ok a w:=rfl
 simp [execOp,hx,key]
theorem x_ex1 {x:Operand} {a b:Value} (hx:ρ x= .tuple #[a,b]):(execOp ρ ⟨d,.extract x 1,ty,pos,af,g⟩).run P w= .ok (.value b) w:=by
 have key:(Instr.extract (.tuple #[a,b]) 1).run P w= .ok b w:=rfl
 simp [execOp,hx,key]
end
set_option maxHeartbeats 4000000
attribute [local irreducible] EC EL DL Ret thenQ blockQ Bi bodyQ onlyN execOp Sem.run World.cell? World.frozen? World.setCell World.alloc
end Go.Proofs.YteepnepebilckaaGreatDoor
namespace Go.Proofs.YteepnepebilckaaGreatDoor
open Go Go.Eng Go.RowKit
section
variable {g : Gph}
theorem Hc (x y:Nat):(key g x).length=(key g y).length:=rfl
theorem part0_arr {arr0 arr arr':Nat→Nat} {P P':List (Nat×Nat)} (h:Part0 g arr0 arr P) (k:Part0 g arr0 arr' P'):arr=arr':=by
 have hp:(elems arr g.nv).Perm (elems arr' g.nv):=h.perm.trans k.perm.symm
 have hs:∀{arr P},Part0 g arr0 arr P→(elems arr g.nv).Pairwise fun x y=>lexc (key g x) (key g y)≤0∧(key g x=key g y→x<y):=fun {arr P} h=>by
  unfold elems
  refine List.pairwise_map.2 (List.Pairwise.imp_of_mem (fun {a b} ha hb hab=>?_) (List.pairwise_lt_range (n:=g.nv)))
  exact h.srt a b hab (List.mem_range.1 hb)
 have he:elems arr g.nv=elems arr' g.nv:=by
  refine hp.eq_of_pairwise (fun a b _ _ h1 h2=>?_) (hs h) (hs k)
  have h3:=lexc_neg (key g a) (key g b)
  have h4:lexc (key g a) (key g b)=0:=by omega
  have h5:=(lexc_eq _ _ (Hc a b)).1 h4
  have:=h1.2 h5
  have:=h2.2 h5.symm
  omega
 funext i
 by_cases hi:i<g.nv
 ·rw[← Da (arr:=arr) hi,he,Da hi]
 rw[h.top i (by omega),k.top i (by omega)]
theorem part0_sub {arr0 arr:Nat→Nat} {P P':List (Nat×Nat)} (h:Part0 g arr0 arr P) (k:Part0 g arr0 arr P') {p:Nat×Nat} (hp:p∈P):p∈P':=by
 have ap:∀{P},Part0 g arr0 arr P→∀p∈P,∀q∈P,p.1<q.1+q.2→q.1<p.1+p.2→p=q:=fun {P} h p hp q hq h1 h2=>by
  obtain ⟨i,hi,rfl⟩:=List.getElem_of_mem hp
  obtain ⟨j,hj,rfl⟩:=List.getElem_of_mem hq
  have hpw:=List.pairwise_iff_getElem.1 h.apart
  rcases Nat.lt_trichotomy i j with hij|hij|hij
  ·have:=hpw i j hi hj hij;omega
  ·subst hij;rfl
  have:=hpw j i hj hi hij;omega
 have cov:∀{P P'},Part0 g arr0 arr P→Part0 g arr0 arr P'→∀p∈P,∃q∈P',q.1≤p.1∧p.1+p.2≤q.1+q.2:=fun {P P'} h k p hp=>by
  have hl:=h.long p hp
  have e1:=h.same p hp (p.2 - 1) (by omega)
  obtain ⟨q,hq,h1,h2⟩:=k.most p.1 (p.1+(p.2 - 1)) (by omega) (by omega) e1
  exact ⟨q,hq,h1,by omega⟩
 obtain ⟨q,hq,h1,h2⟩:=cov h k p hp
 obtain ⟨r,hr,h3,h4⟩:=cov k h q hq
 have hl:=h.long p hp
 have e:=ap h p hp r hr (by omega) (by omega)
 subst e
 have:q=p:=Prod.ext (by omega) (by omega)
 rw[← this];exact hq
theorem part0_P {arr0 arr:Nat→Nat} {P P':List (Nat×Nat)} (h:Part0 g arr0 arr P) (k:Part0 g arr0 arr P'):P=P':=by
 have nd:∀{P},Part0 g arr0 arr P→P.Nodup:=fun {P} h=>by
  refine List.nodup_iff_pairwise_ne.2 (h.apart.imp_of_mem fun {a b} ha hb hab e=>?_)
  have:=h.long a ha
  subst e
  omega
 have hp:P.Perm P':=(List.perm_ext_iff_of_nodup (nd h) (nd k)).2 fun p=>⟨part0_sub h k,part0_sub k h⟩
 refine hp.eq_of_pairwise (fun a b ha hb h1 h2=>?_) h.apart k.apart
 have:=h.long a ha
 have:=k.long b hb
 omega
theorem nu_cls {arr:Nat→Nat} {P:List (Nat×Nat)} {c d:Nat→Int} (hp:(elems arr g.nv).Perm (List.range g.nv)) (h:Nu arr g.nv P P.length 0 c) (k:Nu arr g.nv P P.length 0 d) (hz:∀x,x=0∨g.nv<x→c x=0) (kz:∀x,x=0∨g.nv<x→d x=0):c=d:=by
 funext x
 by_cases hx:x=0∨g.nv<x
 ·rw[hz x hx,kz x hx]
 obtain ⟨i,hi,e⟩:=CX hp (v:=x - 1) (by omega)
 have e:x=arr i+1:=by omega
 subst e
 by_cases hin:∃q,∃hq:q<P.length,P[q].1≤i∧i<P[q].1+P[q].2
 ·obtain ⟨q,hq,h1,h2⟩:=hin
  have a:=h.old q hq hq (i - P[q].1) (by omega)
  have b:=k.old q hq hq (i - P[q].1) (by omega)
  rw[show P[q].1+(i - P[q].1)=i by omega] at a b
  rw[a,b]
 rw[h.out i hi (fun q hq _ hh=>hin ⟨q,hq,hh⟩) (fun hk=>absurd hk (Nat.lt_irrefl _)),k.out i hi (fun q hq _ hh=>hin ⟨q,hq,hh⟩) (fun hk=>absurd hk (Nat.lt_irrefl _))]
theorem F2 (hf:(elems (fun i=>(preK g g.nb).getD i 0) g.nv).Perm (List.range g.nv)) {s t:MS} (h:Ft g s) (k:Ft g t):s=t:=by
 obtain ⟨arr,P,c,rfl,h1,h2,h3⟩:=h
 obtain ⟨arr',P',c',rfl,k1,k2,k3⟩:=k
 have e:=part0_arr h1 k1
 subst e
 have e:=part0_P h1 k1
 subst e
 rw[nu_cls (h1.perm.trans hf) h2 k2 h3 k3]
theorem CseR.same {fw fw':Prop} {A A':Nat→List Nat} {arr arr':Nat→Nat} {cls cls':Nat→Int} {P P':List (Nat×Nat)} {rw rw':Nat→Option Nat} (hf:(elems (fun i=>(preK g g.nb).getD i 0) g.nv).Perm (List.range g.nv))
 (h:CseR g fw A arr cls P rw) (k:CseR g fw' A' arr' cls' P' rw'):cls=cls':=by
 obtain ⟨s,hs,pn,i,hr,hi⟩:=h.hist
 obtain ⟨s',hs',pn',i',hr',hi'⟩:=k.hist
 have e:=F2 hf hs hs'
 subst e
 have:=hr.fin hr' (by unfold Cp;rw[dif_neg hi];rfl) (by unfold Cp;rw[dif_neg hi'];rfl)
 injection this
end
end Go.Proofs.YteepnepebilckaaGreatDoor
