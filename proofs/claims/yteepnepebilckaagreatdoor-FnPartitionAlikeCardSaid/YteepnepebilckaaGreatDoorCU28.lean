/- The law FnPartitionAlike returns true for every input in which the opcode table reads as laid, and its argument reads as it did, the table being tied to the text of the program. -/
import Derived.Test.YteepnepebilckaaGreatDoorCU27
namespace Go.Proofs.YteepnepebilckaaGreatDoor
open Go Go.Eng Go.RowKit
structure ClsL (n:Nat) (xss:List (List Int)):Prop where
 len:xss.length≤1000
 long:∀k,k<xss.length→2≤(xss.getD k []).length∧(xss.getD k []).length≤1000
 rng:∀k,k<xss.length→∀z∈xss.getD k [],0≤z∧z<n
 asc:∀k,k<xss.length→(xss.getD k []).Pairwise (· < ·)
 one:∀k q,k<xss.length→q<xss.length→∀z,z∈xss.getD k []→z∈xss.getD q []→k=q
structure CNum (n:Nat) (xss:List (List Int)) (k i:Nat) (c:Nat→Int):Prop where
 old:∀q,q<k→∀z∈xss.getD q [],c z.toNat=q
 cur:∀z∈(xss.getD k []).take i,c z.toNat=k
 out:∀z,z<n→(∀q,q<k→((z:Nat):Int)∉xss.getD q [])→((z:Nat):Int)∉(xss.getD k []).take i→c z= -1 - (z:Int)
theorem getI {l:List Int} {i:Nat} (h:i<l.length):l[i]=l.getD i 0:=by
 rw[List.getD_eq_getElem?_getD,List.getElem?_eq_getElem h];rfl
theorem EM {l:List Int} {i:Nat} (h:i<l.length):l.take (i+1)=l.take i ++ [l.getD i 0]:=by
 rw[List.take_succ_eq_append_getElem h,List.getD_eq_getElem?_getD,List.getElem?_eq_getElem h];rfl
theorem CNum.fresh {n:Nat} {xss:List (List Int)} (hx:ClsL n xss) {k i:Nat} (hk:k<xss.length) (hi:i<(xss.getD k []).length):(∀q,q<k→(xss.getD k []).getD i 0∉xss.getD q [])∧(xss.getD k []).getD i 0∉(xss.getD k []).take i:=by
 have hm:=Bu hi
 refine ⟨fun q hq h=>?_,fun h=>?_⟩
 ·have:=hx.one k q hk (by omega) _ hm h;omega
 obtain ⟨j,hj,e⟩:=List.getElem_of_mem h
 rw[List.length_take] at hj
 rw[List.getElem_take] at e
 have h1:=List.pairwise_iff_getElem.1 (hx.asc k hk) j i (by omega) hi (by omega)
 rw[e,List.getD_eq_getElem?_getD,List.getElem?_eq_getElem hi] at h1
 exact absurd h1 (Int.lt_irrefl _)
theorem CNum.next {n:Nat} {xss:List (List Int)} {k i:Nat} {c:Nat→Int} (h:CNum n xss k i c) (hx:ClsL n xss) (hk:k<xss.length) (hi:i<(xss.getD k []).length) {z:Nat} (hz:(xss.getD k []).getD i 0=(z:Int)):
 CNum n xss k (i+1) (fun x=>if x=z then (k:Int) else c x):=by
 obtain ⟨f1,f2⟩:=CNum.fresh hx hk hi
 rw[hz] at f1 f2
 refine ⟨fun q hq y hy=>?_,fun y hy=>?_,fun y hy h1 h2=>?_⟩
 ·have hr:=hx.rng q (by omega) y hy
  show (if y.toNat=z then (k:Int) else c y.toNat)=q
  rw[if_neg (fun e=>f1 q hq (by rw[← e,Int.toNat_of_nonneg hr.1];exact hy))]
  exact h.old q hq y hy
 ·show (if y.toNat=z then (k:Int) else c y.toNat)=k
  by_cases e:y.toNat=z
  ·rw[if_pos e]
  rw[if_neg e]
  rw[EM hi,hz] at hy
  rcases List.mem_append.1 hy with h3|h3
  ·exact h.cur y h3
  exact absurd (by rw[List.mem_singleton.1 h3];rfl) e
 rw[EM hi,hz] at h2
 show (if y=z then (k:Int) else c y)=_
 rw[if_neg (fun e=>h2 (by rw[e];exact List.mem_append_right _ (.head _)))]
 exact h.out y hy h1 fun h3=>h2 (List.mem_append_left _ h3)
theorem CNum.roll {n:Nat} {xss:List (List Int)} {k:Nat} {c:Nat→Int} (h:CNum n xss k (xss.getD k []).length c):CNum n xss (k+1) 0 c:=by
 have hc:=h.cur
 have ho:=h.out
 rw[List.take_length] at hc ho
 refine ⟨fun q hq y hy=>?_,fun y hy=>(by cases hy),fun y hy h1 _=>ho y hy (fun q hq=>h1 q (by omega)) (h1 k (by omega))⟩
 by_cases e:q=k
 ·subst e;exact hc y hy
 exact h.old q (by omega) y hy
theorem Gw {n k:Nat} (c:Nat→Int) (hk:k<n) (z:Int):(((List.range n).map fun i=>Value.int .i64 (c i)).set k (.int .i64 z))=(List.range n).map fun i=>.int .i64 (if i=k then z else c i):=by
 refine List.ext_getElem (by simp) fun j h1 h2=>?_
 rw[List.getElem_set,List.getElem_map,List.getElem_map,List.getElem_range]
 by_cases e:k=j
 ·subst e;rw[if_pos rfl,if_pos rfl]
 rw[if_neg e,if_neg (fun h=>e h.symm)]
set_option maxHeartbeats 4000000
attribute [local irreducible] EC EL DL Ret thenQ blockQ Bd bodyQ onlyN execOp Sem.run World.cell? World.frozen? World.setCell World.alloc
theorem classes_ret {w:World} {base:Nat} {v:Value} {us:List Value} {xss:List (List Int)} {n:Nat} (hL:LLs w base v us xss) (hx:ClsL n xss) (hn:n≤48):
 Ret Tryz.prog 12 #[v,.int .i64 (n:Int)] w fun r w'=>∃cv c,r= .tuple #[cv,.bool true]∧IntsV w' cv ((List.range n).map c)∧CNum n xss xss.length 0 c∧Below w.heap.size w w':=by
 refine ret_of_EC Tryz.func12 rfl rfl ?_
 obtain ⟨B,hBd⟩:∃B,B=w.heap.size:=⟨_,rfl⟩
 have key0:∀{W:World} {ρ:Operand→Value} {d:Option Tmp} {ty:TypeId} {pos:String} {af:Array Edge} {g:Option (Nat×Bool)},(execOp ρ ⟨d,.buildSlice 35 0 #[],ty,pos,af,g⟩).run Tryz.prog W= .ok (.value (.slice (some ⟨W.heap.size,0,none⟩) 0 0)) (W.alloc (.cells #[] 3)):=by
  intro W ρ d ty pos af g
  have key:(Instr.buildSlice 35 0 #[]).run Tryz.prog W= .ok (.slice (some ⟨W.heap.size,0,none⟩) 0 0) (W.alloc (.cells #[] 3)):=by kernel_rfl
  simp [execOp,key]
 refine Ae (Ac (Ab Ah rfl (Ab Ah rfl (Af (Aa (Ae (Ac (Ab key0 rfl ?_))))))))
 have hBle:B≤w.heap.size:=by omega
 refine el_new (.cells #[] 3) B (by omega) fun wa hN1 hO1 hZ1 hB1 hK1=>(Ab Ah rfl (Af (Aa ?_)))
 have hrow0:wa.ownsRow B 3 1 (.slice (some ⟨w.heap.size,0,none⟩) 0 0) 0 []:=⟨rfl,.inr ⟨w.heap.size,0,#[],rfl,by omega,hN1,Nat.le_refl _,by decide,rfl,rfl⟩⟩
 refine AW (fun e W=>∃vo,At e [(0,v),(1,.int .i64 (n:Int)),(6,vo)]∧Below B w W∧W.ownsRow B 3 1 vo n ((List.range n).map fun i:Nat=>.int .i64 (-1 - (i:Int)))) ?_ ?_
 ·refine Ae (Ac (Ab Ad rfl (Ab Ad rfl (Af (Aa (Ao ?_))))))
  refine EC_loop (fun m e W=>∃i vo,i≤n∧At e [(0,v),(1,.int .i64 (n:Int)),(6,vo),(13,.int .i64 (n:Int)),(14,.int .i64 (i:Int))]∧Below B w W∧W.ownsRow B 3 1 vo i ((List.range i).map fun i:Nat=>.int .i64 (-1 - (i:Int)))∧m=n - i) n
   ⟨0,_,Nat.zero_le _,As rfl ⟨rfl,rfl,rfl,rfl,rfl,trivial⟩,hB1,hrow0,rfl⟩ ?_
  clear hrow0 hN1
  rintro m e W ⟨i,vo,hi,⟨t,rfl⟩,hb,hrow,rfl⟩
  refine Ae (Ac (Ab (AV rfl rfl) rfl (Af (Aa (Ae ?_)))))
  refine AI rfl rfl (fun hlt=>?_) (fun hge=>?_)
  rotate_left
  ·have hin:i=n:=by omega
   subst hin
   refine AK (AB (AD (Az ?_)))
   exact AS ⟨vo,As rfl ⟨rfl,rfl,rfl,trivial⟩,hb,hrow⟩
  have hin:i<n:=by omega
  refine Ar (Aa (Ae (Ao (Ae (Ac (Ab Ad rfl (Ab Ah rfl (Af (Aa (Ac (Ab Ad rfl ?_)))))))))))
  refine Ab Ad rfl (Ab (B5 (a:= -1) (b:=(i:Int)) rfl rfl (by omega)) rfl (Ab (Bq (v:=.int .i64 (-1 - (i:Int))) rfl rfl Tryz.underlying35 (by kernel_rfl) (z:=.int .i64 0) rfl) rfl ?_))
  have hz:=hb.size
  have hBle:B≤W.heap.size:=by omega
  refine el_new (.cells #[.int .i64 (-1 - (i:Int))] 3) B (by omega) fun W5 hN6 hO6 hZ6 hB6 hK6=>?_
  have hrow6:=AA hrow (w':=W5) fun k e=>hO6 k (Au hrow k e).2
  have hlow:=Au hrow6
  refine Bz hrow6 (Am hN6 rfl) rfl (by omega) (by decide) (by omega) Tryz.underlying35 Ck rfl rfl rfl rfl ?_
  intro v7 w7 hrow7 hgr7 hwh7
  refine Ab Ah rfl (Af (Ap (Aa ?_)))
  have hb7:Below B w w7:=(hb.trans ⟨hB6.os,hB6.tape,hB6.output,hB6.size,fun j hj=>hO6 j (by omega)⟩).grown hgr7 (by omega) (fun j e=>(hlow j e).1)
  refine Ac (Ab (x_inc rfl rfl (by omega)) rfl (Ab Ad rfl (Af ?_)))
  refine Av (n - (i+1)) (by omega) ⟨i+1,v7,by omega,As rfl ⟨rfl,rfl,rfl,rfl,rfl,trivial⟩,hb7,?_,rfl⟩
  rw[List.range_succ,List.map_append]
  exact hrow7
 clear hrow0 hN1 hO1 hZ1 hB1 hK1
 rintro e W0 ⟨vo,⟨t,rfl⟩,hb0,hrow0⟩
 have hul:us.length=xss.length:=hL.len
 obtain ⟨va,vcap,hvl⟩:=BF hL.row
 rw[hul] at hvl
 have hLk:∀{W:World},Below B w W→LLs W base v us xss:=fun h=>hL.on fun k _ hk=>h.block k (by omega)
 refine Ae (Ae (Ac (Ab Ad rfl (Ab (AP hvl (An rfl)) rfl (Ab Ad rfl (Af (Aa (Ao ?_))))))))
 refine EC_loop (fun m e W=>∃k c,k≤xss.length∧At e [(0,v),(1,.int .i64 (n:Int)),(6,vo),(23,v),(24,.int .i64 (xss.length:Int)),(25,.int .i64 (k:Int))]∧Below B w W∧W.ownsRow B 3 1 vo n ((List.range n).map fun i=>.int .i64 (c i))∧CNum n xss k 0 c∧m=xss.length - k) xss.length
  ⟨0,fun i=> -1 - (i:Int),Nat.zero_le _,As rfl ⟨rfl,rfl,rfl,rfl,rfl,rfl,trivial⟩,hb0,hrow0,⟨fun q hq=>absurd hq (Nat.not_lt_zero _),fun z hz=>(by cases hz),fun _ _ _ _=>rfl⟩,rfl⟩ ?_
 clear hrow0 hb0
 rintro m e W ⟨k,c,hk,⟨t,rfl⟩,hb,hrow,hC,rfl⟩
 have hxl:=hx.len
 refine Ae (Ac (Ab (AV rfl rfl) rfl (Af (Aa (Ae ?_)))))
 refine AI rfl rfl (fun hlt=>?_) (fun hge=>?_)
 rotate_left
 ·have hkx:k=xss.length:=by omega
  subst hkx
  refine AK (AB (AD (Az (Aa (Ae (Ac (Ab Ad rfl (Ab Ah rfl (Ab Ah rfl (Af (Aa ?_)))))))))))
  refine AF ?_
  refine FI rfl rfl rfl rfl ⟨vo,c,rfl,Cy (base:=B) (el:=3) (by rw[List.length_map,List.length_range,List.map_map];exact hrow),hC,by rw[← hBd];exact hb⟩
 have hkx:k<xss.length:=by omega
 refine Ar (Aa ?_)
 have hLW:=hLk hb
 obtain ⟨gb,capb,e1,_,_,_,hcell⟩:=row_form (w:=W) (base:=base) (el:=35) (v:=v) (xs:=us) hLW.row (k:=k) (by omega)
 rw[hul] at e1
 have hg:us[k]'(by omega)=us.getD k nilS:=by rw[List.getD_eq_getElem?_getD,List.getElem?_eq_getElem (by omega)];rfl
 rw[hg] at hcell
 obtain ⟨m,hm⟩:∃m,m=(xss.getD k []).length:=⟨_,rfl⟩
 have hmm:=hx.long k hkx
 rw[← hm] at hmm
 obtain ⟨ya,ycap,hya⟩:=BF (hLW.ints k hkx)
 rw[← hm] at hya
 refine Ae (Ao (Ae (Ac (Ab Ad rfl (Ab (x_index1 (i:=k) e1 rfl (An rfl) (by omega)) rfl (Ab (Ai rfl (Ag rfl) hcell) rfl (Ab Ah rfl (Ab Ah rfl (Af (Aa ?_))))))))))
 refine AW (fun e W=>∃c,At e [(0,v),(1,.int .i64 (n:Int)),(6,vo),(23,v),(24,.int .i64 (xss.length:Int)),(25,.int .i64 (k:Int)),(9,us.getD k nilS)]∧Below B w W∧W.ownsRow B 3 1 vo n ((List.range n).map fun i=>.int .i64 (c i))∧CNum n xss (k+1) 0 c) ?_ ?_
 ·refine Ae (Ac (Ab Ad rfl (Ab (AP hya (An rfl)) rfl (Ab Ad rfl (Af (Aa (Ao ?_)))))))
  refine EC_loop (fun q e W=>∃i c,i≤m∧At e [(0,v),(1,.int .i64 (n:Int)),(6,vo),(23,v),(24,.int .i64 (xss.length:Int)),(25,.int .i64 (k:Int)),(8,.int .i64 (k:Int)),(9,us.getD k nilS),(30,us.getD k nilS),(31,.int .i64 (m:Int)),(32,.int .i64 (i:Int))]∧Below B w W∧W.ownsRow B 3 1 vo n ((List.range n).map fun i=>.int .i64 (c i))∧CNum n xss k i c∧q=m - i) m
   ⟨0,c,Nat.zero_le _,As rfl ⟨rfl,rfl,rfl,rfl,rfl,rfl,rfl,rfl,rfl,rfl,rfl,trivial⟩,hb,hrow,hC,rfl⟩ ?_
  clear hb hrow hC hLW hcell
  rintro q e W ⟨i,c,hi,⟨t,rfl⟩,hb,hrow,hC,rfl⟩
  refine Ae (Ac (Ab (AV rfl rfl) rfl (Af (Aa (Ae ?_)))))
  refine AI rfl rfl (fun hlt=>?_) (fun hge=>?_)
  rotate_left
  ·have him:i=m:=by omega
   rw[him,hm] at hC
   refine AK (AB (AD (Az ?_)))
   exact AS ⟨c,As rfl ⟨rfl,rfl,rfl,rfl,rfl,rfl,rfl,trivial⟩,hb,hrow,hC.roll⟩
  have him:i<m:=by omega
  refine Ar (Aa ?_)
  have hLW:=hLk hb
  obtain ⟨z,hz⟩:∃z:Nat,(xss.getD k []).getD i 0=(z:Int):=⟨_,(Int.toNat_of_nonneg (hx.rng k hkx _ (Bu (by omega))).1).symm⟩
  have hzn:z<n:=by
   have:=(hx.rng k hkx _ (Bu (l:=xss.getD k []) (k:=i) (by omega))).2
   omega
  have elt:∀i,i<m→∃yb yc,us.getD k nilS= .slice (some ⟨yb,0,none⟩) m yc∧W.cell? ⟨yb,0+i,none⟩=some (.int .i64 ((xss.getD k []).getD i 0)):=fun i hi=>by
   obtain ⟨yb,yc,e2,_,_,_,hyc⟩:=row_form (w:=W) (base:=base) (el:=3) (v:=us.getD k nilS) (xs:=(xss.getD k []).map (Value.int .i64)) (by rw[List.length_map];exact hLW.ints k hkx) (k:=i) (by rw[List.length_map,← hm];exact hi)
   rw[List.length_map,← hm] at e2
   rw[List.getElem_map] at hyc
   refine ⟨yb,yc,e2,hyc.trans ?_⟩
   exact congrArg (fun z=>some (Value.int .i64 z)) (getI (by omega))
  obtain ⟨yb,yc,e2,hyc⟩:=elt i him
  rw[hz] at hyc
  obtain ⟨ob,oc,e3,_,_,_,hoc⟩:=row_form (w:=W) (base:=B) (el:=3) (v:=vo) (xs:=(List.range n).map fun i=>.int .i64 (c i)) (by rw[List.length_map,List.length_range];exact hrow) (k:=z) (by rw[List.length_map,List.length_range];exact hzn)
  rw[List.length_map,List.length_range] at e3
  rw[List.getElem_map,List.getElem_range] at hoc
  obtain ⟨f1,f2⟩:=CNum.fresh hx hkx (i:=i) (by omega)
  rw[hz] at f1 f2
  have hcz:=hC.out z hzn f1 f2
  refine Ae (Ao (Ae (Ac (Ab Ad rfl (Ab (x_index1 (i:=i) e2 rfl (An rfl) him) rfl (Ab (Ai rfl (Ag rfl) hyc) rfl (Ab Ah rfl (Ab Ah rfl (Af (Aa ?_))))))))))
  refine AW (fun e W'=>W'=W∧At e [(0,v),(1,.int .i64 (n:Int)),(6,vo),(23,v),(24,.int .i64 (xss.length:Int)),(25,.int .i64 (k:Int)),(8,.int .i64 (k:Int)),(9,us.getD k nilS),(30,us.getD k nilS),(31,.int .i64 (m:Int)),(32,.int .i64 (i:Int)),(10,.int .i64 (i:Int)),(11,.int .i64 (z:Int))]) ?_ ?_
  ·refine Ae (Ac (Ab Ad rfl (Ab (AV rfl rfl) rfl (Ab Ad rfl ?_))))
   rw[decide_eq_false (show ¬ ((z:Int)<0) by omega)]
   refine Aq rfl rfl Ad rfl (Aq rfl rfl Ad rfl (Aq rfl rfl (CT rfl rfl) rfl (Ab (AH rfl) rfl (Ab Ad rfl ?_))))
   rw[decide_eq_false (show ¬ ((n:Int)≤(z:Int)) by omega)]
   refine Aq rfl rfl Ad rfl (Aq rfl rfl Ad rfl (Aq rfl rfl (x_index1 (i:=z) e3 rfl (An rfl) hzn) rfl (Aq rfl rfl (Ai rfl (Ag rfl) hoc) rfl (Aq rfl rfl (CT rfl rfl) rfl (Ab (AH rfl) rfl (Ab Ad rfl ?_))))))
   rw[decide_eq_false (show ¬ ((0:Int)≤c z) by omega)]
   refine Aq rfl rfl Ad rfl (Aq rfl rfl (BE rfl rfl) rfl (Aq rfl rfl Ad rfl ?_))
   by_cases hi0:(0:Int)<(i:Int)
   ·rw[decide_eq_true hi0]
    obtain ⟨yb',yc',e2',hyp⟩:=elt (i - 1) (by omega)
    have hasc:(xss.getD k []).getD (i - 1) 0<(z:Int):=by
     have h1:=List.pairwise_iff_getElem.1 (hx.asc k hkx) (i - 1) i (by omega) (by omega) (by omega)
     rw[getI (l:=xss.getD k []) (i:=i - 1) (by omega),getI (l:=xss.getD k []) (i:=i) (by omega),hz] at h1
     exact h1
    refine Aq rfl rfl Ad rfl (Aq rfl rfl Ad rfl (Aq rfl rfl (B5 (a:=(i:Int)) (b:=1) rfl rfl (by omega)) rfl (Aq rfl rfl (A0 (i:=i - 1) e2' rfl (by omega) (An rfl) (by omega)) rfl (Aq rfl rfl (Ai rfl (Ag rfl) hyp) rfl (Aq rfl rfl Ad rfl (Aq rfl rfl (CT rfl rfl) rfl (Aq rfl rfl (AN rfl) rfl (Ab (AH rfl) rfl (Af (Aa ?_))))))))))
    rw[decide_eq_false (show ¬ ((z:Int)≤(xss.getD k []).getD (i - 1) 0) by omega)]
    refine A6 rfl rfl (Ar ?_)
    exact AS ⟨rfl,As rfl ⟨rfl,rfl,rfl,rfl,rfl,rfl,rfl,rfl,rfl,rfl,rfl,rfl,rfl,trivial⟩⟩
   rw[decide_eq_false hi0]
   refine Ax rfl rfl (Ax rfl rfl (Ax rfl rfl (Ax rfl rfl (Ax rfl rfl (Ax rfl rfl (Ax rfl rfl (Aq rfl rfl (AH rfl) rfl (Ab (AH rfl) rfl (Af (Aa (A6 rfl rfl ?_)))))))))))
   refine Ar ?_
   exact AS ⟨rfl,As rfl ⟨rfl,rfl,rfl,rfl,rfl,rfl,rfl,rfl,rfl,rfl,rfl,rfl,rfl,trivial⟩⟩
  rintro e W' ⟨rfl,⟨t,rfl⟩⟩
  have hlow:=Au hrow
  subst e3
  have hob:B≤ob:=(hlow ob rfl).1
  have hof:W'.frozen? ⟨ob,0+z,none⟩=false:=by
   rcases hrow.2 with ⟨h0,_⟩|⟨g',cap',cur,e4,_,hg',_⟩
   ·cases h0
   injection e4 with e5 _ _
   injection e5 with e5
   injection e5 with e5 _ _
   subst e5
   exact AU hg'
  refine Ac (Ab Ad rfl (Ab Ad rfl (Ab Ad rfl (Ab (x_index1 (i:=z) rfl rfl (An rfl) hzn) rfl (Bf (AX (v:=.int .i64 (k:Int)) rfl rfl rfl (AO rfl) hoc hof) rfl (Af (Ap (Aa ?_))))))))
  have hrow2:=Fg (xs:=(List.range n).map fun i=>.int .i64 (c i)) (by rw[List.length_map,List.length_range];exact hrow) (k:=z) (by rw[List.length_map,List.length_range];exact hzn) (.int .i64 (k:Int))
  rw[List.length_set,List.length_map,List.length_range,Gw c hzn] at hrow2
  have hb2:Below B w (W'.setCell ⟨ob,0+z,none⟩ (.int .i64 (k:Int))):=hb.setCell (show B≤ob from hob) _
  change EC _ _ _ _ _ (W'.setCell ⟨ob,0+z,none⟩ (.int .i64 (k:Int)))
  generalize W'.setCell ⟨ob,0+z,none⟩ (.int .i64 (k:Int))=W2 at hrow2 hb2 ⊢
  refine Ac (Ab (x_inc rfl rfl (by omega)) rfl (Ab Ad rfl (Af ?_)))
  exact Av (m - (i+1)) (by omega) ⟨i+1,_,by omega,As rfl ⟨rfl,rfl,rfl,rfl,rfl,rfl,rfl,rfl,rfl,rfl,rfl,trivial⟩,hb2,hrow2,hC.next hx hkx (by omega) hz,rfl⟩
 clear hb hrow hC hLW hcell
 rintro e W ⟨c,⟨t,rfl⟩,hb,hrow,hC⟩
 refine Ae (Ac (Ab Ad rfl (Ab (AP hya (An rfl)) rfl (Ab (AV rfl rfl) rfl (Af (Aa ?_))))))
 refine AI rfl rfl (fun h2=>?_) (fun h2=>?_)
 ·exfalso;omega
 refine Ar (Ap (Aa (Ac (Ab (x_inc rfl rfl (by omega)) rfl (Ab Ad rfl (Af ?_))))))
 exact Av (xss.length - (k+1)) (by omega) ⟨k+1,c,by omega,As rfl ⟨rfl,rfl,rfl,rfl,rfl,rfl,trivial⟩,hb,hrow,hC,rfl⟩
end Go.Proofs.YteepnepebilckaaGreatDoor
namespace Go.Proofs.YteepnepebilckaaGreatDoor
open Go Go.Eng Go.RowKit
section
variable {g : Gph} {fw : Prop} {A : Nat → List Nat} {arr : Nat → Nat} {cls : Nat → Int} {P : List (Nat × Nat)} {rw : Nat → Option Nat}
theorem CseR.mate (h:CseR g fw A arr cls P rw) {x y:Nat} (hx:x<g.nv) (hy:y<g.nv) (e:cls (x+1)=cls (y+1)):x=y∨∃p∈P,∃i j,i<p.2∧j<p.2∧x=arr (p.1+i)∧y=arr (p.1+j):=by
 obtain ⟨pn,hj⟩:=h.pj
 have pk:=hj.pi.pk
 obtain ⟨i,hi,rfl⟩:=CR hj.pi.perm hx
 obtain ⟨j,hj2,rfl⟩:=CR hj.pi.perm hy
 by_cases h1:∃p∈P,p.1≤i∧i<p.1+p.2
 ·obtain ⟨p,hp,a1,a2⟩:=h1
  have e1:=pk.cin p hp (i - p.1) (by omega)
  rw[show p.1+(i - p.1)=i by omega] at e1
  obtain ⟨u,hu,e2⟩:=pk.mem_of (o:=p.1) (n:=p.2) hp hy (by rw[← e,e1])
  exact .inr ⟨p,hp,i - p.1,u,by omega,hu,by rw[show p.1+(i - p.1)=i by omega],e2⟩
 have e1:=pk.cout i hi fun p hp hpi=>h1 ⟨p,hp,hpi⟩
 by_cases h2:∃p∈P,p.1≤j∧j<p.1+p.2
 ·obtain ⟨p,hp,a1,a2⟩:=h2
  have e2:=pk.cin p hp (j - p.1) (by omega)
  rw[show p.1+(j - p.1)=j by omega] at e2
  have:=(pk.cpos p hp).1
  omega
 have e2:=pk.cout j hj2 fun p hp hpj=>h2 ⟨p,hp,hpj⟩
 exact .inl (by omega)
theorem CseR.clsC (h:CseR g fw A arr cls P rw):ClsC (g.wa A) cls:=by
 obtain ⟨pn,hj⟩:=h.pj
 refine ⟨fun x y hx hy e=>?_,fun x y hx hy e=>?_⟩
 ·rcases h.mate hx hy e with rfl|⟨p,hp,i,j,hi,hj2,rfl,rfl⟩
  ·rfl
  exact (hj.pi.same p hp i hi).symm.trans (hj.pi.same p hp j hj2)
 rcases h.mate hx hy e with rfl|⟨p,hp,i,j,hi,hj2,rfl,rfl⟩
 ·rfl
 exact h.stab p hp i j hi hj2
end
end Go.Proofs.YteepnepebilckaaGreatDoor
namespace Go.Proofs.YteepnepebilckaaGreatDoor
open Go Go.Eng Go.RowKit
set_option maxHeartbeats 4000000
attribute [local irreducible] EC EL DL Ret thenQ blockQ Bd bodyQ onlyN execOp Sem.run World.cell? World.frozen? World.setCell World.alloc
theorem fits3_ret {w:World} {x y z:Int} {a:Option Addr} {n c:Nat}:
 Ret Tryz.prog 37 #[.agg #[.int .i64 x,.int .i64 y,.slice a n c,.int .i64 z]] w fun v w'=>(∃b,v= .bool b)∧Below w.heap.size w w':=by
 refine ret_of_EC Tryz.func37 rfl rfl ?_
 obtain ⟨B,hBd⟩:∃B,B=w.heap.size:=⟨_,rfl⟩
 refine Ae (Ac (Ab (Bw (v:=.agg #[.int .i64 x,.int .i64 y,.slice a n c,.int .i64 z]) rfl) rfl (el_new (.cells #[.int .i64 x,.int .i64 y,.slice a n c,.int .i64 z] 48) B (by omega) fun wa hN1 hO1 hZ1 hB1 hK1=>(Ab Ah rfl (Af (Aa ?_))))))
 have g2:wa.cell? ⟨w.heap.size,0+2,none⟩=some (.slice a n c):=Am hN1 rfl
 rw[← hBd] at g2 ⊢
 refine Ae (Ae (Ac (Ab (Ak rfl (Al rfl)) rfl (Ab (Ai rfl (Ag rfl) ‹_›) rfl ?_))))
 refine Ab (AP rfl (An rfl)) rfl (Ab (BE rfl rfl) rfl (Af (Aa ?_)))
 refine AI rfl rfl (fun h=>?_) (fun h=>?_)
 ·refine Ae (Ac (Ab Ah rfl (Af (Aa (AF (AM ?_))))))
  exact Aw rfl rfl rfl ⟨⟨_,rfl⟩,hB1⟩
 refine Ar (Aa (Ae (Ac (Ab Ah rfl (Af (Aa (AF ?_)))))))
 exact Aw rfl rfl rfl ⟨⟨_,rfl⟩,hB1⟩
theorem F8 {w:World} {x y z:Int} {a:Option Addr} {n c:Nat}:
 Ret Tryz.prog 38 #[.agg #[.int .i64 x,.int .i64 y,.slice a n c,.int .i64 z]] w fun v w'=>(∃b,v= .bool b)∧Below w.heap.size w w':=by
 refine ret_of_EC Tryz.func38 rfl rfl ?_
 obtain ⟨B,hBd⟩:∃B,B=w.heap.size:=⟨_,rfl⟩
 refine Ae (Ac (Ab (Bw (v:=.agg #[.int .i64 x,.int .i64 y,.slice a n c,.int .i64 z]) rfl) rfl (el_new (.cells #[.int .i64 x,.int .i64 y,.slice a n c,.int .i64 z] 53) B (by omega) fun wa hN1 hO1 hZ1 hB1 hK1=>(Ab Ah rfl (Af (Aa ?_))))))
 have g2:wa.cell? ⟨w.heap.size,0+2,none⟩=some (.slice a n c):=Am hN1 rfl
 rw[← hBd] at g2 ⊢
 refine Ae (Ae (Ac (Ab (Ak rfl (Al rfl)) rfl (Ab (Ai rfl (Ag rfl) ‹_›) rfl ?_))))
 refine Ab (AP rfl (An rfl)) rfl (Ab (BE rfl rfl) rfl (Af (Aa ?_)))
 refine AI rfl rfl (fun h=>?_) (fun h=>?_)
 ·refine Ae (Ac (Ab Ah rfl (Af (Aa (AF (AM ?_))))))
  exact Aw rfl rfl rfl ⟨⟨_,rfl⟩,hB1⟩
 refine Ar (Aa (Ae (Ac (Ab Ah rfl (Af (Aa (AF ?_)))))))
 exact Aw rfl rfl rfl ⟨⟨_,rfl⟩,hB1⟩
theorem fits2_ret {w:World} {x:Value} {l:List Vl} (hx:ValsV w x l):
 Ret Tryz.prog 22 #[x] w fun v w'=>∃b,v= .bool b∧(b=true→l.length≤2147483647)∧Below w.heap.size w w':=by
 obtain ⟨av,cv,rfl,hvl⟩:=hx
 refine ret_of_EC Tryz.func22 rfl rfl ?_
 obtain ⟨B,hBd⟩:∃B,B=w.heap.size:=⟨_,rfl⟩
 refine Ae (Ac (Ab Ah rfl (Af (Aa (Ae (Ae (Ac (Ab Ad rfl (Ab (AP rfl (An rfl)) rfl (Ab (BE rfl rfl) rfl (Af ?_)))))))))))
 refine Aa ?_
 refine AI rfl rfl (fun h=>?_) (fun h=>?_)
 ·refine Ae (Ac (Ab Ah rfl (Af (Aa (AF (AM ?_))))))
  exact Aw rfl rfl rfl ⟨false,rfl,fun h=>(by cases h),Below.refl _ _⟩
 refine Ar (Aa ?_)
 have hlen:l.length≤2147483647:=by omega
 refine Ae (Ae (Ac (Ab Ad rfl (Ab (AP rfl (An rfl)) rfl (Ab Ad rfl (Af (Aa (Ao ?_))))))))
 refine EC_loop (fun n e wr=>∃k,k≤l.length∧At e [(8,.slice av l.length cv),(9,.int .i64 (l.length:Int)),(10,.int .i64 (k:Int))]∧Below B w wr∧n=l.length - k) l.length
  ⟨0,Nat.zero_le _,As rfl ⟨rfl,rfl,rfl,trivial⟩,Below.refl _ _,rfl⟩ ?_
 rintro n e wr ⟨k,hk,⟨t,rfl⟩,hb,rfl⟩
 refine Ae (Ac (Ab (AV rfl rfl) rfl (Af (Aa (Ae ?_)))))
 refine AI rfl rfl (fun hlt=>?_) (fun hge=>?_)
 rotate_left
 ·have hk:k=l.length:=by omega
  subst hk
  refine AK (AB (AD (Az (Aa (Ae (Ac (Ab Ah rfl (Af (Aa (AF ?_))))))))))
  exact Aw rfl rfl rfl ⟨true,rfl,fun _=>hlen,by rw[← hBd];exact hb⟩
 have hlt:k<l.length:=by omega
 obtain ⟨bb,ob,rfl,hq⟩:=hvl.resolve_left (fun e=>by rw[e] at hlt;simp at hlt)
 obtain ⟨s0,hcells0,⟨sa,sc,rfl,hints⟩⟩:=hq k hlt
 have hcells:=hcells0.keep (Keep.of_below hb (by omega))
 have hszr:=hb.size
 refine Ar (Aa (Ae (Ao (Ae (Ac (Ab (A4 (n:=4) rfl rfl (An rfl) hlt) rfl (Ab (A5 rfl (A3 rfl) hcells) rfl (Ab (A9 Ew) rfl (Bf (Bj rfl rfl (A7 rfl) rfl rfl) rfl (Af (Aa ?_)))))))))))
 have hBle:B≤wr.heap.size:=by omega
 refine ec_new (.cells #[.int .i64 (l.getD k default).op,.int .i64 (l.getD k default).blk,.slice sa (l.getD k default).args.length sc,.int .i64 (l.getD k default).aux] 48) B (by omega) fun X hN3 hO3 hZ3 hB3 hK3=>?_
 obtain ⟨V,hV⟩:∃V,V=wr.heap.size:=⟨_,rfl⟩
 rw[← hV] at hN3 ⊢
 have hbX:Below B w X:=hb.trans hB3
 refine Ae (Ac (Ab (A5 (cs:=[.int .i64 (l.getD k default).op,.int .i64 (l.getD k default).blk,.slice sa (l.getD k default).args.length sc,.int .i64 (l.getD k default).aux]) rfl (A3 rfl) (Bh hN3)) rfl (Be (AJ Tryz.func37 rfl rfl rfl rfl) rfl fits3_ret ?_)))
 rintro _ Y ⟨⟨b,rfl⟩,hbY⟩
 have hbY:Below B w Y:=hbX.trans (hbY.mono (by omega))
 refine Ab (BQ rfl) rfl (Af (Aa ?_))
 cases b with
 |false=>
  refine Bc rfl rfl (Ae (Ac (Ab Ah rfl (Af (Aa (AF (AQ (AM (Br (AQ (AM ?_)))))))))))
  exact Aw rfl rfl rfl ⟨false,rfl,fun h=>(by cases h),by rw[← hBd];exact hbY⟩
 |true=>
  refine A6 rfl rfl (Ar (Ap (Aa (Ac (Ab (x_inc rfl rfl (by omega)) rfl (Ab Ad rfl (Af ?_)))))))
  exact Av (l.length - (k+1)) (by omega) ⟨k+1,by omega,As rfl ⟨rfl,rfl,rfl,trivial⟩,hbY,rfl⟩
theorem fits4_ret {w:World} {x:Value} {l:List Bk} (hx:BlksV w x l):
 Ret Tryz.prog 23 #[x] w fun v w'=>∃b,v= .bool b∧(b=true→l.length≤2147483647)∧Below w.heap.size w w':=by
 obtain ⟨av,cv,rfl,hvl⟩:=hx
 refine ret_of_EC Tryz.func23 rfl rfl ?_
 obtain ⟨B,hBd⟩:∃B,B=w.heap.size:=⟨_,rfl⟩
 refine Ae (Ac (Ab Ah rfl (Af (Aa (Ae (Ae (Ac (Ab Ad rfl (Ab (AP rfl (An rfl)) rfl (Ab (BE rfl rfl) rfl (Af ?_)))))))))))
 refine Aa ?_
 refine AI rfl rfl (fun h=>?_) (fun h=>?_)
 ·refine Ae (Ac (Ab Ah rfl (Af (Aa (AF (AM ?_))))))
  exact Aw rfl rfl rfl ⟨false,rfl,fun h=>(by cases h),Below.refl _ _⟩
 refine Ar (Aa ?_)
 have hlen:l.length≤2147483647:=by omega
 refine Ae (Ae (Ac (Ab Ad rfl (Ab (AP rfl (An rfl)) rfl (Ab Ad rfl (Af (Aa (Ao ?_))))))))
 refine EC_loop (fun n e wr=>∃k,k≤l.length∧At e [(8,.slice av l.length cv),(9,.int .i64 (l.length:Int)),(10,.int .i64 (k:Int))]∧Below B w wr∧n=l.length - k) l.length
  ⟨0,Nat.zero_le _,As rfl ⟨rfl,rfl,rfl,trivial⟩,Below.refl _ _,rfl⟩ ?_
 rintro n e wr ⟨k,hk,⟨t,rfl⟩,hb,rfl⟩
 refine Ae (Ac (Ab (AV rfl rfl) rfl (Af (Aa (Ae ?_)))))
 refine AI rfl rfl (fun hlt=>?_) (fun hge=>?_)
 rotate_left
 ·have hk:k=l.length:=by omega
  subst hk
  refine AK (AB (AD (Az (Aa (Ae (Ac (Ab Ah rfl (Af (Aa (AF ?_))))))))))
  exact Aw rfl rfl rfl ⟨true,rfl,fun _=>hlen,by rw[← hBd];exact hb⟩
 have hlt:k<l.length:=by omega
 obtain ⟨bb,ob,rfl,hq⟩:=hvl.resolve_left (fun e=>by rw[e] at hlt;simp at hlt)
 obtain ⟨s0,hcells0,⟨sa,sc,rfl,hints⟩⟩:=hq k hlt
 have hcells:=hcells0.keep (Keep.of_below hb (by omega))
 have hszr:=hb.size
 refine Ar (Aa (Ae (Ao (Ae (Ac (Ab (A4 (n:=4) rfl rfl (An rfl) hlt) rfl (Ab (A5 rfl (A3 rfl) hcells) rfl (Ab (A9 Ei) rfl (Bf (Bj rfl rfl (A7 rfl) rfl rfl) rfl (Af (Aa ?_)))))))))))
 have hBle:B≤wr.heap.size:=by omega
 refine ec_new (.cells #[.int .i64 (l.getD k default).kind,.int .i64 (l.getD k default).ctrl,.slice sa (l.getD k default).succs.length sc,.int .i64 (l.getD k default).likely] 53) B (by omega) fun X hN3 hO3 hZ3 hB3 hK3=>?_
 obtain ⟨V,hV⟩:∃V,V=wr.heap.size:=⟨_,rfl⟩
 rw[← hV] at hN3 ⊢
 have hbX:Below B w X:=hb.trans hB3
 refine Ae (Ac (Ab (A5 (cs:=[.int .i64 (l.getD k default).kind,.int .i64 (l.getD k default).ctrl,.slice sa (l.getD k default).succs.length sc,.int .i64 (l.getD k default).likely]) rfl (A3 rfl) (Bh hN3)) rfl (Be (AJ Tryz.func38 rfl rfl rfl rfl) rfl F8 ?_)))
 rintro _ Y ⟨⟨b,rfl⟩,hbY⟩
 have hbY:Below B w Y:=hbX.trans (hbY.mono (by omega))
 refine Ab (BQ rfl) rfl (Af (Aa ?_))
 cases b with
 |false=>
  refine Bc rfl rfl (Ae (Ac (Ab Ah rfl (Af (Aa (AF (AQ (AM (Br (AQ (AM ?_)))))))))))
  exact Aw rfl rfl rfl ⟨false,rfl,fun h=>(by cases h),by rw[← hBd];exact hbY⟩
 |true=>
  refine A6 rfl rfl (Ar (Ap (Aa (Ac (Ab (x_inc rfl rfl (by omega)) rfl (Ab Ad rfl (Af ?_)))))))
  exact Av (l.length - (k+1)) (by omega) ⟨k+1,by omega,As rfl ⟨rfl,rfl,rfl,trivial⟩,hbY,rfl⟩
theorem fits1_ret {w:World} {x:Value} {f:Fn} (hx:FnV w x f):
 Ret Tryz.prog 8 #[x] w fun v w'=>∃b,v= .bool b∧(b=true→f.vals.length<4294967296∧f.blks.length<4294967296)∧Below w.heap.size w w':=by
 obtain ⟨xv,xb,rfl,hvals,hblks⟩:=hx
 refine ret_of_EC Tryz.func8 rfl rfl ?_
 have hx0:FnV w (.agg #[xv,xb]) f:=⟨xv,xb,rfl,hvals,hblks⟩
 have hvals0:=hvals
 have hblks0:=hblks
 obtain ⟨ab,cb,rfl,hbl⟩:=hblks
 obtain ⟨av,cv,rfl,hvl⟩:=hvals
 obtain ⟨B,hBd⟩:∃B,B=w.heap.size:=⟨_,rfl⟩
 refine Ae (Ac (Ab (Bw (v:=.agg #[.slice av f.vals.length cv,.slice ab f.blks.length cb]) rfl) rfl (el_new (.cells #[.slice av f.vals.length cv,.slice ab f.blks.length cb] 25) B (by omega) fun wa hN1 hO1 hZ1 hB1 hK1=>(Ab Ah rfl (Af (Aa ?_))))))
 have g0:wa.cell? ⟨w.heap.size,0+0,none⟩=some (.slice av f.vals.length cv):=Am hN1 rfl
 have g1:wa.cell? ⟨w.heap.size,0+1,none⟩=some (.slice ab f.blks.length cb):=Am hN1 rfl
 refine Ae (Ae (Ac (Ab (Ak rfl (Al rfl)) rfl (Ab (Ai rfl (Ag rfl) ‹_›) rfl ?_))))
 refine Be (AJ Tryz.func22 rfl rfl rfl rfl) rfl (fits2_ret (hvals0.keep hK1)) ?_
 rintro _ w1 ⟨b,rfl,hb,hbl1⟩
 refine Ab (BQ rfl) rfl (Af (Aa ?_))
 have hK2:Keep wa w1:=Keep.of_below hbl1 (Nat.le_refl _)
 have g1':=hK2 _ _ g1
 cases b with
 |false=>
  refine Bc rfl rfl (Ae (Ac (Ab Ah rfl (Af (Aa (AF (AM ?_)))))))
  exact Aw rfl rfl rfl ⟨false,rfl,fun h=>(by cases h),by rw[← hBd];exact hB1.trans (hbl1.mono (by omega))⟩
 |true=>
 refine A6 rfl rfl (Ar (Aa (Ae (Ae (Ac (Ab (Ak rfl (Al rfl)) rfl (Ab (Ai rfl (Ag rfl) ‹_›) rfl ?_)))))))
 refine Be (AJ Tryz.func23 rfl rfl rfl rfl) rfl (fits4_ret ((hblks0.keep hK1).keep hK2)) ?_
 rintro _ w2 ⟨b2,rfl,hb2,hbl2⟩
 refine Ab (BQ rfl) rfl (Af (Aa ?_))
 have hsz1:=hbl1.size
 have hbF:Below w.heap.size w w2:=by rw[← hBd];exact (hB1.trans (hbl1.mono (by omega))).trans (hbl2.mono (by omega))
 cases b2 with
 |false=>
  refine Bc rfl rfl (Ae (Ac (Ab Ah rfl (Af (Aa (AF (AM ?_)))))))
  exact Aw rfl rfl rfl ⟨false,rfl,fun h=>(by cases h),hbF⟩
 |true=>
  refine A6 rfl rfl (Ar (Aa (Ae (Ac (Ab Ah rfl (Af (Aa (AF ?_))))))))
  exact Aw rfl rfl rfl ⟨true,rfl,fun _=>⟨by have:=hb rfl;omega,by have:=hb2 rfl;omega⟩,hbF⟩
end Go.Proofs.YteepnepebilckaaGreatDoor
namespace Go.Proofs.YteepnepebilckaaGreatDoor
open Go Go.Eng Go.RowKit
section
variable {g : Gph} {fw : Prop} {A : Nat → List Nat} {arr : Nat → Nat} {cls : Nat → Int} {P : List (Nat × Nat)} {rw : Nat → Option Nat}
theorem CA (arr:Nat→Nat) (p:Nat×Nat) (z:Int):z∈BC (clsL arr p)↔∃j,j<p.2∧z=((arr (p.1+j):Nat):Int):=by
 unfold BC clsL
 rw[List.mem_mergeSort,List.mem_map]
 constructor
 ·rintro ⟨j,hj,rfl⟩
  exact ⟨j,List.mem_range.1 hj,rfl⟩
 rintro ⟨j,hj,rfl⟩
 exact ⟨j,List.mem_range.2 hj,rfl⟩
theorem CE {P:List (Nat×Nat)} {arr:Nat→Nat} {k:Nat} (hk:k<P.length):(P.map fun p=>BC (clsL arr p)).getD k []=BC (clsL arr P[k]):=by
 rw[List.getD_eq_getElem?_getD,List.getElem?_map,List.getElem?_eq_getElem hk];rfl
theorem CseR.clsL (h:CseR g fw A arr cls P rw) (hn:g.nv≤48):ClsL g.nv (P.map fun p=>BC (clsL arr p)):=by
 obtain ⟨pn,hj⟩:=h.pj
 have pk:=hj.pi.pk
 have hlen:∀p:Nat×Nat,(BC (Go.Proofs.YteepnepebilckaaGreatDoor.clsL arr p)).length=p.2:=fun p=>by
  rw[EB];unfold Go.Proofs.YteepnepebilckaaGreatDoor.clsL;simp
 refine ⟨?_,fun k hk=>?_,fun k hk z hz=>?_,fun k hk=>?_,fun k q hk hq z h1 h2=>?_⟩
 ·have h1:(P.map fun p=>p.1).Nodup:=by
   refine List.nodup_iff_pairwise_ne.2 (List.pairwise_map.2 (hj.pi.apart.imp_of_mem fun {a b} ha hb hab e=>?_))
   have:=hj.pi.long a ha
   have:=hj.pi.long b hb
   omega
  have h2:=h1.length_le_of_subset (l₂:=List.range g.nv) fun x hx=>by
   obtain ⟨p,hp,rfl⟩:=List.mem_map.1 hx
   have:=hj.pi.long p hp
   exact List.mem_range.2 (show p.1<g.nv by have h3:p.1+p.2≤g.nv:=this.2;omega)
  rw[List.length_map,List.length_range] at h2
  rw[List.length_map];omega
 ·rw[List.length_map] at hk
  rw[CE hk,hlen]
  have:=hj.pi.long _ (List.getElem_mem hk)
  have h3:P[k].1+P[k].2≤g.nv:=this.2
  omega
 ·rw[List.length_map] at hk
  rw[CE hk] at hz
  obtain ⟨j,hj2,rfl⟩:=(CA _ _ _).1 hz
  have:=hj.pi.long _ (List.getElem_mem hk)
  have h3:P[k].1+P[k].2≤g.nv:=this.2
  have:=BR hj.pi.perm (i:=P[k].1+j) (show P[k].1+j<g.nv by omega)
  exact ⟨by omega,Int.ofNat_lt.2 this⟩
 ·rw[List.length_map] at hk
  rw[CE hk]
  have hl:=hj.pi.long _ (List.getElem_mem hk)
  have h3:P[k].1+P[k].2≤g.nv:=hl.2
  have hs:(BC (Go.Proofs.YteepnepebilckaaGreatDoor.clsL arr P[k])).Pairwise fun a b=>decide (a≤b)=true:=List.pairwise_mergeSort (le:=fun x y:Int=>decide (x≤y)) (fun a b c h1 h2=>decide_eq_true (Int.le_trans (of_decide_eq_true h1) (of_decide_eq_true h2))) (fun a b=>by
   rcases Int.le_total a b with h|h <;> simp [h]) _
  have hnd:(BC (Go.Proofs.YteepnepebilckaaGreatDoor.clsL arr P[k])).Nodup:=by
   refine (List.mergeSort_perm _ _).nodup_iff.2 ?_
   unfold Go.Proofs.YteepnepebilckaaGreatDoor.clsL
   refine List.nodup_iff_pairwise_ne.2 (List.pairwise_map.2 (List.Pairwise.imp_of_mem (fun {a b} ha hb hab e=>?_) List.nodup_range))
   have ha:=List.mem_range.1 ha
   have hb:=List.mem_range.1 hb
   have:=Cn hj.pi.perm (i:=P[k].1+a) (j:=P[k].1+b) (by omega) (by omega) (Int.ofNat_inj.1 e)
   exact hab (by omega)
  refine (hs.and (List.nodup_iff_pairwise_ne.1 hnd)).imp fun {a b} h=>?_
  have h1:=of_decide_eq_true h.1
  have h2:=h.2
  omega
 rw[List.length_map] at hk hq
 rw[CE hk] at h1
 rw[CE hq] at h2
 obtain ⟨j,hj1,rfl⟩:=(CA _ _ _).1 h1
 obtain ⟨j',hj2,e⟩:=(CA _ _ _).1 h2
 have e:=Int.ofNat_inj.1 e
 have c1:=pk.cin _ (List.getElem_mem hk) j hj1
 have c2:=pk.cin _ (List.getElem_mem hq) j' hj2
 rw[e,c2] at c1
 exact (List.getElem_inj pk.nodup).1 (pk.cne _ (List.getElem_mem hk) _ (List.getElem_mem hq) c1.symm)
theorem CseR.num (h:CseR g fw A arr cls P rw) {c:Nat→Int} (hc:CNum g.nv (P.map fun p=>BC (Go.Proofs.YteepnepebilckaaGreatDoor.clsL arr p)) (P.map fun p=>BC (Go.Proofs.YteepnepebilckaaGreatDoor.clsL arr p)).length 0 c) {x y:Nat} (hx:x<g.nv) (hy:y<g.nv):c x=c y↔cls (x+1)=cls (y+1):=by
 obtain ⟨pn,hj⟩:=h.pj
 have pk:=hj.pi.pk
 have inn:∀{x},(∃p∈P,∃i,i<p.2∧x=arr (p.1+i))→∃k,∃hk:k<P.length,c x=k∧cls (x+1)=cls (arr P[k].1+1):=fun {x} hx=>by
  obtain ⟨p,hp,i,hi,rfl⟩:=hx
  obtain ⟨k,hk,rfl⟩:=List.getElem_of_mem hp
  refine ⟨k,hk,?_,pk.cin _ hp i hi⟩
  have:=hc.old k (by rw[List.length_map];exact hk) ((arr (P[k].1+i):Nat):Int) (by rw[CE hk];exact (CA _ _ _).2 ⟨i,hi,rfl⟩)
  exact this
 have outn:∀{x},x<g.nv→(¬ ∃p∈P,∃i,i<p.2∧x=arr (p.1+i))→c x= -1 - (x:Int)∧cls (x+1)= -((x:Int)+1):=fun {x} hx hno=>by
  refine ⟨hc.out x hx (fun q hq hm=>?_) (by rw[List.take_zero];exact fun h=>by cases h),?_⟩
  ·rw[List.length_map] at hq
   rw[CE hq] at hm
   obtain ⟨j,hj2,e⟩:=(CA _ _ _).1 hm
   exact hno ⟨_,List.getElem_mem hq,j,hj2,Int.ofNat_inj.1 e⟩
  obtain ⟨i,hi,rfl⟩:=CR hj.pi.perm hx
  exact pk.cout i hi fun p hp hpi=>hno ⟨p,hp,i - p.1,by omega,by rw[show p.1+(i - p.1)=i by omega]⟩
 by_cases hxi:∃p∈P,∃i,i<p.2∧x=arr (p.1+i) <;> by_cases hyi:∃p∈P,∃i,i<p.2∧y=arr (p.1+i)
 ·obtain ⟨k,hk,a1,a2⟩:=inn hxi
  obtain ⟨q,hq,b1,b2⟩:=inn hyi
  rw[a1,b1,a2,b2]
  constructor
  ·intro e
   have e:=Int.ofNat_inj.1 e
   subst e;rfl
  intro e
  have:=(List.getElem_inj pk.nodup).1 (pk.cne _ (List.getElem_mem hk) _ (List.getElem_mem hq) e)
  rw[this]
 ·obtain ⟨k,hk,a1,a2⟩:=inn hxi
  obtain ⟨b1,b2⟩:=outn hy hyi
  have:=(pk.cpos _ (List.getElem_mem hk)).1
  rw[a1,b1,a2,b2]
  constructor <;> intro e <;> omega
 ·obtain ⟨k,hk,a1,a2⟩:=inn hyi
  obtain ⟨b1,b2⟩:=outn hx hxi
  have:=(pk.cpos _ (List.getElem_mem hk)).1
  rw[a1,b1,a2,b2]
  constructor <;> intro e <;> omega
 obtain ⟨a1,a2⟩:=outn hx hxi
 obtain ⟨b1,b2⟩:=outn hy hyi
 rw[a1,b1,a2,b2]
 constructor <;> intro e <;> omega
end
theorem head_key {f:Fn} {x y:Nat} (hbx:0≤(f.v x).blk) (hby:0≤(f.v y).blk):Ea f x y↔key (toG f) x=key (toG f) y:=by
 have hl:∀x,((toG f).args x).length=(f.v x).args.length:=fun x=>List.length_map ..
 unfold Ea key
 rw[hl,hl]
 show (_↔ [(f.v x).op,(f.v x).aux,_,if (f.v x).op=13 then (((f.v x).blk.toNat:Nat):Int)+1 else 0]=[(f.v y).op,(f.v y).aux,_,if (f.v y).op=13 then (((f.v y).blk.toNat:Nat):Int)+1 else 0])
 constructor
 ·rintro ⟨a,b,c,d⟩
  rw[a,b,c]
  by_cases e:(f.v y).op=13
  ·rw[if_pos e,if_pos e,d (a.trans e)]
  rw[if_neg e,if_neg e]
 intro h
 injection h with a h
 injection h with b h
 injection h with c h
 injection h with d _
 refine ⟨a,b,by omega,fun e=>?_⟩
 rw[if_pos e,if_pos (a ▸ e)] at d
 omega
theorem CseR.most {f:Fn} (hP:GoodP f) {fw:Prop} {A:Nat→List Nat} {arr:Nat→Nat} {cls:Nat→Int} {P:List (Nat×Nat)} {rw:Nat→Option Nat} (h:CseR (toG f) fw A arr cls P rw) (hc:∀k,k<f.vals.length→¬ BZ (f.v k).op) {x y:Nat} (hx:x<f.vals.length) (hy:y<f.vals.length):
 RT f (f.vals.length+1) x y↔cls (x+1)=cls (y+1):=by
 have hop:∀i,i<f.vals.length→0≤(f.v i).op:=fun i hi=>(hP.val hi).1
 have hncom:∀v,v<(toG f).nv→comm ((toG f).op v).toNat=false:=fun v hv=>by
  cases e:comm ((toG f).op v).toNat with
  |false=>rfl
  |true=>exact absurd ((comm_I (hop v hv)).1 e) (hc v hv)
 have hgd:∀i k,((toG f).args i).getD k 0=((f.v i).args.getD k 0).toNat:=fun i k=>CY _ _
 have hal:∀i,((toG f).args i).length=(f.v i).args.length:=fun i=>List.length_map ..
 have hrg:∀i,i<f.vals.length→∀z∈(f.v i).args,z.toNat<f.vals.length:=fun i hi z hz=>by
  have:=hP.args hi z hz;omega
 obtain ⟨pn,hj⟩:=h.pj
 constructor
 ·intro hr
  refine hj.most hncom (fun x y=>x<f.vals.length∧y<f.vals.length∧RT f (f.vals.length+1) x y) ⟨fun x y hxy=>?_,fun x y hxy k hk=>?_⟩ x y hx hy ⟨hx,hy,hr⟩
  ·exact (head_key (hP.val hxy.1).2.2.1 (hP.val hxy.2.1).2.2.1).1 hxy.2.2.2.1
  have h1:=RT.stable f.vals.length hrg x y hxy.1 hxy.2.1 hxy.2.2
  have hk:k<(f.v x).args.length:=by rw[← hal];exact hk
  rw[hgd,hgd]
  exact ⟨hrg x hxy.1 _ (Bu hk),hrg y hxy.2.1 _ (Bu (by have:=h1.2.1.2.2.1;omega)),h1.2.2 k hk⟩
 intro e
 have cc:=h.clsC
 have hA:∀v,v<f.vals.length→A v=(toG f).args v:=fun v hv=>by
  rcases h.sw.args v with h1|⟨h1,_⟩
  ·exact h1
  rw[hncom v hv] at h1;cases h1
 have key:∀t x y,x<f.vals.length→y<f.vals.length→cls (x+1)=cls (y+1)→RT f t x y:=fun t=>by
  induction t with
  |zero=>exact fun _ _ _ _ _=>trivial
  |succ t ih=>
   intro x y hx hy e
   have k1:Go.Proofs.YteepnepebilckaaGreatDoor.key ((toG f).wa A) x=Go.Proofs.YteepnepebilckaaGreatDoor.key ((toG f).wa A) y:=cc.key x y hx hy e
   have k2:Go.Proofs.YteepnepebilckaaGreatDoor.key (toG f) x=Go.Proofs.YteepnepebilckaaGreatDoor.key (toG f) y:=by
    unfold Go.Proofs.YteepnepebilckaaGreatDoor.key at k1 ⊢
    rw[show ((toG f).wa A).args x=(toG f).args x from hA x hx,show ((toG f).wa A).args y=(toG f).args y from hA y hy] at k1
    exact k1
   have hh:=(head_key (hP.val hx).2.2.1 (hP.val hy).2.2.1).2 k2
   refine ⟨ih x y hx hy e,hh,fun k hk=>?_⟩
   have h3:=cc.arg hx hy e (k:=k) (by rw[show ((toG f).wa A).args x=(toG f).args x from hA x hx,hal];exact hk)
   rw[show ((toG f).wa A).args x=(toG f).args x from hA x hx,show ((toG f).wa A).args y=(toG f).args y from hA y hy,hgd,hgd] at h3
   exact ih _ _ (hrg x hx _ (Bu hk)) (hrg y hy _ (Bu (by have:=hh.2.2.1;omega))) h3
 exact key _ x y hx hy e
theorem har_of {f:Fn} (hP:GoodP f):∀i,i<f.vals.length→(f.v i).args.length≤100∧∀z∈(f.v i).args,0≤z∧z<f.vals.length:=fun i hi=>by
 have:=hP.wf.args i hi
 exact ⟨by omega,this.2⟩
section
variable {P : Program} {w : World} {ρ : Operand → Value} {d : Option Tmp} {ty : TypeId} {pos : String} {af : Array Edge} {g : Option (Nat × Bool)}
theorem x_ex0 {x:Operand} {a b:Value} (hx:ρ x= .tuple #[a,b]):(execOp ρ ⟨d,.extract x 0,ty,pos,af,g⟩).run P w= .ok (.value a) w:=by
 have key:(Instr.extract (.tuple #[a,b]) 0).run P w= .ok a w:=rfl
 simp [execOp,hx,key]
theorem x_ex1 {x:Operand} {a b:Value} (hx:ρ x= .tuple #[a,b]):(execOp ρ ⟨d,.extract x 1,ty,pos,af,g⟩).run P w= .ok (.value b) w:=by
 have key:(Instr.extract (.tuple #[a,b]) 1).run P w= .ok b w:=rfl
 simp [execOp,hx,key]
end
set_option maxHeartbeats 4000000
attribute [local irreducible] EC EL DL Ret thenQ blockQ Bd bodyQ onlyN execOp Sem.run World.cell? World.frozen? World.setCell World.alloc
end Go.Proofs.YteepnepebilckaaGreatDoor
namespace Go.Proofs.YteepnepebilckaaGreatDoor
open Go Go.Eng Go.RowKit
def StrT (f:Fn) (c:Nat→Int) (a b:Nat):Prop:=((f.v a).op=(f.v b).op∧(f.v a).aux=(f.v b).aux∧(f.v a).args.length=(f.v b).args.length∧((f.v a).op=13→(f.v a).blk=(f.v b).blk))∧
 ((∀k,k<(f.v a).args.length→c ((f.v a).args.getD k 0).toNat=c ((f.v b).args.getD k 0).toNat)∨
   (BZ (f.v a).op∧∀k,k<(f.v a).args.length→c ((f.v a).args.getD k 0).toNat=c ((f.v b).args.getD ((f.v b).args.length - 1 - k) 0).toNat))
theorem CseR.strT {f:Fn} (hP:GoodP f) {fw:Prop} {A:Nat→List Nat} {arr:Nat→Nat} {cls:Nat→Int} {P:List (Nat×Nat)} {rw:Nat→Option Nat} (h:CseR (toG f) fw A arr cls P rw) {c:Nat→Int}
 (hc:∀x y,x<f.vals.length→y<f.vals.length→(c x=c y↔cls (x+1)=cls (y+1))) {x y:Nat} (hx:x<f.vals.length) (hy:y<f.vals.length) (e:cls (x+1)=cls (y+1)):StrT f c x y:=by
 have cc:=h.clsC
 have hrg:∀i,i<f.vals.length→∀z∈(f.v i).args,z.toNat<f.vals.length:=fun i hi z hz=>by
  have:=hP.args hi z hz;omega
 have hgd:∀i k,((toG f).args i).getD k 0=((f.v i).args.getD k 0).toNat:=fun i k=>CY _ _
 have hal:∀i,((toG f).args i).length=(f.v i).args.length:=fun i=>List.length_map ..
 have hlA:∀i,(A i).length=(f.v i).args.length:=fun i=>(h.sw.mem i).1.trans (hal i)
 have k1:key ((toG f).wa A) x=key ((toG f).wa A) y:=cc.key x y hx hy e
 have k2:key (toG f) x=key (toG f) y:=by
  unfold key at k1 ⊢
  rw[show ((toG f).wa A).args x=A x from rfl,show ((toG f).wa A).args y=A y from rfl,hlA,hlA] at k1
  rw[hal,hal]
  exact k1
 have hh:=(head_key (hP.val hx).2.2.1 (hP.val hy).2.2.1).2 k2
 obtain ⟨h1,h2,h3,h4⟩:=hh
 have ha:∀k,k<(f.v x).args.length→cls ((A x).getD k 0+1)=cls ((A y).getD k 0+1):=fun k hk=>cc.arg hx hy e (k:=k) (by rw[show ((toG f).wa A).args x=A x from rfl,hlA];exact hk)
 have cx:∀k l,k<(f.v x).args.length→l<(f.v y).args.length→cls (((f.v x).args.getD k 0).toNat+1)=cls (((f.v y).args.getD l 0).toNat+1)→c ((f.v x).args.getD k 0).toNat=c ((f.v y).args.getD l 0).toNat:=fun k l hk hl e=>(hc _ _ (hrg x hx _ (Bu hk)) (hrg y hy _ (Bu hl))).2 e
 refine ⟨⟨h1,h2,h3,h4⟩,?_⟩
 have hop:((toG f).op x)=(f.v x).op:=rfl
 rcases h.sw.args x with a1|⟨b0,p,q,b1,b2⟩
 ·have a1:A x=(toG f).args x:=a1
  rcases h.sw.args y with a2|⟨d0,p,q,d1,d2⟩
  ·have a2:A y=(toG f).args y:=a2
   refine .inl fun k hk=>cx k k hk (by omega) ?_
   have:=ha k hk
   rw[a1,a2,hgd,hgd] at this
   exact this
  have d2:A y=[q,p]:=d2
  have hly:(f.v y).args.length=2:=by rw[← hal,d1];rfl
  have hcm:BZ (f.v x).op:=by rw[h1];exact (comm_I (hP.val hy).1).1 d0
  refine .inr ⟨hcm,fun k hk=>cx k _ hk (by omega) ?_⟩
  have:=ha k hk
  rw[a1,d2,hgd] at this
  rw[this,← hgd y,d1,hly]
  rcases k with _|_|k
  ·rfl
  ·rfl
  omega
 have b2:A x=[q,p]:=b2
 have hlx:(f.v x).args.length=2:=by rw[← hal,b1];rfl
 have hcm:BZ (f.v x).op:=(comm_I (hP.val hx).1).1 b0
 rcases h.sw.args y with a2|⟨d0,p',q',d1,d2⟩
 ·have a2:A y=(toG f).args y:=a2
  refine .inr ⟨hcm,fun k hk=>cx k _ hk (by omega) ?_⟩
  have hk2:k<2:=by omega
  have e0:=ha 0 (by omega)
  have e1:=ha 1 (by omega)
  rw[b2,a2,hgd] at e0 e1
  rw[← hgd x,b1,← h3,hlx]
  rcases k with _|_|k
  ·exact e1
  ·exact e0
  omega
 have d2:A y=[q',p']:=d2
 refine .inl fun k hk=>cx k k hk (by omega) ?_
 have hk2:k<2:=by omega
 have e0:=ha 0 (by omega)
 have e1:=ha 1 (by omega)
 rw[b2,d2] at e0 e1
 rw[← hgd x,← hgd y,b1,d1]
 rcases k with _|_|k
 ·exact e1
 ·exact e0
 omega
theorem CseR.apart {f:Fn} (hP:GoodP f) {fw:Prop} {A:Nat→List Nat} {arr:Nat→Nat} {cls:Nat→Int} {P:List (Nat×Nat)} {rw:Nat→Option Nat} (h:CseR (toG f) fw A arr cls P rw) (h0:P.length=0) (hc:∀k,k<f.vals.length→¬ BZ (f.v k).op) {x y:Nat} (hx:x<f.vals.length) (hy:y<f.vals.length) (hr:RT f (f.vals.length+1) x y):x=y:=by
 have e:=(h.most hP hc hx hy).1 hr
 rcases h.mate hx hy e with e|⟨p,hp,_⟩
 ·exact e
 have:=List.length_pos_of_mem hp;omega
section
variable {w : World} {ρ : Operand → Value} {d : Option Tmp} {ty : TypeId} {pos : String} {af : Array Edge} {g : Option (Nat × Bool)}
theorem eqs0 {u:TypeId} {x y:Operand} {v:Value} (hv:v= .slice none 0 0) (hx:ρ x=v) (hy:ρ y= .slice none 0 0:=by rfl):(execOp ρ ⟨d,.binOp .eql 33 x y u,ty,pos,af,g⟩).run Tryz.prog w= .ok (.value (.bool true)) w:=by
 subst hv
 have key:(Op.equal 33 (.slice none 0 0) (.slice none 0 0)).run Tryz.prog w= .ok true w:=by kernel_rfl
 simp [execOp,hx,hy,eqGuard,binOp,key]
theorem eqs1 {u:TypeId} {x y:Operand} {v:Value} {a:Addr} {n c:Nat} (hv:v= .slice (some a) n c) (hx:ρ x=v) (hy:ρ y= .slice none 0 0:=by rfl):(execOp ρ ⟨d,.binOp .eql 33 x y u,ty,pos,af,g⟩).run Tryz.prog w= .ok (.value (.bool false)) w:=by
 subst hv
 have key:(Op.equal 33 (.slice (some a) n c) (.slice none 0 0)).run Tryz.prog w= .ok false w:=by kernel_rfl
 simp [execOp,hx,hy,eqGuard,binOp,key]
end
set_option maxHeartbeats 4000000
attribute [local irreducible] EC EL DL Ret thenQ blockQ Bd bodyQ onlyN execOp Sem.run World.cell? World.frozen? World.setCell World.alloc
theorem clear_ret {w:World} {x:Value} {f:Fn} (hx:FnV w x f) (hn:f.vals.length≤48) (har:∀i,i<f.vals.length→(f.v i).args.length≤100∧∀z∈(f.v i).args,0≤z∧z<f.vals.length)
 (hcl:(∀k,k<f.vals.length→¬ BZ (f.v k).op)→∀x y,x<f.vals.length→y<f.vals.length→RT f (f.vals.length+1) x y→x=y):
 Ret Tryz.prog 13 #[x] w fun v w'=>v= .bool false∧Below w.heap.size w w':=by
 obtain ⟨xv,xb,rfl,hvals,hblks⟩:=hx
 have hx0:FnV w (.agg #[xv,xb]) f:=⟨xv,xb,rfl,hvals,hblks⟩
 obtain ⟨ab,cb,rfl,hbl⟩:=hblks
 obtain ⟨av,cv,rfl,hvl⟩:=hvals
 refine ret_of_EC Tryz.func13 rfl rfl ?_
 obtain ⟨B,hBd⟩:∃B,B=w.heap.size:=⟨_,rfl⟩
 refine Ae (Ac (Ab (Bw (v:=.agg #[.slice av f.vals.length cv,.slice ab f.blks.length cb]) rfl) rfl (el_new (.cells #[.slice av f.vals.length cv,.slice ab f.blks.length cb] 30) B (by omega) fun w4 hN1 hO1 hZ1 hB1 hK1=>(Ab Ah rfl (Af (Aa ?_))))))
 obtain ⟨b5,hb5⟩:∃b5,b5=w.heap.size:=⟨_,rfl⟩
 rw[← hb5] at hN1 ⊢
 have hb4:Below b5 w w4:=by rw[hb5,← hBd];exact hB1
 have hv4:=hx0.keep hK1
 have hsx4:=hN1
 have hcv4:∀k,k<f.vals.length→∃bb ob,av=some ⟨bb,ob,none⟩∧Quad w4 bb (ob+k * 4) (f.v k).op (f.v k).blk (f.v k).args (f.v k).aux:=fun k hk=>by
  obtain ⟨bb,ob,e,hq⟩:=hvl.resolve_left (fun e=>by rw[e] at hk;simp at hk)
  exact ⟨bb,ob,e,(hq k hk).keep hK1⟩
 have g0:w4.cell? ⟨b5,0+0,none⟩=some (.slice av f.vals.length cv):=Am hsx4 rfl
 have hzb:=Bb hsx4
 obtain ⟨S0,hS0⟩:∃S0,S0=w4.heap.size:=⟨_,rfl⟩
 refine BL (fun e wr=>At e [(1,.pointer (some ⟨b5,0,none⟩))]∧Below S0 w4 wr∧∀i,i<f.vals.length→¬ BZ (f.v i).op) ?_ ?_
 ·refine Ae (Ac (Ab (Ak rfl (Al rfl)) rfl (Ab (Ai rfl (Ag rfl) ‹_›) rfl ?_)))
  refine Ab (AP rfl (An rfl)) rfl (Ab Ad rfl (Af (Aa (Ao ?_))))
  refine EC_loop (fun n e wr=>∃k,k≤f.vals.length∧At e [(1,.pointer (some ⟨b5,0,none⟩)),(9,.slice av f.vals.length cv),(10,.int .i64 (f.vals.length:Int)),(11,.int .i64 (k:Int))]∧Below S0 w4 wr∧(∀i,i<k→¬ BZ (f.v i).op)∧n=f.vals.length - k) f.vals.length
   ⟨0,Nat.zero_le _,As rfl ⟨rfl,rfl,rfl,rfl,trivial⟩,Below.refl _ _,fun i hi=>absurd hi (Nat.not_lt_zero _),rfl⟩ ?_
  rintro n e wr ⟨k,hk,⟨t,rfl⟩,hb,hno,rfl⟩
  refine Ae (Ac (Ab (AV rfl rfl) rfl (Af (Aa (Ae ?_)))))
  refine AI rfl rfl (fun hlt=>?_) (fun hge=>?_)
  rotate_left
  ·have hk:k=f.vals.length:=by omega
   subst hk
   refine AK (AB (AD (Az ?_)))
   exact Cj ⟨As rfl ⟨rfl,trivial⟩,hb,hno⟩
  have hlt:k<f.vals.length:=by omega
  obtain ⟨bb,ob,rfl,⟨s0,hcells0,⟨sa,sc,rfl,_⟩⟩⟩:=hcv4 k hlt
  have hKr:Keep w4 wr:=Keep.of_below hb (by omega)
  have hcells:=hcells0.keep hKr
  have hszr:=hb.size
  refine Ar (Aa (Ae (Ao (Ae (Ac (Ab (A4 (n:=4) rfl rfl (An rfl) hlt) rfl (Ab (A5 rfl (A3 rfl) hcells) rfl (Ab (A9 BX) rfl (Bf (Bj rfl rfl (A7 rfl) rfl rfl) rfl (Af (Aa ?_)))))))))))
  have hBle:B≤wr.heap.size:=by omega
  refine ec_new (.cells #[.int .i64 (f.v k).op,.int .i64 (f.v k).blk,.slice sa (f.v k).args.length sc,.int .i64 (f.v k).aux] 39) B (by omega) fun X hN7 hO7 hZ7 hB7 hK7=>?_
  obtain ⟨V,hV⟩:∃V,V=wr.heap.size:=⟨_,rfl⟩
  rw[← hV] at hN7 ⊢
  have hbX:Below S0 w4 X:=hb.trans ⟨hB7.os,hB7.tape,hB7.output,hB7.size,fun j hj=>hO7 j (by omega)⟩
  have v0:X.cell? ⟨V,0+0,none⟩=some (.int .i64 (f.v k).op):=Am hN7 rfl
  refine Ae (Ac (Ab (Ak rfl (Al rfl)) rfl (Ab (Ai rfl (Ag rfl) ‹_›) rfl ?_)))
  refine Be (AJ Tryz.func14 rfl rfl rfl rfl) rfl (DF _) ?_
  rintro _ wx ⟨rfl,ew⟩
  rw[ew]
  clear ew wx
  refine Af (Aa ?_)
  refine AI rfl rfl (fun hc=>?_) (fun hc=>?_)
  ·refine Ae (Ac (Ab Ah rfl (Af (Aa (AF (AQ (AM (Br (AQ (BO ?_))))))))))
   exact Aw rfl rfl rfl ⟨rfl,hb4.trans (hbX.mono (by omega))⟩
  refine Ar (Ap (Aa (Ac (Ab (x_inc rfl rfl (by omega)) rfl (Ab Ad rfl (Af ?_))))))
  refine Av (f.vals.length - (k+1)) (by omega) ⟨k+1,by omega,As rfl ⟨rfl,rfl,rfl,rfl,trivial⟩,hbX,fun i hi=>?_,rfl⟩
  by_cases e:i=k
  ·subst e;exact hc
  exact hno i (by omega)
 rintro e W ⟨⟨t,rfl⟩,hbW,hnc⟩
 have hap:=hcl hnc
 have hKW:Keep w4 W:=Keep.of_below hbW (by omega)
 have agW:CellsAt W b5 0 [.slice av f.vals.length cv,.slice ab f.blks.length cb]:=fun j u hj=>hKW _ _ (Bh hsx4 j u hj)
 refine Ae (Ac (Ab (A5 (cs:=[.slice av f.vals.length cv,.slice ab f.blks.length cb]) rfl (A3 rfl) agW) rfl (Be (AJ Tryz.func15 rfl rfl rfl rfl) rfl (Classes_ret (hv4.keep hKW) hn har) ?_)))
 rintro wv W8 ⟨C,hIC,hM,hb8⟩
 refine Ab Ah rfl (Af (Aa ?_))
 have hbF:Below b5 w W8:=(hb4.trans (hbW.mono (by omega))).trans (hb8.mono (by have:=hbW.size;omega))
 have hCi:∀i,i<f.vals.length→C i=i:=fun i hi=>by
  obtain ⟨a1,a2,_⟩:=hM i hi
  exact hap _ _ (by omega) hi a2
 obtain ⟨wa',wc',hwv⟩:∃a c,wv= .slice a f.vals.length c:=by
  obtain ⟨a,c,e,_⟩:=hIC
  exact ⟨a,c,by simpa using e⟩
 refine Ae (Ae (Ac (Ab Ad rfl (Ab (AP hwv (An rfl)) rfl (Ab Ad rfl (Af (Aa (Ao ?_))))))))
 refine EC_loop (fun n e wr=>∃i,i≤f.vals.length∧At e [(5,wv),(21,wv),(22,.int .i64 (f.vals.length:Int)),(23,.int .i64 (i:Int))]∧wr=W8∧n=f.vals.length - i) f.vals.length
  ⟨0,Nat.zero_le _,As rfl ⟨rfl,rfl,rfl,rfl,trivial⟩,rfl,rfl⟩ ?_
 rintro n e wr ⟨i,hi,⟨t,rfl⟩,rfl,rfl⟩
 refine Ae (Ac (Ab (AV rfl rfl) rfl (Af (Aa (Ae ?_)))))
 refine AI rfl rfl (fun hlt=>?_) (fun hge=>?_)
 rotate_left
 ·refine AK (AB (AD (Az (Aa (Ae (Ac (Ab Ah rfl (Af (Aa (AF ?_))))))))))
  exact Aw rfl rfl rfl ⟨rfl,hbF⟩
 have hin:i<f.vals.length:=by omega
 refine Ar (Aa ?_)
 obtain ⟨p1,p2,p3,e1,d1⟩:=CD hIC hin
 rw[hCi i hin] at d1
 refine Ae (Ao (Ae (Ac (Ab Ad rfl (Ab (x_index1 (i:=i) e1 rfl (An rfl) (by omega)) rfl (Ab (Ai rfl (Ag rfl) d1) rfl (Ab Ah rfl (Ab Ah rfl (Af (Aa (Ae ?_)))))))))))
 refine Ac (Ab Ad rfl (Ab Ad rfl (Ab (Bo rfl rfl) rfl (Af (Aa ?_)))))
 rw[show decide (((i:Nat):Int)≠((i:Nat):Int))=false from decide_eq_false fun h=>h rfl]
 refine A6 rfl rfl (Ar (Ap (Aa (Ac (Ab (x_inc rfl rfl (by omega)) rfl (Ab Ad rfl (Af ?_)))))))
 exact Av (f.vals.length - (i+1)) (by omega) ⟨i+1,by omega,As rfl ⟨rfl,rfl,rfl,rfl,trivial⟩,rfl,rfl⟩
end Go.Proofs.YteepnepebilckaaGreatDoor
