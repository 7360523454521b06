/- The law FnAllRun returns true for every input in which the opcode table reads as laid, and its arguments read as they did, the table being tied to the text of the program. -/
import Derived.Test.YteepnepebilckaaGreatDoorCS27
namespace Go.Proofs.YteepnepebilckaaGreatDoor
open Go Go.Eng Go.RowKit
def Alk (f:Fn) (k j:Nat):Prop:=((f.v j).op=(f.v k).op∧(f.v j).aux=(f.v k).aux)∨(((f.v j).op=13∨(f.v j).op=14)∧((f.v k).op=13∨(f.v k).op=14))
instance (f:Fn) (k j:Nat):Decidable (Alk f k j):=inferInstanceAs (Decidable (_∨_))
def fc (f:Fn) (k j:Nat):Nat:=((List.range j).filter fun j=>decide (Alk f k j)).length
theorem FM (f:Fn) (k j:Nat):fc f k (j+1)=fc f k j+if Alk f k j then 1 else 0:=by
 unfold fc
 rw[List.range_succ,List.filter_append,List.length_append]
 by_cases h:Alk f k j <;> simp [h]
theorem fc_le (f:Fn) (k j:Nat):fc f k j≤j:=by
 unfold fc
 refine Nat.le_trans (List.length_filter_le _ _) ?_
 rw[List.length_range]
 exact Nat.le_refl _
def FewP (f:Fn):Prop:=∀k,k<f.vals.length→fc f k f.vals.length≤12
theorem FewP.fewG {f:Fn} (h:FewP f):FewG (toG f):=fun v hv=>by
 refine Nat.le_trans ?_ (h v hv)
 unfold fc
 rw[← List.countP_eq_length_filter,← List.countP_eq_length_filter]
 refine List.countP_mono_left fun x _ hx=>?_
 have h1:((f.v x).op == (f.v v).op && (f.v x).aux == (f.v v).aux)=true:=hx
 simp only [Bool.and_eq_true,beq_iff_eq] at h1
 exact decide_eq_true (.inl h1)
set_option maxHeartbeats 4000000
attribute [local irreducible] EC EL DL Ret thenQ blockQ Bi bodyQ onlyN execOp Sem.run World.cell? World.frozen? World.setCell World.alloc
theorem Few_ret {w:World} {x:Value} {f:Fn} (hx:FnV w x f) (hn:f.vals.length≤48):
 Ret Tryz.prog 16 #[x] w fun v w'=>∃b,v= .bool b∧(b=true→FewP f)∧Below w.heap.size w w':=by
 obtain ⟨xv,xb,rfl,hvals,hblks⟩:=hx
 obtain ⟨av,cv,rfl,hvl⟩:=hvals
 refine ret_of_EC Tryz.func16 rfl rfl ?_
 obtain ⟨B,hBd⟩:∃B,B=w.heap.size:=⟨_,rfl⟩
 refine Ae (Ac (Ab (Br (v:=.agg #[.slice av f.vals.length cv,xb]) rfl) rfl (el_new (.cells #[.slice av f.vals.length cv,xb] 30) B (by omega) fun wa hN1 hO1 hZ1 hB1 hK1=>?_)))
 obtain ⟨b1,hb1⟩:∃b1,b1=w.heap.size:=⟨_,rfl⟩
 rw[← hb1] at hN1 ⊢
 refine Ab Ah rfl (Af (Aa ?_))
 have g1:wa.cell? ⟨b1,0+0,none⟩=some (.slice av f.vals.length cv):=Am hN1 rfl
 refine Ae (Ae (Ac (Ab (Ak rfl (Al rfl)) rfl (Ab (Ai rfl (Ag rfl) ‹_›) rfl ?_))))
 refine Ab (AM rfl (An rfl)) rfl (Ab Ad rfl (Af (Aa (Ap ?_))))
 have hbw:Below b1 w wa:=by rw[hb1,← hBd];exact hB1
 obtain ⟨S0,hS0⟩:∃S0,S0=wa.heap.size:=⟨_,rfl⟩
 have hfv:∀k,k<f.vals.length→∃bb ob,av=some ⟨bb,ob,none⟩∧Quad wa bb (ob+k * 4) (f.v k).op (f.v k).blk (f.v k).args (f.v k).aux:=fun k hk=>by
  obtain ⟨bb,ob,e,hq⟩:=hvl.resolve_left (fun e=>by rw[e] at hk;simp at hk)
  exact ⟨bb,ob,e,(hq k hk).keep hK1⟩
 refine EC_loop (fun n e wr=>∃k,k≤f.vals.length∧At e [(1,.pointer (some ⟨b1,0,none⟩)),(9,.slice av f.vals.length cv),(10,.int .i64 (f.vals.length:Int)),(11,.int .i64 (k:Int))]∧Below S0 wa wr∧(∀i,i<k→fc f i f.vals.length≤12)∧n=f.vals.length - k) f.vals.length
  ⟨0,Nat.zero_le _,Aq rfl ⟨rfl,rfl,rfl,rfl,trivial⟩,Below.refl _ _,fun i hi=>absurd hi (Nat.not_lt_zero _),rfl⟩ ?_
 rintro n e wr ⟨k,hk,⟨t,rfl⟩,hb,hno,rfl⟩
 refine Ae (Ac (Ab (AY rfl rfl) rfl (Af (Aa (Ae ?_)))))
 refine AF rfl rfl (fun hlt=>?_) (fun hge=>?_)
 rotate_left
 ·have hk:k=f.vals.length:=by omega
  subst hk
  refine AJ (Az (AB (Ay (Aa (Ae (Ac (Ab Ah rfl (Af (Aa (AC ?_))))))))))
  exact Ax rfl rfl rfl ⟨true,rfl,fun _=>hno,hbw.trans (hb.mono (by omega))⟩
 have hlt:k<f.vals.length:=by omega
 obtain ⟨bb,ob,rfl,⟨s0,hcells0,⟨sa,sc,rfl,_⟩⟩⟩:=hfv k hlt
 have hKr:Keep wa wr:=Keep.of_below hb (by omega)
 have hcells:=hcells0.keep hKr
 have hszr:=hb.size
 refine Ar (Aa (Ae (Ap (Ae (Ac (Ab (Ba (n:=4) rfl rfl (An rfl) hlt) rfl (Ab (A0 rfl (AU rfl) hcells) rfl (Ab (A9 CQ) rfl (Bb (Be rfl rfl (A7 rfl) rfl rfl) rfl (Af (Aa ?_)))))))))))
 have hBle:B≤wr.heap.size:=by omega
 refine ec_new (.cells #[.int .i64 (f.v k).op,.int .i64 (f.v k).blk,.slice sa (f.v k).args.length sc,.int .i64 (f.v k).aux] 39) B (by omega) fun X hN3 hO3 hZ3 hB3 hK3=>?_
 obtain ⟨V,hV⟩:∃V,V=wr.heap.size:=⟨_,rfl⟩
 rw[← hV] at hN3 ⊢
 have hbX:Below S0 wa X:=hb.trans ⟨hB3.os,hB3.tape,hB3.output,hB3.size,fun j hj=>hO3 j (by omega)⟩
 obtain ⟨S1,hS1⟩:∃S1,S1=X.heap.size:=⟨_,rfl⟩
 have hszX:=hbX.size
 have f0:X.cell? ⟨b1,0+0,none⟩=some (.slice (some ⟨bb,ob,none⟩) f.vals.length cv):=(hKr.trans hK3) _ _ g1
 refine Ae (Ac (Ab Ah rfl (Af (Aa (Ae (Ae (Ac (Ab (Ak rfl (Al rfl)) rfl (Ab (Ai rfl (Ag rfl) ‹_›) rfl ?_)))))))))
 refine Ab (AM rfl (An rfl)) rfl (Ab Ad rfl (Af (Aa (Ap ?_))))
 refine EC_loop (fun n e wq=>∃j,j≤f.vals.length∧At e [(1,.pointer (some ⟨b1,0,none⟩)),(9,.slice (some ⟨bb,ob,none⟩) f.vals.length cv),(10,.int .i64 (f.vals.length:Int)),(11,.int .i64 (k:Int)),(4,.pointer (some ⟨V,0,none⟩)),(5,.int .i64 ((fc f k j:Nat):Int)),(16,.slice (some ⟨bb,ob,none⟩) f.vals.length cv),(17,.int .i64 (f.vals.length:Int)),(18,.int .i64 (j:Int))]∧Below S1 X wq∧n=f.vals.length - j) f.vals.length
  ⟨0,Nat.zero_le _,Aq rfl ⟨rfl,rfl,rfl,rfl,rfl,rfl,rfl,rfl,rfl,trivial⟩,Below.refl _ _,rfl⟩ ?_
 rintro n e wq ⟨j,hj,⟨t,rfl⟩,hbq,rfl⟩
 refine Ae (Ac (Ab (AY rfl rfl) rfl (Af (Aa (Ae ?_)))))
 refine AF rfl rfl (fun hlt2=>?_) (fun hge2=>?_)
 rotate_left
 ·have hj:j=f.vals.length:=by omega
  subst hj
  refine AJ (Az (AB (Ay (Aa ?_))))
  have hbr:Below S0 wa wq:=hbX.trans (hbq.mono (by omega))
  refine Ae (Ac (Ab Ad rfl (Ab (BF rfl rfl) rfl (Af (Aa ?_)))))
  refine AF rfl rfl (fun hgt=>?_) (fun hle=>?_)
  ·refine Ae (Ac (Ab Ah rfl (Af (Aa (AC (AI (AE (Bu (AI (AE ?_))))))))))
   exact Ax rfl rfl rfl ⟨false,rfl,(fun h=>by cases h),hbw.trans (hbr.mono (by omega))⟩
  refine Ar (Ao (Aa (Ac (Ab (x_inc rfl rfl (by omega)) rfl (Ab Ad rfl (Af ?_))))))
  refine Av (f.vals.length - (k+1)) (by omega) ⟨k+1,by omega,Aq rfl ⟨rfl,rfl,rfl,rfl,trivial⟩,hbr,fun i hi=>?_,rfl⟩
  by_cases e:i=k
  ·subst e;omega
  exact hno i (by omega)
 have hlt2:j<f.vals.length:=by omega
 obtain ⟨bb2,ob2,e2,⟨s02,hcells02,⟨sa2,sc2,rfl,_⟩⟩⟩:=hfv j hlt2
 cases e2
 have hKq:Keep X wq:=Keep.of_below hbq (by omega)
 have hcells2:=(hcells02.keep (hKr.trans hK3)).keep hKq
 have hszq:=hbq.size
 have hfj:=fc_le f k j
 refine Ar (Aa (Ae (Ap (Ae (Ac (Ab (Ba (n:=4) rfl rfl (An rfl) hlt2) rfl (Ab (A0 rfl (AU rfl) hcells2) rfl (Ab (A9 CQ) rfl (Bb (Be rfl rfl (A7 rfl) rfl rfl) rfl (Af (Aa ?_)))))))))))
 have hBle2:B≤wq.heap.size:=by omega
 refine ec_new (.cells #[.int .i64 (f.v j).op,.int .i64 (f.v j).blk,.slice sa2 (f.v j).args.length sc2,.int .i64 (f.v j).aux] 39) B (by omega) fun Y hN4 hO4 hZ4 hB4 hK4=>?_
 obtain ⟨U,hU⟩:∃U,U=wq.heap.size:=⟨_,rfl⟩
 rw[← hU] at hN4 ⊢
 have hbX2:Below S1 X Y:=hbq.trans ⟨hB4.os,hB4.tape,hB4.output,hB4.size,fun j hj=>hO4 j (by omega)⟩
 have v0:Y.cell? ⟨V,0+0,none⟩=some (.int .i64 (f.v k).op):=(hKq.trans hK4) _ _ (Am hN3 rfl)
 have v3:Y.cell? ⟨V,0+3,none⟩=some (.int .i64 (f.v k).aux):=(hKq.trans hK4) _ _ (Am hN3 rfl)
 have u0:Y.cell? ⟨U,0+0,none⟩=some (.int .i64 (f.v j).op):=Am hN4 rfl
 have u3:Y.cell? ⟨U,0+3,none⟩=some (.int .i64 (f.v j).aux):=Am hN4 rfl
 clear hcells hcells2 hcells0 hcells02 hN3 hN4 g1
 refine A4 (fun e wy=>Below S1 X wy∧At e [(1,.pointer (some ⟨b1,0,none⟩)),(9,.slice (some ⟨bb,ob,none⟩) f.vals.length cv),(10,.int .i64 (f.vals.length:Int)),(11,.int .i64 (k:Int)),(4,.pointer (some ⟨V,0,none⟩)),(5,.int .i64 ((fc f k j:Nat):Int)),(16,.slice (some ⟨bb,ob,none⟩) f.vals.length cv),(17,.int .i64 (f.vals.length:Int)),(18,.int .i64 (j:Int)),(53,.bool (decide (Alk f k j)))]) ?_ ?_
 ·refine Ac (Ab (Ak rfl (Al rfl)) rfl (Ab (Ai rfl (Ag rfl) ‹_›) rfl ?_))
  refine Ab (Ak rfl (Al rfl)) rfl (Ab (Ai rfl (Ag rfl) ‹_›) rfl ?_)
  refine Ab (A6 rfl rfl) rfl (Ab Ad rfl ?_)
  by_cases h1:(f.v j).op=(f.v k).op
  ·rw[decide_eq_true h1]
   refine As rfl rfl (Ak rfl (Al rfl)) rfl (As rfl rfl (Ai rfl (Ag rfl) ‹_›) rfl ?_)
   refine As rfl rfl (Ak rfl (Al rfl)) rfl (As rfl rfl (Ai rfl (Ag rfl) ‹_›) rfl ?_)
   refine As rfl rfl (A6 rfl rfl) rfl (Ab (AQ rfl) rfl (Ab Ad rfl ?_))
   by_cases h2:(f.v j).aux=(f.v k).aux
   ·rw[decide_eq_true h2]
    refine AH rfl rfl (AH rfl rfl (AH rfl rfl (AH rfl rfl (Bt rfl rfl (Bt rfl rfl (Bt rfl rfl (AH rfl rfl (AH rfl rfl (Bt rfl rfl (Bt rfl rfl (Bt rfl rfl ?_)))))))))))
    refine Bt rfl rfl (Bt rfl rfl (Bt rfl rfl (Bt rfl rfl (Bt rfl rfl (AH rfl rfl (Ab (AQ rfl) rfl (Af ?_)))))))
    exact AS ⟨hbX2,Aq rfl ⟨rfl,rfl,rfl,rfl,rfl,rfl,rfl,rfl,rfl,congrArg Value.bool (decide_eq_true (.inl ⟨h1,h2⟩)).symm,trivial⟩⟩
   rw[decide_eq_false h2]
   refine As rfl rfl (Ak rfl (Al rfl)) rfl (As rfl rfl (Ai rfl (Ag rfl) ‹_›) rfl ?_)
   refine As rfl rfl (A6 rfl rfl) rfl (As rfl rfl Ad rfl ?_)
   by_cases a13:(f.v j).op=13
   ·rw[decide_eq_true a13]
    refine AH rfl rfl (AH rfl rfl (AH rfl rfl (As rfl rfl (AQ rfl) rfl (As rfl rfl Ad rfl (As rfl rfl (Ak rfl (Al rfl)) rfl (As rfl rfl (Ai rfl (Ag rfl) ‹_›) rfl ?_))))))
    refine As rfl rfl (A6 rfl rfl) rfl (As rfl rfl Ad rfl ?_)
    by_cases b13:(f.v k).op=13
    ·rw[decide_eq_true b13]
     refine AH rfl rfl (AH rfl rfl (AH rfl rfl (As rfl rfl (AQ rfl) rfl (As rfl rfl (AQ rfl) rfl (Ab (AN rfl) rfl (Af ?_))))))
     exact AS ⟨hbX2,Aq rfl ⟨rfl,rfl,rfl,rfl,rfl,rfl,rfl,rfl,rfl,congrArg Value.bool (decide_eq_true (.inr ⟨.inl a13,.inl b13⟩)).symm,trivial⟩⟩
    rw[decide_eq_false b13]
    refine As rfl rfl (Ak rfl (Al rfl)) rfl (As rfl rfl (Ai rfl (Ag rfl) ‹_›) rfl ?_)
    refine As rfl rfl (A6 rfl rfl) rfl (As rfl rfl (AN rfl) rfl (As rfl rfl (AQ rfl) rfl (Ab (AN rfl) rfl (Af ?_))))
    by_cases b14:(f.v k).op=14
    ·rw[decide_eq_true b14]
     exact AS ⟨hbX2,Aq rfl ⟨rfl,rfl,rfl,rfl,rfl,rfl,rfl,rfl,rfl,congrArg Value.bool (decide_eq_true (.inr ⟨.inl a13,.inr b14⟩)).symm,trivial⟩⟩
    rw[decide_eq_false b14]
    exact AS ⟨hbX2,Aq rfl ⟨rfl,rfl,rfl,rfl,rfl,rfl,rfl,rfl,rfl,congrArg Value.bool (decide_eq_false (fun h=>h.elim (fun h=>h2 h.2) fun h=>h.2.elim b13 b14)).symm,trivial⟩⟩
   rw[decide_eq_false a13]
   refine As rfl rfl (Ak rfl (Al rfl)) rfl (As rfl rfl (Ai rfl (Ag rfl) ‹_›) rfl ?_)
   refine As rfl rfl (A6 rfl rfl) rfl (As rfl rfl (AN rfl) rfl (As rfl rfl Ad rfl ?_))
   by_cases a14:(f.v j).op=14
   ·rw[decide_eq_true a14]
    refine As rfl rfl (Ak rfl (Al rfl)) rfl (As rfl rfl (Ai rfl (Ag rfl) ‹_›) rfl ?_)
    refine As rfl rfl (A6 rfl rfl) rfl (As rfl rfl Ad rfl ?_)
    by_cases b13:(f.v k).op=13
    ·rw[decide_eq_true b13]
     refine AH rfl rfl (AH rfl rfl (AH rfl rfl (As rfl rfl (AQ rfl) rfl (As rfl rfl (AQ rfl) rfl (Ab (AN rfl) rfl (Af ?_))))))
     exact AS ⟨hbX2,Aq rfl ⟨rfl,rfl,rfl,rfl,rfl,rfl,rfl,rfl,rfl,congrArg Value.bool (decide_eq_true (.inr ⟨.inr a14,.inl b13⟩)).symm,trivial⟩⟩
    rw[decide_eq_false b13]
    refine As rfl rfl (Ak rfl (Al rfl)) rfl (As rfl rfl (Ai rfl (Ag rfl) ‹_›) rfl ?_)
    refine As rfl rfl (A6 rfl rfl) rfl (As rfl rfl (AN rfl) rfl (As rfl rfl (AQ rfl) rfl (Ab (AN rfl) rfl (Af ?_))))
    by_cases b14:(f.v k).op=14
    ·rw[decide_eq_true b14]
     exact AS ⟨hbX2,Aq rfl ⟨rfl,rfl,rfl,rfl,rfl,rfl,rfl,rfl,rfl,congrArg Value.bool (decide_eq_true (.inr ⟨.inr a14,.inr b14⟩)).symm,trivial⟩⟩
    rw[decide_eq_false b14]
    exact AS ⟨hbX2,Aq rfl ⟨rfl,rfl,rfl,rfl,rfl,rfl,rfl,rfl,rfl,congrArg Value.bool (decide_eq_false (fun h=>h.elim (fun h=>h2 h.2) fun h=>h.2.elim b13 b14)).symm,trivial⟩⟩
   rw[decide_eq_false a14]
   refine AH rfl rfl (AH rfl rfl (AH rfl rfl (AH rfl rfl (Bt rfl rfl (Bt rfl rfl (Bt rfl rfl (AH rfl rfl (As rfl rfl (AN rfl) rfl (Ab (AN rfl) rfl (Af ?_))))))))))
   exact AS ⟨hbX2,Aq rfl ⟨rfl,rfl,rfl,rfl,rfl,rfl,rfl,rfl,rfl,congrArg Value.bool (decide_eq_false (fun h=>h.elim (fun h=>h2 h.2) fun h=>h.1.elim a13 a14)).symm,trivial⟩⟩
  rw[decide_eq_false h1]
  refine AH rfl rfl (AH rfl rfl (AH rfl rfl (AH rfl rfl (AH rfl rfl (Ab (AN rfl) rfl (Ab Ad rfl (As rfl rfl (Ak rfl (Al rfl)) rfl (As rfl rfl (Ai rfl (Ag rfl) ‹_›) rfl ?_))))))))
  refine As rfl rfl (A6 rfl rfl) rfl (As rfl rfl Ad rfl ?_)
  by_cases a13:(f.v j).op=13
  ·rw[decide_eq_true a13]
   refine AH rfl rfl (AH rfl rfl (AH rfl rfl (As rfl rfl (AQ rfl) rfl (As rfl rfl Ad rfl (As rfl rfl (Ak rfl (Al rfl)) rfl (As rfl rfl (Ai rfl (Ag rfl) ‹_›) rfl ?_))))))
   refine As rfl rfl (A6 rfl rfl) rfl (As rfl rfl Ad rfl ?_)
   by_cases b13:(f.v k).op=13
   ·rw[decide_eq_true b13]
    refine AH rfl rfl (AH rfl rfl (AH rfl rfl (As rfl rfl (AQ rfl) rfl (As rfl rfl (AQ rfl) rfl (Ab (AN rfl) rfl (Af ?_))))))
    exact AS ⟨hbX2,Aq rfl ⟨rfl,rfl,rfl,rfl,rfl,rfl,rfl,rfl,rfl,congrArg Value.bool (decide_eq_true (.inr ⟨.inl a13,.inl b13⟩)).symm,trivial⟩⟩
   rw[decide_eq_false b13]
   refine As rfl rfl (Ak rfl (Al rfl)) rfl (As rfl rfl (Ai rfl (Ag rfl) ‹_›) rfl ?_)
   refine As rfl rfl (A6 rfl rfl) rfl (As rfl rfl (AN rfl) rfl (As rfl rfl (AQ rfl) rfl (Ab (AN rfl) rfl (Af ?_))))
   by_cases b14:(f.v k).op=14
   ·rw[decide_eq_true b14]
    exact AS ⟨hbX2,Aq rfl ⟨rfl,rfl,rfl,rfl,rfl,rfl,rfl,rfl,rfl,congrArg Value.bool (decide_eq_true (.inr ⟨.inl a13,.inr b14⟩)).symm,trivial⟩⟩
   rw[decide_eq_false b14]
   exact AS ⟨hbX2,Aq rfl ⟨rfl,rfl,rfl,rfl,rfl,rfl,rfl,rfl,rfl,congrArg Value.bool (decide_eq_false (fun h=>h.elim (fun h=>h1 h.1) fun h=>h.2.elim b13 b14)).symm,trivial⟩⟩
  rw[decide_eq_false a13]
  refine As rfl rfl (Ak rfl (Al rfl)) rfl (As rfl rfl (Ai rfl (Ag rfl) ‹_›) rfl ?_)
  refine As rfl rfl (A6 rfl rfl) rfl (As rfl rfl (AN rfl) rfl (As rfl rfl Ad rfl ?_))
  by_cases a14:(f.v j).op=14
  ·rw[decide_eq_true a14]
   refine As rfl rfl (Ak rfl (Al rfl)) rfl (As rfl rfl (Ai rfl (Ag rfl) ‹_›) rfl ?_)
   refine As rfl rfl (A6 rfl rfl) rfl (As rfl rfl Ad rfl ?_)
   by_cases b13:(f.v k).op=13
   ·rw[decide_eq_true b13]
    refine AH rfl rfl (AH rfl rfl (AH rfl rfl (As rfl rfl (AQ rfl) rfl (As rfl rfl (AQ rfl) rfl (Ab (AN rfl) rfl (Af ?_))))))
    exact AS ⟨hbX2,Aq rfl ⟨rfl,rfl,rfl,rfl,rfl,rfl,rfl,rfl,rfl,congrArg Value.bool (decide_eq_true (.inr ⟨.inr a14,.inl b13⟩)).symm,trivial⟩⟩
   rw[decide_eq_false b13]
   refine As rfl rfl (Ak rfl (Al rfl)) rfl (As rfl rfl (Ai rfl (Ag rfl) ‹_›) rfl ?_)
   refine As rfl rfl (A6 rfl rfl) rfl (As rfl rfl (AN rfl) rfl (As rfl rfl (AQ rfl) rfl (Ab (AN rfl) rfl (Af ?_))))
   by_cases b14:(f.v k).op=14
   ·rw[decide_eq_true b14]
    exact AS ⟨hbX2,Aq rfl ⟨rfl,rfl,rfl,rfl,rfl,rfl,rfl,rfl,rfl,congrArg Value.bool (decide_eq_true (.inr ⟨.inr a14,.inr b14⟩)).symm,trivial⟩⟩
   rw[decide_eq_false b14]
   exact AS ⟨hbX2,Aq rfl ⟨rfl,rfl,rfl,rfl,rfl,rfl,rfl,rfl,rfl,congrArg Value.bool (decide_eq_false (fun h=>h.elim (fun h=>h1 h.1) fun h=>h.2.elim b13 b14)).symm,trivial⟩⟩
  rw[decide_eq_false a14]
  refine AH rfl rfl (AH rfl rfl (AH rfl rfl (AH rfl rfl (Bt rfl rfl (Bt rfl rfl (Bt rfl rfl (AH rfl rfl (As rfl rfl (AN rfl) rfl (Ab (AN rfl) rfl (Af ?_))))))))))
  exact AS ⟨hbX2,Aq rfl ⟨rfl,rfl,rfl,rfl,rfl,rfl,rfl,rfl,rfl,congrArg Value.bool (decide_eq_false (fun h=>h.elim (fun h=>h1 h.1) fun h=>h.1.elim a13 a14)).symm,trivial⟩⟩
 rintro e wy ⟨hby,⟨t,rfl⟩⟩
 refine AF rfl rfl (fun ha=>?_) (fun ha=>?_)
 rotate_left
 ·refine Ar (Ao (Aa (Ac (Ab (x_inc rfl rfl (by omega)) rfl (Ab Ad rfl (Af ?_))))))
  refine Av (f.vals.length - (j+1)) (by omega) ⟨j+1,by omega,Aq rfl ?_,hby,rfl⟩
  rw[FM,if_neg ha]
  exact ⟨rfl,rfl,rfl,rfl,rfl,rfl,rfl,rfl,rfl,trivial⟩
 refine Ac (Ab Ad rfl (Ab (x_inc rfl rfl (by omega)) rfl (Ab Ah rfl (Af (Ao (Aa (Ac (Ab (x_inc rfl rfl (by omega)) rfl (Ab Ad rfl (Af ?_))))))))))
 refine Av (f.vals.length - (j+1)) (by omega) ⟨j+1,by omega,Aq rfl ?_,hby,rfl⟩
 rw[FM,if_pos ha]
 exact ⟨rfl,rfl,rfl,rfl,rfl,rfl,rfl,rfl,rfl,trivial⟩
end Go.Proofs.YteepnepebilckaaGreatDoor
namespace Go.Proofs.YteepnepebilckaaGreatDoor
open Go Go.Eng Go.RowKit
section
variable {g : Gph} {fw : Prop} {A : Nat → List Nat} {arr : Nat → Nat} {cls : Nat → Int} {P : List (Nat × Nat)} {rw : Nat → Option Nat}
theorem CseR.mate (h:CseR g fw A arr cls P rw) {x y:Nat} (hx:x<g.nv) (hy:y<g.nv) (e:cls (x+1)=cls (y+1)):x=y∨∃p∈P,∃i j,i<p.2∧j<p.2∧x=arr (p.1+i)∧y=arr (p.1+j):=by
 obtain ⟨pn,hj⟩:=h.pj
 have pk:=hj.pi.pk
 obtain ⟨i,hi,rfl⟩:=Dh hj.pi.perm hx
 obtain ⟨j,hj2,rfl⟩:=Dh hj.pi.perm hy
 by_cases h1:∃p∈P,p.1≤i∧i<p.1+p.2
 ·obtain ⟨p,hp,a1,a2⟩:=h1
  have e1:=pk.cin p hp (i - p.1) (by omega)
  rw[show p.1+(i - p.1)=i by omega] at e1
  obtain ⟨u,hu,e2⟩:=pk.mem_of (o:=p.1) (n:=p.2) hp hy (by rw[← e,e1])
  exact .inr ⟨p,hp,i - p.1,u,by omega,hu,by rw[show p.1+(i - p.1)=i by omega],e2⟩
 have e1:=pk.cout i hi fun p hp hpi=>h1 ⟨p,hp,hpi⟩
 by_cases h2:∃p∈P,p.1≤j∧j<p.1+p.2
 ·obtain ⟨p,hp,a1,a2⟩:=h2
  have e2:=pk.cin p hp (j - p.1) (by omega)
  rw[show p.1+(j - p.1)=j by omega] at e2
  have:=(pk.cpos p hp).1
  omega
 have e2:=pk.cout j hj2 fun p hp hpj=>h2 ⟨p,hp,hpj⟩
 exact .inl (by omega)
theorem CseR.clsC (h:CseR g fw A arr cls P rw):ClsC (g.wa A) cls:=by
 obtain ⟨pn,hj⟩:=h.pj
 refine ⟨fun x y hx hy e=>?_,fun x y hx hy e=>?_⟩
 ·rcases h.mate hx hy e with rfl|⟨p,hp,i,j,hi,hj2,rfl,rfl⟩
  ·rfl
  exact (hj.pi.same p hp i hi).symm.trans (hj.pi.same p hp j hj2)
 rcases h.mate hx hy e with rfl|⟨p,hp,i,j,hi,hj2,rfl,rfl⟩
 ·rfl
 exact h.stab p hp i j hi hj2
theorem CseR.mv (h:CseR g True A arr cls P rw):Mv (g.wa A) cls (fR rw):=by
 have key:∀x,x<g.nv→(rw (x+1)=none∧fR rw x=x)∨∃y,rw (x+1)=some y∧fR rw x=y:=fun x _=>by
  unfold fR
  cases rw (x+1) with
  |none=>exact .inl ⟨rfl,rfl⟩
  |some y=>exact .inr ⟨y,rfl,rfl⟩
 refine ⟨fun x hx=>h.lt hx,fun x hx=>?_,fun x hx=>?_,fun x hx hb=>?_⟩
 ·rcases key x hx with ⟨_,e⟩|⟨y,e1,e⟩
  ·rw[e]
  rw[e];exact (h.rw x y hx e1).2.1
 ·rcases key x hx with ⟨_,e⟩|⟨y,e1,e⟩
  ·rw[e];exact Dom.rfl' _
  rw[e];exact (h.rw x y hx e1).2.2.1
 rcases key x hx with ⟨_,e⟩|⟨y,e1,e⟩
 ·rw[e];exact Nat.le_refl _
 rw[e] at hb ⊢;exact (h.rw x y hx e1).2.2.2 trivial hb
end
end Go.Proofs.YteepnepebilckaaGreatDoor
namespace Go.Proofs.YteepnepebilckaaGreatDoor
open Go Go.Eng Go.RowKit
def doI (ins:List Int) (op aux:Int) (a:List Int):Int:=
 if op=0 then (if aux<(ins.length:Int) then ins.getD aux.toNat 0 else 0)
 else if op=1 then aux
 else if op=2 then IntKind.i64.wrap (a.getD 0 0+a.getD 1 0)
 else if op=3 then IntKind.i64.wrap (a.getD 0 0 - a.getD 1 0)
 else if op=4 then IntKind.i64.wrap (a.getD 0 0 * a.getD 1 0)
 else if op=5 then Go.bits .and .i64 (a.getD 0 0) (a.getD 1 0)
 else if op=6 then Go.bits .or .i64 (a.getD 0 0) (a.getD 1 0)
 else if op=7 then Go.bits .xor .i64 (a.getD 0 0) (a.getD 1 0)
 else if op=8 then IntKind.i64.wrap (0 - a.getD 0 0)
 else if op=9 then Go.bits .xor .i64 (-1) (a.getD 0 0)
 else if op=10 then (if a.getD 0 0<a.getD 1 0 then 1 else 0)
 else if op=11 then (if a.getD 0 0=a.getD 1 0 then 1 else 0)
 else if op=12 then (if a.getD 0 0≠a.getD 1 0 then 1 else 0)
 else if op=15 then (if a.getD 2 0≠0 then a.getD 0 0 else a.getD 1 0)
 else a.getD 0 0
theorem EB (ins:List Int) (aux:Int) (a:List Int):doI ins 14 aux a=a.getD 0 0:=rfl
section
variable {P : Program} {w : World} {ρ : Operand → Value} {d : Option Tmp} {ty : TypeId} {pos : String} {af : Array Edge} {g : Option (Nat × Bool)}
theorem F9 {t u:TypeId} {x y:Operand} {k:IntKind} {a b:Int} {op:BinOp} (hop:op= .and∨op= .or∨op= .xor) (hx:ρ x= .int k a) (hy:ρ y= .int k b):
 (execOp ρ ⟨d,.binOp op t x y u,ty,pos,af,g⟩).run P w= .ok (.value (.int k (Go.bits op k a b))) w:=
 x_bits hop hx hy (by rcases hop with rfl|rfl|rfl <;> rfl)
theorem x_com {t:TypeId} {x:Operand} {a:Int} (hx:ρ x= .int .i64 a):(execOp ρ ⟨d,.unOp .xor t x,ty,pos,af,g⟩).run P w= .ok (.value (.int .i64 (Go.bits .xor .i64 (-1) a))) w:=by
 have key:(Op.unary .xor (.int .i64 a)).run P w= .ok (.int .i64 (Go.bits .xor .i64 (-1) a)) w:=rfl
 simp [execOp,hx,key]
end
set_option maxHeartbeats 4000000
attribute [local irreducible] EC EL DL Ret thenQ blockQ Bi bodyQ onlyN execOp Sem.run World.cell? World.frozen? World.setCell World.alloc
theorem EX (w:World) (b:Bool):Ret Tryz.prog 87 #[.bool b] w fun v w'=>v= .int .i64 (if b=true then 1 else 0)∧w'=w:=by
 refine ret_of_EC Tryz.func87 rfl rfl (Ae (Ac (Ab Ah rfl (Af (Aa (Ae (Ae (Ac (Ab Ad rfl (Af (Aa ?_)))))))))))
 cases b with
 |true=>
  refine Bn rfl rfl (Ae (Ac (Ab Ah rfl (Af (Aa (AC (AE ?_)))))))
  exact Ax rfl rfl rfl ⟨rfl,rfl⟩
 |false=>
  refine Bj rfl rfl (Ar (Aa (Ae (Ac (Ab Ah rfl (Af (Aa (AC ?_))))))))
  exact Ax rfl rfl rfl ⟨rfl,rfl⟩
theorem do_ret {w:World} {op blk aux p:Int} {sa:Option Addr} {sn sc:Nat} {va vi:Value} {l ins:List Int} (hla:IntsV w va l) (hin:IntsV w vi ins) (ho:0≤op∧op≤15∧op≠13) (hm:(l.length:Int)=manyI op p) (h0:op=0→0≤aux):
 Ret Tryz.prog 72 #[.agg #[.int .i64 op,.int .i64 blk,.slice sa sn sc,.int .i64 aux],va,vi] w fun v w'=>v= .int .i64 (doI ins op aux l)∧Below w.heap.size w w':=by
 obtain ⟨aa,ac,rfl,hl0⟩:=hla
 obtain ⟨ia,ic,rfl,hi0⟩:=hin
 refine ret_of_EC Tryz.func72 rfl rfl ?_
 obtain ⟨B,hBd⟩:∃B,B=w.heap.size:=⟨_,rfl⟩
 refine Ae (Ac (Ab (Br (v:=.agg #[.int .i64 op,.int .i64 blk,.slice sa sn sc,.int .i64 aux]) rfl) rfl (el_new (.cells #[.int .i64 op,.int .i64 blk,.slice sa sn sc,.int .i64 aux] 39) B (by omega) fun wa hN1 hO1 hZ1 hB1 hK1=>(Ab Ah rfl (Af (Aa ?_))))))
 have v0:wa.cell? ⟨w.heap.size,0+0,none⟩=some (.int .i64 op):=Am hN1 rfl
 have v3:wa.cell? ⟨w.heap.size,0+3,none⟩=some (.int .i64 aux):=Am hN1 rfl
 refine Ae (Ae (Ac (Ab (Ak rfl (Al rfl)) rfl (Ab (Ai rfl (Ag rfl) ‹_›) rfl ?_))))
 refine Af (Aa (Ap (Ae (Ac (Ab (A6 rfl rfl) rfl (Ab Ah rfl (Af (Aa ?_))))))))
 refine AF rfl rfl (fun h1=>?_) (fun h1=>?_)
 ·refine Ae (Ae (Ac (Ab (Ak rfl (Al rfl)) rfl (Ab (Ai rfl (Ag rfl) ‹_›) rfl ?_))))
  refine Ab Ad rfl (Ab (AM rfl (An rfl)) rfl (Ab (AY rfl rfl) rfl (Af (Aa ?_))))
  refine AF rfl rfl (fun hlt=>?_) (fun hge=>?_)
  rotate_left
  ·refine Ar (Aa (Ae (Ac (Ab Ah rfl (Af (Aa (AC (AI (AE ?_)))))))))
   exact Ax rfl rfl rfl ⟨congrArg (Value.int .i64) (by unfold doI;rw[if_pos h1,if_neg hge]),by rw[← hBd];exact hB1⟩
  have ha0:=h0 h1
  obtain ⟨k,hk⟩:∃k:Nat,aux=(k:Int):=⟨_,(Int.toNat_of_nonneg ha0).symm⟩
  have hkn:k<ins.length:=by omega
  obtain ⟨bi,oi,rfl,hci⟩:=hi0.get hkn
  have hci:=hK1 _ _ hci
  rw[hk] at v3
  refine Ae (Ac (Ab Ad rfl (Ab (Ak rfl (Al rfl)) rfl (Ab (Ai rfl (Ag rfl) ‹_›) rfl ?_))))
  refine Ab (x_index1 rfl rfl (An rfl) (by omega)) rfl (Ab (Ai rfl (Ag rfl) ‹_›) rfl ?_)
  refine Ab Ah rfl (Af (Aa (AC (AE (AI (AE ?_))))))
  exact Ax rfl rfl rfl ⟨congrArg (Value.int .i64) (by unfold doI;rw[if_pos h1,if_pos hlt,hk,Int.toNat_natCast]),by rw[← hBd];exact hB1⟩
 refine Ae (Ac (Ab (A6 rfl rfl) rfl (Ab Ah rfl (Af (Aa ?_)))))
 refine AF rfl rfl (fun h2=>?_) (fun h2=>?_)
 ·refine Ae (Ac (Ab (Ak rfl (Al rfl)) rfl (Ab (Ai rfl (Ag rfl) ‹_›) rfl ?_)))
  refine Ab Ah rfl (Af (Aa (AC (AI (AE ?_)))))
  exact Ax rfl rfl rfl ⟨congrArg (Value.int .i64) (by unfold doI;rw[if_neg h1,if_pos h2]),by rw[← hBd];exact hB1⟩
 refine Ae (Ac (Ab (A6 rfl rfl) rfl (Ab Ah rfl (Af (Aa ?_)))))
 refine AF rfl rfl (fun hadd=>?_) (fun hadd=>?_)
 ·have hl:2≤l.length:=by
   have e:manyI op p=2:=by rw[hadd];rfl
   omega
  obtain ⟨ba,oa,rfl,ha0⟩:=hl0.get (k:=0) (by omega)
  obtain ⟨_,_,e,ha1⟩:=hl0.get (k:=1) (by omega)
  cases e
  have hc:Cells [(⟨ba,oa+0,none⟩,.int .i64 (l.getD 0 0)),(⟨ba,oa+1,none⟩,.int .i64 (l.getD 1 0))] wa.drew:=(Keep.drew wa).cells (.cons (hK1 _ _ ha0) (.cons (hK1 _ _ ha1) (.nil _)))
  refine Ae (AX mixed _ [(0,false),(1,false),(2,false),(3,false),(4,false),(5,false),(6,false),(7,false)] (by kernel_rfl) hc ?_)
  have hbd:=hB1.drew
  generalize wa.drew=Wd at hc hbd ⊢
  refine Aj rfl (fun _ _=>Ad) (Aj rfl (fun _ _=>x_index0 rfl rfl (An rfl) (by omega)) (Aj rfl (fun _ hS=>Ai rfl (Ag rfl) (hS.get (by first|exact mm0|exact mm1|exact mm2|exact mm3|exact mm4|exact mm5|exact mm6|exact mm7))) ?_))
  refine Aj rfl (fun _ _=>Ad) (Aj rfl (fun _ _=>x_index1 (i:=1) rfl rfl (An rfl) (by omega)) (Aj rfl (fun _ hS=>Ai rfl (Ag rfl) (hS.get (by first|exact mm0|exact mm1|exact mm2|exact mm3|exact mm4|exact mm5|exact mm6|exact mm7))) ?_))
  refine Aj rfl (fun _ _=>Cs rfl rfl rfl) (Aj rfl (fun _ _=>Ah) (AP (Aa (AC (AI (AE ?_))))))
  exact Ax rfl rfl rfl ⟨congrArg (Value.int .i64) (by unfold doI;simp only [hadd];rfl),by rw[← hBd];exact hbd⟩
 refine Ae (Ac (Ab (A6 rfl rfl) rfl (Ab Ah rfl (Af (Aa ?_)))))
 refine AF rfl rfl (fun hsub=>?_) (fun hsub=>?_)
 ·have hl:2≤l.length:=by
   have e:manyI op p=2:=by rw[hsub];rfl
   omega
  obtain ⟨ba,oa,rfl,ha0⟩:=hl0.get (k:=0) (by omega)
  obtain ⟨_,_,e,ha1⟩:=hl0.get (k:=1) (by omega)
  cases e
  have hc:Cells [(⟨ba,oa+0,none⟩,.int .i64 (l.getD 0 0)),(⟨ba,oa+1,none⟩,.int .i64 (l.getD 1 0))] wa.drew:=(Keep.drew wa).cells (.cons (hK1 _ _ ha0) (.cons (hK1 _ _ ha1) (.nil _)))
  refine Ae (AX mixed _ [(0,false),(1,false),(2,false),(3,false),(4,false),(5,false),(6,false),(7,false)] (by kernel_rfl) hc ?_)
  have hbd:=hB1.drew
  generalize wa.drew=Wd at hc hbd ⊢
  refine Aj rfl (fun _ _=>Ad) (Aj rfl (fun _ _=>x_index0 rfl rfl (An rfl) (by omega)) (Aj rfl (fun _ hS=>Ai rfl (Ag rfl) (hS.get (by first|exact mm0|exact mm1|exact mm2|exact mm3|exact mm4|exact mm5|exact mm6|exact mm7))) ?_))
  refine Aj rfl (fun _ _=>Ad) (Aj rfl (fun _ _=>x_index1 (i:=1) rfl rfl (An rfl) (by omega)) (Aj rfl (fun _ hS=>Ai rfl (Ag rfl) (hS.get (by first|exact mm0|exact mm1|exact mm2|exact mm3|exact mm4|exact mm5|exact mm6|exact mm7))) ?_))
  refine Aj rfl (fun _ _=>CX rfl rfl rfl) (Aj rfl (fun _ _=>Ah) (AP (Aa (AC (AI (AE ?_))))))
  exact Ax rfl rfl rfl ⟨congrArg (Value.int .i64) (by unfold doI;simp only [hsub];rfl),by rw[← hBd];exact hbd⟩
 refine Ae (Ac (Ab (A6 rfl rfl) rfl (Ab Ah rfl (Af (Aa ?_)))))
 refine AF rfl rfl (fun hmul=>?_) (fun hmul=>?_)
 ·have hl:2≤l.length:=by
   have e:manyI op p=2:=by rw[hmul];rfl
   omega
  obtain ⟨ba,oa,rfl,ha0⟩:=hl0.get (k:=0) (by omega)
  obtain ⟨_,_,e,ha1⟩:=hl0.get (k:=1) (by omega)
  cases e
  have hc:Cells [(⟨ba,oa+0,none⟩,.int .i64 (l.getD 0 0)),(⟨ba,oa+1,none⟩,.int .i64 (l.getD 1 0))] wa.drew:=(Keep.drew wa).cells (.cons (hK1 _ _ ha0) (.cons (hK1 _ _ ha1) (.nil _)))
  refine Ae (AX mixed _ [(0,false),(1,false),(2,false),(3,false),(4,false),(5,false),(6,false),(7,false)] (by kernel_rfl) hc ?_)
  have hbd:=hB1.drew
  generalize wa.drew=Wd at hc hbd ⊢
  refine Aj rfl (fun _ _=>Ad) (Aj rfl (fun _ _=>x_index0 rfl rfl (An rfl) (by omega)) (Aj rfl (fun _ hS=>Ai rfl (Ag rfl) (hS.get (by first|exact mm0|exact mm1|exact mm2|exact mm3|exact mm4|exact mm5|exact mm6|exact mm7))) ?_))
  refine Aj rfl (fun _ _=>Ad) (Aj rfl (fun _ _=>x_index1 (i:=1) rfl rfl (An rfl) (by omega)) (Aj rfl (fun _ hS=>Ai rfl (Ag rfl) (hS.get (by first|exact mm0|exact mm1|exact mm2|exact mm3|exact mm4|exact mm5|exact mm6|exact mm7))) ?_))
  refine Aj rfl (fun _ _=>Ce rfl rfl rfl) (Aj rfl (fun _ _=>Ah) (AP (Aa (AC (AI (AE ?_))))))
  exact Ax rfl rfl rfl ⟨congrArg (Value.int .i64) (by unfold doI;simp only [hmul];rfl),by rw[← hBd];exact hbd⟩
 refine Ae (Ac (Ab (A6 rfl rfl) rfl (Ab Ah rfl (Af (Aa ?_)))))
 refine AF rfl rfl (fun hand=>?_) (fun hand=>?_)
 ·have hl:2≤l.length:=by
   have e:manyI op p=2:=by rw[hand];rfl
   omega
  obtain ⟨ba,oa,rfl,ha0⟩:=hl0.get (k:=0) (by omega)
  obtain ⟨_,_,e,ha1⟩:=hl0.get (k:=1) (by omega)
  cases e
  have hc:Cells [(⟨ba,oa+0,none⟩,.int .i64 (l.getD 0 0)),(⟨ba,oa+1,none⟩,.int .i64 (l.getD 1 0))] wa.drew:=(Keep.drew wa).cells (.cons (hK1 _ _ ha0) (.cons (hK1 _ _ ha1) (.nil _)))
  refine Ae (AX mixed _ [(0,false),(1,false),(2,false),(3,false),(4,false),(5,false),(6,false),(7,false)] (by kernel_rfl) hc ?_)
  have hbd:=hB1.drew
  generalize wa.drew=Wd at hc hbd ⊢
  refine Aj rfl (fun _ _=>Ad) (Aj rfl (fun _ _=>x_index0 rfl rfl (An rfl) (by omega)) (Aj rfl (fun _ hS=>Ai rfl (Ag rfl) (hS.get (by first|exact mm0|exact mm1|exact mm2|exact mm3|exact mm4|exact mm5|exact mm6|exact mm7))) ?_))
  refine Aj rfl (fun _ _=>Ad) (Aj rfl (fun _ _=>x_index1 (i:=1) rfl rfl (An rfl) (by omega)) (Aj rfl (fun _ hS=>Ai rfl (Ag rfl) (hS.get (by first|exact mm0|exact mm1|exact mm2|exact mm3|exact mm4|exact mm5|exact mm6|exact mm7))) ?_))
  refine Aj rfl (fun _ _=>F9 (.inl rfl) rfl rfl) (Aj rfl (fun _ _=>Ah) (AP (Aa (AC (AI (AE ?_))))))
  exact Ax rfl rfl rfl ⟨congrArg (Value.int .i64) (by unfold doI;simp only [hand];rfl),by rw[← hBd];exact hbd⟩
 refine Ae (Ac (Ab (A6 rfl rfl) rfl (Ab Ah rfl (Af (Aa ?_)))))
 refine AF rfl rfl (fun hor=>?_) (fun hor=>?_)
 ·have hl:2≤l.length:=by
   have e:manyI op p=2:=by rw[hor];rfl
   omega
  obtain ⟨ba,oa,rfl,ha0⟩:=hl0.get (k:=0) (by omega)
  obtain ⟨_,_,e,ha1⟩:=hl0.get (k:=1) (by omega)
  cases e
  have hc:Cells [(⟨ba,oa+0,none⟩,.int .i64 (l.getD 0 0)),(⟨ba,oa+1,none⟩,.int .i64 (l.getD 1 0))] wa.drew:=(Keep.drew wa).cells (.cons (hK1 _ _ ha0) (.cons (hK1 _ _ ha1) (.nil _)))
  refine Ae (AX mixed _ [(0,false),(1,false),(2,false),(3,false),(4,false),(5,false),(6,false),(7,false)] (by kernel_rfl) hc ?_)
  have hbd:=hB1.drew
  generalize wa.drew=Wd at hc hbd ⊢
  refine Aj rfl (fun _ _=>Ad) (Aj rfl (fun _ _=>x_index0 rfl rfl (An rfl) (by omega)) (Aj rfl (fun _ hS=>Ai rfl (Ag rfl) (hS.get (by first|exact mm0|exact mm1|exact mm2|exact mm3|exact mm4|exact mm5|exact mm6|exact mm7))) ?_))
  refine Aj rfl (fun _ _=>Ad) (Aj rfl (fun _ _=>x_index1 (i:=1) rfl rfl (An rfl) (by omega)) (Aj rfl (fun _ hS=>Ai rfl (Ag rfl) (hS.get (by first|exact mm0|exact mm1|exact mm2|exact mm3|exact mm4|exact mm5|exact mm6|exact mm7))) ?_))
  refine Aj rfl (fun _ _=>F9 (.inr (.inl rfl)) rfl rfl) (Aj rfl (fun _ _=>Ah) (AP (Aa (AC (AI (AE ?_))))))
  exact Ax rfl rfl rfl ⟨congrArg (Value.int .i64) (by unfold doI;simp only [hor];rfl),by rw[← hBd];exact hbd⟩
 refine Ae (Ac (Ab (A6 rfl rfl) rfl (Ab Ah rfl (Af (Aa ?_)))))
 refine AF rfl rfl (fun hxor=>?_) (fun hxor=>?_)
 ·have hl:2≤l.length:=by
   have e:manyI op p=2:=by rw[hxor];rfl
   omega
  obtain ⟨ba,oa,rfl,ha0⟩:=hl0.get (k:=0) (by omega)
  obtain ⟨_,_,e,ha1⟩:=hl0.get (k:=1) (by omega)
  cases e
  have hc:Cells [(⟨ba,oa+0,none⟩,.int .i64 (l.getD 0 0)),(⟨ba,oa+1,none⟩,.int .i64 (l.getD 1 0))] wa.drew:=(Keep.drew wa).cells (.cons (hK1 _ _ ha0) (.cons (hK1 _ _ ha1) (.nil _)))
  refine Ae (AX mixed _ [(0,false),(1,false),(2,false),(3,false),(4,false),(5,false),(6,false),(7,false)] (by kernel_rfl) hc ?_)
  have hbd:=hB1.drew
  generalize wa.drew=Wd at hc hbd ⊢
  refine Aj rfl (fun _ _=>Ad) (Aj rfl (fun _ _=>x_index0 rfl rfl (An rfl) (by omega)) (Aj rfl (fun _ hS=>Ai rfl (Ag rfl) (hS.get (by first|exact mm0|exact mm1|exact mm2|exact mm3|exact mm4|exact mm5|exact mm6|exact mm7))) ?_))
  refine Aj rfl (fun _ _=>Ad) (Aj rfl (fun _ _=>x_index1 (i:=1) rfl rfl (An rfl) (by omega)) (Aj rfl (fun _ hS=>Ai rfl (Ag rfl) (hS.get (by first|exact mm0|exact mm1|exact mm2|exact mm3|exact mm4|exact mm5|exact mm6|exact mm7))) ?_))
  refine Aj rfl (fun _ _=>F9 (.inr (.inr rfl)) rfl rfl) (Aj rfl (fun _ _=>Ah) (AP (Aa (AC (AI (AE ?_))))))
  exact Ax rfl rfl rfl ⟨congrArg (Value.int .i64) (by unfold doI;simp only [hxor];rfl),by rw[← hBd];exact hbd⟩
 refine Ae (Ac (Ab (A6 rfl rfl) rfl (Ab Ah rfl (Af (Aa ?_)))))
 refine AF rfl rfl (fun hneg=>?_) (fun hneg=>?_)
 ·have hl:1≤l.length:=by
   have e:manyI op p=1:=by rw[hneg];rfl
   omega
  obtain ⟨ba,oa,rfl,ha0⟩:=hl0.get (k:=0) (by omega)
  have ha0:=hK1 _ _ ha0
  refine Ae (Ac (Ab Ad rfl (Ab (x_index0 rfl rfl (An rfl) (by omega)) rfl (Ab (Ai rfl (Ag rfl) ‹_›) rfl ?_))))
  refine Ab (F8 rfl rfl) rfl (Ab Ah rfl (Af (Aa (AC (AI (AE ?_))))))
  exact Ax rfl rfl rfl ⟨congrArg (Value.int .i64) (by unfold doI;simp only [hneg];rfl),by rw[← hBd];exact hB1⟩
 refine Ae (Ac (Ab (A6 rfl rfl) rfl (Ab Ah rfl (Af (Aa ?_)))))
 refine AF rfl rfl (fun hcom=>?_) (fun hcom=>?_)
 ·have hl:1≤l.length:=by
   have e:manyI op p=1:=by rw[hcom];rfl
   omega
  obtain ⟨ba,oa,rfl,ha0⟩:=hl0.get (k:=0) (by omega)
  have ha0:=hK1 _ _ ha0
  refine Ae (Ac (Ab Ad rfl (Ab (x_index0 rfl rfl (An rfl) (by omega)) rfl (Ab (Ai rfl (Ag rfl) ‹_›) rfl ?_))))
  refine Ab (x_com rfl) rfl (Ab Ah rfl (Af (Aa (AC (AI (AE ?_))))))
  exact Ax rfl rfl rfl ⟨congrArg (Value.int .i64) (by unfold doI;simp only [hcom];rfl),by rw[← hBd];exact hB1⟩
 refine Ae (Ac (Ab (A6 rfl rfl) rfl (Ab Ah rfl (Af (Aa ?_)))))
 refine AF rfl rfl (fun hless=>?_) (fun hless=>?_)
 ·have hl:2≤l.length:=by
   have e:manyI op p=2:=by rw[hless];rfl
   omega
  obtain ⟨ba,oa,rfl,ha0⟩:=hl0.get (k:=0) (by omega)
  obtain ⟨_,_,e,ha1⟩:=hl0.get (k:=1) (by omega)
  cases e
  have hc:Cells [(⟨ba,oa+0,none⟩,.int .i64 (l.getD 0 0)),(⟨ba,oa+1,none⟩,.int .i64 (l.getD 1 0))] wa.drew:=(Keep.drew wa).cells (.cons (hK1 _ _ ha0) (.cons (hK1 _ _ ha1) (.nil _)))
  refine Ae (AX mixed _ [(0,false),(1,false),(2,false),(3,false),(4,false),(5,false),(6,false),(7,true),(8,false)] (by kernel_rfl) hc ?_)
  have hbd:=hB1.drew
  generalize wa.drew=Wd at hc hbd ⊢
  refine Aj rfl (fun _ _=>Ad) (Aj rfl (fun _ _=>x_index0 rfl rfl (An rfl) (by omega)) (Aj rfl (fun _ hS=>Ai rfl (Ag rfl) (hS.get (by first|exact mm0|exact mm1|exact mm2|exact mm3|exact mm4|exact mm5|exact mm6|exact mm7))) ?_))
  refine Aj rfl (fun _ _=>Ad) (Aj rfl (fun _ _=>x_index1 (i:=1) rfl rfl (An rfl) (by omega)) (Aj rfl (fun _ hS=>Ai rfl (Ag rfl) (hS.get (by first|exact mm0|exact mm1|exact mm2|exact mm3|exact mm4|exact mm5|exact mm6|exact mm7))) ?_))
  refine Aj rfl (fun _ _=>AY rfl rfl) (BM rfl (AG Tryz.func87 rfl rfl rfl rfl) (EX _ _) ?_)
  rintro _ w2 ⟨rfl,rfl⟩
  refine ⟨.inr hc,?_⟩
  refine Aj rfl (fun _ _=>Ah) (AP (Aa (AC (AI (AE ?_)))))
  exact Ax rfl rfl rfl ⟨congrArg (Value.int .i64) (by unfold doI;simp only [hless];by_cases hd:l.getD 0 0<l.getD 1 0 <;> simp [hd]),by rw[← hBd];exact hbd⟩
 refine Ae (Ac (Ab (A6 rfl rfl) rfl (Ab Ah rfl (Af (Aa ?_)))))
 refine AF rfl rfl (fun heq=>?_) (fun heq=>?_)
 ·have hl:2≤l.length:=by
   have e:manyI op p=2:=by rw[heq];rfl
   omega
  obtain ⟨ba,oa,rfl,ha0⟩:=hl0.get (k:=0) (by omega)
  obtain ⟨_,_,e,ha1⟩:=hl0.get (k:=1) (by omega)
  cases e
  have hc:Cells [(⟨ba,oa+0,none⟩,.int .i64 (l.getD 0 0)),(⟨ba,oa+1,none⟩,.int .i64 (l.getD 1 0))] wa.drew:=(Keep.drew wa).cells (.cons (hK1 _ _ ha0) (.cons (hK1 _ _ ha1) (.nil _)))
  refine Ae (AX mixed _ [(0,false),(1,false),(2,false),(3,false),(4,false),(5,false),(6,false),(7,true),(8,false)] (by kernel_rfl) hc ?_)
  have hbd:=hB1.drew
  generalize wa.drew=Wd at hc hbd ⊢
  refine Aj rfl (fun _ _=>Ad) (Aj rfl (fun _ _=>x_index0 rfl rfl (An rfl) (by omega)) (Aj rfl (fun _ hS=>Ai rfl (Ag rfl) (hS.get (by first|exact mm0|exact mm1|exact mm2|exact mm3|exact mm4|exact mm5|exact mm6|exact mm7))) ?_))
  refine Aj rfl (fun _ _=>Ad) (Aj rfl (fun _ _=>x_index1 (i:=1) rfl rfl (An rfl) (by omega)) (Aj rfl (fun _ hS=>Ai rfl (Ag rfl) (hS.get (by first|exact mm0|exact mm1|exact mm2|exact mm3|exact mm4|exact mm5|exact mm6|exact mm7))) ?_))
  refine Aj rfl (fun _ _=>A6 rfl rfl) (BM rfl (AG Tryz.func87 rfl rfl rfl rfl) (EX _ _) ?_)
  rintro _ w2 ⟨rfl,rfl⟩
  refine ⟨.inr hc,?_⟩
  refine Aj rfl (fun _ _=>Ah) (AP (Aa (AC (AI (AE ?_)))))
  exact Ax rfl rfl rfl ⟨congrArg (Value.int .i64) (by unfold doI;simp only [heq];by_cases hd:l.getD 0 0=l.getD 1 0 <;> simp [hd]),by rw[← hBd];exact hbd⟩
 refine Ae (Ac (Ab (A6 rfl rfl) rfl (Ab Ah rfl (Af (Aa ?_)))))
 refine AF rfl rfl (fun hneq=>?_) (fun hneq=>?_)
 ·have hl:2≤l.length:=by
   have e:manyI op p=2:=by rw[hneq];rfl
   omega
  obtain ⟨ba,oa,rfl,ha0⟩:=hl0.get (k:=0) (by omega)
  obtain ⟨_,_,e,ha1⟩:=hl0.get (k:=1) (by omega)
  cases e
  have hc:Cells [(⟨ba,oa+0,none⟩,.int .i64 (l.getD 0 0)),(⟨ba,oa+1,none⟩,.int .i64 (l.getD 1 0))] wa.drew:=(Keep.drew wa).cells (.cons (hK1 _ _ ha0) (.cons (hK1 _ _ ha1) (.nil _)))
  refine Ae (AX mixed _ [(0,false),(1,false),(2,false),(3,false),(4,false),(5,false),(6,false),(7,true),(8,false)] (by kernel_rfl) hc ?_)
  have hbd:=hB1.drew
  generalize wa.drew=Wd at hc hbd ⊢
  refine Aj rfl (fun _ _=>Ad) (Aj rfl (fun _ _=>x_index0 rfl rfl (An rfl) (by omega)) (Aj rfl (fun _ hS=>Ai rfl (Ag rfl) (hS.get (by first|exact mm0|exact mm1|exact mm2|exact mm3|exact mm4|exact mm5|exact mm6|exact mm7))) ?_))
  refine Aj rfl (fun _ _=>Ad) (Aj rfl (fun _ _=>x_index1 (i:=1) rfl rfl (An rfl) (by omega)) (Aj rfl (fun _ hS=>Ai rfl (Ag rfl) (hS.get (by first|exact mm0|exact mm1|exact mm2|exact mm3|exact mm4|exact mm5|exact mm6|exact mm7))) ?_))
  refine Aj rfl (fun _ _=>Bx rfl rfl) (BM rfl (AG Tryz.func87 rfl rfl rfl rfl) (EX _ _) ?_)
  rintro _ w2 ⟨rfl,rfl⟩
  refine ⟨.inr hc,?_⟩
  refine Aj rfl (fun _ _=>Ah) (AP (Aa (AC (AI (AE ?_)))))
  exact Ax rfl rfl rfl ⟨congrArg (Value.int .i64) (by unfold doI;simp only [hneq];by_cases hd:l.getD 0 0=l.getD 1 0 <;> simp [hd]),by rw[← hBd];exact hbd⟩
 refine Ae (Ac (Ab (A6 rfl rfl) rfl (Ab Ah rfl (Af (Aa ?_)))))
 refine AF rfl rfl (fun hsel=>?_) (fun hsel=>?_)
 ·have hl:3≤l.length:=by
   have e:manyI op p=3:=by rw[hsel];rfl
   omega
  obtain ⟨ba,oa,rfl,ha0⟩:=hl0.get (k:=0) (by omega)
  obtain ⟨_,_,e,ha1⟩:=hl0.get (k:=1) (by omega)
  cases e
  obtain ⟨_,_,e,ha2⟩:=hl0.get (k:=2) (by omega)
  cases e
  have ha0:=hK1 _ _ ha0
  have ha1:=hK1 _ _ ha1
  have ha2:=hK1 _ _ ha2
  refine Ae (Ae (Ac (Ab Ad rfl (Ab (x_index1 (i:=2) rfl rfl (An rfl) (by omega)) rfl (Ab (Ai rfl (Ag rfl) ‹_›) rfl ?_)))))
  refine Ab (Bx rfl rfl) rfl (Af (Aa ?_))
  refine AF rfl rfl (fun hnz=>?_) (fun hz=>?_)
  ·refine Ae (Ac (Ab Ad rfl (Ab (x_index0 rfl rfl (An rfl) (by omega)) rfl (Ab (Ai rfl (Ag rfl) ‹_›) rfl ?_))))
   refine Ab Ah rfl (Af (Aa (AC (AE (AI (AE ?_))))))
   exact Ax rfl rfl rfl ⟨congrArg (Value.int .i64) (by unfold doI;simp only [hsel];exact (if_pos hnz).symm),by rw[← hBd];exact hB1⟩
  refine Ar (Aa (Ae (Ac (Ab Ad rfl (Ab (x_index1 (i:=1) rfl rfl (An rfl) (by omega)) rfl (Ab (Ai rfl (Ag rfl) ‹_›) rfl ?_))))))
  refine Ab Ah rfl (Af (Aa (AC (AI (AE ?_)))))
  exact Ax rfl rfl rfl ⟨congrArg (Value.int .i64) (by unfold doI;simp only [hsel];exact (if_neg hz).symm),by rw[← hBd];exact hB1⟩
 refine Ar (Ao (Aa ?_))
 have hcpy:op=14:=by omega
 have hl:1≤l.length:=by
  have e:manyI op p=1:=by rw[hcpy];rfl
  omega
 obtain ⟨ba,oa,rfl,ha0⟩:=hl0.get (k:=0) (by omega)
 have ha0:=hK1 _ _ ha0
 refine Ae (Ac (Ab Ad rfl (Ab (x_index0 rfl rfl (An rfl) (by omega)) rfl (Ab (Ai rfl (Ag rfl) ‹_›) rfl ?_))))
 refine Ab Ah rfl (Af (Aa (AC ?_)))
 exact Ax rfl rfl rfl ⟨congrArg (Value.int .i64) (by rw[hcpy];rfl),by rw[← hBd];exact hB1⟩
end Go.Proofs.YteepnepebilckaaGreatDoor
namespace Go.Proofs.YteepnepebilckaaGreatDoor
open Go Go.Eng Go.RowKit
def PredV (w:World) (v:Value) (f:Fn):Prop:=∃G c,v= .slice (some ⟨G,0,none⟩) f.blks.length c∧∀b,b<f.blks.length→∃a c,w.cell? ⟨G,0+b,none⟩=some (.slice a (predsOf f b).length c)∧IntsC w a (nats (predsOf f b)) c
theorem PredV.keep {w w':World} {v:Value} {f:Fn} (h:PredV w v f) (k:Keep w w'):PredV w' v f:=by
 obtain ⟨G,c,hv,hr⟩:=h
 refine ⟨G,c,hv,fun b hb=>?_⟩
 obtain ⟨a,c2,h1,h2⟩:=hr b hb
 have hl:(nats (predsOf f b)).length=(predsOf f b).length:=List.length_map ..
 have hi:IntsV w (.slice a (predsOf f b).length c2) (nats (predsOf f b)):=⟨a,c2,by rw[hl],h2⟩
 obtain ⟨a',c',e,h3⟩:=hi.keep k
 injection e with e1 e2 e3
 subst e1
 subst e3
 exact ⟨a,c2,k _ _ h1,h3⟩
theorem idxOf_first {b:Nat}:∀{l:List Nat} {i:Nat},i<l.length→l.getD i 0=b→(∀j,j<i→l.getD j 0≠b)→l.idxOf b=i
 | [],i,h,_,_=>absurd h (Nat.not_lt_zero _)
 |a :: l,0,_,h,_=>by
  have h:a=b:=h
  rw[h,List.idxOf_cons_self]
 |a :: l,i+1,hi,h,hno=>by
  have h0:a≠b:=hno 0 (Nat.succ_pos _)
  have h1:(a == b)=false:=by simpa using h0
  rw[List.idxOf_cons,h1]
  have:=idxOf_first (l:=l) (i:=i) (Nat.lt_of_succ_lt_succ hi) h fun j hj=>hno (j+1) (by omega)
  rw[this];rfl
theorem Gd {l:List Int} {z:Int} {i:Nat} (hi:i<l.length):(l.take (i+1)).count z=(l.take i).count z+if l.getD i 0=z then 1 else 0:=by
 rw[List.take_succ_eq_append_getElem hi,List.count_append,List.getD_eq_getElem?_getD,List.getElem?_eq_getElem hi,List.count_singleton]
 show _+(if (l[i] == z)=true then 1 else 0)=_
 by_cases e:l[i]=z <;> simp [e]
theorem count_toNat {l:List Int} (h:∀s∈l,0≤s) {z:Int} (hz:0≤z):(l.map Int.toNat).count z.toNat=l.count z:=by
 induction l with
 |nil=>rfl
 |cons a l ih=>
  have ha:=h a (.head _)
  rw[List.map_cons,List.count_cons,List.count_cons,ih fun s hs=>h s (.tail _ hs)]
  by_cases e:a=z
  ·subst e;simp
  have e2:¬ a.toNat=z.toNat:=by omega
  simp [e,e2]
section
variable {P : Program} {w : World} {ρ : Operand → Value} {d : Option Tmp} {ty : TypeId} {pos : String} {af : Array Edge} {g : Option (Nat × Bool)}
theorem x_sliceTo {t el:TypeId} {x:Operand} {b o n cap k:Nat} {z:Value} {bytes:Nat} (ht:P.underlying t=some (.slice el)) (hi:(P.info? el).map (fun i=>(i.zero,i.size,i.bytes))=some (some z,1,bytes))
 (hx:ρ x= .slice (some ⟨b,o,none⟩) n cap) {c:Operand} (hc:ρ c= .int .i64 (k:Int)) (hk:k≤cap):
 (execOp ρ ⟨d,.slice t x none (some c) none,ty,pos,af,g⟩).run P w= .ok (.value (.slice (some ⟨b,o,none⟩) k cap)) w:=by
 obtain ⟨i,hi1,_,hi3,_⟩:=info_parts hi
 have:(Instr.slice t (.slice (some ⟨b,o,none⟩) n cap) none (some (.int .i64 (k:Int))) none).run P w= .ok (.slice (some ⟨b,o,none⟩) k cap) w:=by
  unfold Instr.slice Instr.sliceBounds Instr.sliceBound
  simp only [Sem.run_bind,run_underlying ht,Result.andThen_ok,Sem.run_pure,asIntOf]
  have h1:(0:Int)≤(k:Int)∧(k:Int)≤(cap:Int):=by omega
  simp only [if_pos h1,Sem.run_pure,Result.andThen_ok,sizeOf,typeInfo,Sem.run_bind]
  simp [hi1,hi3,Addr.add]
 simp [execOp,hx,hc,Instr.sliceAt,run_underlying ht,this]
end
set_option maxHeartbeats 4000000
attribute [local irreducible] EC EL DL Ret thenQ blockQ Bi bodyQ onlyN execOp Sem.run World.cell? World.frozen? World.setCell World.alloc
theorem along_ret {w:World} {vp x:Value} {f:Fn} (hp:PredV w vp f) (hx:FnV w x f) (hg:GoodP f) {b k:Nat} (hb:b<f.blks.length) (hk:k<(f.b b).succs.length):
 Ret Tryz.prog 73 #[vp,x,.int .i64 (b:Int),.int .i64 (k:Int)] w fun v w'=>v= .int .i64 ((Cf (toG f) b k:Nat):Int)∧Below w.heap.size w w':=by
 obtain ⟨G,gc,rfl,hP⟩:=hp
 obtain ⟨xv,xb,rfl,hvals,hblks⟩:=hx
 refine ret_of_EC Tryz.func73 rfl rfl ?_
 obtain ⟨ab,cb,rfl,hbl⟩:=hblks
 obtain ⟨B,hBd⟩:∃B,B=w.heap.size:=⟨_,rfl⟩
 have hG:=hg.good
 have hnb:=hg.shp.nb
 obtain ⟨z,hz⟩:∃z,z=(f.b b).succs.getD k 0:=⟨_,rfl⟩
 have hsr:=hg.succs b hb
 have hzr:=hsr z (by rw[hz];exact Du hk)
 obtain ⟨to,hto⟩:∃to:Nat,z=(to:Int):=⟨_,(Int.toNat_of_nonneg hzr.1).symm⟩
 have hton:to<f.blks.length:=by omega
 have hSk:((toG f).succs b).getD k 0=to:=by
  have:((toG f).succs b).getD k 0=((f.b b).succs.getD k 0).toNat:=CW _ _
  rw[this,← hz,hto,Int.toNat_natCast]
 have hpl:predsOf f to=(toG f).preds to:=rfl
 obtain ⟨ha1,ha2⟩:=along_ok hG.toFrm (p:=b) (k:=k) hb (by have:((toG f).succs b).length=(f.b b).succs.length:=List.length_map ..;omega)
 rw[hSk,← hpl] at ha1 ha2
 have hcnt:(((toG f).succs b).take k).count to=((f.b b).succs.take k).count z:=by
  have e1:((toG f).succs b).take k=((f.b b).succs.take k).map Int.toNat:=by
   show ((f.b b).succs.map Int.toNat).take k=_
   rw[List.map_take]
  have e2:to=z.toNat:=by omega
  rw[e1,e2]
  exact count_toNat (fun s hs=>(hsr s (List.mem_of_mem_take hs)).1) hzr.1
 have hal:∀i,i<(predsOf f to).length→(predsOf f to).getD i 0=b→(∀j,j<i→(predsOf f to).getD j 0≠b)→Cf (toG f) b k=i+((f.b b).succs.take k).count z:=by
  intro i hi h1 h2
  unfold Cf
  rw[hSk,hcnt,← hpl,idxOf_first hi h1 h2]
 have hslen:(f.b b).succs.length≤2:=(hg.wf.succs b hb).1
 have hplen:(predsOf f to).length≤18:=by
  have:=hG.plen (b:=to) hton
  rw[← hpl] at this
  exact this
 clear hG hpl
 obtain ⟨bb,ob,rfl,hq⟩:=hbl.resolve_left (fun e=>by rw[e] at hb;simp at hb)
 obtain ⟨s0,hcells0,⟨sa,sc,rfl,hints⟩⟩:=hq b hb
 refine Ae (Ac (Ab (Br (v:=.agg #[xv,.slice (some ⟨bb,ob,none⟩) f.blks.length cb]) rfl) rfl (el_new (.cells #[xv,.slice (some ⟨bb,ob,none⟩) f.blks.length cb] 30) B (by omega) fun wa hN1 hO1 hZ1 hB1 hK1=>(Ab Ah rfl (Af (Aa ?_))))))
 have g1:wa.cell? ⟨w.heap.size,0+1,none⟩=some (.slice (some ⟨bb,ob,none⟩) f.blks.length cb):=Am hN1 rfl
 have ho:(f.blks.getD b default)=f.b b:=rfl
 simp only [ho] at hcells0 hints
 have hcb:wa.cell? ⟨bb,ob+b * 4+2,none⟩=some (.slice sa (f.b b).succs.length sc):=hK1 _ _ (hcells0 2 _ rfl)
 obtain ⟨bi,oi,rfl,hai⟩:=hints.get hk
 have hcap:=hints.1
 have hai:=hK1 _ _ hai
 refine Ae (Ac (Ab (Ak rfl (Al rfl)) rfl (Ab (Ai rfl (Ag rfl) ‹_›) rfl ?_)))
 refine Ab Ad rfl (Ab (Ba (n:=4) rfl rfl (An rfl) hb) rfl (Ab (Ak rfl (Al rfl)) rfl (Ab (Ai rfl (Ag rfl) ‹_›) rfl ?_)))
 refine Ab Ad rfl (Ab (x_index1 rfl rfl (An rfl) (by omega)) rfl (Ab (Ai rfl (Ag rfl) ‹_›) rfl ?_))
 refine Ab Ah rfl (Ab Ah rfl (Af (Aa ?_)))
 rw[← hz,hto]
 refine BK (fun e w'=>w'=wa∧At e [(0,.slice (some ⟨G,0,none⟩) f.blks.length gc),(2,.int .i64 (b:Int)),(9,.int .i64 (to:Int)),(10,.int .i64 ((((f.b b).succs.take k).count z:Nat):Int))]) ?_ ?_
 ·refine Ae (Ac (Ab (Ak rfl (Al rfl)) rfl (Ab (Ai rfl (Ag rfl) ‹_›) rfl ?_)))
  refine Ab Ad rfl (Ab (Ba (n:=4) rfl rfl (An rfl) hb) rfl (Ab (Ak rfl (Al rfl)) rfl (Ab (Ai rfl (Ag rfl) ‹_›) rfl ?_)))
  refine Ab Ad rfl (Ab (x_sliceTo (k:=k) Tryz.underlying35 Cd rfl rfl (by omega)) rfl (Ab (AM rfl (An rfl)) rfl (Ab Ad rfl (Af (Aa (Ap ?_))))))
  refine EC_loop (fun n e w'=>w'=wa∧∃i,i≤k∧At e [(0,.slice (some ⟨G,0,none⟩) f.blks.length gc),(2,.int .i64 (b:Int)),(9,.int .i64 (to:Int)),(10,.int .i64 ((((f.b b).succs.take i).count z:Nat):Int)),(31,.slice (some ⟨bi,oi,none⟩) k sc),(32,.int .i64 (k:Int)),(33,.int .i64 (i:Int))]∧n=k - i) k
   ⟨rfl,0,Nat.zero_le _,Aq rfl ⟨rfl,rfl,rfl,rfl,rfl,rfl,rfl,trivial⟩,rfl⟩ ?_
  rintro n e w' ⟨rfl,i,hi,⟨t,rfl⟩,rfl⟩
  refine Ae (Ac (Ab (AY rfl rfl) rfl (Af (Aa (Ae ?_)))))
  refine AF rfl rfl (fun hlt=>?_) (fun hge=>?_)
  rotate_left
  ·have hi:i=k:=by omega
   subst hi
   refine AJ (Az (AB (Ay ?_)))
   exact Ch ⟨rfl,Aq rfl ⟨rfl,rfl,rfl,rfl,trivial⟩⟩
  have hlt:i<k:=by omega
  obtain ⟨_,_,e,haj⟩:=hints.get (k:=i) (by omega)
  cases e
  have haj:=hK1 _ _ haj
  have hct:=Gd (l:=(f.b b).succs) (z:=z) (i:=i) (by omega)
  have hcl:((f.b b).succs.take i).count z≤2:=by
   have h1:=List.count_le_length (a:=z) (l:=(f.b b).succs.take i)
   have h2:((f.b b).succs.take i).length≤(f.b b).succs.length:=by rw[List.length_take];omega
   omega
  refine Ar (Aa (Ae (Ap (Ae (Ac (Ab (x_index1 rfl rfl (An rfl) (by omega)) rfl (Ab (Ai rfl (Ag rfl) ‹_›) rfl ?_)))))))
  refine Ab Ah rfl (Af (Aa (Ae (Ac (Ab Ad rfl (Ab Ad rfl (Ab (A6 rfl rfl) rfl (Af (Aa ?_)))))))))
  refine AF rfl rfl (fun heq=>?_) (fun hne=>?_)
  rotate_left
  ·refine Ar (Ao (Aa (Ac (Ab (x_inc rfl rfl (by omega)) rfl (Ab Ad rfl (Af ?_))))))
   rw[if_neg (by omega)] at hct
   exact Av (k - (i+1)) (by omega) ⟨rfl,i+1,by omega,Aq rfl ⟨rfl,rfl,rfl,by rw[hct];rfl,rfl,rfl,rfl,trivial⟩,rfl⟩
  refine Ac (Ab Ad rfl (Ab (x_inc rfl rfl (by omega)) rfl (Ab Ah rfl (Af (Ao (Aa (Ac (Ab (x_inc rfl rfl (by omega)) rfl (Ab Ad rfl (Af ?_))))))))))
  rw[if_pos (by omega)] at hct
  exact Av (k - (i+1)) (by omega) ⟨rfl,i+1,by omega,Aq rfl ⟨rfl,rfl,rfl,by rw[hct];rfl,rfl,rfl,rfl,trivial⟩,rfl⟩
 rintro e w' ⟨rfl,t,rfl⟩
 obtain ⟨pa,pc,hpc,hpi⟩:=hP to hton
 have hpc:=hK1 _ _ hpc
 refine Ae (Ae (Ac (Ab Ad rfl (Ab Ad rfl (Ab (x_index1 rfl rfl (An rfl) (by omega)) rfl (Ab (Ai rfl (Ag rfl) ‹_›) rfl ?_))))))
 refine Ab (AM rfl (An rfl)) rfl (Ab Ad rfl (Af (Aa (Ap ?_))))
 refine EC_loop (fun n e w''=>w''=w'∧∃i,i≤(predsOf f to).length∧(∀j,j<i→(predsOf f to).getD j 0≠b)∧At e [(2,.int .i64 (b:Int)),(10,.int .i64 ((((f.b b).succs.take k).count z:Nat):Int)),(46,.slice pa (predsOf f to).length pc),(47,.int .i64 ((predsOf f to).length:Int)),(48,.int .i64 (i:Int))]∧n=(predsOf f to).length - i) (predsOf f to).length
  ⟨rfl,0,Nat.zero_le _,fun j hj=>absurd hj (Nat.not_lt_zero _),Aq rfl ⟨rfl,rfl,rfl,rfl,rfl,trivial⟩,rfl⟩ ?_
 rintro n e w'' ⟨rfl,i,hi,hno,⟨t,rfl⟩,rfl⟩
 refine Ae (Ac (Ab (AY rfl rfl) rfl (Af (Aa (Ae ?_)))))
 refine AF rfl rfl (fun hlt=>?_) (fun hge=>?_)
 rotate_left
 ·exfalso
  exact hno _ (by omega) ha2
 have hlt:i<(predsOf f to).length:=by omega
 have hpl:(nats (predsOf f to)).length=(predsOf f to).length:=List.length_map ..
 obtain ⟨bp,op,rfl,hap⟩:=hpi.get (k:=i) (by rw[hpl];exact hlt)
 rw[E7] at hap
 have hap:=hK1 _ _ hap
 refine Ar (Aa (Ae (Ap (Ae (Ac (Ab Ad rfl (Ab (x_index1 rfl rfl (An rfl) (by omega)) rfl (Ab (Ai rfl (Ag rfl) ‹_›) rfl ?_))))))))
 refine Ab Ah rfl (Ab Ah rfl (Af (Aa (Ae (Ac (Ab Ad rfl (Ab Ad rfl (Ab (A6 rfl rfl) rfl (Af (Aa ?_))))))))))
 refine AF rfl rfl (fun heq=>?_) (fun hne=>?_)
 rotate_left
 ·refine Ar (Ao (Aa (Ac (Ab (x_inc rfl rfl (by omega)) rfl (Ab Ad rfl (Af ?_))))))
  refine Av ((predsOf f to).length - (i+1)) (by omega) ⟨rfl,i+1,by omega,fun j hj=>?_,Aq rfl ⟨rfl,rfl,rfl,rfl,rfl,trivial⟩,rfl⟩
  by_cases e:j=i
  ·subst e;omega
  exact hno j (by omega)
 have hcl:((f.b b).succs.take k).count z≤2:=by
  have h1:=List.count_le_length (a:=z) (l:=(f.b b).succs.take k)
  have h2:((f.b b).succs.take k).length≤(f.b b).succs.length:=by rw[List.length_take];omega
  omega
 refine Ae (Ac (Ab Ad rfl (Ab Ad rfl (Ab (FQ rfl rfl (by omega)) rfl (Ab Ah rfl (Af (Aa (AC (AI (AE (Bu ?_)))))))))))
 refine AI (AE ?_)
 refine Ax rfl rfl rfl ⟨congrArg (Value.int .i64) ?_,by rw[← hBd];exact hB1⟩
 have:=hal i hlt (by omega) hno
 rw[this]
 show (i:Int)+_=_
 omega
end Go.Proofs.YteepnepebilckaaGreatDoor
