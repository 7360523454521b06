/- The law FnAllRun returns true for every input in which the opcode table reads as laid, and its arguments read as they did, the table being tied to the text of the program. -/
import Derived.Test.YteepnepebilckaaGreatDoorCS29
import Derived.Test.YteepnepebilckaaGreatDoorRows
import Derived.Test.YteepnepebilckaaGreatDoorTie
import Derived.Test.YteepnepebilckaaGreatDoorCards
namespace Go.Proofs.YteepnepebilckaaGreatDoor
open Go Go.Eng Go.RowKit
set_option maxHeartbeats 4000000
attribute [local irreducible] EC EL DL Ret thenQ blockQ Bi bodyQ onlyN execOp Sem.run World.cell? World.frozen? World.setCell World.alloc
theorem fits3_ret {w:World} {x y z:Int} {a:Option Addr} {n c:Nat}:
 Ret Tryz.prog 37 #[.agg #[.int .i64 x,.int .i64 y,.slice a n c,.int .i64 z]] w fun v w'=>(∃b,v= .bool b)∧Below w.heap.size w w':=by
 refine ret_of_EC Tryz.func37 rfl rfl ?_
 obtain ⟨B,hBd⟩:∃B,B=w.heap.size:=⟨_,rfl⟩
 refine Ae (Ac (Ab (Br (v:=.agg #[.int .i64 x,.int .i64 y,.slice a n c,.int .i64 z]) rfl) rfl (el_new (.cells #[.int .i64 x,.int .i64 y,.slice a n c,.int .i64 z] 48) B (by omega) fun wa hN1 hO1 hZ1 hB1 hK1=>(Ab Ah rfl (Af (Aa ?_))))))
 have g2:wa.cell? ⟨w.heap.size,0+2,none⟩=some (.slice a n c):=Am hN1 rfl
 rw[← hBd] at g2 ⊢
 refine Ae (Ae (Ac (Ab (Ak rfl (Al rfl)) rfl (Ab (Ai rfl (Ag rfl) ‹_›) rfl ?_))))
 refine Ab (AM rfl (An rfl)) rfl (Ab (BF rfl rfl) rfl (Af (Aa ?_)))
 refine AF rfl rfl (fun h=>?_) (fun h=>?_)
 ·refine Ae (Ac (Ab Ah rfl (Af (Aa (AC (AE ?_))))))
  exact Ax rfl rfl rfl ⟨⟨_,rfl⟩,hB1⟩
 refine Ar (Aa (Ae (Ac (Ab Ah rfl (Af (Aa (AC ?_)))))))
 exact Ax rfl rfl rfl ⟨⟨_,rfl⟩,hB1⟩
theorem GC {w:World} {x y z:Int} {a:Option Addr} {n c:Nat}:
 Ret Tryz.prog 38 #[.agg #[.int .i64 x,.int .i64 y,.slice a n c,.int .i64 z]] w fun v w'=>(∃b,v= .bool b)∧Below w.heap.size w w':=by
 refine ret_of_EC Tryz.func38 rfl rfl ?_
 obtain ⟨B,hBd⟩:∃B,B=w.heap.size:=⟨_,rfl⟩
 refine Ae (Ac (Ab (Br (v:=.agg #[.int .i64 x,.int .i64 y,.slice a n c,.int .i64 z]) rfl) rfl (el_new (.cells #[.int .i64 x,.int .i64 y,.slice a n c,.int .i64 z] 53) B (by omega) fun wa hN1 hO1 hZ1 hB1 hK1=>(Ab Ah rfl (Af (Aa ?_))))))
 have g2:wa.cell? ⟨w.heap.size,0+2,none⟩=some (.slice a n c):=Am hN1 rfl
 rw[← hBd] at g2 ⊢
 refine Ae (Ae (Ac (Ab (Ak rfl (Al rfl)) rfl (Ab (Ai rfl (Ag rfl) ‹_›) rfl ?_))))
 refine Ab (AM rfl (An rfl)) rfl (Ab (BF rfl rfl) rfl (Af (Aa ?_)))
 refine AF rfl rfl (fun h=>?_) (fun h=>?_)
 ·refine Ae (Ac (Ab Ah rfl (Af (Aa (AC (AE ?_))))))
  exact Ax rfl rfl rfl ⟨⟨_,rfl⟩,hB1⟩
 refine Ar (Aa (Ae (Ac (Ab Ah rfl (Af (Aa (AC ?_)))))))
 exact Ax rfl rfl rfl ⟨⟨_,rfl⟩,hB1⟩
theorem fits2_ret {w:World} {x:Value} {l:List Vl} (hx:ValsV w x l):
 Ret Tryz.prog 22 #[x] w fun v w'=>∃b,v= .bool b∧(b=true→l.length≤2147483647)∧Below w.heap.size w w':=by
 obtain ⟨av,cv,rfl,hvl⟩:=hx
 refine ret_of_EC Tryz.func22 rfl rfl ?_
 obtain ⟨B,hBd⟩:∃B,B=w.heap.size:=⟨_,rfl⟩
 refine Ae (Ac (Ab Ah rfl (Af (Aa (Ae (Ae (Ac (Ab Ad rfl (Ab (AM rfl (An rfl)) rfl (Ab (BF rfl rfl) rfl (Af ?_)))))))))))
 refine Aa ?_
 refine AF rfl rfl (fun h=>?_) (fun h=>?_)
 ·refine Ae (Ac (Ab Ah rfl (Af (Aa (AC (AE ?_))))))
  exact Ax rfl rfl rfl ⟨false,rfl,fun h=>(by cases h),Below.refl _ _⟩
 refine Ar (Aa ?_)
 have hlen:l.length≤2147483647:=by omega
 refine Ae (Ae (Ac (Ab Ad rfl (Ab (AM rfl (An rfl)) rfl (Ab Ad rfl (Af (Aa (Ap ?_))))))))
 refine EC_loop (fun n e wr=>∃k,k≤l.length∧At e [(8,.slice av l.length cv),(9,.int .i64 (l.length:Int)),(10,.int .i64 (k:Int))]∧Below B w wr∧n=l.length - k) l.length
  ⟨0,Nat.zero_le _,Aq rfl ⟨rfl,rfl,rfl,trivial⟩,Below.refl _ _,rfl⟩ ?_
 rintro n e wr ⟨k,hk,⟨t,rfl⟩,hb,rfl⟩
 refine Ae (Ac (Ab (AY rfl rfl) rfl (Af (Aa (Ae ?_)))))
 refine AF rfl rfl (fun hlt=>?_) (fun hge=>?_)
 rotate_left
 ·have hk:k=l.length:=by omega
  subst hk
  refine AJ (Az (AB (Ay (Aa (Ae (Ac (Ab Ah rfl (Af (Aa (AC ?_))))))))))
  exact Ax rfl rfl rfl ⟨true,rfl,fun _=>hlen,by rw[← hBd];exact hb⟩
 have hlt:k<l.length:=by omega
 obtain ⟨bb,ob,rfl,hq⟩:=hvl.resolve_left (fun e=>by rw[e] at hlt;simp at hlt)
 obtain ⟨s0,hcells0,⟨sa,sc,rfl,hints⟩⟩:=hq k hlt
 have hcells:=hcells0.keep (Keep.of_below hb (by omega))
 have hszr:=hb.size
 refine Ar (Aa (Ae (Ap (Ae (Ac (Ab (Ba (n:=4) rfl rfl (An rfl) hlt) rfl (Ab (A0 rfl (AU rfl) hcells) rfl (Ab (A9 EU) rfl (Bb (Be rfl rfl (A7 rfl) rfl rfl) rfl (Af (Aa ?_)))))))))))
 have hBle:B≤wr.heap.size:=by omega
 refine ec_new (.cells #[.int .i64 (l.getD k default).op,.int .i64 (l.getD k default).blk,.slice sa (l.getD k default).args.length sc,.int .i64 (l.getD k default).aux] 48) B (by omega) fun X hN3 hO3 hZ3 hB3 hK3=>?_
 obtain ⟨V,hV⟩:∃V,V=wr.heap.size:=⟨_,rfl⟩
 rw[← hV] at hN3 ⊢
 have hbX:Below B w X:=hb.trans hB3
 refine Ae (Ac (Ab (A0 (cs:=[.int .i64 (l.getD k default).op,.int .i64 (l.getD k default).blk,.slice sa (l.getD k default).args.length sc,.int .i64 (l.getD k default).aux]) rfl (AU rfl) (AZ hN3)) rfl (Bc (AG Tryz.func37 rfl rfl rfl rfl) rfl fits3_ret ?_)))
 rintro _ Y ⟨⟨b,rfl⟩,hbY⟩
 have hbY:Below B w Y:=hbX.trans (hbY.mono (by omega))
 refine Ab (BS rfl) rfl (Af (Aa ?_))
 cases b with
 |false=>
  refine Bn rfl rfl (Ae (Ac (Ab Ah rfl (Af (Aa (AC (AI (AE (Bu (AI (AE ?_)))))))))))
  exact Ax rfl rfl rfl ⟨false,rfl,fun h=>(by cases h),by rw[← hBd];exact hbY⟩
 |true=>
  refine Bj rfl rfl (Ar (Ao (Aa (Ac (Ab (x_inc rfl rfl (by omega)) rfl (Ab Ad rfl (Af ?_)))))))
  exact Av (l.length - (k+1)) (by omega) ⟨k+1,by omega,Aq rfl ⟨rfl,rfl,rfl,trivial⟩,hbY,rfl⟩
theorem fits4_ret {w:World} {x:Value} {l:List Bk} (hx:BlksV w x l):
 Ret Tryz.prog 23 #[x] w fun v w'=>∃b,v= .bool b∧(b=true→l.length≤2147483647)∧Below w.heap.size w w':=by
 obtain ⟨av,cv,rfl,hvl⟩:=hx
 refine ret_of_EC Tryz.func23 rfl rfl ?_
 obtain ⟨B,hBd⟩:∃B,B=w.heap.size:=⟨_,rfl⟩
 refine Ae (Ac (Ab Ah rfl (Af (Aa (Ae (Ae (Ac (Ab Ad rfl (Ab (AM rfl (An rfl)) rfl (Ab (BF rfl rfl) rfl (Af ?_)))))))))))
 refine Aa ?_
 refine AF rfl rfl (fun h=>?_) (fun h=>?_)
 ·refine Ae (Ac (Ab Ah rfl (Af (Aa (AC (AE ?_))))))
  exact Ax rfl rfl rfl ⟨false,rfl,fun h=>(by cases h),Below.refl _ _⟩
 refine Ar (Aa ?_)
 have hlen:l.length≤2147483647:=by omega
 refine Ae (Ae (Ac (Ab Ad rfl (Ab (AM rfl (An rfl)) rfl (Ab Ad rfl (Af (Aa (Ap ?_))))))))
 refine EC_loop (fun n e wr=>∃k,k≤l.length∧At e [(8,.slice av l.length cv),(9,.int .i64 (l.length:Int)),(10,.int .i64 (k:Int))]∧Below B w wr∧n=l.length - k) l.length
  ⟨0,Nat.zero_le _,Aq rfl ⟨rfl,rfl,rfl,trivial⟩,Below.refl _ _,rfl⟩ ?_
 rintro n e wr ⟨k,hk,⟨t,rfl⟩,hb,rfl⟩
 refine Ae (Ac (Ab (AY rfl rfl) rfl (Af (Aa (Ae ?_)))))
 refine AF rfl rfl (fun hlt=>?_) (fun hge=>?_)
 rotate_left
 ·have hk:k=l.length:=by omega
  subst hk
  refine AJ (Az (AB (Ay (Aa (Ae (Ac (Ab Ah rfl (Af (Aa (AC ?_))))))))))
  exact Ax rfl rfl rfl ⟨true,rfl,fun _=>hlen,by rw[← hBd];exact hb⟩
 have hlt:k<l.length:=by omega
 obtain ⟨bb,ob,rfl,hq⟩:=hvl.resolve_left (fun e=>by rw[e] at hlt;simp at hlt)
 obtain ⟨s0,hcells0,⟨sa,sc,rfl,hints⟩⟩:=hq k hlt
 have hcells:=hcells0.keep (Keep.of_below hb (by omega))
 have hszr:=hb.size
 refine Ar (Aa (Ae (Ap (Ae (Ac (Ab (Ba (n:=4) rfl rfl (An rfl) hlt) rfl (Ab (A0 rfl (AU rfl) hcells) rfl (Ab (A9 E3) rfl (Bb (Be rfl rfl (A7 rfl) rfl rfl) rfl (Af (Aa ?_)))))))))))
 have hBle:B≤wr.heap.size:=by omega
 refine ec_new (.cells #[.int .i64 (l.getD k default).kind,.int .i64 (l.getD k default).ctrl,.slice sa (l.getD k default).succs.length sc,.int .i64 (l.getD k default).likely] 53) B (by omega) fun X hN3 hO3 hZ3 hB3 hK3=>?_
 obtain ⟨V,hV⟩:∃V,V=wr.heap.size:=⟨_,rfl⟩
 rw[← hV] at hN3 ⊢
 have hbX:Below B w X:=hb.trans hB3
 refine Ae (Ac (Ab (A0 (cs:=[.int .i64 (l.getD k default).kind,.int .i64 (l.getD k default).ctrl,.slice sa (l.getD k default).succs.length sc,.int .i64 (l.getD k default).likely]) rfl (AU rfl) (AZ hN3)) rfl (Bc (AG Tryz.func38 rfl rfl rfl rfl) rfl GC ?_)))
 rintro _ Y ⟨⟨b,rfl⟩,hbY⟩
 have hbY:Below B w Y:=hbX.trans (hbY.mono (by omega))
 refine Ab (BS rfl) rfl (Af (Aa ?_))
 cases b with
 |false=>
  refine Bn rfl rfl (Ae (Ac (Ab Ah rfl (Af (Aa (AC (AI (AE (Bu (AI (AE ?_)))))))))))
  exact Ax rfl rfl rfl ⟨false,rfl,fun h=>(by cases h),by rw[← hBd];exact hbY⟩
 |true=>
  refine Bj rfl rfl (Ar (Ao (Aa (Ac (Ab (x_inc rfl rfl (by omega)) rfl (Ab Ad rfl (Af ?_)))))))
  exact Av (l.length - (k+1)) (by omega) ⟨k+1,by omega,Aq rfl ⟨rfl,rfl,rfl,trivial⟩,hbY,rfl⟩
theorem fits1_ret {w:World} {x:Value} {f:Fn} (hx:FnV w x f):
 Ret Tryz.prog 8 #[x] w fun v w'=>∃b,v= .bool b∧(b=true→f.vals.length<4294967296∧f.blks.length<4294967296)∧Below w.heap.size w w':=by
 obtain ⟨xv,xb,rfl,hvals,hblks⟩:=hx
 refine ret_of_EC Tryz.func8 rfl rfl ?_
 have hx0:FnV w (.agg #[xv,xb]) f:=⟨xv,xb,rfl,hvals,hblks⟩
 have hvals0:=hvals
 have hblks0:=hblks
 obtain ⟨ab,cb,rfl,hbl⟩:=hblks
 obtain ⟨av,cv,rfl,hvl⟩:=hvals
 obtain ⟨B,hBd⟩:∃B,B=w.heap.size:=⟨_,rfl⟩
 refine Ae (Ac (Ab (Br (v:=.agg #[.slice av f.vals.length cv,.slice ab f.blks.length cb]) rfl) rfl (el_new (.cells #[.slice av f.vals.length cv,.slice ab f.blks.length cb] 25) B (by omega) fun wa hN1 hO1 hZ1 hB1 hK1=>(Ab Ah rfl (Af (Aa ?_))))))
 have g0:wa.cell? ⟨w.heap.size,0+0,none⟩=some (.slice av f.vals.length cv):=Am hN1 rfl
 have g1:wa.cell? ⟨w.heap.size,0+1,none⟩=some (.slice ab f.blks.length cb):=Am hN1 rfl
 refine Ae (Ae (Ac (Ab (Ak rfl (Al rfl)) rfl (Ab (Ai rfl (Ag rfl) ‹_›) rfl ?_))))
 refine Bc (AG Tryz.func22 rfl rfl rfl rfl) rfl (fits2_ret (hvals0.keep hK1)) ?_
 rintro _ w1 ⟨b,rfl,hb,hbl1⟩
 refine Ab (BS rfl) rfl (Af (Aa ?_))
 have hK2:Keep wa w1:=Keep.of_below hbl1 (Nat.le_refl _)
 have g1':=hK2 _ _ g1
 cases b with
 |false=>
  refine Bn rfl rfl (Ae (Ac (Ab Ah rfl (Af (Aa (AC (AE ?_)))))))
  exact Ax rfl rfl rfl ⟨false,rfl,fun h=>(by cases h),by rw[← hBd];exact hB1.trans (hbl1.mono (by omega))⟩
 |true=>
 refine Bj rfl rfl (Ar (Aa (Ae (Ae (Ac (Ab (Ak rfl (Al rfl)) rfl (Ab (Ai rfl (Ag rfl) ‹_›) rfl ?_)))))))
 refine Bc (AG Tryz.func23 rfl rfl rfl rfl) rfl (fits4_ret ((hblks0.keep hK1).keep hK2)) ?_
 rintro _ w2 ⟨b2,rfl,hb2,hbl2⟩
 refine Ab (BS rfl) rfl (Af (Aa ?_))
 have hsz1:=hbl1.size
 have hbF:Below w.heap.size w w2:=by rw[← hBd];exact (hB1.trans (hbl1.mono (by omega))).trans (hbl2.mono (by omega))
 cases b2 with
 |false=>
  refine Bn rfl rfl (Ae (Ac (Ab Ah rfl (Af (Aa (AC (AE ?_)))))))
  exact Ax rfl rfl rfl ⟨false,rfl,fun h=>(by cases h),hbF⟩
 |true=>
  refine Bj rfl rfl (Ar (Aa (Ae (Ac (Ab Ah rfl (Af (Aa (AC ?_))))))))
  exact Ax rfl rfl rfl ⟨true,rfl,fun _=>⟨by have:=hb rfl;omega,by have:=hb2 rfl;omega⟩,hbF⟩
end Go.Proofs.YteepnepebilckaaGreatDoor
namespace Go.Proofs.YteepnepebilckaaGreatDoor
open Go Go.Eng Go.RowKit
theorem doI_comm (ins:List Int) (o a x y:Int) (h0:0≤o) (hc:comm o.toNat=true):doI ins o a [x,y]=doI ins o a [y,x]:=by
 obtain ⟨k,rfl⟩:∃k:Nat,o=(k:Int):=⟨_,(Int.toNat_of_nonneg h0).symm⟩
 have h2:k=2∨k=4∨k=5∨k=6∨k=7∨k=11∨k=12:=by
  simp [comm] at hc
  omega
 rcases h2 with rfl|rfl|rfl|rfl|rfl|rfl|rfl
 ·show IntKind.i64.wrap (x+y)=IntKind.i64.wrap (y+x)
  rw[Int.add_comm]
 ·show IntKind.i64.wrap (x * y)=IntKind.i64.wrap (y * x)
  rw[Int.mul_comm]
 ·show IntKind.i64.wrap (((BitVec.ofInt IntKind.i64.bits x &&& BitVec.ofInt IntKind.i64.bits y).toNat:Nat):Int)=IntKind.i64.wrap (((BitVec.ofInt IntKind.i64.bits y &&& BitVec.ofInt IntKind.i64.bits x).toNat:Nat):Int)
  rw[BitVec.and_comm]
 ·show IntKind.i64.wrap (((BitVec.ofInt IntKind.i64.bits x ||| BitVec.ofInt IntKind.i64.bits y).toNat:Nat):Int)=IntKind.i64.wrap (((BitVec.ofInt IntKind.i64.bits y ||| BitVec.ofInt IntKind.i64.bits x).toNat:Nat):Int)
  rw[BitVec.or_comm]
 ·show IntKind.i64.wrap (((BitVec.ofInt IntKind.i64.bits x ^^^ BitVec.ofInt IntKind.i64.bits y).toNat:Nat):Int)=IntKind.i64.wrap (((BitVec.ofInt IntKind.i64.bits y ^^^ BitVec.ofInt IntKind.i64.bits x).toNat:Nat):Int)
  rw[BitVec.xor_comm]
 ·show (if x=y then (1:Int) else 0)=if y=x then 1 else 0
  by_cases h:x=y
  ·rw[if_pos h,if_pos h.symm]
  rw[if_neg h,if_neg fun e=>h e.symm]
 show (if x≠y then (1:Int) else 0)=if y≠x then 1 else 0
 by_cases h:x≠y
 ·rw[if_pos h,if_pos h.symm]
 rw[if_neg h,if_neg fun e=>h e.symm]
theorem FD {f:Fn} (hg:GoodP f) (ins:List Int) {A:Nat→List Nat} {arr:Nat→Nat} {cls:Nat→Int} {P:List (Nat×Nat)} {rw:Nat→Option Nat} (hof:CseR (toG f) True A arr cls P rw):
 GoodP (toF (((toG f).wa A).mv (fR rw)))∧(toF (((toG f).wa A).mv (fR rw))).vals.length=f.vals.length∧(toF (((toG f).wa A).mv (fR rw))).blks.length=f.blks.length∧
  runG (toG f) (doI ins) 300 0 0 (fun _=>0)=runG (toG (toF (((toG f).wa A).mv (fR rw)))) (doI ins) 300 0 0 (fun _=>0):=by
 have h0:=hg.good
 have h1:=h0.swo hof.sw
 have h2:=h1.moved hof.clsC hof.mv
 exact ⟨h2.goodP,C8 _,Dn _,((run_swo h0 hof.sw (doI_comm ins) 300 _).trans (GI h1 hof.clsC hof.mv 300 _)).trans (Et h2 h2.goodP.good (like_toF h2) 300 _)⟩
set_option maxHeartbeats 4000000
attribute [local irreducible] EC EL DL Ret thenQ blockQ Bi bodyQ onlyN execOp Sem.run World.cell? World.frozen? World.setCell World.alloc
end Go.Proofs.YteepnepebilckaaGreatDoor
namespace Go.Proofs.YteepnepebilckaaGreatDoor
open Go Go.Eng Go.RowKit
theorem G5 {f:Fn} (hg:GoodP f) (ins:List Int) {g':Gph} (hof:PhiOf (toG f) g'):
 GoodP (toF g')∧(toF g').vals.length=f.vals.length∧(toF g').blks.length=f.blks.length∧runG (toG f) (doI ins) 300 0 0 (fun _=>0)=runG (toG (toF g')) (doI ins) 300 0 0 (fun _=>0):=by
 obtain ⟨h1,h2⟩:=E6 hg.good (E:=doI ins) (fun a l=>EB ins a l) hof.steps
 exact ⟨h1.goodP,(C8 g').trans hof.steps.same.1,(Dn g').trans hof.steps.same.2.1,(h2 300 _).trans (Et h1 h1.goodP.good (like_toF h1) 300 _)⟩
theorem G1 {f:Fn} (hg:GoodP f) (ins:List Int) {g':Gph} (hof:CopyOf (toG f) g'):
 GoodP (toF g')∧(toF g').vals.length=f.vals.length∧(toF g').blks.length=f.blks.length∧runG (toG f) (doI ins) 300 0 0 (fun _=>0)=runG (toG (toF g')) (doI ins) 300 0 0 (fun _=>0):=by
 obtain ⟨g1,c2,hp,hc,rfl⟩:=hof.ex
 obtain ⟨h1,h2⟩:=E6 hg.good (E:=doI ins) (fun a l=>EB ins a l) hp.steps
 have hgg:=h1.ctrls hc
 exact ⟨hgg.goodP,(C8 _).trans hp.steps.same.1,(Dn _).trans hp.steps.same.2.1,((h2 300 _).trans (GB h1 (fun a l=>EB ins a l) hc 300 _)).trans (Et hgg hgg.goodP.good (like_toF hgg) 300 _)⟩
theorem FU {f h:Fn} (hl:h.vals.length=f.vals.length) (ha:∀k j,k<f.vals.length→j<f.vals.length→Alk h k j→Alk f k j) (hf:FewP f):FewP h:=fun k hk=>by
 rw[hl] at hk ⊢
 refine Nat.le_trans ?_ (hf k hk)
 unfold fc
 rw[← List.countP_eq_length_filter,← List.countP_eq_length_filter]
 exact List.countP_mono_left fun x hx h1=>decide_eq_true (ha k x hk (List.mem_range.1 hx) (of_decide_eq_true h1))
theorem HI {f:Fn} (hf:FewP f) {fw:Prop} {A:Nat→List Nat} {arr:Nat→Nat} {cls:Nat→Int} {P:List (Nat×Nat)} {rw:Nat→Option Nat} (_:CseR (toG f) fw A arr cls P rw):FewP (toF (((toG f).wa A).mv (fR rw))):=by
 have hv:∀k,k<f.vals.length→((toF (((toG f).wa A).mv (fR rw))).v k).op=(f.v k).op∧((toF (((toG f).wa A).mv (fR rw))).v k).aux=(f.v k).aux:=fun k hk=>by
  rw[CJ (show k<(((toG f).wa A).mv (fR rw)).nv from hk)]
  exact ⟨rfl,rfl⟩
 refine FU (C8 _) (fun k j hk hj h=>?_) hf
 unfold Alk at h ⊢
 rw[(hv k hk).1,(hv k hk).2,(hv j hj).1,(hv j hj).2] at h
 exact h
theorem Steps.opaux {g g':Gph} (s:Steps g g') (i:Nat):g'.aux i=g.aux i∧(g'.op i=g.op i∨(g.op i=13∧g'.op i=14)):=by
 induction s with
 |refl=>exact ⟨rfl,.inl rfl⟩
 | @step g1 g2 _ s ih=>
   cases s with
   |red _ _ _ _ _=>exact ih
   | @phi k x h1 h2 _ _ _=>
     refine ⟨ih.1,?_⟩
     show (if i=k then 14 else g1.op i)=g.op i∨(g.op i=13∧(if i=k then 14 else g1.op i)=14)
     by_cases e:i=k
     ·subst e
      rw[if_pos rfl]
      rcases ih.2 with h3|h3
      ·exact .inr ⟨by rw[← h3,h2],rfl⟩
      rw[h3.2] at h2;exact absurd h2 (by decide)
     rw[if_neg e]
     exact ih.2
theorem few_phi {f:Fn} (hf:FewP f) {g':Gph} (hof:PhiOf (toG f) g'):FewP (toF g'):=by
 have hnv:g'.nv=f.vals.length:=hof.steps.same.1
 have hv:∀k,k<f.vals.length→((toF g').v k).aux=(f.v k).aux∧(((toF g').v k).op=(f.v k).op∨((f.v k).op=13∧((toF g').v k).op=14)):=fun k hk=>by
  rw[CJ (show k<g'.nv by omega)]
  exact hof.steps.opaux k
 refine FU ((C8 _).trans hnv) (fun k j hk hj h=>?_) hf
 obtain ⟨a1,a2⟩:=hv k hk
 obtain ⟨b1,b2⟩:=hv j hj
 unfold Alk at h ⊢
 rw[a1,b1] at h
 generalize ((toF g').v k).op=x at *
 generalize ((toF g').v j).op=y at *
 rcases h with ⟨h1,h2⟩|⟨h1,h2⟩
 ·rcases a2 with a2|a2 <;> rcases b2 with b2|b2
  ·exact .inl ⟨by omega,h2⟩
  ·exact .inr ⟨.inl b2.1,.inr (by omega)⟩
  ·exact .inr ⟨.inr (by omega),.inl a2.1⟩
  exact .inr ⟨.inl b2.1,.inl a2.1⟩
 refine .inr ⟨?_,?_⟩ <;> omega
set_option maxHeartbeats 4000000
attribute [local irreducible] EC EL DL Ret thenQ blockQ Bi bodyQ onlyN execOp Sem.run World.cell? World.frozen? World.setCell World.alloc
theorem FnAllRun_ret {w:World} {x vi:Value} {f:Fn} {ins:List Int} (hx:FnV w x f) (hin:IntsV w vi ins) (ht:Tabl w):
 Ret Tryz.prog 7 #[x,vi] w fun v w'=>v= .bool true∧Below w.heap.size w w':=by
 obtain ⟨xv,xb,rfl,hvals,hblks⟩:=hx
 refine ret_of_EC Tryz.func7 rfl rfl ?_
 have hx0:FnV w (.agg #[xv,xb]) f:=⟨xv,xb,rfl,hvals,hblks⟩
 have hin0:=hin
 obtain ⟨ia,ic,rfl,hil⟩:=hin
 obtain ⟨ab,cb,rfl,hbl⟩:=hblks
 obtain ⟨av,cv,rfl,hvl⟩:=hvals
 obtain ⟨B,hBd⟩:∃B,B=w.heap.size:=⟨_,rfl⟩
 refine Ae (Ac (Ab (Br (v:=.agg #[.slice av f.vals.length cv,.slice ab f.blks.length cb]) rfl) rfl (el_new (.cells #[.slice av f.vals.length cv,.slice ab f.blks.length cb] 25) B (by omega) fun wa hN1 hO1 hZ1 hB1 hK1=>(Ab Ah rfl (Af (Aa ?_))))))
 obtain ⟨b1,hb1⟩:∃b1,b1=w.heap.size:=⟨_,rfl⟩
 rw[← hb1] at hN1 ⊢
 have hbw:Below b1 w wa:=by rw[hb1,← hBd];exact hB1
 refine Ae (Ae (Ac (Ab (A0 (cs:=[.slice av f.vals.length cv,.slice ab f.blks.length cb]) rfl (AU rfl) (AZ hN1)) rfl (Bc (AG Tryz.func8 rfl rfl rfl rfl) rfl (fits1_ret (hx0.keep hK1)) ?_))))
 rintro _ w1 ⟨sb,rfl,hfit,hbs⟩
 refine Ab (BS rfl) rfl ?_
 have hb1w:Below b1 w w1:=hbw.trans (hbs.mono (by omega))
 have hsz1:=hbs.size
 cases sb with
 |false=>
  refine Ab Ad rfl (AH rfl rfl (AH rfl rfl (AH rfl rfl (Ab (AQ rfl) rfl (Af (Aa (Bn rfl rfl (Ae (Ac (Ab Ah rfl (Af ?_)))))))))))
  refine Aa (AC (AE ?_))
  exact Ax rfl rfl rfl ⟨rfl,hb1w⟩
 |true=>
 refine Ab Ad rfl (As rfl rfl Ad rfl (As rfl rfl (AM rfl (An rfl)) rfl (As rfl rfl (BF rfl rfl) rfl (Ab (AN rfl) rfl (Af (Aa ?_))))))
 refine AF rfl rfl (fun hlong=>?_) (fun hshort=>?_)
 ·refine Ae (Ac (Ab Ah rfl (Af (Aa (AC (AE ?_))))))
  exact Ax rfl rfl rfl ⟨rfl,hb1w⟩
 refine Ar (Aa ?_)
 obtain ⟨hf1,hf2⟩:=hfit rfl
 have hbx1:w1.heap[b1]? =some (.cells #[.slice av f.vals.length cv,.slice ab f.blks.length cb] 25 (0,0)):=(hbs.block b1 (by omega)).trans hN1
 have hKe1:Keep w w1:=hK1.trans (Keep.of_below hbs (Nat.le_refl _))
 refine Ae (Ac (Ab (A0 (cs:=[.slice av f.vals.length cv,.slice ab f.blks.length cb]) rfl (AU rfl) (AZ hbx1)) rfl (Bc (AG Tryz.func9 rfl rfl rfl rfl) rfl (laws_conv_ret (hx0.keep hKe1) hf1 hf2) ?_)))
 rintro vc w2 ⟨hvc,hbl2⟩
 have hsz2:=hbl2.size
 have hvc0:=hvc
 obtain ⟨cxv,cxb,rfl,cvals,cblks⟩:=hvc
 obtain ⟨cab,ccb,rfl,_⟩:=cblks
 obtain ⟨cav,ccv,rfl,_⟩:=cvals
 refine Ab (A9 DV) rfl (Bb (Be rfl rfl (A7 rfl) rfl rfl) rfl (Af (Aa ?_)))
 have hBle:B≤w2.heap.size:=by omega
 refine ec_new (.cells #[.slice cav f.vals.length ccv,.slice cab f.blks.length ccb] 30) B (by omega) fun w3 hN3 hO3 hZ3 hB3 hK3=>?_
 obtain ⟨b5,hb5⟩:∃b5,b5=w2.heap.size:=⟨_,rfl⟩
 rw[← hb5] at hN3 ⊢
 have hb3w:Below b1 w w3:=(hb1w.trans (hbl2.mono (by omega))).trans ⟨hB3.os,hB3.tape,hB3.output,hB3.size,fun j hj=>hO3 j (by omega)⟩
 have hKe3:Keep w w3:=(hKe1.trans (Keep.of_below hbl2 (Nat.le_refl _))).trans hK3
 have hvc3:=hvc0.keep hK3
 have hbx3:w3.heap[b1]? =some (.cells #[.slice av f.vals.length cv,.slice ab f.blks.length cb] 25 (0,0)):=(hO3 b1 (by omega)).trans ((hbl2.block b1 (by omega)).trans hbx1)
 refine Ae ?_
 have hc:Cells [(⟨b5,0+0,none⟩,.slice cav f.vals.length ccv),(⟨b5,0+1,none⟩,.slice cab f.blks.length ccb),(⟨b1,0+0,none⟩,.slice av f.vals.length cv),(⟨b1,0+1,none⟩,.slice ab f.blks.length cb)] w3.drew:=
  (Keep.drew w3).cells (.cons (Am hN3 rfl) (.cons (Am hN3 rfl) (.cons (Am hbx3 rfl) (.cons (Am hbx3 rfl) (.nil _)))))
 refine AX mixed _ [(0,false),(1,true),(2,false),(3,false),(4,false),(5,true),(6,false),(7,false),(8,false),(9,false),(10,false),(11,false),(12,false),(13,false),(14,false),(15,false),(21,false),(16,true),(17,true),(18,true),(19,true),(20,true),(22,true),(23,false),(24,false)] (by kernel_rfl) hc ?_
 have hbd:Below b1 w w3.drew:=hb3w.drew
 have hKd:Keep w w3.drew:=hKe3.trans (Keep.drew w3)
 have hvd:=hvc3.keep (Keep.drew w3)
 have hszd:b1+1≤w3.drew.heap.size:=by show b1+1≤w3.heap.size;omega
 generalize w3.drew=Wd at hc hbd hKd hvd hszd ⊢
 refine Aj rfl (fun _ hS=>A0 (cs:=[.slice cav f.vals.length ccv,.slice cab f.blks.length ccb]) rfl (AU rfl) (fun j u hj=>by
  rcases j with _|_|j
  ·simp at hj;subst hj;exact hS.get (.head _)
  ·simp at hj;subst hj;exact hS.get (.tail _ (.head _))
  simp at hj)) ?_
 refine BM rfl (AG Tryz.func10 rfl rfl rfl rfl) (Good_ret hvd) ?_
 rintro _ w4 ⟨gb,rfl,hgood,hbl4⟩
 have hK4:=Keep.of_below hbl4 (Nat.le_refl _)
 have hsz4:=hbl4.size
 have hc4:=hK4.cells hc
 refine ⟨.inr hc4,?_⟩
 have hb4:Below b1 w w4:=hbd.trans (hbl4.mono (by omega))
 cases gb with
 |false=>
  refine Aj rfl (fun _ _=>BS rfl) (Aj rfl (fun _ _=>Ad) (AR rfl rfl (BJ rfl rfl (.inr hc4) (AR rfl rfl (Aj rfl (fun _ _=>AQ rfl) (Aj rfl (fun _ _=>Ad) (AR rfl rfl (AR rfl rfl (AR rfl rfl (Aj rfl (fun _ _=>AQ rfl) (Aj rfl (fun _ _=>Ad) ?_)))))))))))
  refine AR rfl rfl (AR rfl rfl (AR rfl rfl (BJ rfl rfl (.inr hc4) (BJ rfl rfl (.inr hc4) (BJ rfl rfl (.inr hc4) (BJ rfl rfl (.inr hc4) (BJ rfl rfl (.inr hc4) (BJ rfl rfl (.inr hc4) (Aj rfl (fun _ _=>AQ rfl) (Aj rfl (fun _ _=>Ah) (AP ?_)))))))))))
  refine Aa (AC ?_)
  exact Ax rfl rfl rfl ⟨rfl,hb4⟩
 |true=>
 refine Aj rfl (fun _ _=>BS rfl) (Aj rfl (fun _ _=>Ad) ?_)
 have hgd:=hgood.1 rfl
 refine AO rfl rfl (fun _ hS=>A0 (cs:=[.slice cav f.vals.length ccv,.slice cab f.blks.length ccb]) rfl (AU rfl) (fun j u hj=>by
  rcases j with _|_|j
  ·simp at hj;subst hj;exact hS.get (.head _)
  ·simp at hj;subst hj;exact hS.get (.tail _ (.head _))
  simp at hj)) ?_
 refine CT rfl rfl (AG Tryz.func16 rfl rfl rfl rfl) (Few_ret (hvd.keep hK4) hgd.wf.nv) ?_
 rintro _ wf ⟨fb,rfl,hfew,hblf⟩
 have hKf:=Keep.of_below hblf (Nat.le_refl _)
 have hszf:=hblf.size
 have hcf:=hKf.cells hc4
 refine ⟨.inr hcf,?_⟩
 have hbf:Below b1 w wf:=hb4.trans (hblf.mono (by omega))
 cases fb with
 |false=>
  refine AO rfl rfl (fun _ _=>BS rfl) (Aj rfl (fun _ _=>AN rfl) (Aj rfl (fun _ _=>Ad) (AR rfl rfl (AR rfl rfl (AR rfl rfl (Aj rfl (fun _ _=>AQ rfl) (Aj rfl (fun _ _=>Ad) (AR rfl rfl (AR rfl rfl (AR rfl rfl (BJ rfl rfl (.inr hcf) ?_)))))))))))
  refine BJ rfl rfl (.inr hcf) (BJ rfl rfl (.inr hcf) (BJ rfl rfl (.inr hcf) (BJ rfl rfl (.inr hcf) (BJ rfl rfl (.inr hcf) (Aj rfl (fun _ _=>AQ rfl) (Aj rfl (fun _ _=>Ah) (AP (Aa (AC ?_)))))))))
  exact Ax rfl rfl rfl ⟨rfl,hbf⟩
 |true=>
 refine AO rfl rfl (fun _ _=>BS rfl) (Aj rfl (fun _ _=>AN rfl) (Aj rfl (fun _ _=>Ad) (AO rfl rfl (fun _ _=>Ad) (AO rfl rfl (fun _ _=>AM rfl (An rfl)) (AO rfl rfl (fun _ _=>BF rfl rfl) (Aj rfl (fun _ _=>AN rfl) (Aj rfl (fun _ _=>Ad) ?_)))))))
 have hfw:=hfew rfl
 by_cases h8:(8:Int)<(ins.length:Int)
 ·rw[decide_eq_true h8]
  refine AR rfl rfl (AR rfl rfl (AR rfl rfl (BJ rfl rfl (.inr hcf) (BJ rfl rfl (.inr hcf) (BJ rfl rfl (.inr hcf) (BJ rfl rfl (.inr hcf) (BJ rfl rfl (.inr hcf) (BJ rfl rfl (.inr hcf) (Aj rfl (fun _ _=>AQ rfl) (Aj rfl (fun _ _=>Ah) (AP ?_)))))))))))
  refine Aa (AC ?_)
  exact Ax rfl rfl rfl ⟨rfl,hbf⟩
 rw[decide_eq_false h8]
 refine AO rfl rfl (fun _ hS=>A0 (cs:=[.slice cav f.vals.length ccv,.slice cab f.blks.length ccb]) rfl (AU rfl) (fun j u hj=>by
  rcases j with _|_|j
  ·simp at hj;subst hj;exact hS.get (.head _)
  ·simp at hj;subst hj;exact hS.get (.tail _ (.head _))
  simp at hj)) ?_
 refine AO rfl rfl (fun _ hS=>A0 (cs:=[.slice av f.vals.length cv,.slice ab f.blks.length cb]) rfl (AU rfl) (fun j u hj=>by
  rcases j with _|_|j
  ·simp at hj;subst hj;exact hS.get (.tail _ (.tail _ (.head _)))
  ·simp at hj;subst hj;exact hS.get (.tail _ (.tail _ (.tail _ (.head _))))
  simp at hj)) ?_
 refine AO rfl rfl (fun _ _=>Ad) (CT rfl rfl (AG Tryz.func18 rfl rfl rfl rfl) (implCse_ret (fw:=True) (((hx0.keep hKd).keep hK4).keep hKf) hgd (((ht.keep hKd).keep hK4).keep hKf) fun _=>hfw.fewG) ?_)
 rintro v1 wc1 ⟨⟨A1,arr1,cls1,P1,rw1,hof1,hv1⟩,hc1b⟩
 have hKc1:=Keep.of_below hc1b (Nat.le_refl _)
 have hsc1:=hc1b.size
 have hcc1:=hKc1.cells hcf
 refine ⟨.inr hcc1,?_⟩
 obtain ⟨gp1,ln1,lb1,rn1⟩:=FD hgd ins hof1
 have fw1:=HI hfw hof1
 generalize toF (((toG f).wa A1).mv (fR rw1))=F1 at hv1 gp1 ln1 lb1 rn1 fw1
 refine CT rfl rfl (AG Tryz.func21 rfl rfl rfl rfl) (implPhi_ret hv1 gp1.wf (ginv_pinv (truthN F1 48) (toG F1)) ⟨gp1.good,rfl,rfl,rfl⟩ fun _ h=>h.good.gok) ?_
 rintro v2 wc2 ⟨⟨g2,hof2,hv2⟩,hc2b⟩
 have hKc2:=Keep.of_below hc2b (Nat.le_refl _)
 have hsc2:=hc2b.size
 have hcc2:=hKc2.cells hcc1
 refine ⟨.inr hcc2,?_⟩
 obtain ⟨gp2,ln2,lb2,rn2⟩:=G5 gp1 ins hof2
 have fw2:=few_phi fw1 hof2
 generalize toF g2=F2 at hv2 gp2 ln2 lb2 rn2 fw2
 refine CT rfl rfl (AG Tryz.func18 rfl rfl rfl rfl) (implCse_ret (fw:=True) hv2 gp2 (((((ht.keep hKd).keep hK4).keep hKf).keep hKc1).keep hKc2) fun _=>fw2.fewG) ?_
 rintro v3 wc3 ⟨⟨A3,arr3,cls3,P3,rw3,hof3,hv3⟩,hc3b⟩
 have hKc3:=Keep.of_below hc3b (Nat.le_refl _)
 have hsc3:=hc3b.size
 have hcc3:=hKc3.cells hcc2
 refine ⟨.inr hcc3,?_⟩
 obtain ⟨gp3,ln3,lb3,rn3⟩:=FD gp2 ins hof3
 generalize toF (((toG F2).wa A3).mv (fR rw3))=F3 at hv3 gp3 ln3 lb3 rn3
 refine CT rfl rfl (AG Tryz.func20 rfl rfl rfl rfl) (implCopy_ret hv3 gp3.wf (ginv_pinv (truthN F3 48) (toG F3)) ⟨gp3.good,rfl,rfl,rfl⟩ fun _ h=>h.good.gok) ?_
 rintro vg w5 ⟨⟨g4,hof4,hvg⟩,hbl5⟩
 have hK5:=Keep.of_below hbl5 (Nat.le_refl _)
 have hsz5:=hbl5.size
 have hc5:=hK5.cells hcc3
 refine ⟨.inr hc5,?_⟩
 obtain ⟨hgp,hl1,hl2,hrun⟩:=G1 gp3 ins hof4
 generalize toF g4=F' at hvg hgp hl1 hl2 hrun
 have hb5:Below b1 w w5:=(((hbf.trans (hc1b.mono (by omega))).trans (hc2b.mono (by omega))).trans (hc3b.mono (by omega))).trans (hbl5.mono (by omega))
 have hKa:Keep wf w5:=((hKc1.trans hKc2).trans hKc3).trans hK5
 refine CT rfl rfl (AG Tryz.func9 rfl rfl rfl rfl) (laws_conv_ret hvg (by have:=hgp.wf.nv;omega) (by have:=hgp.wf.nb;omega)) ?_
 rintro vh w6 ⟨hvh,hbl6⟩
 have hK6:=Keep.of_below hbl6 (Nat.le_refl _)
 have hsz6:=hbl6.size
 have hc6:=hK6.cells hc5
 refine ⟨.inr hc6,?_⟩
 refine CT rfl rfl (AG Tryz.func17 rfl rfl rfl rfl) (means_ret ((((hvd.keep hK4).keep hKf).keep hKa).keep hK6) hvh (((((hin0.keep hKd).keep hK4).keep hKf).keep hKa).keep hK6) hgd hgp (by omega) (by omega) (((rn1.trans rn2).trans rn3).trans hrun)) ?_
 rintro _ w7 ⟨rfl,hbl7⟩
 refine ⟨.inr ((Keep.of_below hbl7 (Nat.le_refl _)).cells hc6),?_⟩
 refine Aj rfl (fun _ _=>AN rfl) (Aj rfl (fun _ _=>Ah) (AP (Aa (AC ?_))))
 exact Ax rfl rfl rfl ⟨rfl,(hb5.trans (hbl6.mono (by omega))).trans (hbl7.mono (by omega))⟩
end Go.Proofs.YteepnepebilckaaGreatDoor
namespace Go.Proofs.YteepnepebilckaaGreatDoor
open Go Go.ChangeShapes Go.WideShapes Go.ChangeAt Go.RowKit Go.Deep Go.Joins
section
variable {H : Type} {enc : TypeId × Value → H} {w : World} {spare : Nat → Bool}
theorem len4 {α:Type} {l:List α} (h:l.length=4):∃a b c d,l=[a,b,c,d]:=by
 match l,h with
 | [a,b,c,d],_=>exact ⟨a,b,c,d,rfl⟩
theorem open_intsV {t e:TypeId} {fuel:Nat} {v:Value} {x:DataW H×List MemPlace} (ht:Tryz.prog.underlying t=some (.slice e)) (he:Tryz.prog.underlying e=some (.int .i64)) (hc:Tryz.prog.cellsOf e=1)
 (h:DataW.trod enc Tryz.prog w 0 (fun _=>true) true fuel t [v]=some x):∃l,IntsV w v l:=by
 rcases open_ints ht he hc h with ⟨h1,_⟩|⟨a,len,cap,zs,h1,_,hl,_,hz,_,hcell,_⟩
 ·simp only [List.cons.injEq,and_true] at h1
  subst h1
  exact ⟨[],none,0,rfl,Nat.le_refl _,.inl rfl⟩
 simp only [List.cons.injEq,and_true] at h1
 subst h1
 simp only [if_true] at hz
 have hlen:(zs.take len).length=len:=by rw[List.length_take];omega
 refine ⟨zs.take len,some a,cap,by rw[hlen],by rw[hlen];exact hl,?_⟩
 cases len with
 |zero=>exact .inl (by simp)
 |succ n=>
  right
  obtain ⟨b,o,spot⟩:=a
  have h0:=hcell 0 (by omega)
  have hs:spot=none:=by
   have:=World.cell?_spot h0
   simpa [Addr.add] using this
  subst hs
  refine ⟨b,o,rfl,fun k hk=>?_⟩
  rw[hlen] at hk
  have h1:=hcell k (by omega)
  rw[add_plain] at h1
  have hg:(zs.take (n+1)).getD k 0=zs.getD k 0:=by
   rw[List.getD_eq_getElem?_getD,List.getD_eq_getElem?_getD,List.getElem?_take,if_pos hk]
  rw[h1,hg]
theorem Em {t:TypeId} {f0 f1 f2 f3:Field} {fuel:Nat} {b o:Nat} {cs:List Value} {x:DataW H×List MemPlace}
 (ht:Tryz.prog.underlying t=some (.struct #[f0,f1,f2,f3])) (hC:Tryz.prog.cellsOf t=4)
 (h0:f0.offset=0∧Tryz.prog.cellsOf f0.type=1∧Tryz.prog.underlying f0.type=some (.int .i64)) (h1:f1.offset=1∧Tryz.prog.cellsOf f1.type=1∧Tryz.prog.underlying f1.type=some (.int .i64))
 (h2:f2.offset=2∧Tryz.prog.cellsOf f2.type=1∧f2.type=35) (h3:f3.offset=3∧Tryz.prog.cellsOf f3.type=1∧Tryz.prog.underlying f3.type=some (.int .i64))
 (hcs:∀i,i<4→w.cell? ⟨b,o+i,none⟩=cs[i]?)
 (h:DataW.trod enc Tryz.prog w 0 (fun _=>true) true fuel t cs=some x):∃p q l z,Quad w b o p q l z:=by
 obtain ⟨xs,n,_,_,hl,hx,hf⟩:=DataW.trod_struct ht h
 rw[hC] at hl
 obtain ⟨c0,c1,c2,c3,rfl⟩:=len4 hl
 obtain ⟨y0,y1,y2,y3,rfl⟩:=len4 (hx.trans rfl)
 have k0:=hf 0 f0 rfl
 have k1:=hf 1 f1 rfl
 have k2:=hf 2 f2 rfl
 have k3:=hf 3 f3 rfl
 rw[h0.1,h0.2.1] at k0
 rw[h1.1,h1.2.1] at k1
 rw[h2.1,h2.2.1,h2.2.2] at k2
 rw[h3.1,h3.2.1] at k3
 obtain ⟨p,e0,_⟩:=DataW.trod_int h0.2.2 (show DataW.trod enc Tryz.prog w 0 (fun _=>true) true n f0.type [c0]=some y0 from k0)
 obtain ⟨q,e1,_⟩:=DataW.trod_int h1.2.2 (show DataW.trod enc Tryz.prog w 0 (fun _=>true) true n f1.type [c1]=some y1 from k1)
 obtain ⟨z,e3,_⟩:=DataW.trod_int h3.2.2 (show DataW.trod enc Tryz.prog w 0 (fun _=>true) true n f3.type [c3]=some y3 from k3)
 obtain ⟨l,hli⟩:=open_intsV Tryz.underlying35 Tryz.underlying3 (by kernel_rfl) (show DataW.trod enc Tryz.prog w 0 (fun _=>true) true n 35 [c2]=some y2 from k2)
 simp only [List.cons.injEq,and_true] at e0 e1 e3
 subst e0;subst e1;subst e3
 refine ⟨p,q,l,z,c2,fun j v hj=>?_,hli⟩
 have hlt:j<4:=by
  have:=(List.getElem?_eq_some_iff.1 hj).1
  simpa using this
 rw[hcs j hlt];exact hj
theorem open_vals {fuel:Nat} {v:Value} {x:DataW H×List MemPlace} (h:DataW.trod enc Tryz.prog w 0 (fun _=>true) true fuel 22 [v]=some x):∃l,ValsV w v l:=by
 rcases open_slice Tryz.underlying22 h with ⟨h1,_⟩|⟨a,len,cap,m,n,D,Pl,h1,_,hl,_,hm,_,hx⟩
 ·simp only [List.cons.injEq,and_true] at h1
  subst h1
  exact ⟨[],none,0,rfl,.inl rfl⟩
 simp only [List.cons.injEq,and_true] at h1
 subst h1
 simp only [if_true] at hm
 have hC:Tryz.prog.cellsOf 48=4:=by kernel_rfl
 cases len with
 |zero=>exact ⟨[],some a,cap,rfl,.inl rfl⟩
 |succ k=>
  obtain ⟨b,o,spot⟩:=a
  have hs:spot=none:=by
   obtain ⟨cs',h2,_⟩:=hx 0 (by omega)
   obtain ⟨_,h3,h4⟩:=World.cells?_some h2
   have h5:=h4 0 (by rw[hC];omega)
   rw[List.getElem?_eq_getElem (by omega)] at h5
   have:=World.cell?_spot h5
   simpa [Addr.add] using this
  subst hs
  have hq:∀i,i<k+1→∃(y:Int×Int×List Int×Int),Quad w b (o+i * 4) y.1 y.2.1 y.2.2.1 y.2.2.2:=fun i hi=>by
   obtain ⟨cs',h2,h3⟩:=hx i (by omega)
   rw[hC] at h2
   obtain ⟨_,h4,h5⟩:=World.cells?_some h2
   obtain ⟨p,q,l,z,hq⟩:=Em (b:=b) (o:=o+i * 4) Tryz.underlying48 hC ⟨rfl,by kernel_rfl,Tryz.underlying3⟩ ⟨rfl,by kernel_rfl,Tryz.underlying3⟩ ⟨rfl,by kernel_rfl,rfl⟩ ⟨rfl,by kernel_rfl,Tryz.underlying2⟩ (fun j hj=>by
    have:=h5 j hj
    rw[add_plain,add_plain] at this
    exact this) h3
   exact ⟨(p,q,l,z),hq⟩
  obtain ⟨Y,hY⟩:=choose_lt hq
  refine ⟨(List.range (k+1)).map fun i=>⟨(Y i).1,(Y i).2.1,(Y i).2.2.1,(Y i).2.2.2⟩,some ⟨b,o,none⟩,cap,by simp,.inr ⟨b,o,rfl,fun i hi=>?_⟩⟩
  have hi':i<k+1:=by simpa using hi
  rw[List.getD_eq_getElem?_getD,List.getElem?_map,List.getElem?_range hi']
  exact hY i hi'
theorem open_blks {fuel:Nat} {v:Value} {x:DataW H×List MemPlace} (h:DataW.trod enc Tryz.prog w 0 (fun _=>true) true fuel 23 [v]=some x):∃l,BlksV w v l:=by
 rcases open_slice Tryz.underlying23 h with ⟨h1,_⟩|⟨a,len,cap,m,n,D,Pl,h1,_,hl,_,hm,_,hx⟩
 ·simp only [List.cons.injEq,and_true] at h1
  subst h1
  exact ⟨[],none,0,rfl,.inl rfl⟩
 simp only [List.cons.injEq,and_true] at h1
 subst h1
 simp only [if_true] at hm
 have hC:Tryz.prog.cellsOf 53=4:=by kernel_rfl
 cases len with
 |zero=>exact ⟨[],some a,cap,rfl,.inl rfl⟩
 |succ k=>
  obtain ⟨b,o,spot⟩:=a
  have hs:spot=none:=by
   obtain ⟨cs',h2,_⟩:=hx 0 (by omega)
   obtain ⟨_,h3,h4⟩:=World.cells?_some h2
   have h5:=h4 0 (by rw[hC];omega)
   rw[List.getElem?_eq_getElem (by omega)] at h5
   have:=World.cell?_spot h5
   simpa [Addr.add] using this
  subst hs
  have hq:∀i,i<k+1→∃(y:Int×Int×List Int×Int),Quad w b (o+i * 4) y.1 y.2.1 y.2.2.1 y.2.2.2:=fun i hi=>by
   obtain ⟨cs',h2,h3⟩:=hx i (by omega)
   rw[hC] at h2
   obtain ⟨_,h4,h5⟩:=World.cells?_some h2
   obtain ⟨p,q,l,z,hq⟩:=Em (b:=b) (o:=o+i * 4) Tryz.underlying53 hC ⟨rfl,by kernel_rfl,Tryz.underlying3⟩ ⟨rfl,by kernel_rfl,Tryz.underlying3⟩ ⟨rfl,by kernel_rfl,rfl⟩ ⟨rfl,by kernel_rfl,Tryz.underlying3⟩ (fun j hj=>by
    have:=h5 j hj
    rw[add_plain,add_plain] at this
    exact this) h3
   exact ⟨(p,q,l,z),hq⟩
  obtain ⟨Y,hY⟩:=choose_lt hq
  refine ⟨(List.range (k+1)).map fun i=>⟨(Y i).1,(Y i).2.1,(Y i).2.2.1,(Y i).2.2.2⟩,some ⟨b,o,none⟩,cap,by simp,.inr ⟨b,o,rfl,fun i hi=>?_⟩⟩
  have hi':i<k+1:=by simpa using hi
  rw[List.getD_eq_getElem?_getD,List.getElem?_map,List.getElem?_range hi']
  exact hY i hi'
set_option maxRecDepth 100000 in
theorem HP {r:Reach} {b0:Nat} {v:Value} {d:DataW H} {p:List MemPlace} (hv:Value.okWide Tryz.prog w r b0 25 v)
 (h:DataW.Trod enc Tryz.prog w 0 (fun _=>true) true 25 v d p):∃f,FnV w v f:=by
 obtain ⟨v0,v1,y0,y1,n,rfl,_,_,h0,h1⟩:=open_agg2 Tryz.underlying25 (by kernel_rfl) (by kernel_rfl) hv h
 obtain ⟨l0,k0⟩:=open_vals h0
 obtain ⟨l1,k1⟩:=open_blks h1
 exact ⟨⟨l0,l1⟩,v0,v1,rfl,k0,k1⟩
set_option maxRecDepth 100000 in
theorem Hn {r:Reach} {b0:Nat} {v:Value} {d:DataW H} {p:List MemPlace} (hv:Value.okWide Tryz.prog w r b0 42 v)
 (h:DataW.Trod enc Tryz.prog w 0 (fun _=>true) true 42 v d p):∃l,IntsV w v l:=by
 obtain ⟨a,n,c,rfl⟩:=okWide_slice Tryz.underlying42 hv
 obtain ⟨fuel,hf⟩:=h
 exact open_intsV Tryz.underlying42 Tryz.underlying2 (by kernel_rfl) (show DataW.trod enc Tryz.prog w 0 (fun _=>true) true fuel 42 [.slice a n c]=some (d,p) from hf)
end
theorem ownK:ownKnob Tryz.prog.godebug=none:=by kernel_rfl
theorem Ga:laidOutB Tryz.prog=true:=by kernel_rfl
end Go.Proofs.YteepnepebilckaaGreatDoor
namespace Go.Proofs.YteepnepebilckaaGreatDoor
open Go Go.ChangeShapes Go.WideShapes Go.ChangeAt Go.WideElems Go.RowKit Go.Deep Go.Joins
def EN:String:= "loop.example/pub-passesoverblocks/pub/ssapasses.opcodeTable"
def EO:List (String×DataW Unit):=[(EN,Rows.laid_loop_example_pub_passesoverblocks_pub_ssapasses_opcodeTable)]
theorem gOp:Tryz.prog.globalNamed EN=some 0:=by kernel_rfl
theorem tOp:(Tryz.prog.globals[0]?).map (·.type)=some 117:=by kernel_rfl
theorem gs_one {H:Type} {enc:TypeId×Value→H} {W:World} {sp:Nat→Bool} {gs:List (DataW H)} {q:List MemPlace} (h:DataW.TrodVars enc Tryz.prog W sp [EN] gs q):∃d,gs=[d]:=by
 obtain ⟨_,_,_,_,d,_,e,_⟩:=trodVars_one h
 exact ⟨d,e⟩
set_option maxRecDepth 100000 in
theorem Hp (os:Os) (args:Array Value):laidMetH Tryz.prog EO ((World.doorLaid Tryz.prog 22 os).forCall (fun _ _=>0) ⟨#[],args,[]⟩).memory:=
 laidMetH_of_parts3 (fuel:=8) (laidMet_of_run' 8 (by kernel_rfl) (by kernel_rfl)) (by kernel_rfl) (by kernel_rfl)
theorem Gj:∀k,k<21→ [false,false,true,false,true,true,true,true,false,false,false,true,true,false,false,false,false,false,false,false,false][k]? =some (comm k):=by decide
set_option maxRecDepth 100000 in
theorem tabl_of_laid {W:World} (h:laidMetH Tryz.prog EO W):Tabl W:=by
 rw[MakeChecks.laidMetH_plain _ _ _ (by kernel_rfl)] at h
 obtain ⟨ps,⟨g0,t0,cs0,f0,p0,q0,hg0,ht0,hv0,hd0,_⟩,_,_⟩:=h
 obtain rfl:=Option.some.inj (gOp.symm.trans hg0)
 obtain rfl:=Option.some.inj (tOp.symm.trans ht0)
 intro k hk
 have hc:=World.var?_cell hg0 hv0 k
 obtain ⟨xs,m1,rfl,hx1,hlen,hn3,hel⟩:=DataW.trod_array Tryz.underlying117 hd0
 have c1:Tryz.prog.cellsOf 116=1:=by kernel_rfl
 have cb:Tryz.prog.cellsOf 4=1:=by kernel_rfl
 have h0:=hel k hk
 rw[c1,Nat.mul_one] at h0
 simp only [Prod.mk.injEq] at hx1
 have hxs:(xs.map (·.1))[k]? =some (.agg [.lit (.bool (comm k))]):=by
  have e:DataW.agg (xs.map (·.1))=(.agg (([false,false,true,false,true,true,true,true,false,false,false,true,true,false,false,false,false,false,false,false,false]:List Bool).map fun b=>.agg [.lit (.bool b)]):DataW Unit):=hx1.1.symm
  injection e with e
  rw[e,List.getElem?_map,Gj k hk]
  rfl
 obtain ⟨y,hy,hy2⟩:∃y,xs[k]? =some y∧y.1= .agg [.lit (.bool (comm k))]:=by
  rw[List.getElem?_map] at hxs
  obtain ⟨y,h1,h2⟩:=Option.map_eq_some_iff.1 hxs
  exact ⟨y,h1,h2⟩
 rw[hy] at h0
 obtain ⟨y0,n,e1,hl,h1⟩:=trod_struct1 Tryz.underlying116 h0
 rw[e1] at hy2
 injection hy2 with hy2
 injection hy2 with hy2 _
 rw[c1] at hl
 have hlk:k<cs0.toList.length:=by
  rw[List.length_take,List.length_drop] at hl
  omega
 have hd:(cs0.toList.drop k).take 1=[cs0.toList[k]]:=by
  rw[List.drop_eq_getElem_cons hlk];rfl
 rw[hd] at h1
 have h1:DataW.trod (fun _=>()) Tryz.prog W 0 (fun _=>true) false n 4 [cs0.toList[k]]=some y0:=by
  have:(([cs0.toList[k]].drop 0).take (Tryz.prog.cellsOf 4))=[cs0.toList[k]]:=by rw[cb];rfl
  rw[← this];exact h1
 obtain ⟨b,e2,e3⟩:=DataW.trod_bool Tryz.underlying4 h1
 rw[hc]
 have hk2:k<cs0.size:=by simpa using hlk
 rw[Array.getElem?_eq_getElem hk2]
 simp only [List.cons.injEq,and_true] at e2
 have e4:cs0[k]= .bool b:=by simpa using e2
 rw[e4]
 rw[e3] at hy2
 injection hy2 with hy2
 injection hy2 with hy2
 rw[hy2]
end Go.Proofs.YteepnepebilckaaGreatDoor
namespace Go.Proofs.YteepnepebilckaaGreatDoor
open Go Go.ChangeShapes Go.WideShapes Go.ChangeAt Go.WideElems Go.RowKit Go.Deep Go.Joins
set_option maxRecDepth 100000 in
theorem fnAllRun_lifted (os:Os) (started:os.Started) (H:Type) (enc:TypeId×Value→H):
 ReturnsInHanded {} Tryz.checked os 7 .any (fun w args=>(Rows.fnAllRunSpec.pre enc Tryz.prog Tryz.f7 [] false w args∧laidMetH Tryz.prog EO w)∧sizedMet enc Tryz.prog Tryz.f7 (OpenSpec.ofChange Rows.fnAllRunSpec) false w args) (Rows.fnAllRunSpec.post enc Tryz.prog Tryz.f7 false true false false):=by
 refine returnsInHanded_of_change_and (C:=Tryz.checked) (X:=fun w _=>laidMetH Tryz.prog EO w) (fun _ _ _ hh h=>h.of_heap hh) ownK started (by kernel_rfl) Tryz.func7
  (ChangeSpec.witness_shaped (enc:=enc) (C:=Tryz.checked) (os:=os) (X:=fun w _=>laidMetH Tryz.prog EO w) false (World.doorLaid Tryz.prog 22 os) #[.agg #[.slice none 0 0,.slice none 0 0],.slice none 0 0] 8 rfl (World.shaped_of_RefB (by kernel_rfl) (by kernel_rfl)) (by kernel_rfl) (by kernel_rfl) (by kernel_rfl) (Hp os _)) ?_
 intro W base args ds gs before hval0 hW _ _ hL _
 have hval:∀(j:Nat) t v,Tryz.f7.params[j]? =some t→args[j]? =some v→Value.okWide Tryz.prog W .any base t v:=hval0
 have hW':=hW
 obtain ⟨p,q,hA0,hV0,rfl,hfz,hnd⟩:=hW
 have hV:DataW.TrodVars enc Tryz.prog W (fun _=>true) [EN] gs q:=hV0
 have hA:DataW.TrodAll enc Tryz.prog W 0 (fun _=>true) true Tryz.f7.params.toList args.toList ds p:=hA0
 rw[Tryz.params7] at hA hval
 obtain ⟨v0,v1,d0,d1,p0,p1,rfl,rfl,rfl,h0,h1⟩:=trodAll_two hA
 obtain ⟨gd,rfl⟩:=gs_one hV
 obtain ⟨f,hf⟩:=HP (hval 0 25 v0 rfl rfl) h0
 obtain ⟨ins,hin⟩:=Hn (hval 1 42 v1 rfl rfl) h1
 have hlt:∀x∈p0 ++ p1,x.block<W.heap.size:=fun x hx=>hW'.lt x (List.mem_append_left _ hx)
 have ht:=tabl_of_laid hL
 clear hA0 hval0
 refine Calls.mono (FnAllRun_ret hf hin ht) fun e W' ⟨v,he,hv,hb⟩=>?_
 subst he;subst hv
 refine ⟨_,rfl,_,_,_,[],p0 ++ p1,q,hW',trodAll_mk1 (shut_bool Tryz.underlying4 true),trodAll_mk2 ?_ ?_,Below.trodVars Ga hb (by kernel_rfl) hV,hb.frame _,fun h=>by cases h⟩
 ·exact WideElems.Trod_stays Ga (by kernel_rfl) (of_decide_eq_true (by kernel_rfl)) h0 (fun x hx=>hb.same (hlt x (List.mem_append.2 (.inl hx)))) (fun x hx=>by simpa using hlt x (List.mem_append.2 (.inl hx)))
 exact WideElems.Trod_stays Ga (by kernel_rfl) (of_decide_eq_true (by kernel_rfl)) h1 (fun x hx=>hb.same (hlt x (List.mem_append.2 (.inr hx)))) (fun x hx=>by simpa using hlt x (List.mem_append.2 (.inr hx)))
theorem fnAllRun_holds:Rows.FnAllRunSaid:=
 OpenClaim.holds_of_wide 7 Tryz.f7 rfl rfl rfl rfl rfl rfl rfl ⟨rfl,rfl,rfl,rfl,rfl⟩ rfl rfl rfl rfl rfl (by kernel_rfl) Tryz.func7 (by kernel_rfl)
  (of_decide_eq_true (by kernel_rfl)) (by unfold Func.isWrapper;first|(rw [if_pos (by decide +kernel)];kernel_rfl)|(rw [if_neg (by decide +kernel)];exact ⟨rfl,rfl⟩))
  (fun os started H enc _=>fnAllRun_lifted os started H enc)
theorem fnAllRun_card:Rows.FnAllRunCardSaid:=
 Claim7.holds_tied_plain_at .later [] [.data] true (true,"4ef5ec6ea8e1c4f87708987f2a68e2b2e34fd6bc534d37cce04b16d691dee687") false
  fnAllRun_holds (fun _ h=>by cases h) (by kernel_rfl) (fun _ h=>by cases h) fnAllRun_row_tie rfl ⟨rfl,rfl⟩ (by kernel_rfl) rfl
  (fun f fn hf hfn=>by
    obtain rfl:f=7:=Option.some.inj ((show Tryz.prog.funcNamed "loop.example/pub-passesoverblocks/laws.FnAllRun" =some 7 by kernel_rfl).symm.trans hf) |>.symm
    obtain rfl:fn=Tryz.f7:=(Option.some.inj (Tryz.func7.symm.trans hfn)).symm
    exact ⟨by kernel_rfl,fun j t ht=>by
     rw[Tryz.params7] at ht
     have h3:t=25∨t=42:=by
      rcases j with _|_|j
      ·simp at ht;simp [ht]
      ·simp at ht;try simp [ht]
      simp at ht
     exact h3.elim (fun e=>e ▸ (show Tryz.prog.wantsStandIn 25=false by kernel_rfl)) (fun e=>e ▸ (show Tryz.prog.wantsStandIn 42=false by kernel_rfl))⟩)
  (by kernel_rfl)
end Go.Proofs.YteepnepebilckaaGreatDoor
