/- The law FnCseOver returns true for every input in which the opcode table reads as laid, and its argument reads as it did, the table being tied to the text of the program. -/
import Derived.Test.YteepnepebilckaaGreatDoorCV12
namespace Go.Proofs.YteepnepebilckaaGreatDoor
open Go Go.Eng Go.RowKit
set_option maxHeartbeats 4000000
attribute [local irreducible] EC EL DL Ret thenQ blockQ Bi bodyQ onlyN execOp Sem.run World.cell? World.frozen? World.setCell World.alloc
def Ct (k:Int):Int:=if k=0 then 1 else if k=1 then 2 else 0
def DJ (b:Bk):Prop:=((((b.kind<0∨2<b.kind)∨(b.succs.length:Int)≠Ct b.kind)∨b.likely< -1)∨1<b.likely)∨(b.kind≠1∧b.likely≠0)
def De (n:Nat) (b:Bk):Prop:=(b.kind=0∧b.ctrl≠ -1)∨(b.kind≠0∧(b.ctrl<0∨(n:Int)≤b.ctrl))
instance (n:Nat) (b:Bk):Decidable (De n b):=inferInstanceAs (Decidable (_∨_))
structure BlkOk (f:Fn) (b:Bk):Prop where
 one:¬ DJ b
 two:¬ De f.vals.length b
 succs:∀s∈b.succs,1≤s∧s<f.blks.length
structure ShapeP (f:Fn):Prop where
 one:1≤f.blks.length
 nb:f.blks.length≤9
 nv:f.vals.length≤48
 blk:∀b,b<f.blks.length→BlkOk f (f.b b)
 rch:∀b,b<f.blks.length→Rch f (-1) b
theorem shape_ret {w:World} {x:Value} {f:Fn} (hx:FnV w x f):
 Ret Tryz.prog 24 #[x] w fun v w'=>∃b,v= .bool b∧(b=true↔ShapeP f)∧Below w.heap.size w w':=by
 obtain ⟨xv,xb,rfl,hvals,hblks⟩:=hx
 refine ret_of_EC Tryz.func24 rfl rfl ?_
 have hx0:FnV w (.agg #[xv,xb]) f:=⟨xv,xb,rfl,hvals,hblks⟩
 obtain ⟨ab,cb,rfl,hbl⟩:=hblks
 obtain ⟨av,cv,rfl,hvl⟩:=hvals
 obtain ⟨B,hBd⟩:∃B,B=w.heap.size:=⟨_,rfl⟩
 refine Ae (Ac (Ab (Bv (v:=.agg #[.slice av f.vals.length cv,.slice ab f.blks.length cb]) rfl) rfl (el_new (.cells #[.slice av f.vals.length cv,.slice ab f.blks.length cb] 30) B (by omega) fun wa hN1 hO1 hZ1 hB1 hK1=>(Ab Ah rfl (Af (Aa ?_))))))
 obtain ⟨b1,hb1⟩:∃b1,b1=w.heap.size:=⟨_,rfl⟩
 rw[← hb1] at hN1 ⊢
 have g1:wa.cell? ⟨b1,0+1,none⟩=some (.slice ab f.blks.length cb):=Am hN1 rfl
 have g0:wa.cell? ⟨b1,0+0,none⟩=some (.slice av f.vals.length cv):=Am hN1 rfl
 have hbw:Below b1 w wa:=by rw[hb1,← hBd];exact hB1
 refine Ae (Ae (Ac (Ab (Al rfl (Ak rfl)) rfl (Ab (Ai rfl (Ag rfl) ‹_›) rfl ?_))))
 refine Ab (AN rfl (An rfl)) rfl (Ab (AX rfl rfl) rfl (Ab Ad rfl ?_))
 refine Cm 5 (fun e w'=>w'=wa∧At e [(19,.bool (decide ((f.blks.length:Int)<1∨(9:Int)<(f.blks.length:Int)))),(1,.pointer (some ⟨b1,0,none⟩))]) ?_ ?_
 ·by_cases h1:(f.blks.length:Int)<1
  ·rw[decide_eq_true h1]
   refine AF rfl rfl (AF rfl rfl (AF rfl rfl (AF rfl rfl (Ab (AV rfl) rfl (Af ?_)))))
   exact ⟨rfl,Ar rfl ⟨congrArg Value.bool (decide_eq_true (.inl h1)).symm,rfl,trivial⟩⟩
  rw[decide_eq_false h1]
  refine Av rfl rfl (Al rfl (Ak rfl)) rfl (Av rfl rfl (Ai rfl (Ag rfl) ‹_›) rfl ?_)
  refine Av rfl rfl (AN rfl (An rfl)) rfl (Av rfl rfl (BE rfl rfl) rfl (Ab (AM rfl) rfl (Af ?_)))
  by_cases h2:(9:Int)<(f.blks.length:Int)
  ·rw[decide_eq_true h2]
   exact ⟨rfl,Ar rfl ⟨congrArg Value.bool (decide_eq_true (.inr h2)).symm,rfl,trivial⟩⟩
  rw[decide_eq_false h2]
  exact ⟨rfl,Ar rfl ⟨congrArg Value.bool (decide_eq_false (fun h=>h.elim h1 h2)).symm,rfl,trivial⟩⟩
 rintro e w' ⟨rfl,t,rfl⟩
 refine Cm 6 (fun e w''=>w''=w'∧At e [(25,.bool (decide (((f.blks.length:Int)<1∨(9:Int)<(f.blks.length:Int))∨(48:Int)<(f.vals.length:Int)))),(1,.pointer (some ⟨b1,0,none⟩))]) ?_ ?_
 ·refine Ab Ad rfl ?_
  by_cases h1:(f.blks.length:Int)<1∨(9:Int)<(f.blks.length:Int)
  ·rw[decide_eq_true h1]
   refine AF rfl rfl (AF rfl rfl (AF rfl rfl (AF rfl rfl (Ab (AV rfl) rfl (Af ?_)))))
   exact ⟨rfl,Ar rfl ⟨congrArg Value.bool (decide_eq_true (.inl h1)).symm,rfl,trivial⟩⟩
  rw[decide_eq_false h1]
  refine Av rfl rfl (Al rfl (Ak rfl)) rfl (Av rfl rfl (Ai rfl (Ag rfl) ‹_›) rfl ?_)
  refine Av rfl rfl (AN rfl (An rfl)) rfl (Av rfl rfl (BE rfl rfl) rfl (Ab (AM rfl) rfl (Af ?_)))
  by_cases h2:(48:Int)<(f.vals.length:Int)
  ·rw[decide_eq_true h2]
   exact ⟨rfl,Ar rfl ⟨congrArg Value.bool (decide_eq_true (.inr h2)).symm,rfl,trivial⟩⟩
  rw[decide_eq_false h2]
  exact ⟨rfl,Ar rfl ⟨congrArg Value.bool (decide_eq_false (fun h=>h.elim h1 h2)).symm,rfl,trivial⟩⟩
 rintro e w'' ⟨rfl,t,rfl⟩
 refine Af (Aa ?_)
 refine AI rfl rfl (fun hbad=>?_) (fun hgood=>?_)
 ·refine Ae (Ac (Ab Ah rfl (Af (Aa (AE (AO ?_))))))
  refine Az rfl rfl rfl ⟨false,rfl,⟨fun h=>(by cases h),fun h=>?_⟩,hbw⟩
  have h1:=h.one
  have h2:=h.nb
  have h3:=h.nv
  omega
 refine Aq (Aa ?_)
 have hone:1≤f.blks.length:=by omega
 have hnb:f.blks.length≤9:=by omega
 have hnv:f.vals.length≤48:=by omega
 clear hgood
 obtain ⟨SA,hSA⟩:∃SA,SA=w''.heap.size:=⟨_,rfl⟩
 have hSAw:SA=w.heap.size+1:=hSA.trans hZ1
 refine Cg (fun e wr=>At e [(1,.pointer (some ⟨b1,0,none⟩))]∧Below SA w'' wr∧∀b,b<f.blks.length→BlkOk f (f.b b)) ?_ ?_
 ·refine Ae (Ac (Ab (Al rfl (Ak rfl)) rfl (Ab (Ai rfl (Ag rfl) ‹_›) rfl ?_)))
  refine Ab (AN rfl (An rfl)) rfl (Ab Ad rfl (Af (Aa (Ao ?_))))
  refine EC_loop (fun n e wr=>∃k,k≤f.blks.length∧At e [(1,.pointer (some ⟨b1,0,none⟩)),(27,.slice ab f.blks.length cb),(28,.int .i64 (f.blks.length:Int)),(29,.int .i64 (k:Int))]∧Below SA w'' wr∧(∀b,b<k→BlkOk f (f.b b))∧n=f.blks.length - k) f.blks.length
   ⟨0,Nat.zero_le _,Ar rfl ⟨rfl,rfl,rfl,rfl,trivial⟩,Below.refl _ _,fun b hb=>absurd hb (Nat.not_lt_zero _),rfl⟩ ?_
  rintro n e wr ⟨k,hk,⟨t,rfl⟩,hb,hok,rfl⟩
  refine Ae (Ac (Ab (AX rfl rfl) rfl (Af (Aa (Ae ?_)))))
  refine AI rfl rfl (fun hlt=>?_) (fun hge=>?_)
  rotate_left
  ·have hk:k=f.blks.length:=by omega
   subst hk
   refine AK (AB (AD (AA ?_)))
   exact C5 ⟨Ar rfl ⟨rfl,trivial⟩,hb,hok⟩
  have hlt:k<f.blks.length:=by omega
  obtain ⟨bb,ob,rfl,hq⟩:=hbl.resolve_left (fun e=>by rw[e] at hlt;simp at hlt)
  obtain ⟨s0,hcells0,⟨sa,sc,rfl,hints⟩⟩:=hq k hlt
  have hKr:Keep w wr:=hK1.trans (Keep.of_below hb (by omega))
  have hcells:=hcells0.keep hKr
  have hszr:=hb.size
  refine Aq (Aa (Ae (Ao (Ae (Ac (Ab (A5 (n:=4) rfl rfl (An rfl) hlt) rfl (Ab (A4 rfl (A0 rfl) hcells) rfl (Ab (A9 Ew) rfl (Bc (Bb rfl rfl (A7 rfl) rfl rfl) rfl (Af (Aa ?_)))))))))))
  have ho:(f.blks.getD k default)=f.b k:=rfl
  simp only [ho] at hcells hints ⊢
  have hBle:B≤wr.heap.size:=by omega
  refine ec_new (.cells #[.int .i64 (f.b k).kind,.int .i64 (f.b k).ctrl,.slice sa (f.b k).succs.length sc,.int .i64 (f.b k).likely] 54) B (by omega) fun W hN3 hO3 hZ3 hB3 hK3=>?_
  obtain ⟨V,hV⟩:∃V,V=wr.heap.size:=⟨_,rfl⟩
  rw[← hV] at hN3 ⊢
  have hbW:Below SA w'' W:=hb.trans ⟨hB3.os,hB3.tape,hB3.output,hB3.size,fun j hj=>hO3 j (by omega)⟩
  have key3:∀{W:World} {ρ:Operand→Value} {d:Option Tmp} {ty:TypeId} {pos:String} {af:Array Edge} {g:Option (Nat×Bool)} {x0 x1 x2:Operand},ρ x0= .int .i64 1→ρ x1= .int .i64 2→ρ x2= .int .i64 0→(execOp ρ ⟨d,.buildSlice 35 3 #[(0,x0),(1,x1),(2,x2)],ty,pos,af,g⟩).run Tryz.prog W= .ok (.value (.slice (some ⟨W.heap.size,0,none⟩) 3 3)) (W.alloc (.cells #[.int .i64 1,.int .i64 2,.int .i64 0] 3)):=by
   intro W ρ d ty pos af g x0 x1 x2 h0 h1 h2
   have key:(Instr.buildSlice 35 3 #[(0,Value.int .i64 1),(1,Value.int .i64 2),(2,Value.int .i64 0)]).run Tryz.prog W= .ok (.slice (some ⟨W.heap.size,0,none⟩) 3 3) (W.alloc (.cells #[.int .i64 1,.int .i64 2,.int .i64 0] 3)):=by kernel_rfl
   simp [execOp,h0,h1,h2,key]
  refine Ae (Ac (Ab (key3 rfl rfl rfl) rfl ?_))
  have hBle:B≤W.heap.size:=by omega
  refine el_new (.cells #[.int .i64 1,.int .i64 2,.int .i64 0] 3) B (by omega) fun X hN4 hO4 hZ4 hB4 hK4=>?_
  obtain ⟨M,hM⟩:∃M,M=W.heap.size:=⟨_,rfl⟩
  rw[← hM] at hN4 ⊢
  refine Ab Ah rfl (Af (Aa ?_))
  have hbX:Below SA w'' X:=hbW.trans ⟨hB4.os,hB4.tape,hB4.output,hB4.size,fun j hj=>hO4 j (by omega)⟩
  have hN3X:X.heap[V]? =some (.cells #[.int .i64 (f.b k).kind,.int .i64 (f.b k).ctrl,.slice sa (f.b k).succs.length sc,.int .i64 (f.b k).likely] 54 (0,0)):=(hO4 V (by omega)).trans hN3
  obtain ⟨kk,wk,hkk,hM3,hkw⟩:∃(kk:Nat) (wk:Int),kk<3∧X.cell? ⟨M,0+kk,none⟩=some (.int .i64 wk)∧(¬ ((f.b k).kind<0∨2<(f.b k).kind)→(f.b k).kind=(kk:Int)∧wk=Ct (f.b k).kind):=by
   by_cases h0:(f.b k).kind=0
   ·exact ⟨0,1,by decide,Am hN4 rfl,fun _=>⟨h0,by rw[h0];rfl⟩⟩
   by_cases h1:(f.b k).kind=1
   ·exact ⟨1,2,by decide,Am hN4 rfl,fun _=>⟨h1,by rw[h1];rfl⟩⟩
   by_cases h2:(f.b k).kind=2
   ·exact ⟨2,0,by decide,Am hN4 rfl,fun _=>⟨h2,by rw[h2];rfl⟩⟩
   exact ⟨0,1,by decide,Am hN4 rfl,fun h=>absurd h (by omega)⟩
  have hA5:((((((f.b k).kind<0∨2<(f.b k).kind)∨((f.b k).succs.length:Int)≠wk)∨(f.b k).likely< -1)∨1<(f.b k).likely)∨((f.b k).kind≠1∧(f.b k).likely≠0))↔DJ (f.b k):=by
   unfold DJ
   by_cases h:(f.b k).kind<0∨2<(f.b k).kind
   ·exact ⟨fun _=>.inl (.inl (.inl (.inl h))),fun _=>.inl (.inl (.inl (.inl h)))⟩
   rw[(hkw h).2]
  have hbelX:Below b1 w X.drew:=hbw.trans (hbX.mono (by omega)).drew
  refine Ae (Ae ?_)
  have hc:Cells [(⟨V,0+0,none⟩,.int .i64 (f.b k).kind),(⟨V,0+2,none⟩,.slice sa (f.b k).succs.length sc),(⟨V,0+3,none⟩,.int .i64 (f.b k).likely),(⟨M,0+kk,none⟩,.int .i64 wk)] X.drew:=(Keep.drew X).cells (.cons (Am hN3X rfl) (.cons (Am hN3X rfl) (.cons (Am hN3X rfl) (.cons hM3 (.nil _)))))
  refine AY mixed _ [(0,false),(1,false),(2,false),(3,false),(4,false),(5,false),(6,false),(7,false),(8,false),(9,false),(10,false),(11,false),(12,false),(13,false),(14,false),(15,false),(16,false),(17,false),(18,false),(19,false),(20,false),(21,false),(22,false),(23,false),(24,false),(25,false),(26,false),(27,false),(28,false),(29,false),(30,false),(31,false),(32,false),(33,false),(34,false),(35,false),(36,false),(37,false),(38,false)] (by kernel_rfl) hc ?_
  refine DL_cut 8 (fun e w'=>w'=X.drew∧At e [(41,.bool (decide ((f.b k).kind<0∨2<(f.b k).kind))),(1,.pointer (some ⟨b1,0,none⟩)),(27,.slice (some ⟨bb,ob,none⟩) f.blks.length cb),(28,.int .i64 (f.blks.length:Int)),(29,.int .i64 (k:Int)),(4,.pointer (some ⟨V,0,none⟩)),(5,.slice (some ⟨M,0,none⟩) 3 3)]) rfl ?_ ?_
  ·refine Aj rfl (fun _ _=>Al rfl (Ak rfl)) (Aj rfl (fun _ hS=>Ai rfl (Ag rfl) (hS.get (by first|exact mm0|exact mm1|exact mm2|exact mm3|exact mm4|exact mm5|exact mm6|exact mm7))) ?_)
   refine Aj rfl (fun _ _=>AX rfl rfl) (Aj rfl (fun _ _=>Ad) ?_)
   by_cases h1:(f.b k).kind<0
   ·rw[decide_eq_true h1]
    refine AJ rfl rfl (AJ rfl rfl (AJ rfl rfl (Aj rfl (fun _ _=>AV rfl) (AP ?_))))
    exact ⟨rfl,Ar rfl ⟨congrArg Value.bool (decide_eq_true (.inl h1)).symm,rfl,rfl,rfl,rfl,rfl,rfl,trivial⟩⟩
   rw[decide_eq_false h1]
   refine Ay rfl rfl (fun _ _=>Al rfl (Ak rfl)) (Ay rfl rfl (fun _ hS=>Ai rfl (Ag rfl) (hS.get (by first|exact mm0|exact mm1|exact mm2|exact mm3|exact mm4|exact mm5|exact mm6|exact mm7))) ?_)
   refine Ay rfl rfl (fun _ _=>BE rfl rfl) (Aj rfl (fun _ _=>AM rfl) (AP ?_))
   by_cases h2:2<(f.b k).kind
   ·rw[decide_eq_true h2]
    exact ⟨rfl,Ar rfl ⟨congrArg Value.bool (decide_eq_true (.inr h2)).symm,rfl,rfl,rfl,rfl,rfl,rfl,trivial⟩⟩
   rw[decide_eq_false h2]
   exact ⟨rfl,Ar rfl ⟨congrArg Value.bool (decide_eq_false (fun h=>h.elim h1 h2)).symm,rfl,rfl,rfl,rfl,rfl,rfl,trivial⟩⟩
  rintro e w' ⟨rfl,t,rfl⟩
  refine DL_cut 11 (fun e w'=>w'=X.drew∧At e [(52,.bool (decide (((f.b k).kind<0∨2<(f.b k).kind)∨((f.b k).succs.length:Int)≠wk))),(1,.pointer (some ⟨b1,0,none⟩)),(27,.slice (some ⟨bb,ob,none⟩) f.blks.length cb),(28,.int .i64 (f.blks.length:Int)),(29,.int .i64 (k:Int)),(4,.pointer (some ⟨V,0,none⟩)),(5,.slice (some ⟨M,0,none⟩) 3 3)]) rfl ?_ ?_
  ·refine Aj rfl (fun _ _=>Ad) ?_
   by_cases h1:(f.b k).kind<0∨2<(f.b k).kind
   ·rw[decide_eq_true h1]
    refine AJ rfl rfl (AJ rfl rfl (AJ rfl rfl (AJ rfl rfl (AJ rfl rfl (AJ rfl rfl (AJ rfl rfl (AJ rfl rfl (AJ rfl rfl (Aj rfl (fun _ _=>AV rfl) (AP ?_))))))))))
    exact ⟨rfl,Ar rfl ⟨congrArg Value.bool (decide_eq_true (.inl h1)).symm,rfl,rfl,rfl,rfl,rfl,rfl,trivial⟩⟩
   rw[decide_eq_false h1]
   obtain ⟨hkz,hwk⟩:=hkw h1
   refine Ay rfl rfl (fun _ _=>Al rfl (Ak rfl)) (Ay rfl rfl (fun _ hS=>Ai rfl (Ag rfl) (hS.get (by first|exact mm0|exact mm1|exact mm2|exact mm3|exact mm4|exact mm5|exact mm6|exact mm7))) ?_)
   refine Ay rfl rfl (fun _ _=>AN rfl (An rfl)) (Ay rfl rfl (fun _ _=>Ad) (Ay rfl rfl (fun _ _=>Al rfl (Ak rfl)) (Ay rfl rfl (fun _ hS=>Ai rfl (Ag rfl) (hS.get (by first|exact mm0|exact mm1|exact mm2|exact mm3|exact mm4|exact mm5|exact mm6|exact mm7))) ?_)))
   refine Ay rfl rfl (fun _ _=>Ba rfl rfl hkz (An rfl) hkk) (Ay rfl rfl (fun _ hS=>Ai rfl (Ag rfl) (hS.get (by first|exact mm0|exact mm1|exact mm2|exact mm3|exact mm4|exact mm5|exact mm6|exact mm7))) ?_)
   refine Ay rfl rfl (fun _ _=>Bw rfl rfl) (Aj rfl (fun _ _=>AM rfl) (AP ?_))
   by_cases h2:((f.b k).succs.length:Int)≠wk
   ·rw[decide_eq_true h2]
    exact ⟨rfl,Ar rfl ⟨congrArg Value.bool (decide_eq_true (.inr h2)).symm,rfl,rfl,rfl,rfl,rfl,rfl,trivial⟩⟩
   rw[decide_eq_false h2]
   exact ⟨rfl,Ar rfl ⟨congrArg Value.bool (decide_eq_false (fun h=>h.elim h1 h2)).symm,rfl,rfl,rfl,rfl,rfl,rfl,trivial⟩⟩
  rintro e w' ⟨rfl,t,rfl⟩
  refine DL_cut 5 (fun e w'=>w'=X.drew∧At e [(57,.bool (decide ((((f.b k).kind<0∨2<(f.b k).kind)∨((f.b k).succs.length:Int)≠wk)∨(f.b k).likely< -1))),(1,.pointer (some ⟨b1,0,none⟩)),(27,.slice (some ⟨bb,ob,none⟩) f.blks.length cb),(28,.int .i64 (f.blks.length:Int)),(29,.int .i64 (k:Int)),(4,.pointer (some ⟨V,0,none⟩)),(5,.slice (some ⟨M,0,none⟩) 3 3)]) rfl ?_ ?_
  ·refine Aj rfl (fun _ _=>Ad) ?_
   by_cases h1:((f.b k).kind<0∨2<(f.b k).kind)∨((f.b k).succs.length:Int)≠wk
   ·rw[decide_eq_true h1]
    refine AJ rfl rfl (AJ rfl rfl (AJ rfl rfl (Aj rfl (fun _ _=>AV rfl) (AP ?_))))
    exact ⟨rfl,Ar rfl ⟨congrArg Value.bool (decide_eq_true (.inl h1)).symm,rfl,rfl,rfl,rfl,rfl,rfl,trivial⟩⟩
   rw[decide_eq_false h1]
   refine Ay rfl rfl (fun _ _=>Al rfl (Ak rfl)) (Ay rfl rfl (fun _ hS=>Ai rfl (Ag rfl) (hS.get (by first|exact mm0|exact mm1|exact mm2|exact mm3|exact mm4|exact mm5|exact mm6|exact mm7))) ?_)
   refine Ay rfl rfl (fun _ _=>AX rfl rfl) (Aj rfl (fun _ _=>AM rfl) (AP ?_))
   by_cases h2:(f.b k).likely< -1
   ·rw[decide_eq_true h2]
    exact ⟨rfl,Ar rfl ⟨congrArg Value.bool (decide_eq_true (.inr h2)).symm,rfl,rfl,rfl,rfl,rfl,rfl,trivial⟩⟩
   rw[decide_eq_false h2]
   exact ⟨rfl,Ar rfl ⟨congrArg Value.bool (decide_eq_false (fun h=>h.elim h1 h2)).symm,rfl,rfl,rfl,rfl,rfl,rfl,trivial⟩⟩
  rintro e w' ⟨rfl,t,rfl⟩
  refine DL_cut 5 (fun e w'=>w'=X.drew∧At e [(62,.bool (decide (((((f.b k).kind<0∨2<(f.b k).kind)∨((f.b k).succs.length:Int)≠wk)∨(f.b k).likely< -1)∨1<(f.b k).likely))),(1,.pointer (some ⟨b1,0,none⟩)),(27,.slice (some ⟨bb,ob,none⟩) f.blks.length cb),(28,.int .i64 (f.blks.length:Int)),(29,.int .i64 (k:Int)),(4,.pointer (some ⟨V,0,none⟩)),(5,.slice (some ⟨M,0,none⟩) 3 3)]) rfl ?_ ?_
  ·refine Aj rfl (fun _ _=>Ad) ?_
   by_cases h1:(((f.b k).kind<0∨2<(f.b k).kind)∨((f.b k).succs.length:Int)≠wk)∨(f.b k).likely< -1
   ·rw[decide_eq_true h1]
    refine AJ rfl rfl (AJ rfl rfl (AJ rfl rfl (Aj rfl (fun _ _=>AV rfl) (AP ?_))))
    exact ⟨rfl,Ar rfl ⟨congrArg Value.bool (decide_eq_true (.inl h1)).symm,rfl,rfl,rfl,rfl,rfl,rfl,trivial⟩⟩
   rw[decide_eq_false h1]
   refine Ay rfl rfl (fun _ _=>Al rfl (Ak rfl)) (Ay rfl rfl (fun _ hS=>Ai rfl (Ag rfl) (hS.get (by first|exact mm0|exact mm1|exact mm2|exact mm3|exact mm4|exact mm5|exact mm6|exact mm7))) ?_)
   refine Ay rfl rfl (fun _ _=>BE rfl rfl) (Aj rfl (fun _ _=>AM rfl) (AP ?_))
   by_cases h2:1<(f.b k).likely
   ·rw[decide_eq_true h2]
    exact ⟨rfl,Ar rfl ⟨congrArg Value.bool (decide_eq_true (.inr h2)).symm,rfl,rfl,rfl,rfl,rfl,rfl,trivial⟩⟩
   rw[decide_eq_false h2]
   exact ⟨rfl,Ar rfl ⟨congrArg Value.bool (decide_eq_false (fun h=>h.elim h1 h2)).symm,rfl,rfl,rfl,rfl,rfl,rfl,trivial⟩⟩
  rintro e w' ⟨rfl,t,rfl⟩
  refine DL_cut 10 (fun e w'=>w'=X.drew∧At e [(72,.bool (decide ((((((f.b k).kind<0∨2<(f.b k).kind)∨((f.b k).succs.length:Int)≠wk)∨(f.b k).likely< -1)∨1<(f.b k).likely)∨((f.b k).kind≠1∧(f.b k).likely≠0)))),(1,.pointer (some ⟨b1,0,none⟩)),(27,.slice (some ⟨bb,ob,none⟩) f.blks.length cb),(28,.int .i64 (f.blks.length:Int)),(29,.int .i64 (k:Int)),(4,.pointer (some ⟨V,0,none⟩)),(5,.slice (some ⟨M,0,none⟩) 3 3)]) rfl ?_ ?_
  ·refine Aj rfl (fun _ _=>Ad) ?_
   by_cases h1:((((f.b k).kind<0∨2<(f.b k).kind)∨((f.b k).succs.length:Int)≠wk)∨(f.b k).likely< -1)∨1<(f.b k).likely
   ·rw[decide_eq_true h1]
    refine AJ rfl rfl (AJ rfl rfl (AJ rfl rfl (AJ rfl rfl (A6 rfl rfl (A6 rfl rfl (A6 rfl rfl (AJ rfl rfl (Aj rfl (fun _ _=>AV rfl) (AP ?_)))))))))
    exact ⟨rfl,Ar rfl ⟨congrArg Value.bool (decide_eq_true (.inl h1)).symm,rfl,rfl,rfl,rfl,rfl,rfl,trivial⟩⟩
   rw[decide_eq_false h1]
   refine Ay rfl rfl (fun _ _=>Al rfl (Ak rfl)) (Ay rfl rfl (fun _ hS=>Ai rfl (Ag rfl) (hS.get (by first|exact mm0|exact mm1|exact mm2|exact mm3|exact mm4|exact mm5|exact mm6|exact mm7))) ?_)
   refine Ay rfl rfl (fun _ _=>Bw rfl rfl) (Ay rfl rfl (fun _ _=>Ad) ?_)
   by_cases h2:(f.b k).kind≠1
   ·rw[decide_eq_true h2]
    refine Ay rfl rfl (fun _ _=>Al rfl (Ak rfl)) (Ay rfl rfl (fun _ hS=>Ai rfl (Ag rfl) (hS.get (by first|exact mm0|exact mm1|exact mm2|exact mm3|exact mm4|exact mm5|exact mm6|exact mm7))) ?_)
    refine Ay rfl rfl (fun _ _=>Bw rfl rfl) (Ay rfl rfl (fun _ _=>AV rfl) (Aj rfl (fun _ _=>AM rfl) (AP ?_)))
    by_cases h3:(f.b k).likely≠0
    ·rw[decide_eq_true h3]
     exact ⟨rfl,Ar rfl ⟨congrArg Value.bool (decide_eq_true (.inr ⟨h2,h3⟩)).symm,rfl,rfl,rfl,rfl,rfl,rfl,trivial⟩⟩
    rw[decide_eq_false h3]
    exact ⟨rfl,Ar rfl ⟨congrArg Value.bool (decide_eq_false (fun h=>h.elim h1 (fun h=>h3 h.2))).symm,rfl,rfl,rfl,rfl,rfl,rfl,trivial⟩⟩
   rw[decide_eq_false h2]
   refine AJ rfl rfl (AJ rfl rfl (AJ rfl rfl (Ay rfl rfl (fun _ _=>AM rfl) (Aj rfl (fun _ _=>AM rfl) (AP ?_)))))
   exact ⟨rfl,Ar rfl ⟨congrArg Value.bool (decide_eq_false (fun h=>h.elim h1 (fun h=>h2 h.1))).symm,rfl,rfl,rfl,rfl,rfl,rfl,trivial⟩⟩
  rintro e w' ⟨rfl,t,rfl⟩
  refine AP (Aa ?_)
  refine AI rfl rfl (fun hbad=>?_) (fun hgood1=>?_)
  ·refine Ae (Ac (Ab Ah rfl (Af (Aa (AE (AO (AS (AO (Bt (AS (Co ?_)))))))))))
   exact Az rfl rfl rfl ⟨false,rfl,⟨fun h=>(by cases h),fun h=>absurd (hA5.1 hbad) (h.blk k hlt).one⟩,hbelX⟩
  have hone1:¬ DJ (f.b k):=fun h=>hgood1 (hA5.2 h)
  refine Aq (Aa ?_)
  clear hgood1
  have hslen:(f.b k).succs.length≤2:=by
   have h1:=hone1
   unfold DJ Ct at h1
   have h2:((f.b k).succs.length:Int)=Ct (f.b k).kind:=by
    refine Classical.byContradiction fun h=>h1 ?_
    exact .inl (.inl (.inl (.inr h)))
   unfold Ct at h2
   split at h2
   ·omega
   split at h2 <;> omega
  have c0:X.drew.cell? ⟨V,0+0,none⟩=some (.int .i64 (f.b k).kind):=hc.get (.head _)
  have c1:X.drew.cell? ⟨V,0+1,none⟩=some (.int .i64 (f.b k).ctrl):=Am (w:=X.drew) hN3X rfl
  have c2:X.drew.cell? ⟨V,0+2,none⟩=some (.slice sa (f.b k).succs.length sc):=hc.get (.tail _ (.head _))
  have hbx:X.drew.heap[b1]? =some (.cells #[.slice av f.vals.length cv,.slice (some ⟨bb,ob,none⟩) f.blks.length cb] 30 (0,0)):=(hbX.drew.block b1 (by omega)).trans hN1
  have c3:X.drew.cell? ⟨b1,0+0,none⟩=some (.slice av f.vals.length cv):=Am hbx rfl
  have c4:X.drew.cell? ⟨b1,0+1,none⟩=some (.slice (some ⟨bb,ob,none⟩) f.blks.length cb):=Am hbx rfl
  have hbXd:=hbX.drew
  have hKY:Keep w X.drew:=hKr.trans (hK3.trans (hK4.trans (Keep.drew X)))
  generalize X.drew=Y at c0 c1 c2 hbx c3 c4 hbXd hbelX hKY ⊢
  refine Ae (Ae (Ac ?_))
  refine Cm 26 (fun e w'=>w'=Y∧At e [(98,.bool (decide (De f.vals.length (f.b k)))),(1,.pointer (some ⟨b1,0,none⟩)),(27,.slice (some ⟨bb,ob,none⟩) f.blks.length cb),(28,.int .i64 (f.blks.length:Int)),(29,.int .i64 (k:Int)),(4,.pointer (some ⟨V,0,none⟩)),(5,.slice (some ⟨M,0,none⟩) 3 3)]) ?_ ?_
  ·refine Ab (Al rfl (Ak rfl)) rfl (Ab (Ai rfl (Ag rfl) ‹_›) rfl ?_)
   refine Ab (Bn rfl rfl) rfl (Ab Ad rfl ?_)
   by_cases hk0:(f.b k).kind=0
   ·rw[decide_eq_true hk0]
    refine Av rfl rfl (Al rfl (Ak rfl)) rfl (Av rfl rfl (Ai rfl (Ag rfl) ‹_›) rfl ?_)
    refine Av rfl rfl (Bw rfl rfl) rfl (Ab (AV rfl) rfl (Ab Ad rfl ?_))
    by_cases hc1:(f.b k).ctrl≠ -1
    ·rw[decide_eq_true hc1]
     refine AF rfl rfl (AF rfl rfl (AF rfl rfl (AF rfl rfl (Bz rfl rfl (Bz rfl rfl (Bz rfl rfl (Bz rfl rfl (Bz rfl rfl (Bz rfl rfl (Bz rfl rfl (Bz rfl rfl ?_)))))))))))
     refine Bz rfl rfl (Bz rfl rfl (Bz rfl rfl (AF rfl rfl (Ab (AV rfl) rfl (Af ?_)))))
     exact ⟨rfl,Ar rfl ⟨congrArg Value.bool (decide_eq_true (.inl ⟨hk0,hc1⟩:De f.vals.length (f.b k))).symm,rfl,rfl,rfl,rfl,rfl,rfl,trivial⟩⟩
    rw[decide_eq_false hc1]
    refine Av rfl rfl (Al rfl (Ak rfl)) rfl (Av rfl rfl (Ai rfl (Ag rfl) ‹_›) rfl ?_)
    refine Av rfl rfl (Bw rfl rfl) rfl (Av rfl rfl Ad rfl ?_)
    rw[decide_eq_false (show ¬ (f.b k).kind≠0 from fun h=>h hk0)]
    refine AF rfl rfl (AF rfl rfl (AF rfl rfl (AF rfl rfl (Bz rfl rfl (Bz rfl rfl (Bz rfl rfl (Bz rfl rfl (Bz rfl rfl (Bz rfl rfl (AF rfl rfl (Av rfl rfl (AM rfl) rfl ?_)))))))))))
    refine Ab (AM rfl) rfl (Af ?_)
    exact ⟨rfl,Ar rfl ⟨congrArg Value.bool (decide_eq_false (fun h=>Or.elim h (fun h=>hc1 h.2) (fun h=>h.1 hk0):¬ De f.vals.length (f.b k))).symm,rfl,rfl,rfl,rfl,rfl,rfl,trivial⟩⟩
   rw[decide_eq_false hk0]
   refine AF rfl rfl (AF rfl rfl (AF rfl rfl (Ab (AM rfl) rfl (Ab Ad rfl (Av rfl rfl (Al rfl (Ak rfl)) rfl (Av rfl rfl (Ai rfl (Ag rfl) ‹_›) rfl ?_))))))
   refine Av rfl rfl (Bw rfl rfl) rfl (Av rfl rfl Ad rfl ?_)
   rw[decide_eq_true (show (f.b k).kind≠0 from hk0)]
   refine Av rfl rfl (Al rfl (Ak rfl)) rfl (Av rfl rfl (Ai rfl (Ag rfl) ‹_›) rfl ?_)
   refine Av rfl rfl (AX rfl rfl) rfl (Av rfl rfl Ad rfl ?_)
   by_cases hc1:(f.b k).ctrl<0
   ·rw[decide_eq_true hc1]
    refine AF rfl rfl (AF rfl rfl (AF rfl rfl (AF rfl rfl (AF rfl rfl (AF rfl rfl (Av rfl rfl (AV rfl) rfl (Av rfl rfl (AV rfl) rfl (Ab (AM rfl) rfl (Af ?_)))))))))
    exact ⟨rfl,Ar rfl ⟨congrArg Value.bool (decide_eq_true (.inr ⟨hk0,.inl hc1⟩:De f.vals.length (f.b k))).symm,rfl,rfl,rfl,rfl,rfl,rfl,trivial⟩⟩
   rw[decide_eq_false hc1]
   refine Av rfl rfl (Al rfl (Ak rfl)) rfl (Av rfl rfl (Ai rfl (Ag rfl) ‹_›) rfl ?_)
   refine Av rfl rfl (Al rfl (Ak rfl)) rfl (Av rfl rfl (Ai rfl (Ag rfl) ‹_›) rfl ?_)
   refine Av rfl rfl (AN rfl (An rfl)) rfl (Av rfl rfl (CJ rfl rfl) rfl (Av rfl rfl (AM rfl) rfl (Av rfl rfl (AV rfl) rfl (Ab (AM rfl) rfl (Af ?_)))))
   by_cases hc2:(f.vals.length:Int)≤(f.b k).ctrl
   ·rw[decide_eq_true hc2]
    exact ⟨rfl,Ar rfl ⟨congrArg Value.bool (decide_eq_true (.inr ⟨hk0,.inr hc2⟩:De f.vals.length (f.b k))).symm,rfl,rfl,rfl,rfl,rfl,rfl,trivial⟩⟩
   rw[decide_eq_false hc2]
   exact ⟨rfl,Ar rfl ⟨congrArg Value.bool (decide_eq_false (fun h=>Or.elim h (fun h=>hk0 h.1) (fun h=>h.2.elim hc1 hc2):¬ De f.vals.length (f.b k))).symm,rfl,rfl,rfl,rfl,rfl,rfl,trivial⟩⟩
  rintro e w' ⟨rfl,t,rfl⟩
  refine Af (Aa ?_)
  refine AI rfl rfl (fun hbad=>?_) (fun htwo=>?_)
  ·refine Ae (Ac (Ab Ah rfl (Af (Aa (AE (AO (AS (AO (Bt (AS (Co ?_)))))))))))
   exact Az rfl rfl rfl ⟨false,rfl,⟨fun h=>(by cases h),fun h=>absurd hbad (h.blk k hlt).two⟩,hbelX⟩
  refine Aq (Aa (Ae (Ac (Ab (Al rfl (Ak rfl)) rfl (Ab (Ai rfl (Ag rfl) ‹_›) rfl ?_)))))
  refine Ab (AN rfl (An rfl)) rfl (Ab Ad rfl (Af (Aa (Ao ?_))))
  refine EC_loop (fun n e wi=>∃i,i≤(f.b k).succs.length∧At e [(1,.pointer (some ⟨b1,0,none⟩)),(27,.slice (some ⟨bb,ob,none⟩) f.blks.length cb),(28,.int .i64 (f.blks.length:Int)),(29,.int .i64 (k:Int)),(100,.slice sa (f.b k).succs.length sc),(101,.int .i64 ((f.b k).succs.length:Int)),(102,.int .i64 (i:Int))]∧wi=w'∧(∀j,j<i→1≤(f.b k).succs.getD j 0∧(f.b k).succs.getD j 0<f.blks.length)∧n=(f.b k).succs.length - i) (f.b k).succs.length
   ⟨0,Nat.zero_le _,Ar rfl ⟨rfl,rfl,rfl,rfl,rfl,rfl,rfl,trivial⟩,rfl,fun j hj=>absurd hj (Nat.not_lt_zero _),rfl⟩ ?_
  rintro n e wi ⟨i,hi,⟨t,rfl⟩,rfl,hall,rfl⟩
  refine Ae (Ac (Ab (AX rfl rfl) rfl (Af (Aa (Ae ?_)))))
  refine AI rfl rfl (fun hli=>?_) (fun hge=>?_)
  rotate_left
  ·have hi:i=(f.b k).succs.length:=by omega
   subst hi
   refine AK (AB (AD (AA (Ap (Aa (Ac (Ab (x_inc rfl rfl (by omega)) rfl (Ab Ad rfl (Af ?_)))))))))
   refine Aw (f.blks.length - (k+1)) (by omega) ⟨k+1,by omega,Ar rfl ⟨rfl,rfl,rfl,rfl,trivial⟩,hbXd,fun b hbk=>?_,rfl⟩
   by_cases e:b=k
   ·subst e
    refine ⟨hone1,htwo,fun s hs=>?_⟩
    obtain ⟨j,hj,rfl⟩:=List.getElem_of_mem hs
    have:=hall j hj
    rwa [List.getD_eq_getElem?_getD,List.getElem?_eq_getElem hj] at this
   exact hok b (by omega)
  have hli:i<(f.b k).succs.length:=by omega
  obtain ⟨bi,oi,rfl,hai⟩:=(hints).get hli
  have hai:=hKY _ _ hai
  refine Aq (Aa (Ae (Ao (Ae (Ac (Ab (x_index1 rfl rfl (An rfl) (by omega)) rfl (Ab (Ai rfl (Ag rfl) ‹_›) rfl ?_)))))))
  refine Ab Ah rfl (Af (Aa (Ae (Ac ?_))))
  have hlast:∀(x:Int),(f.b k).succs.getD i 0=x→True:=fun _ _=>trivial
  refine Cm 9 (fun e w''=>w''=wi∧At e [(114,.bool (decide ((f.b k).succs.getD i 0<1∨(f.blks.length:Int)≤(f.b k).succs.getD i 0))),(1,.pointer (some ⟨b1,0,none⟩)),(27,.slice (some ⟨bb,ob,none⟩) f.blks.length cb),(28,.int .i64 (f.blks.length:Int)),(29,.int .i64 (k:Int)),(100,.slice (some ⟨bi,oi,none⟩) (f.b k).succs.length sc),(101,.int .i64 ((f.b k).succs.length:Int)),(102,.int .i64 (i:Int))]) ?_ ?_
  ·refine Ab Ad rfl (Ab (AX rfl rfl) rfl (Ab Ad rfl ?_))
   by_cases h1:(f.b k).succs.getD i 0<1
   ·rw[decide_eq_true h1]
    refine AF rfl rfl (AF rfl rfl (AF rfl rfl (AF rfl rfl (AF rfl rfl (Ab (AV rfl) rfl (Af ?_))))))
    exact ⟨rfl,Ar rfl ⟨congrArg Value.bool (decide_eq_true (.inl h1)).symm,rfl,rfl,rfl,rfl,rfl,rfl,rfl,trivial⟩⟩
   rw[decide_eq_false h1]
   refine Av rfl rfl Ad rfl (Av rfl rfl (Al rfl (Ak rfl)) rfl (Av rfl rfl (Ai rfl (Ag rfl) ‹_›) rfl ?_))
   refine Av rfl rfl (AN rfl (An rfl)) rfl (Av rfl rfl (CJ rfl rfl) rfl (Ab (AM rfl) rfl (Af ?_)))
   by_cases h2:(f.blks.length:Int)≤(f.b k).succs.getD i 0
   ·rw[decide_eq_true h2]
    exact ⟨rfl,Ar rfl ⟨congrArg Value.bool (decide_eq_true (.inr h2)).symm,rfl,rfl,rfl,rfl,rfl,rfl,rfl,trivial⟩⟩
   rw[decide_eq_false h2]
   exact ⟨rfl,Ar rfl ⟨congrArg Value.bool (decide_eq_false (fun h=>h.elim h1 h2)).symm,rfl,rfl,rfl,rfl,rfl,rfl,rfl,trivial⟩⟩
  rintro e w'' ⟨rfl,t,rfl⟩
  refine Af (Aa ?_)
  refine AI rfl rfl (fun hbad=>?_) (fun hgood=>?_)
  ·refine Ae (Ac (Ab Ah rfl (Af (Aa (AE (AS (AO (Bt (AS (AS (AO ?_)))))))))))
   refine Bt (AS (Co ?_))
   refine Az rfl rfl rfl ⟨false,rfl,⟨fun h=>(by cases h),fun h=>?_⟩,hbelX⟩
   have:=(h.blk k hlt).succs ((f.b k).succs.getD i 0) (by rw[List.getD_eq_getElem?_getD,List.getElem?_eq_getElem hli];simp)
   omega
  refine Aq (Ap (Aa (Ac (Ab (x_inc rfl rfl (by omega)) rfl (Ab Ad rfl (Af ?_))))))
  refine Aw ((f.b k).succs.length - (i+1)) (by omega) ⟨i+1,by omega,Ar rfl ⟨rfl,rfl,rfl,rfl,rfl,rfl,rfl,trivial⟩,rfl,fun j hj=>?_,rfl⟩
  by_cases e:j=i
  ·subst e;omega
  exact hall j (by omega)
 rintro e wr ⟨⟨t,rfl⟩,hb,hok⟩
 have hbxr:wr.heap[b1]? =some (.cells #[.slice av f.vals.length cv,.slice ab f.blks.length cb] 30 (0,0)):=(hb.block b1 (by omega)).trans hN1
 have hKr:Keep w wr:=hK1.trans (Keep.of_below hb (by omega))
 have sh:Shp f:=⟨hone,hnb,fun b hbn=>⟨by
  have h1:=(hok b hbn).one
  unfold DJ Ct at h1
  have h2:((f.b b).succs.length:Int)=Ct (f.b b).kind:=by
   refine Classical.byContradiction fun h=>h1 ?_
   exact .inl (.inl (.inl (.inr h)))
  unfold Ct at h2
  split at h2
  ·omega
  ·split at h2 <;> omega,fun s hs=>by
  have:=(hok b hbn).succs s hs
  omega⟩⟩
 have hszr:=hb.size
 refine Ae (Ae (Ac (Ab (A4 (cs:=[.slice av f.vals.length cv,.slice ab f.blks.length cb]) rfl (A0 rfl) (A3 hbxr)) rfl (Be (AG Tryz.func34 rfl rfl rfl rfl) rfl (reach_ret (hx0.keep hKr) sh (-1)) ?_))))
 rintro _ w1 ⟨G,S,rfl,hGs,hN,hSr,hb1'⟩
 refine Ab (AN rfl (An rfl)) rfl (Ab Ad rfl (Af (Aa ?_)))
 have hbel1:Below b1 w w1:=(hbw.trans (hb.mono (by omega))).trans (hb1'.mono (by omega))
 refine Ao ?_
 refine EC_loop (fun n e wi=>∃i,i≤f.blks.length∧At e [(118,.slice (some ⟨G,0,none⟩) f.blks.length f.blks.length),(119,.int .i64 (f.blks.length:Int)),(120,.int .i64 (i:Int))]∧wi=w1∧(∀j,j<i→S j=true)∧n=f.blks.length - i) f.blks.length
  ⟨0,Nat.zero_le _,Ar rfl ⟨rfl,rfl,rfl,trivial⟩,rfl,fun j hj=>absurd hj (Nat.not_lt_zero _),rfl⟩ ?_
 rintro n e wi ⟨i,hi,⟨t,rfl⟩,rfl,hall,rfl⟩
 refine Ae (Ac (Ab (AX rfl rfl) rfl (Af (Aa (Ae ?_)))))
 refine AI rfl rfl (fun hli=>?_) (fun hge=>?_)
 rotate_left
 ·have hi:i=f.blks.length:=by omega
  subst hi
  refine AK (AB (AD (AA (Aa (Ae (Ac (Ab Ah rfl (Af (Aa (AE ?_))))))))))
  exact Az rfl rfl rfl ⟨true,rfl,⟨fun _=>⟨hone,hnb,hnv,hok,fun b hbn=>(hSr b hbn).1 (hall b hbn)⟩,fun _=>rfl⟩,hbel1⟩
 have hli:i<f.blks.length:=by omega
 have hcy:wi.cell? ⟨G,0+i,none⟩=some (.bool (S i)):=Am hN (by rw[Nat.zero_add];exact BM _ hli)
 refine Aq (Aa (Ae (Ao (Ae (Ac (Ab (x_index1 rfl rfl (An rfl) (by omega)) rfl (Ab (Ai rfl (Ag rfl) ‹_›) rfl ?_)))))))
 refine Ab Ah rfl (Af (Aa (Ae (Ac (Ab Ad rfl (Ab (BS rfl) rfl (Af (Aa ?_))))))))
 rcases Bool.eq_false_or_eq_true (S i) with hSi|hSi
 ·refine Bh (congrArg (fun b=>Value.bool (!b)) hSi) rfl (Aq (Ap (Aa (Ac (Ab (x_inc rfl rfl (by omega)) rfl (Ab Ad rfl (Af ?_)))))))
  refine Aw (f.blks.length - (i+1)) (by omega) ⟨i+1,by omega,Ar rfl ⟨rfl,rfl,rfl,trivial⟩,rfl,fun j hj=>?_,rfl⟩
  by_cases e:j=i
  ·subst e;exact hSi
  exact hall j (by omega)
 refine Bm (congrArg (fun b=>Value.bool (!b)) hSi) rfl (Ae (Ac (Ab Ah rfl (Af (Aa (AE (AS (AO (Bt (AS (AO ?_)))))))))))
 refine Az rfl rfl rfl ⟨false,rfl,⟨fun h=>(by cases h),fun h=>?_⟩,hbel1⟩
 rw[(hSr i hli).2 (h.rch i hli)] at hSi
 cases hSi
end Go.Proofs.YteepnepebilckaaGreatDoor
namespace Go.Proofs.YteepnepebilckaaGreatDoor
open Go Go.Eng
inductive RchS (S:Nat→List Nat) (wo:Nat):Nat→Prop where
 |entry:wo≠0→RchS S wo 0
 |step {b s:Nat}:RchS S wo b→s∈S b→s≠wo→RchS S wo s
def Dom (S:Nat→List Nat) (a b:Nat):Prop:= ¬ RchS S a b
section
variable {S : Nat → List Nat}
theorem RchS.ne {a b:Nat} (h:RchS S a b):b≠a:=by
 cases h with
 |entry h=>exact fun e=>h e.symm
 |step _ _ h=>exact h
theorem Dom.rfl' (a:Nat):Dom S a a:=fun h=>h.ne rfl
theorem Dom.trans {a b c:Nat} (h:Dom S a b) (k:Dom S b c):Dom S a c:=by
 intro hr
 have key:RchS S b c∨RchS S a b:=by
  clear k
  induction hr with
  |entry h0=>
   by_cases e:b=0
   ·subst e;exact .inr (.entry h0)
   exact .inl (.entry e)
  | @step x s hr' hs hne ih=>
    rcases ih with h1|h1
    ·by_cases e:s=b
     ·subst e;exact .inr (.step hr' hs hne)
     exact .inl (.step h1 hs e)
    exact .inr h1
 exact key.elim k h
theorem Dom.anti {n a b:Nat} (hn:RchS S n a) (h:Dom S a b) (k:Dom S b a):a=b:=by
 refine Classical.byContradiction fun e=>?_
 have key:∀x,RchS S n x→(RchS S a x∧RchS S b x)∨RchS S b a∨RchS S a b:=by
  intro x hx
  induction hx with
  |entry _=>
   by_cases ea:a=0
   ·subst ea;exact .inr (.inl (.entry fun h=>e h.symm))
   by_cases eb:b=0
   ·subst eb;exact .inr (.inr (.entry ea))
   exact .inl ⟨.entry ea,.entry eb⟩
  | @step y s _ hs _ ih=>
    rcases ih with ⟨h1,h2⟩|h1
    ·by_cases ea:s=a
     ·subst ea;exact .inr (.inl (.step h2 hs e))
     by_cases eb:s=b
     ·subst eb;exact .inr (.inr (.step h1 hs ea))
     exact .inl ⟨.step h1 hs ea,.step h2 hs eb⟩
    exact .inr h1
 rcases key a hn with ⟨h1,_⟩|h1|h1
 ·exact h1.ne rfl
 ·exact k h1
 exact h h1
end
def predsL (S:Nat→List Nat) (n b:Nat):List Nat:=(List.range n).flatMap fun i=>((S i).filter fun s=>s == b).map fun _=>i
theorem mem_predsL {S:Nat→List Nat} {n b p:Nat}:p∈predsL S n b↔p<n∧b∈S p:=by
 simp [predsL,List.mem_flatMap]
theorem predsL_len {S:Nat→List Nat} {b:Nat}:∀n,(∀i,i<n→(S i).length≤2)→(predsL S n b).length≤2 * n
 |0,_=>by simp [predsL]
 |n+1,h=>by
  have ih:=predsL_len (S:=S) (b:=b) n fun i hi=>h i (by omega)
  have h1:=h n (by omega)
  have h2:((S n).filter fun s=>s == b).length≤(S n).length:=List.length_filter_le _ _
  unfold predsL at ih ⊢
  rw[List.range_succ,List.flatMap_append,List.length_append]
  simp only [List.flatMap_cons,List.flatMap_nil,List.append_nil,List.length_map]
  omega
theorem countP_lt {α:Type} {p q:α→Bool}:∀{l:List α},(∀x∈l,p x=true→q x=true)→(∃x∈l,q x=true∧p x=false)→l.countP p<l.countP q
 | [],_,⟨x,hx,_⟩=>by cases hx
 |a :: l,h,⟨x,hx,hq,hp⟩=>by
  rw[List.countP_cons,List.countP_cons]
  have hle:l.countP p≤l.countP q:=List.countP_mono_left fun y hy=>h y (.tail _ hy)
  rcases List.mem_cons.1 hx with e|hx'
  ·subst e
   rw[hp,hq]
   simp
   omega
  have:=countP_lt (p:=p) (q:=q) (l:=l) (fun y hy=>h y (.tail _ hy)) ⟨x,hx',hq,hp⟩
  have ha:=h a (.head _)
  by_cases e:p a=true
  ·rw[e,ha e];simp;omega
  have e:p a=false:=by simpa using e
  rw[e]
  simp only [Bool.false_eq_true,if_false]
  omega
def E0 (g:Gph) (i k a:Nat):Prop:=
 if g.op i=13 then Dom g.succs (g.blk a) ((g.preds (g.blk i)).getD k 0)
 else (g.blk a≠g.blk i∧Dom g.succs (g.blk a) (g.blk i))∨(g.blk a=g.blk i∧a<i)
structure Frm (g:Gph):Prop where
 one:1≤g.nb
 nb:g.nb≤9
 nv:g.nv≤48
 blk:∀i,i<g.nv→g.blk i<g.nb
 kind:∀b,b<g.nb→0≤g.kind b∧g.kind b≤2∧((g.succs b).length:Int)=Ct (g.kind b)
 likely:∀b,b<g.nb→ -1≤g.likely b∧g.likely b≤1∧(g.kind b≠1→g.likely b=0)
 succs:∀b,b<g.nb→∀s∈g.succs b,1≤s∧s<g.nb
 rch:∀b,b<g.nb→RchS g.succs g.nb b
 preds:∀b,b<g.nb→g.preds b=predsL g.succs g.nb b
 bvals:∀b,b<g.nb→g.bvals b=(List.range g.nv).filter fun i=>g.blk i == b
structure GoodA (g:Gph):Prop extends Frm g where
 ops:∀i,i<g.nv→0≤g.op i∧g.op i≤15∧((g.args i).length:Int)=manyI (g.op i) ((g.preds (g.blk i)).length:Nat)
 aux:∀i,i<g.nv→(g.op i=0→0≤g.aux i∧g.aux i≤3)∧(1<g.op i→g.aux i=0)∧(g.op i=13→0<(g.args i).length)
 args:∀i,i<g.nv→∀k,k<(g.args i).length→(g.args i).getD k 0<g.nv∧E0 g i k ((g.args i).getD k 0)
structure GoodG (T:Nat→Bool) (g:Gph):Prop extends GoodA g where
 tru:∀i,i<g.nv→g.op i≠14→∀k,k<(g.args i).length→T ((g.args i).getD k 0)=decide (g.op i=15∧k=2)
 tr:∀i,i<g.nv→T i=if isT (g.op i) then true else if g.op i=14 then T ((g.args i).getD 0 0) else false
 ctrl:∀b,b<g.nb→(g.kind b=0∧g.ctrl b=[])∨∃c,g.ctrl b=[c]∧g.kind b≠0∧c<g.nv∧Dom g.succs (g.blk c) b∧T c=decide (g.kind b=1)
theorem Ha (k:Int):Ct k≤2:=by
 unfold Ct
 split
 ·decide
 split <;> decide
section
variable {T : Nat → Bool} {g : Gph}
theorem Frm.slen (h:Frm g) {b:Nat} (hb:b<g.nb):(g.succs b).length≤2:=by
 have h1:=(h.kind b hb).2.2
 have h2:=Ha (g.kind b)
 omega
theorem Frm.plen (h:Frm g) {b:Nat} (hb:b<g.nb):(g.preds b).length≤18:=by
 rw[h.preds b hb]
 have h1:=predsL_len (S:=g.succs) (b:=b) g.nb fun i hi=>h.slen hi
 have h2:=h.nb
 omega
theorem Frm.anti (h:Frm g) {a b:Nat} (ha:a<g.nb) (h1:Dom g.succs a b) (h2:Dom g.succs b a):a=b:=Dom.anti (h.rch a ha) h1 h2
theorem GoodA.args_mem (_h:GoodA g) {i a:Nat} (_hi:i<g.nv) (ha:a∈g.args i):∃k,k<(g.args i).length∧(g.args i).getD k 0=a:=by
 obtain ⟨k,hk,rfl⟩:=List.getElem_of_mem ha
 exact ⟨k,hk,by rw[List.getD_eq_getElem?_getD,List.getElem?_eq_getElem hk];rfl⟩
theorem GoodA.args_lt (h:GoodA g) {i a:Nat} (hi:i<g.nv) (ha:a∈g.args i):a<g.nv:=by
 obtain ⟨k,hk,rfl⟩:=h.args_mem hi ha
 exact (h.args i hi k hk).1
theorem manyI_le (o:Int) (p:Int) (hp:p≤18):manyI o p≤18:=by
 unfold manyI
 repeat (first|omega|split)
theorem GoodA.alen (h:GoodA g) {i:Nat} (hi:i<g.nv):(g.args i).length≤18:=by
 have h1:=(h.ops i hi).2.2
 have h2:=manyI_le (g.op i) ((g.preds (g.blk i)).length:Nat) (by have:=h.plen (h.blk i hi);omega)
 omega
theorem GoodG.gok (h:GoodG T g):GOk g:=by
 refine ⟨h.nb,h.nv,h.blk,fun i hi=>⟨by have:=h.alen hi;omega,fun a ha=>h.args_lt hi ha⟩,fun b hb=>⟨h.slen hb,fun s hs=>(h.succs b hb s hs).2⟩,fun b hb c hc=>?_,fun b hb=>⟨(h.likely b hb).1,(h.likely b hb).2.1⟩⟩
 rcases h.ctrl b hb with ⟨_,h1⟩|⟨c',h1,_,h2,_⟩
 ·rw[h1] at hc;cases hc
 rw[h1] at hc
 have:c=c':=by simpa using hc
 subst this;exact h2
noncomputable def domc (S:Nat→List Nat) (n b:Nat):Nat:=by
 classical exact (List.range n).countP fun d=>decide (Dom S d b)
theorem Frm.domc_lt (h:Frm g) {a b:Nat} (ha:a<g.nb) (hb:b<g.nb) (hab:Dom g.succs a b) (hne:a≠b):domc g.succs g.nb a<domc g.succs g.nb b:=by
 classical
 unfold domc
 refine countP_lt (fun d _ hd=>?_) ⟨b,List.mem_range.2 hb,by simp [Dom.rfl'],?_⟩
 ·exact decide_eq_true ((of_decide_eq_true hd).trans hab)
 exact decide_eq_false fun hd=>hne (h.anti ha hab hd)
noncomputable def rk (g:Gph) (i:Nat):Nat:=domc g.succs g.nb (g.blk i) * 64+i
theorem GoodA.copy1 (h:GoodA g) {i:Nat} (hi:i<g.nv) (ho:g.op i=14):∃j,g.args i=[j]:=by
 have h1:=(h.ops i hi).2.2
 rw[ho] at h1
 have h2:(g.args i).length=1:=by
  have:manyI 14 ((g.preds (g.blk i)).length:Nat)=1:=rfl
  omega
 exact List.length_eq_one_iff.1 h2
theorem GoodA.copy2 (h:GoodA g) {i j:Nat} (hi:i<g.nv) (ho:g.op i=14) (hj:g.args i=[j]):j<g.nv∧((g.blk j≠g.blk i∧Dom g.succs (g.blk j) (g.blk i))∨(g.blk j=g.blk i∧j<i)):=by
 have h1:=h.args i hi 0 (by rw[hj];exact Nat.one_pos)
 rw[hj] at h1
 refine ⟨h1.1,?_⟩
 have h2:=h1.2
 unfold E0 at h2
 rw[ho,if_neg (by decide)] at h2
 exact h2
theorem GoodA.cinv (h:GoodA g):CInv g (rk g):=by
 refine ⟨fun i hi a ha=>h.args_lt hi ha,fun i hi ho=>?_⟩
 obtain ⟨j,hj⟩:=h.copy1 hi ho
 obtain ⟨h1,h2⟩:=h.copy2 hi ho hj
 refine ⟨j,hj,?_⟩
 unfold rk
 have h3:=h.nv
 rcases h2 with ⟨h4,h5⟩|⟨h4,h5⟩
 ·have:=h.domc_lt (h.blk j h1) (h.blk i hi) h5 h4
  omega
 rw[h4];omega
end
end Go.Proofs.YteepnepebilckaaGreatDoor
