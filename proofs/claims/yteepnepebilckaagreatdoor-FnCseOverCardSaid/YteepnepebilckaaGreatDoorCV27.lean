/- The law FnCseOver returns true for every input in which the opcode table reads as laid, and its argument reads as it did, the table being tied to the text of the program. -/
import Derived.Test.YteepnepebilckaaGreatDoorCV26
namespace Go.Proofs.YteepnepebilckaaGreatDoor
open Go Go.Eng Go.RowKit
set_option maxHeartbeats 4000000
attribute [local irreducible] EC EL DL Ret thenQ blockQ Bi bodyQ onlyN execOp Sem.run World.cell? World.frozen? World.setCell World.alloc
noncomputable def DA (f:Fn) (b:Int) (i:Nat):Bool:= @decide (¬ Rch f b i) (Classical.propDecidable _)
theorem Di {f:Fn} {b:Int} {i:Nat}:DA f b i=true↔¬ Rch f b i:=by
 exact @decide_eq_true_iff _ (Classical.propDecidable _)
theorem F7 {f:Fn} {b:Int} {i:Nat} (h:DA f b i=false):Rch f b i:=by
 exact Classical.byContradiction fun e=>by rw[Di.2 e] at h;exact absurd h (by decide)
instance (f:Fn) (v:Vl):Decidable (Dq f v):=inferInstanceAs (Decidable (_∨_))
instance (v:Vl):Decidable (Dh v):=inferInstanceAs (Decidable (_∨_))
theorem F3 (l:List Nat) (k:Nat):(nats l).getD k 0=((l.getD k 0:Nat):Int):=by
 unfold nats
 rw[List.getD_eq_getElem?_getD,List.getD_eq_getElem?_getD,List.getElem?_map]
 cases l[k]? <;> rfl
theorem Fv {f:Fn} {b p:Nat} (h:p∈predsOf f b):p<f.blks.length:=by
 unfold predsOf at h
 obtain ⟨i,hi,h2⟩:=List.mem_flatMap.1 h
 obtain ⟨_,_,rfl⟩:=List.mem_map.1 h2
 exact List.mem_range.1 hi
theorem predsOf_short {f:Fn} (sh:Shp f) (b:Nat):(predsOf f b).length≤18:=by
 have key:∀m,m≤f.blks.length→((List.range m).flatMap fun x=>((f.b x).succs.filter fun s=>s == (b:Int)).map fun _=>x).length≤2 * m:=by
  intro m
  induction m with
  |zero=>intro _;simp
  |succ m ih=>
   intro hm
   rw[List.range_succ,List.flatMap_append,List.length_append]
   have h2:=ih (by omega)
   have h3:=(sh.succs m (by omega)).1
   have h4:(((f.b m).succs.filter fun s=>s == (b:Int)).map fun _=>m).length≤(f.b m).succs.length:=by
    rw[List.length_map];exact List.length_filter_le _ _
   simp only [List.flatMap_cons,List.flatMap_nil,List.append_nil]
   omega
 have h1:=key _ (Nat.le_refl _)
 have h2:=sh.nb
 unfold predsOf
 omega
theorem FI {w:World} {ρ:Operand→Value} {d:Option Tmp} {ty:TypeId} {pos:String} {af:Array Edge} {g:Option (Nat×Bool)} {u:TypeId} {x y:Operand} {a b:Bool} (hx:ρ x= .bool a) (hy:ρ y= .bool b):
 (execOp ρ ⟨d,.binOp .neq 4 x y u,ty,pos,af,g⟩).run Tryz.prog w= .ok (.value (.bool (a != b))) w:=by
 have key:(Op.equal 4 (.bool a) (.bool b)).run Tryz.prog w= .ok (a == b) w:=by cases a <;> cases b <;> kernel_rfl
 simp [execOp,hx,hy,eqGuard,binOp,key]
 cases a <;> cases b <;> rfl
theorem Good_ret {w:World} {x:Value} {f:Fn} (hx:FnV w x f):
 Ret Tryz.prog 10 #[x] w fun v w'=>∃b,v= .bool b∧(b=true↔GoodP f)∧Below w.heap.size w w':=by
 obtain ⟨xv,xb,rfl,hvals,hblks⟩:=hx
 refine ret_of_EC Tryz.func10 rfl rfl ?_
 have hx0:FnV w (.agg #[xv,xb]) f:=⟨xv,xb,rfl,hvals,hblks⟩
 obtain ⟨ab,cb,rfl,hbl⟩:=hblks
 obtain ⟨av,cv,rfl,hvl⟩:=hvals
 obtain ⟨B,hBd⟩:∃B,B=w.heap.size:=⟨_,rfl⟩
 refine Ae (Ac (Ab (Bv (v:=.agg #[.slice av f.vals.length cv,.slice ab f.blks.length cb]) rfl) rfl (el_new (.cells #[.slice av f.vals.length cv,.slice ab f.blks.length cb] 30) B (by omega) fun wa hN1 hO1 hZ1 hB1 hK1=>(Ab Ah rfl (Af (Aa ?_))))))
 obtain ⟨b1,hb1⟩:∃b1,b1=w.heap.size:=⟨_,rfl⟩
 rw[← hb1] at hN1 ⊢
 have hbw:Below b1 w wa:=by rw[hb1,← hBd];exact hB1
 refine Ae (Ae (Ac (Ab (A4 (cs:=[.slice av f.vals.length cv,.slice ab f.blks.length cb]) rfl (A0 rfl) (A3 hN1)) rfl (Be (AG Tryz.func24 rfl rfl rfl rfl) rfl (shape_ret (hx0.keep hK1)) ?_))))
 rintro _ w1 ⟨sb,rfl,hsh,hbs⟩
 refine Ab (BS rfl) rfl (Af (Aa ?_))
 have hb1w:Below b1 w w1:=hbw.trans (hbs.mono (by omega))
 cases sb with
 |false=>
  refine Bm rfl rfl (Ae (Ac (Ab Ah rfl (Af (Aa (AE (AO ?_)))))))
  exact Az rfl rfl rfl ⟨false,rfl,⟨fun h=>(by cases h),fun h=>hsh.2 h.shp⟩,hb1w⟩
 |true=>
 refine Bh rfl rfl (Aq (Aa ?_))
 have hshp:=hsh.1 rfl
 have sh:Shp f:=⟨hshp.one,hshp.nb,fun b hbn=>⟨by
  have h1:=(hshp.blk b hbn).one
  unfold DJ Ct at h1
  have h2:((f.b b).succs.length:Int)=Ct (f.b b).kind:=by
   refine Classical.byContradiction fun h=>h1 ?_
   exact .inl (.inl (.inl (.inr h)))
  unfold Ct at h2
  split at h2
  ·omega
  ·split at h2 <;> omega,fun s hs=>by
  have:=(hshp.blk b hbn).succs s hs
  omega⟩⟩
 have hone:=hshp.one
 have hnb:=hshp.nb
 have hnv:=hshp.nv
 have hbx1:w1.heap[b1]? =some (.cells #[.slice av f.vals.length cv,.slice ab f.blks.length cb] 30 (0,0)):=(hbs.block b1 (by omega)).trans hN1
 have hsz1:=hbs.size
 refine Ae ?_
 have hcd:Cells [(⟨b1,0+0,none⟩,.slice av f.vals.length cv),(⟨b1,0+1,none⟩,.slice ab f.blks.length cb)] w1.drew:=(Keep.drew w1).cells (.cons (Am hbx1 rfl) (.cons (Am hbx1 rfl) (.nil _)))
 refine AY mixed _ [(0,false),(2,false),(1,true),(3,true),(4,false),(5,false)] (by kernel_rfl) hcd ?_
 have hbd:Below b1 w w1.drew:=hb1w.drew
 have hszd0:b1+1≤w1.drew.heap.size:=by
  show b1+1≤w1.heap.size
  omega
 generalize w1.drew=Wd at hcd hbd hszd0 ⊢
 have hKd:Keep w Wd:=Keep.of_below hbd (by omega)
 have hszd:=hbd.size
 refine Aj rfl (fun _ hS=>A4 (cs:=[.slice av f.vals.length cv,.slice ab f.blks.length cb]) rfl (A0 rfl) (fun j u hj=>by
  rcases j with _|_|j
  ·simp at hj;subst hj;exact hS.get (.head _)
  ·simp at hj;subst hj;exact hS.get (.tail _ (.head _))
  simp at hj)) ?_
 refine Aj rfl (fun _ hS=>A4 (cs:=[.slice av f.vals.length cv,.slice ab f.blks.length cb]) rfl (A0 rfl) (fun j u hj=>by
  rcases j with _|_|j
  ·simp at hj;subst hj;exact hS.get (.head _)
  ·simp at hj;subst hj;exact hS.get (.tail _ (.head _))
  simp at hj)) ?_
 refine BO rfl (AG Tryz.func25 rfl rfl rfl rfl) (Preds_ret (hx0.keep hKd) sh) ?_
 rintro _ w2 ⟨G,R,rfl,hG,hGi,hb2⟩
 have hK2:Keep Wd w2:=Keep.of_below hb2 (Nat.le_refl _)
 refine ⟨.inr (hK2.cells hcd),?_⟩
 refine BO rfl (AG Tryz.func19 rfl rfl rfl rfl) (Over_ret ((hx0.keep hKd).keep hK2) sh) ?_
 rintro _ W ⟨g,cap,R2,rfl,hgR,hgrid,hb3⟩
 have hK3:Keep w2 W:=Keep.of_below hb3 (Nat.le_refl _)
 refine ⟨.inr (hK3.cells (hK2.cells hcd)),?_⟩
 refine Aj rfl (fun _ _=>Ah) (Aj rfl (fun _ _=>Ah) (AP (Aa ?_)))
 have hKW:Keep w W:=hKd.trans (hK2.trans hK3)
 have hxW:FnV W (.agg #[.slice av f.vals.length cv,.slice ab f.blks.length cb]) f:=hx0.keep hKW
 have hbW:Below b1 w W:=hbd.trans ((hb2.mono (by omega)).trans (hb3.mono (by have:=hb2.size;omega)))
 have hP:∀b,b<f.blks.length→∃a c,W.cell? ⟨G,0+b,none⟩=some (.slice a (nats (predsOf f b)).length c)∧IntsC W a (nats (predsOf f b)) c:=fun b hb=>by
  obtain ⟨a,c,e,h1⟩:=(hGi b hb).keep hK3
  refine ⟨a,c,?_,h1⟩
  have:=hK3 _ _ (Am (o:=0+b) hG (by rw[Nat.zero_add];exact Bf R hb))
  rw[e] at this;exact this
 have hO:∀b,b<f.blks.length→∃r,W.cell? ⟨g,0+b,none⟩=some (.slice (some ⟨r,0,none⟩) f.blks.length f.blks.length)∧∀i,i<f.blks.length→W.cell? ⟨r,0+i,none⟩=some (.bool (DA f b i)):=fun b hb=>by
  obtain ⟨D,h1,h2⟩:=hgrid b hb
  refine ⟨R2 b,hgR b hb,fun i hi=>?_⟩
  have h3:=Am (w:=W) (o:=0+i) h1 (by rw[Nat.zero_add];exact BM D hi)
  rw[h3]
  have:D i=DA f b i:=by
   rcases Bool.eq_false_or_eq_true (D i) with e|e
   ·rw[e];exact ((Di).2 ((h2 i hi).1 e)).symm
   rw[e]
   rcases Bool.eq_false_or_eq_true (DA f b i) with e2|e2
   ·have:=(h2 i hi).2 (Di.1 e2)
    rw[this] at e;exact absurd e (by decide)
   exact e2.symm
  rw[this]
 have hcW:=hK3.cells (hK2.cells hcd)
 have hW0:W.cell? ⟨b1,0+0,none⟩=some (.slice av f.vals.length cv):=hcW.get (.head _)
 have hW1:W.cell? ⟨b1,0+1,none⟩=some (.slice ab f.blks.length cb):=hcW.get (.tail _ (.head _))
 have hvW:∀k,k<f.vals.length→∃bb ob,av=some ⟨bb,ob,none⟩∧Quad W bb (ob+k * 4) (f.v k).op (f.v k).blk (f.v k).args (f.v k).aux:=fun k hk=>by
  obtain ⟨bb,ob,e,hq⟩:=hvl.resolve_left (fun e=>by rw[e] at hk;simp at hk)
  exact ⟨bb,ob,e,(hq k hk).keep hKW⟩
 have hbW2:∀k,k<f.blks.length→∃bb ob,ab=some ⟨bb,ob,none⟩∧Quad W bb (ob+k * 4) (f.b k).kind (f.b k).ctrl (f.b k).succs (f.b k).likely:=fun k hk=>by
  obtain ⟨bb,ob,e,hq⟩:=hbl.resolve_left (fun e=>by rw[e] at hk;simp at hk)
  exact ⟨bb,ob,e,(hq k hk).keep hKW⟩
 have hszW:b1+1≤W.heap.size:=by
  have:=hb2.size;have:=hb3.size;omega
 clear hgrid hgR hGi hG hx0 hcW hcd hK2 hK3 hb2 hb3
 obtain ⟨SA,hSA⟩:∃SA,SA=W.heap.size:=⟨_,rfl⟩
 refine Cg (fun e wr=>At e [(1,.pointer (some ⟨b1,0,none⟩)),(3,.slice (some ⟨G,0,none⟩) f.blks.length f.blks.length),(4,.slice (some ⟨g,0,none⟩) f.blks.length cap)]∧Below SA W wr∧∀i,i<f.vals.length→¬ Dq f (f.v i)) ?_ ?_
 ·refine Ae (Ac (Ab (Al rfl (Ak rfl)) rfl (Ab (Ai rfl (Ag rfl) ‹_›) rfl ?_)))
  refine Ab (AN rfl (An rfl)) rfl (Ab Ad rfl (Af (Aa (Ao ?_))))
  refine EC_loop (fun n e wr=>∃k,k≤f.vals.length∧At e [(1,.pointer (some ⟨b1,0,none⟩)),(3,.slice (some ⟨G,0,none⟩) f.blks.length f.blks.length),(4,.slice (some ⟨g,0,none⟩) f.blks.length cap),(27,.slice av f.vals.length cv),(28,.int .i64 (f.vals.length:Int)),(29,.int .i64 (k:Int))]∧Below SA W wr∧(∀i,i<k→¬ Dq f (f.v i))∧n=f.vals.length - k) f.vals.length
   ⟨0,Nat.zero_le _,Ar rfl ⟨rfl,rfl,rfl,rfl,rfl,rfl,trivial⟩,Below.refl _ _,fun b hb=>absurd hb (Nat.not_lt_zero _),rfl⟩ ?_
  rintro n e wr ⟨k,hk,⟨t,rfl⟩,hb,hok,rfl⟩
  refine Ae (Ac (Ab (AX rfl rfl) rfl (Af (Aa (Ae ?_)))))
  refine AI rfl rfl (fun hlt=>?_) (fun hge=>?_)
  rotate_left
  ·have hk:k=f.vals.length:=by omega
   subst hk
   refine AK (AB (AD (AA ?_)))
   exact C5 ⟨Ar rfl ⟨rfl,rfl,rfl,trivial⟩,hb,hok⟩
  have hlt:k<f.vals.length:=by omega
  obtain ⟨bb,ob,rfl,⟨s0,hcells0,⟨sa,sc,rfl,hints⟩⟩⟩:=hvW k hlt
  have hKr:Keep W wr:=Keep.of_below hb (by omega)
  have hcells:=hcells0.keep hKr
  have hszr:=hb.size
  refine Aq (Aa (Ae (Ao (Ae (Ac (Ab (A5 (n:=4) rfl rfl (An rfl) hlt) rfl (Ab (A4 rfl (A0 rfl) hcells) rfl (Ab (A9 DZ) rfl (Bc (Bb rfl rfl (A7 rfl) rfl rfl) rfl (Af (Aa ?_)))))))))))
  have hBle:B≤wr.heap.size:=by omega
  refine ec_new (.cells #[.int .i64 (f.v k).op,.int .i64 (f.v k).blk,.slice sa (f.v k).args.length sc,.int .i64 (f.v k).aux] 39) B (by omega) fun X hN3 hO3 hZ3 hB3 hK3=>?_
  obtain ⟨V,hV⟩:∃V,V=wr.heap.size:=⟨_,rfl⟩
  rw[← hV] at hN3 ⊢
  have hbX:Below SA W X:=hb.trans ⟨hB3.os,hB3.tape,hB3.output,hB3.size,fun j hj=>hO3 j (by omega)⟩
  have hKX:Keep W X:=hKr.trans hK3
  obtain ⟨kb,hkb,hkw⟩:∃kb:Nat,kb<f.blks.length∧(¬ (((f.v k).op<0∨15<(f.v k).op)∨(f.v k).blk<0)→¬ (f.blks.length:Int)≤(f.v k).blk→(f.v k).blk=(kb:Int)):=by
   by_cases h0:0≤(f.v k).blk∧(f.v k).blk<f.blks.length
   ·exact ⟨(f.v k).blk.toNat,by omega,fun _ _=>by omega⟩
   exact ⟨0,hone,fun _ _=>by omega⟩
  obtain ⟨pa,pc,hpc,_⟩:=hP kb hkb
  have hplen:(nats (predsOf f kb)).length=(predsOf f kb).length:=List.length_map ..
  rw[hplen] at hpc
  have hbelX:Below b1 w X.drew:=hbW.trans (hbX.mono (by omega)).drew
  refine Ae ?_
  have hc:Cells [(⟨V,0+0,none⟩,.int .i64 (f.v k).op),(⟨V,0+1,none⟩,.int .i64 (f.v k).blk),(⟨V,0+2,none⟩,.slice sa (f.v k).args.length sc),(⟨b1,0+1,none⟩,.slice ab f.blks.length cb),(⟨G,0+kb,none⟩,.slice pa (predsOf f kb).length pc)] X.drew:=
   (Keep.drew X).cells (.cons (Am hN3 rfl) (.cons (Am hN3 rfl) (.cons (Am hN3 rfl) (.cons (hKX _ _ hW1) (.cons (hKX _ _ hpc) (.nil _))))))
  refine AY mixed _ [(0,false),(1,false),(2,false),(3,false),(4,false),(5,false),(6,false),(7,false),(8,false),(9,false),(10,false),(11,false),(12,false),(13,false),(14,false),(15,false),(16,false),(17,false),(18,false),(19,false),(20,false),(21,false),(22,false),(23,false),(24,false),(25,false),(26,false),(27,false),(28,false),(29,false),(30,false),(31,false),(32,false),(33,true),(34,false),(35,false)] (by kernel_rfl) hc ?_
  have hXd:Below SA W X.drew:=hbX.drew
  generalize X.drew=Y at hc hbelX hXd ⊢
  refine DL_cut 8 (fun e w'=>w'=Y∧At e [(40,.bool (decide ((f.v k).op<0∨15<(f.v k).op))),(1,.pointer (some ⟨b1,0,none⟩)),(3,.slice (some ⟨G,0,none⟩) f.blks.length f.blks.length),(4,.slice (some ⟨g,0,none⟩) f.blks.length cap),(27,.slice (some ⟨bb,ob,none⟩) f.vals.length cv),(28,.int .i64 (f.vals.length:Int)),(29,.int .i64 (k:Int)),(6,.pointer (some ⟨V,0,none⟩))]) rfl ?_ ?_
  ·refine Aj rfl (fun _ _=>Al rfl (Ak rfl)) (Aj rfl (fun _ hS=>Ai rfl (Ag rfl) (hS.get (by first|exact mm0|exact mm1|exact mm2|exact mm3|exact mm4|exact mm5|exact mm6|exact mm7))) ?_)
   refine Aj rfl (fun _ _=>AX rfl rfl) (Aj rfl (fun _ _=>Ad) ?_)
   by_cases h1:(f.v k).op<0
   ·rw[decide_eq_true h1]
    refine AJ rfl rfl (AJ rfl rfl (AJ rfl rfl (Aj rfl (fun _ _=>AV rfl) (AP ?_))))
    exact ⟨rfl,Ar rfl ⟨congrArg Value.bool (decide_eq_true (.inl h1)).symm,rfl,rfl,rfl,rfl,rfl,rfl,rfl,trivial⟩⟩
   rw[decide_eq_false h1]
   refine Ay rfl rfl (fun _ _=>Al rfl (Ak rfl)) (Ay rfl rfl (fun _ hS=>Ai rfl (Ag rfl) (hS.get (by first|exact mm0|exact mm1|exact mm2|exact mm3|exact mm4|exact mm5|exact mm6|exact mm7))) ?_)
   refine Ay rfl rfl (fun _ _=>BE rfl rfl) (Aj rfl (fun _ _=>AM rfl) (AP ?_))
   by_cases h2:15<(f.v k).op
   ·rw[decide_eq_true h2]
    exact ⟨rfl,Ar rfl ⟨congrArg Value.bool (decide_eq_true (.inr h2)).symm,rfl,rfl,rfl,rfl,rfl,rfl,rfl,trivial⟩⟩
   rw[decide_eq_false h2]
   exact ⟨rfl,Ar rfl ⟨congrArg Value.bool (decide_eq_false (fun h=>h.elim h1 h2)).symm,rfl,rfl,rfl,rfl,rfl,rfl,rfl,trivial⟩⟩
  rintro e w' ⟨rfl,t,rfl⟩
  refine DL_cut 5 (fun e w''=>w''=w'∧At e [(45,.bool (decide (((f.v k).op<0∨15<(f.v k).op)∨(f.v k).blk<0))),(1,.pointer (some ⟨b1,0,none⟩)),(3,.slice (some ⟨G,0,none⟩) f.blks.length f.blks.length),(4,.slice (some ⟨g,0,none⟩) f.blks.length cap),(27,.slice (some ⟨bb,ob,none⟩) f.vals.length cv),(28,.int .i64 (f.vals.length:Int)),(29,.int .i64 (k:Int)),(6,.pointer (some ⟨V,0,none⟩))]) rfl ?_ ?_
  ·refine Aj rfl (fun _ _=>Ad) ?_
   by_cases h1:(f.v k).op<0∨15<(f.v k).op
   ·rw[decide_eq_true h1]
    refine AJ rfl rfl (AJ rfl rfl (AJ rfl rfl (Aj rfl (fun _ _=>AV rfl) (AP ?_))))
    exact ⟨rfl,Ar rfl ⟨congrArg Value.bool (decide_eq_true (.inl h1)).symm,rfl,rfl,rfl,rfl,rfl,rfl,rfl,trivial⟩⟩
   rw[decide_eq_false h1]
   refine Ay rfl rfl (fun _ _=>Al rfl (Ak rfl)) (Ay rfl rfl (fun _ hS=>Ai rfl (Ag rfl) (hS.get (by first|exact mm0|exact mm1|exact mm2|exact mm3|exact mm4|exact mm5|exact mm6|exact mm7))) ?_)
   refine Ay rfl rfl (fun _ _=>AX rfl rfl) (Aj rfl (fun _ _=>AM rfl) (AP ?_))
   by_cases h2:(f.v k).blk<0
   ·rw[decide_eq_true h2]
    exact ⟨rfl,Ar rfl ⟨congrArg Value.bool (decide_eq_true (.inr h2)).symm,rfl,rfl,rfl,rfl,rfl,rfl,rfl,trivial⟩⟩
   rw[decide_eq_false h2]
   exact ⟨rfl,Ar rfl ⟨congrArg Value.bool (decide_eq_false (fun h=>h.elim h1 h2)).symm,rfl,rfl,rfl,rfl,rfl,rfl,rfl,trivial⟩⟩
  rintro e w'' ⟨rfl,t,rfl⟩
  refine DL_cut 8 (fun e w'=>w'=w''∧At e [(53,.bool (decide ((((f.v k).op<0∨15<(f.v k).op)∨(f.v k).blk<0)∨(f.blks.length:Int)≤(f.v k).blk))),(1,.pointer (some ⟨b1,0,none⟩)),(3,.slice (some ⟨G,0,none⟩) f.blks.length f.blks.length),(4,.slice (some ⟨g,0,none⟩) f.blks.length cap),(27,.slice (some ⟨bb,ob,none⟩) f.vals.length cv),(28,.int .i64 (f.vals.length:Int)),(29,.int .i64 (k:Int)),(6,.pointer (some ⟨V,0,none⟩))]) rfl ?_ ?_
  ·refine Aj rfl (fun _ _=>Ad) ?_
   by_cases h1:((f.v k).op<0∨15<(f.v k).op)∨(f.v k).blk<0
   ·rw[decide_eq_true h1]
    refine AJ rfl rfl (AJ rfl rfl (AJ rfl rfl (AJ rfl rfl (AJ rfl rfl (AJ rfl rfl (Aj rfl (fun _ _=>AV rfl) (AP ?_)))))))
    exact ⟨rfl,Ar rfl ⟨congrArg Value.bool (decide_eq_true (.inl h1)).symm,rfl,rfl,rfl,rfl,rfl,rfl,rfl,trivial⟩⟩
   rw[decide_eq_false h1]
   refine Ay rfl rfl (fun _ _=>Al rfl (Ak rfl)) (Ay rfl rfl (fun _ hS=>Ai rfl (Ag rfl) (hS.get (by first|exact mm0|exact mm1|exact mm2|exact mm3|exact mm4|exact mm5|exact mm6|exact mm7))) ?_)
   refine Ay rfl rfl (fun _ _=>Al rfl (Ak rfl)) (Ay rfl rfl (fun _ hS=>Ai rfl (Ag rfl) (hS.get (by first|exact mm0|exact mm1|exact mm2|exact mm3|exact mm4|exact mm5|exact mm6|exact mm7))) ?_)
   refine Ay rfl rfl (fun _ _=>AN rfl (An rfl)) (Ay rfl rfl (fun _ _=>CJ rfl rfl) (Aj rfl (fun _ _=>AM rfl) (AP ?_)))
   by_cases h2:(f.blks.length:Int)≤(f.v k).blk
   ·rw[decide_eq_true h2]
    exact ⟨rfl,Ar rfl ⟨congrArg Value.bool (decide_eq_true (.inr h2)).symm,rfl,rfl,rfl,rfl,rfl,rfl,rfl,trivial⟩⟩
   rw[decide_eq_false h2]
   exact ⟨rfl,Ar rfl ⟨congrArg Value.bool (decide_eq_false (fun h=>h.elim h1 h2)).symm,rfl,rfl,rfl,rfl,rfl,rfl,rfl,trivial⟩⟩
  rintro e w' ⟨rfl,t,rfl⟩
  refine DL_mono (fun e w''=>w''=w'∧At e [(68,.bool (decide (Dq f (f.v k)))),(1,.pointer (some ⟨b1,0,none⟩)),(3,.slice (some ⟨G,0,none⟩) f.blks.length f.blks.length),(4,.slice (some ⟨g,0,none⟩) f.blks.length cap),(27,.slice (some ⟨bb,ob,none⟩) f.vals.length cv),(28,.int .i64 (f.vals.length:Int)),(29,.int .i64 (k:Int)),(6,.pointer (some ⟨V,0,none⟩))]) ?_ ?_
  ·refine Aj rfl (fun _ _=>Ad) ?_
   by_cases h1:(((f.v k).op<0∨15<(f.v k).op)∨(f.v k).blk<0)∨(f.blks.length:Int)≤(f.v k).blk
   ·rw[decide_eq_true h1]
    refine AJ rfl rfl (AJ rfl rfl (AJ rfl rfl (AJ rfl rfl (AJ rfl rfl (AJ rfl rfl (AJ rfl rfl (AJ rfl rfl (AJ rfl rfl (AJ rfl rfl (AJ rfl rfl (FS rfl rfl (.inr hc) ?_)))))))))))
    refine AJ rfl rfl (Aj rfl (fun _ _=>AV rfl) (AP ?_))
    exact ⟨rfl,Ar rfl ⟨congrArg Value.bool (decide_eq_true (.inl h1:Dq f (f.v k))).symm,rfl,rfl,rfl,rfl,rfl,rfl,rfl,trivial⟩⟩
   rw[decide_eq_false h1]
   have hkz:=hkw (fun h=>h1 (.inl h)) (fun h=>h1 (.inr h))
   refine Ay rfl rfl (fun _ _=>Al rfl (Ak rfl)) (Ay rfl rfl (fun _ hS=>Ai rfl (Ag rfl) (hS.get (by first|exact mm0|exact mm1|exact mm2|exact mm3|exact mm4|exact mm5|exact mm6|exact mm7))) ?_)
   refine Ay rfl rfl (fun _ _=>AN rfl (An rfl)) (Ay rfl rfl (fun _ _=>Al rfl (Ak rfl)) (Ay rfl rfl (fun _ hS=>Ai rfl (Ag rfl) (hS.get (by first|exact mm0|exact mm1|exact mm2|exact mm3|exact mm4|exact mm5|exact mm6|exact mm7))) ?_))
   refine Ay rfl rfl (fun _ _=>Ad) (Ay rfl rfl (fun _ _=>Al rfl (Ak rfl)) (Ay rfl rfl (fun _ hS=>Ai rfl (Ag rfl) (hS.get (by first|exact mm0|exact mm1|exact mm2|exact mm3|exact mm4|exact mm5|exact mm6|exact mm7))) ?_))
   refine Ay rfl rfl (fun _ _=>Ba rfl rfl hkz (An rfl) hkb) (Ay rfl rfl (fun _ hS=>Ai rfl (Ag rfl) (hS.get (by first|exact mm0|exact mm1|exact mm2|exact mm3|exact mm4|exact mm5|exact mm6|exact mm7))) ?_)
   refine Ay rfl rfl (fun _ _=>AN rfl (An rfl)) (FR rfl rfl (AG Tryz.func26 rfl rfl rfl rfl) (Gz _ _ _) ?_)
   rintro _ w3 ⟨rfl,rfl⟩
   refine ⟨.inr hc,?_⟩
   have hkt:(f.v k).blk.toNat=kb:=by omega
   by_cases h2:((f.v k).args.length:Int)≠manyI (f.v k).op ((predsOf f kb).length:Nat)
   ·refine Ay rfl rfl (fun _ _=>Bw rfl rfl) (Aj rfl (fun _ _=>AM rfl) (AP ?_))
    rw[decide_eq_true h2]
    exact ⟨rfl,Ar rfl ⟨congrArg Value.bool (decide_eq_true (.inr (by rw[hkt];exact h2):Dq f (f.v k))).symm,rfl,rfl,rfl,rfl,rfl,rfl,rfl,trivial⟩⟩
   refine Ay rfl rfl (fun _ _=>Bw rfl rfl) (Aj rfl (fun _ _=>AM rfl) (AP ?_))
   rw[decide_eq_false h2]
   exact ⟨rfl,Ar rfl ⟨congrArg Value.bool (decide_eq_false (fun h=>Or.elim h h1 (fun h=>h2 (by rw[hkt] at h;exact h)):¬ Dq f (f.v k))).symm,rfl,rfl,rfl,rfl,rfl,rfl,rfl,trivial⟩⟩
  rintro e w'' ⟨rfl,t,rfl⟩
  refine Aa ?_
  refine AI rfl rfl (fun hbad=>?_) (fun hgood1=>?_)
  ·refine Ae (Ac (Ab Ah rfl (Af (Aa (AE (AS (AO (Bt (AS (Co ?_))))))))))
   exact Az rfl rfl rfl ⟨false,rfl,⟨fun h=>(by cases h),fun h=>absurd hbad (h.fst k hlt)⟩,hbelX⟩
  refine Aq (Ap (Aa (Ac (Ab (x_inc rfl rfl (by omega)) rfl (Ab Ad rfl (Af ?_))))))
  refine Aw (f.vals.length - (k+1)) (by omega) ⟨k+1,by omega,Ar rfl ⟨rfl,rfl,rfl,rfl,rfl,rfl,trivial⟩,hXd,fun i hik=>?_,rfl⟩
  by_cases e:i=k
  ·subst e;exact hgood1
  exact hok i (by omega)
 rintro e wr ⟨⟨t,rfl⟩,hb,hfst⟩
 refine Cg (fun e wr=>At e [(1,.pointer (some ⟨b1,0,none⟩)),(3,.slice (some ⟨G,0,none⟩) f.blks.length f.blks.length),(4,.slice (some ⟨g,0,none⟩) f.blks.length cap)]∧Below SA W wr∧∀i,i<f.vals.length→¬ Dh (f.v i)∧∀k,k<(f.v i).args.length→EU f i k) ?_ ?_
 ·have g0:=Keep.of_below hb (by omega) _ _ hW0
  refine Ae (Ac (Ab (Al rfl (Ak rfl)) rfl (Ab (Ai rfl (Ag rfl) ‹_›) rfl ?_)))
  refine Ab (AN rfl (An rfl)) rfl (Ab Ad rfl (Af (Aa (Ao ?_))))
  refine EC_loop (fun n e wr=>∃k,k≤f.vals.length∧At e [(1,.pointer (some ⟨b1,0,none⟩)),(3,.slice (some ⟨G,0,none⟩) f.blks.length f.blks.length),(4,.slice (some ⟨g,0,none⟩) f.blks.length cap),(71,.slice av f.vals.length cv),(72,.int .i64 (f.vals.length:Int)),(73,.int .i64 (k:Int))]∧Below SA W wr∧(∀i,i<k→¬ Dh (f.v i)∧∀k,k<(f.v i).args.length→EU f i k)∧n=f.vals.length - k) f.vals.length
   ⟨0,Nat.zero_le _,Ar rfl ⟨rfl,rfl,rfl,rfl,rfl,rfl,trivial⟩,hb,fun b hb=>absurd hb (Nat.not_lt_zero _),rfl⟩ ?_
  clear hb g0
  rintro n e wr ⟨k,hk,⟨t,rfl⟩,hb,hok,rfl⟩
  refine Ae (Ac (Ab (AX rfl rfl) rfl (Af (Aa (Ae ?_)))))
  refine AI rfl rfl (fun hlt=>?_) (fun hge=>?_)
  rotate_left
  ·have hk:k=f.vals.length:=by omega
   subst hk
   refine AK (AB (AD (AA ?_)))
   exact C5 ⟨Ar rfl ⟨rfl,rfl,rfl,trivial⟩,hb,hok⟩
  have hlt:k<f.vals.length:=by omega
  obtain ⟨bb,ob,rfl,⟨s0,hcells0,⟨sa,sc,rfl,hints⟩⟩⟩:=hvW k hlt
  have hKr:Keep W wr:=Keep.of_below hb (by omega)
  have hcells:=hcells0.keep hKr
  have hszr:=hb.size
  refine Aq (Aa (Ae (Ao (Ae (Ac (Ab Ad rfl (Ab (A5 (n:=4) rfl rfl (An rfl) hlt) rfl (Ab (A4 rfl (A0 rfl) hcells) rfl (Ab (A9 DZ) rfl (Ab Ah rfl (Bc (Bb rfl rfl (A7 rfl) rfl rfl) rfl ?_)))))))))))
  refine Af (Aa ?_)
  have hBle:B≤wr.heap.size:=by omega
  refine ec_new (.cells #[.int .i64 (f.v k).op,.int .i64 (f.v k).blk,.slice sa (f.v k).args.length sc,.int .i64 (f.v k).aux] 39) B (by omega) fun X hN3 hO3 hZ3 hB3 hK3=>?_
  obtain ⟨V,hV⟩:∃V,V=wr.heap.size:=⟨_,rfl⟩
  rw[← hV] at hN3 ⊢
  have hbX:Below SA W X:=hb.trans ⟨hB3.os,hB3.tape,hB3.output,hB3.size,fun j hj=>hO3 j (by omega)⟩
  have hKX:Keep W X:=hKr.trans hK3
  have hszX:=hbX.size
  have hbelX:Below b1 w X:=hbW.trans (hbX.mono (by omega))
  have v0:X.cell? ⟨V,0+0,none⟩=some (.int .i64 (f.v k).op):=Am hN3 rfl
  have v1:X.cell? ⟨V,0+1,none⟩=some (.int .i64 (f.v k).blk):=Am hN3 rfl
  have v2:X.cell? ⟨V,0+2,none⟩=some (.slice sa (f.v k).args.length sc):=Am hN3 rfl
  have v3:X.cell? ⟨V,0+3,none⟩=some (.int .i64 (f.v k).aux):=Am hN3 rfl
  refine Ae (Ae (Ac ?_))
  refine Cm 34 (fun e w'=>w'=X∧At e [(111,.bool (decide (Dh (f.v k)))),(1,.pointer (some ⟨b1,0,none⟩)),(3,.slice (some ⟨G,0,none⟩) f.blks.length f.blks.length),(4,.slice (some ⟨g,0,none⟩) f.blks.length cap),(71,.slice (some ⟨bb,ob,none⟩) f.vals.length cv),(72,.int .i64 (f.vals.length:Int)),(73,.int .i64 (k:Int)),(7,.int .i64 (k:Int)),(8,.pointer (some ⟨V,0,none⟩))]) ?_ ?_
  ·refine Cm 13 (fun e w'=>w'=X∧At e [(90,.bool (decide ((f.v k).op=0∧((f.v k).aux<0∨3<(f.v k).aux)))),(1,.pointer (some ⟨b1,0,none⟩)),(3,.slice (some ⟨G,0,none⟩) f.blks.length f.blks.length),(4,.slice (some ⟨g,0,none⟩) f.blks.length cap),(71,.slice (some ⟨bb,ob,none⟩) f.vals.length cv),(72,.int .i64 (f.vals.length:Int)),(73,.int .i64 (k:Int)),(7,.int .i64 (k:Int)),(8,.pointer (some ⟨V,0,none⟩))]) ?_ ?_
   ·refine Ab (Al rfl (Ak rfl)) rfl (Ab (Ai rfl (Ag rfl) ‹_›) rfl ?_)
    refine Ab (Bn rfl rfl) rfl (Ab Ad rfl ?_)
    by_cases h1:(f.v k).op=0
    ·rw[decide_eq_true h1]
     refine Av rfl rfl (Al rfl (Ak rfl)) rfl (Av rfl rfl (Ai rfl (Ag rfl) ‹_›) rfl ?_)
     refine Av rfl rfl (AX rfl rfl) rfl (Av rfl rfl Ad rfl ?_)
     by_cases h2:(f.v k).aux<0
     ·rw[decide_eq_true h2]
      refine AF rfl rfl (AF rfl rfl (AF rfl rfl (Av rfl rfl (AV rfl) rfl (Ab (AV rfl) rfl (Af ?_)))))
      exact ⟨rfl,Ar rfl ⟨congrArg Value.bool (decide_eq_true (⟨h1,.inl h2⟩:(f.v k).op=0∧((f.v k).aux<0∨3<(f.v k).aux))).symm,rfl,rfl,rfl,rfl,rfl,rfl,rfl,rfl,trivial⟩⟩
     rw[decide_eq_false h2]
     refine Av rfl rfl (Al rfl (Ak rfl)) rfl (Av rfl rfl (Ai rfl (Ag rfl) ‹_›) rfl ?_)
     refine Av rfl rfl (BE rfl rfl) rfl (Av rfl rfl (AM rfl) rfl (Ab (AV rfl) rfl (Af ?_)))
     by_cases h3:3<(f.v k).aux
     ·rw[decide_eq_true h3]
      exact ⟨rfl,Ar rfl ⟨congrArg Value.bool (decide_eq_true (⟨h1,.inr h3⟩:(f.v k).op=0∧((f.v k).aux<0∨3<(f.v k).aux))).symm,rfl,rfl,rfl,rfl,rfl,rfl,rfl,rfl,trivial⟩⟩
     rw[decide_eq_false h3]
     exact ⟨rfl,Ar rfl ⟨congrArg Value.bool (decide_eq_false (fun h=>h.2.elim h2 h3:¬ ((f.v k).op=0∧((f.v k).aux<0∨3<(f.v k).aux)))).symm,rfl,rfl,rfl,rfl,rfl,rfl,rfl,rfl,trivial⟩⟩
    rw[decide_eq_false h1]
    refine AF rfl rfl (AF rfl rfl (AF rfl rfl (AF rfl rfl (Bz rfl rfl (Bz rfl rfl (Bz rfl rfl (AF rfl rfl (Ab (AM rfl) rfl (Af ?_)))))))))
    exact ⟨rfl,Ar rfl ⟨congrArg Value.bool (decide_eq_false (fun h=>h1 h.1:¬ ((f.v k).op=0∧((f.v k).aux<0∨3<(f.v k).aux)))).symm,rfl,rfl,rfl,rfl,rfl,rfl,rfl,rfl,trivial⟩⟩
   rintro e w' ⟨rfl,t,rfl⟩
   refine Cm 10 (fun e w''=>w''=w'∧At e [(100,.bool (decide (((f.v k).op=0∧((f.v k).aux<0∨3<(f.v k).aux))∨(1<(f.v k).op∧(f.v k).aux≠0)))),(1,.pointer (some ⟨b1,0,none⟩)),(3,.slice (some ⟨G,0,none⟩) f.blks.length f.blks.length),(4,.slice (some ⟨g,0,none⟩) f.blks.length cap),(71,.slice (some ⟨bb,ob,none⟩) f.vals.length cv),(72,.int .i64 (f.vals.length:Int)),(73,.int .i64 (k:Int)),(7,.int .i64 (k:Int)),(8,.pointer (some ⟨V,0,none⟩))]) ?_ ?_
   ·refine Ab Ad rfl ?_
    by_cases h1:(f.v k).op=0∧((f.v k).aux<0∨3<(f.v k).aux)
    ·rw[decide_eq_true h1]
     refine AF rfl rfl (AF rfl rfl (AF rfl rfl (AF rfl rfl (Bz rfl rfl (Bz rfl rfl (Bz rfl rfl (AF rfl rfl (Ab (AV rfl) rfl (Af ?_)))))))))
     exact ⟨rfl,Ar rfl ⟨congrArg Value.bool (decide_eq_true (.inl h1)).symm,rfl,rfl,rfl,rfl,rfl,rfl,rfl,rfl,trivial⟩⟩
    rw[decide_eq_false h1]
    refine Av rfl rfl (Al rfl (Ak rfl)) rfl (Av rfl rfl (Ai rfl (Ag rfl) ‹_›) rfl ?_)
    refine Av rfl rfl (BE rfl rfl) rfl (Av rfl rfl Ad rfl ?_)
    by_cases h2:1<(f.v k).op
    ·rw[decide_eq_true h2]
     refine Av rfl rfl (Al rfl (Ak rfl)) rfl (Av rfl rfl (Ai rfl (Ag rfl) ‹_›) rfl ?_)
     refine Av rfl rfl (Bw rfl rfl) rfl (Av rfl rfl (AV rfl) rfl (Ab (AM rfl) rfl (Af ?_)))
     by_cases h3:(f.v k).aux≠0
     ·rw[decide_eq_true h3]
      exact ⟨rfl,Ar rfl ⟨congrArg Value.bool (decide_eq_true (.inr ⟨h2,h3⟩)).symm,rfl,rfl,rfl,rfl,rfl,rfl,rfl,rfl,trivial⟩⟩
     rw[decide_eq_false h3]
     exact ⟨rfl,Ar rfl ⟨congrArg Value.bool (decide_eq_false (fun h=>h.elim h1 (fun h=>h3 h.2))).symm,rfl,rfl,rfl,rfl,rfl,rfl,rfl,rfl,trivial⟩⟩
    rw[decide_eq_false h2]
    refine AF rfl rfl (AF rfl rfl (AF rfl rfl (Av rfl rfl (AM rfl) rfl (Ab (AM rfl) rfl (Af ?_)))))
    exact ⟨rfl,Ar rfl ⟨congrArg Value.bool (decide_eq_false (fun h=>h.elim h1 (fun h=>h2 h.1))).symm,rfl,rfl,rfl,rfl,rfl,rfl,rfl,rfl,trivial⟩⟩
   rintro e w'' ⟨rfl,t,rfl⟩
   refine Ab Ad rfl ?_
   by_cases h1:((f.v k).op=0∧((f.v k).aux<0∨3<(f.v k).aux))∨(1<(f.v k).op∧(f.v k).aux≠0)
   ·rw[decide_eq_true h1]
    refine AF rfl rfl (AF rfl rfl (AF rfl rfl (AF rfl rfl (Bz rfl rfl (Bz rfl rfl (Bz rfl rfl (Bz rfl rfl (AF rfl rfl (Ab (AV rfl) rfl (Af ?_))))))))))
    exact ⟨rfl,Ar rfl ⟨congrArg Value.bool (decide_eq_true (.inl h1:Dh (f.v k))).symm,rfl,rfl,rfl,rfl,rfl,rfl,rfl,rfl,trivial⟩⟩
   rw[decide_eq_false h1]
   refine Av rfl rfl (Al rfl (Ak rfl)) rfl (Av rfl rfl (Ai rfl (Ag rfl) ‹_›) rfl ?_)
   refine Av rfl rfl (Bn rfl rfl) rfl (Av rfl rfl Ad rfl ?_)
   by_cases h2:(f.v k).op=13
   ·rw[decide_eq_true h2]
    refine Av rfl rfl (Al rfl (Ak rfl)) rfl (Av rfl rfl (Ai rfl (Ag rfl) ‹_›) rfl ?_)
    refine Av rfl rfl (AN rfl (An rfl)) rfl (Av rfl rfl (Bn rfl rfl) rfl (Av rfl rfl (AV rfl) rfl (Ab (AM rfl) rfl (Af ?_))))
    by_cases h3:((f.v k).args.length:Int)=0
    ·rw[decide_eq_true h3]
     exact ⟨rfl,Ar rfl ⟨congrArg Value.bool (decide_eq_true (.inr ⟨h2,by omega⟩:Dh (f.v k))).symm,rfl,rfl,rfl,rfl,rfl,rfl,rfl,rfl,trivial⟩⟩
    rw[decide_eq_false h3]
    exact ⟨rfl,Ar rfl ⟨congrArg Value.bool (decide_eq_false (fun h=>Or.elim h h1 (fun h=>h3 (by omega)):¬ Dh (f.v k))).symm,rfl,rfl,rfl,rfl,rfl,rfl,rfl,rfl,trivial⟩⟩
   rw[decide_eq_false h2]
   refine AF rfl rfl (AF rfl rfl (AF rfl rfl (AF rfl rfl (Av rfl rfl (AM rfl) rfl (Ab (AM rfl) rfl (Af ?_))))))
   exact ⟨rfl,Ar rfl ⟨congrArg Value.bool (decide_eq_false (fun h=>Or.elim h h1 (fun h=>h2 h.1):¬ Dh (f.v k))).symm,rfl,rfl,rfl,rfl,rfl,rfl,rfl,rfl,trivial⟩⟩
  rintro e w' ⟨rfl,t,rfl⟩
  refine Af (Aa ?_)
  refine AI rfl rfl (fun hbad=>?_) (fun hgood1=>?_)
  ·refine Ae (Ac (Ab Ah rfl (Af (Aa (AE (AO (AS (AO (Bt (AS (Co ?_)))))))))))
   exact Az rfl rfl rfl ⟨false,rfl,⟨fun h=>(by cases h),fun h=>absurd hbad (h.snd k hlt).1⟩,hbelX⟩
  refine Aq (Aa ?_)
  have hbk:0≤(f.v k).blk∧(f.v k).blk<f.blks.length:=by
   have h1:=hfst k hlt
   refine ⟨Classical.byContradiction fun e=>h1 (.inl (.inl (.inr (by omega)))),Classical.byContradiction fun e=>h1 (.inl (.inr (by omega)))⟩
  have halen:((f.v k).args.length:Int)=manyI (f.v k).op ((predsOf f (f.v k).blk.toNat).length:Nat):=Classical.byContradiction fun e=>hfst k hlt (.inr e)
  obtain ⟨kb,hkb⟩:∃kb:Nat,(f.v k).blk=(kb:Int):=⟨_,(Int.toNat_of_nonneg hbk.1).symm⟩
  rw[hkb,Int.toNat_natCast] at halen
  have hkbn:kb<f.blks.length:=by omega
  rw[hkb] at v1
  have halen64:(f.v k).args.length<9223372036854775807:=by
   have h2:=predsOf_short sh kb
   have h3:manyI (f.v k).op ((predsOf f kb).length:Nat)≤20:=by
    unfold manyI
    repeat (first|omega|split)
   omega
  refine Ae (Ac (Ab (Al rfl (Ak rfl)) rfl (Ab (Ai rfl (Ag rfl) ‹_›) rfl ?_)))
  refine Ab (AN rfl (An rfl)) rfl (Ab Ad rfl (Af (Aa (Ao ?_))))
  refine EC_loop (fun n e wi=>∃j,j≤(f.v k).args.length∧At e [(1,.pointer (some ⟨b1,0,none⟩)),(3,.slice (some ⟨G,0,none⟩) f.blks.length f.blks.length),(4,.slice (some ⟨g,0,none⟩) f.blks.length cap),(71,.slice (some ⟨bb,ob,none⟩) f.vals.length cv),(72,.int .i64 (f.vals.length:Int)),(73,.int .i64 (k:Int)),(7,.int .i64 (k:Int)),(8,.pointer (some ⟨V,0,none⟩)),(113,.slice sa (f.v k).args.length sc),(114,.int .i64 ((f.v k).args.length:Int)),(115,.int .i64 (j:Int))]∧Below SA W wi∧Keep w' wi∧Below b1 w wi∧(∀i,i<j→EU f k i)∧n=(f.v k).args.length - j) (f.v k).args.length
   ⟨0,Nat.zero_le _,Ar rfl ⟨rfl,rfl,rfl,rfl,rfl,rfl,rfl,rfl,rfl,rfl,rfl,trivial⟩,hbX,fun _ _ h=>h,hbelX,fun b hb=>absurd hb (Nat.not_lt_zero _),rfl⟩ ?_
  rintro n e wi ⟨j,hj,⟨t,rfl⟩,hbi,hKi,hbeli,hall,rfl⟩
  refine Ae (Ac (Ab (AX rfl rfl) rfl (Af (Aa (Ae ?_)))))
  refine AI rfl rfl (fun hlj=>?_) (fun hge=>?_)
  rotate_left
  ·have hj:j=(f.v k).args.length:=by omega
   subst hj
   refine AK (AB (AD (AA (Ap (Aa (Ac (Ab (x_inc rfl rfl (by omega)) rfl (Ab Ad rfl (Af ?_)))))))))
   refine Aw (f.vals.length - (k+1)) (by omega) ⟨k+1,by omega,Ar rfl ⟨rfl,rfl,rfl,rfl,rfl,rfl,trivial⟩,hbi,fun i hik=>?_,rfl⟩
   by_cases e:i=k
   ·subst e;exact ⟨hgood1,hall⟩
   exact hok i (by omega)
  have hlj:j<(f.v k).args.length:=by omega
  obtain ⟨ba,oa,rfl,hai⟩:=hints.get hlj
  have hKWi:Keep W wi:=Keep.of_below hbi (by omega)
  have hai:=hKWi _ _ hai
  have g0:wi.cell? ⟨b1,0+0,none⟩=some (.slice (some ⟨bb,ob,none⟩) f.vals.length cv):=hKWi _ _ hW0
  refine Aq (Aa (Ae (Ao (Ae (Ac (Ab Ad rfl (Ab (x_index1 rfl rfl (An rfl) (by omega)) rfl (Ab (Ai rfl (Ag rfl) ‹_›) rfl ?_))))))))
  refine Ab Ah rfl (Ab Ah rfl (Af (Aa (Ae (Ae (Ac ?_))))))
  refine Cm 9 (fun e w''=>w''=wi∧At e [(128,.bool (decide ((f.v k).args.getD j 0<0∨(f.vals.length:Int)≤(f.v k).args.getD j 0))),(1,.pointer (some ⟨b1,0,none⟩)),(3,.slice (some ⟨G,0,none⟩) f.blks.length f.blks.length),(4,.slice (some ⟨g,0,none⟩) f.blks.length cap),(71,.slice (some ⟨bb,ob,none⟩) f.vals.length cv),(72,.int .i64 (f.vals.length:Int)),(73,.int .i64 (k:Int)),(7,.int .i64 (k:Int)),(8,.pointer (some ⟨V,0,none⟩)),(113,.slice (some ⟨ba,oa,none⟩) (f.v k).args.length sc),(114,.int .i64 ((f.v k).args.length:Int)),(115,.int .i64 (j:Int)),(9,.int .i64 (j:Int)),(10,.int .i64 ((f.v k).args.getD j 0))]) ?_ ?_
  ·refine Ab Ad rfl (Ab (AX rfl rfl) rfl (Ab Ad rfl ?_))
   by_cases h1:(f.v k).args.getD j 0<0
   ·rw[decide_eq_true h1]
    refine AF rfl rfl (AF rfl rfl (AF rfl rfl (AF rfl rfl (AF rfl rfl (Ab (AV rfl) rfl (Af ?_))))))
    exact ⟨rfl,Ar rfl ⟨congrArg Value.bool (decide_eq_true (.inl h1)).symm,rfl,rfl,rfl,rfl,rfl,rfl,rfl,rfl,rfl,rfl,rfl,rfl,rfl,trivial⟩⟩
   rw[decide_eq_false h1]
   refine Av rfl rfl Ad rfl (Av rfl rfl (Al rfl (Ak rfl)) rfl (Av rfl rfl (Ai rfl (Ag rfl) ‹_›) rfl ?_))
   refine Av rfl rfl (AN rfl (An rfl)) rfl (Av rfl rfl (CJ rfl rfl) rfl (Ab (AM rfl) rfl (Af ?_)))
   by_cases h2:(f.vals.length:Int)≤(f.v k).args.getD j 0
   ·rw[decide_eq_true h2]
    exact ⟨rfl,Ar rfl ⟨congrArg Value.bool (decide_eq_true (.inr h2)).symm,rfl,rfl,rfl,rfl,rfl,rfl,rfl,rfl,rfl,rfl,rfl,rfl,rfl,trivial⟩⟩
   rw[decide_eq_false h2]
   exact ⟨rfl,Ar rfl ⟨congrArg Value.bool (decide_eq_false (fun h=>h.elim h1 h2)).symm,rfl,rfl,rfl,rfl,rfl,rfl,rfl,rfl,rfl,rfl,rfl,rfl,rfl,trivial⟩⟩
  rintro e w'' ⟨rfl,t,rfl⟩
  refine Af (Aa ?_)
  refine AI rfl rfl (fun hbad=>?_) (fun hrange=>?_)
  ·refine Ae (Ac (Ab Ah rfl (Af (Aa (AE (AO (AS (AO (Bt (AS (AS ?_)))))))))))
   refine AO (Bt (AS (Co ?_)))
   refine Az rfl rfl rfl ⟨false,rfl,⟨fun h=>(by cases h),fun h=>?_⟩,hbeli⟩
   have:=((h.snd k hlt).2 j hlj).1
   omega
  refine Aq (Aa ?_)
  obtain ⟨a,ha⟩:∃a:Nat,(f.v k).args.getD j 0=(a:Int):=⟨_,(Int.toNat_of_nonneg (by omega)).symm⟩
  have han:a<f.vals.length:=by omega
  rw[ha]
  have hbA:0≤(f.v a).blk∧(f.v a).blk<f.blks.length:=by
   have h1:=hfst a han
   refine ⟨Classical.byContradiction fun e=>h1 (.inl (.inl (.inr (by omega)))),Classical.byContradiction fun e=>h1 (.inl (.inr (by omega)))⟩
  obtain ⟨na,hna⟩:∃na:Nat,(f.v a).blk=(na:Int):=⟨_,(Int.toNat_of_nonneg hbA.1).symm⟩
  have hnan:na<f.blks.length:=by omega
  obtain ⟨bb',ob',e,⟨s1,hcA,_⟩⟩:=hvW a han
  cases e
  have hcA1:=hcA 1 _ rfl
  rw[hna] at hcA1
  obtain ⟨r,hr1,hr2⟩:=hO na hnan
  obtain ⟨D,hD⟩:∃D,D=DA f na kb:=⟨_,rfl⟩
  have hr3:=hr2 kb hkbn
  rw[← hD] at hr3
  refine Ae ?_
  have hc:Cells [(⟨b1,0+0,none⟩,.slice (some ⟨bb,ob,none⟩) f.vals.length cv),(⟨bb,ob+a * 4+1,none⟩,.int .i64 (na:Int)),(⟨V,0+1,none⟩,.int .i64 (kb:Int)),(⟨g,0+na,none⟩,.slice (some ⟨r,0,none⟩) f.blks.length f.blks.length),(⟨r,0+kb,none⟩,.bool D)] w''.drew:=
   (Keep.drew w'').cells (.cons g0 (.cons (hKWi _ _ hcA1) (.cons (hKi _ _ v1) (.cons (hKWi _ _ hr1) (.cons (hKWi _ _ hr3) (.nil _))))))
  refine AY mixed _ [(0,false),(1,false),(2,false),(3,false),(4,false),(5,false),(6,false),(7,false),(8,false),(9,false),(10,false),(11,false),(12,false),(13,false),(14,false),(15,false),(16,false),(17,false),(18,false),(19,false),(20,false),(21,false),(22,false),(23,false),(24,false),(25,false),(26,false),(27,false),(28,false),(29,false),(30,false),(31,false),(32,false),(33,false),(34,false),(35,false),(36,false),(37,false),(38,false),(39,false),(40,false)] (by kernel_rfl) hc ?_
  have hbi2:=hbi.drew
  have hKi2:=hKi.trans (Keep.drew w'')
  have hbeli2:=hbeli.drew
  generalize w''.drew=Y at hc hbi2 hKi2 hbeli2 ⊢
  refine DL_cut 41 (fun e w0=>w0=Y∧∃kn:Bool,(kn=true↔((na≠kb∧¬ Rch f na kb)∨(na=kb∧a<k)))∧At e [(11,.bool kn),(1,.pointer (some ⟨b1,0,none⟩)),(3,.slice (some ⟨G,0,none⟩) f.blks.length f.blks.length),(4,.slice (some ⟨g,0,none⟩) f.blks.length cap),(71,.slice (some ⟨bb,ob,none⟩) f.vals.length cv),(72,.int .i64 (f.vals.length:Int)),(73,.int .i64 (k:Int)),(7,.int .i64 (k:Int)),(8,.pointer (some ⟨V,0,none⟩)),(113,.slice (some ⟨ba,oa,none⟩) (f.v k).args.length sc),(114,.int .i64 ((f.v k).args.length:Int)),(115,.int .i64 (j:Int)),(9,.int .i64 (j:Int)),(10,.int .i64 (a:Int))]) rfl ?_ ?_
  ·refine Aj rfl (fun _ _=>Al rfl (Ak rfl)) (Aj rfl (fun _ hS=>Ai rfl (Ag rfl) (hS.get (by first|exact mm0|exact mm1|exact mm2|exact mm3|exact mm4|exact mm5|exact mm6|exact mm7))) ?_)
   refine Aj rfl (fun _ _=>Ad) (Aj rfl (fun _ _=>A5 (n:=4) rfl rfl (An rfl) han) (Aj rfl (fun _ _=>Al rfl (Ak rfl)) (Aj rfl (fun _ hS=>Ai rfl (Ag rfl) (hS.get (by first|exact mm0|exact mm1|exact mm2|exact mm3|exact mm4|exact mm5|exact mm6|exact mm7))) ?_)))
   refine Aj rfl (fun _ _=>Al rfl (Ak rfl)) (Aj rfl (fun _ hS=>Ai rfl (Ag rfl) (hS.get (by first|exact mm0|exact mm1|exact mm2|exact mm3|exact mm4|exact mm5|exact mm6|exact mm7))) ?_)
   refine Aj rfl (fun _ _=>Bw rfl rfl) (Aj rfl (fun _ _=>Ad) ?_)
   by_cases e:na=kb
   ·rw[decide_eq_false (show ¬ ((na:Int)≠(kb:Int)) by omega)]
    refine AJ rfl rfl (AJ rfl rfl (AJ rfl rfl (AJ rfl rfl (AJ rfl rfl (AJ rfl rfl (AJ rfl rfl (AJ rfl rfl (AJ rfl rfl (AJ rfl rfl (AJ rfl rfl (AJ rfl rfl ?_)))))))))))
    refine AJ rfl rfl (Aj rfl (fun _ _=>AM rfl) (Aj rfl (fun _ _=>Ad) (Ay rfl rfl (fun _ _=>Al rfl (Ak rfl)) (Ay rfl rfl (fun _ hS=>Ai rfl (Ag rfl) (hS.get (by first|exact mm0|exact mm1|exact mm2|exact mm3|exact mm4|exact mm5|exact mm6|exact mm7))) ?_))))
    refine Ay rfl rfl (fun _ _=>Ad) (Ay rfl rfl (fun _ _=>A5 (n:=4) rfl rfl (An rfl) han) (Ay rfl rfl (fun _ _=>Al rfl (Ak rfl)) (Ay rfl rfl (fun _ hS=>Ai rfl (Ag rfl) (hS.get (by first|exact mm0|exact mm1|exact mm2|exact mm3|exact mm4|exact mm5|exact mm6|exact mm7))) ?_)))
    refine Ay rfl rfl (fun _ _=>Al rfl (Ak rfl)) (Ay rfl rfl (fun _ hS=>Ai rfl (Ag rfl) (hS.get (by first|exact mm0|exact mm1|exact mm2|exact mm3|exact mm4|exact mm5|exact mm6|exact mm7))) ?_)
    refine Ay rfl rfl (fun _ _=>Bn rfl rfl) (Ay rfl rfl (fun _ _=>Ad) ?_)
    rw[decide_eq_true (show (na:Int)=(kb:Int) by omega)]
    refine Ay rfl rfl (fun _ _=>Ad) (Ay rfl rfl (fun _ _=>Ad) (Ay rfl rfl (fun _ _=>AX rfl rfl) (Ay rfl rfl (fun _ _=>AV rfl) (Aj rfl (fun _ _=>AM rfl) (Aj rfl (fun _ _=>Ah) (AP ?_))))))
    refine ⟨rfl,_,⟨fun h=>.inr ⟨e,?_⟩,fun h=>?_⟩,Ar rfl ⟨rfl,rfl,rfl,rfl,rfl,rfl,rfl,rfl,rfl,rfl,rfl,rfl,rfl,rfl,trivial⟩⟩
    ·have:=of_decide_eq_true h;omega
    rcases h with h|h
    ·exact absurd e h.1
    exact decide_eq_true (by have:=h.2;omega)
   rw[decide_eq_true (show (na:Int)≠(kb:Int) by omega)]
   refine Ay rfl rfl (fun _ _=>Ad) (Ay rfl rfl (fun _ _=>Al rfl (Ak rfl)) (Ay rfl rfl (fun _ hS=>Ai rfl (Ag rfl) (hS.get (by first|exact mm0|exact mm1|exact mm2|exact mm3|exact mm4|exact mm5|exact mm6|exact mm7))) ?_))
   refine Ay rfl rfl (fun _ _=>Ad) (Ay rfl rfl (fun _ _=>A5 (n:=4) rfl rfl (An rfl) han) (Ay rfl rfl (fun _ _=>Al rfl (Ak rfl)) (Ay rfl rfl (fun _ hS=>Ai rfl (Ag rfl) (hS.get (by first|exact mm0|exact mm1|exact mm2|exact mm3|exact mm4|exact mm5|exact mm6|exact mm7))) ?_)))
   refine Ay rfl rfl (fun _ _=>x_index1 rfl rfl (An rfl) (by omega)) (Ay rfl rfl (fun _ hS=>Ai rfl (Ag rfl) (hS.get (by first|exact mm0|exact mm1|exact mm2|exact mm3|exact mm4|exact mm5|exact mm6|exact mm7))) ?_)
   refine Ay rfl rfl (fun _ _=>Al rfl (Ak rfl)) (Ay rfl rfl (fun _ hS=>Ai rfl (Ag rfl) (hS.get (by first|exact mm0|exact mm1|exact mm2|exact mm3|exact mm4|exact mm5|exact mm6|exact mm7))) ?_)
   refine Ay rfl rfl (fun _ _=>x_index1 rfl rfl (An rfl) (by omega)) (Ay rfl rfl (fun _ hS=>Ai rfl (Ag rfl) (hS.get (by first|exact mm0|exact mm1|exact mm2|exact mm3|exact mm4|exact mm5|exact mm6|exact mm7))) ?_)
   refine Aj rfl (fun _ _=>AV rfl) (Aj rfl (fun _ _=>Ad) ?_)
   cases D with
   |true=>
    refine AJ rfl rfl (AJ rfl rfl (AJ rfl rfl (AJ rfl rfl (AJ rfl rfl (AJ rfl rfl (AJ rfl rfl (AJ rfl rfl (AJ rfl rfl (AJ rfl rfl (A6 rfl rfl (A6 rfl rfl ?_)))))))))))
    refine A6 rfl rfl (AJ rfl rfl (Aj rfl (fun _ _=>AV rfl) (Aj rfl (fun _ _=>Ah) (AP ?_))))
    exact ⟨rfl,true,⟨fun _=>.inl ⟨e,Di.1 hD.symm⟩,fun _=>rfl⟩,Ar rfl ⟨rfl,rfl,rfl,rfl,rfl,rfl,rfl,rfl,rfl,rfl,rfl,rfl,rfl,rfl,trivial⟩⟩
   |false=>
    refine Ay rfl rfl (fun _ _=>Al rfl (Ak rfl)) (Ay rfl rfl (fun _ hS=>Ai rfl (Ag rfl) (hS.get (by first|exact mm0|exact mm1|exact mm2|exact mm3|exact mm4|exact mm5|exact mm6|exact mm7))) ?_)
    refine Ay rfl rfl (fun _ _=>Ad) (Ay rfl rfl (fun _ _=>A5 (n:=4) rfl rfl (An rfl) han) (Ay rfl rfl (fun _ _=>Al rfl (Ak rfl)) (Ay rfl rfl (fun _ hS=>Ai rfl (Ag rfl) (hS.get (by first|exact mm0|exact mm1|exact mm2|exact mm3|exact mm4|exact mm5|exact mm6|exact mm7))) ?_)))
    refine Ay rfl rfl (fun _ _=>Al rfl (Ak rfl)) (Ay rfl rfl (fun _ hS=>Ai rfl (Ag rfl) (hS.get (by first|exact mm0|exact mm1|exact mm2|exact mm3|exact mm4|exact mm5|exact mm6|exact mm7))) ?_)
    refine Ay rfl rfl (fun _ _=>Bn rfl rfl) (Ay rfl rfl (fun _ _=>Ad) ?_)
    rw[decide_eq_false (show ¬ (na:Int)=(kb:Int) by omega)]
    refine AJ rfl rfl (AJ rfl rfl (AJ rfl rfl (Ay rfl rfl (fun _ _=>AM rfl) (Aj rfl (fun _ _=>AM rfl) (Aj rfl (fun _ _=>Ah) (AP ?_))))))
    exact ⟨rfl,false,⟨fun h=>(by cases h),fun h=>h.elim (fun h=>absurd (F7 hD.symm) h.2) (fun h=>absurd h.1 e)⟩,Ar rfl ⟨rfl,rfl,rfl,rfl,rfl,rfl,rfl,rfl,rfl,rfl,rfl,rfl,rfl,rfl,trivial⟩⟩
  rintro e Y' ⟨rfl,kn,hkn,t,rfl⟩
  refine AP (Aa ?_)
  refine Cg (fun e Z=>∃kn:Bool,(kn=true↔DG f k j (a:Int))∧At e [(11,.bool kn),(1,.pointer (some ⟨b1,0,none⟩)),(3,.slice (some ⟨G,0,none⟩) f.blks.length f.blks.length),(4,.slice (some ⟨g,0,none⟩) f.blks.length cap),(71,.slice (some ⟨bb,ob,none⟩) f.vals.length cv),(72,.int .i64 (f.vals.length:Int)),(73,.int .i64 (k:Int)),(7,.int .i64 (k:Int)),(8,.pointer (some ⟨V,0,none⟩)),(113,.slice (some ⟨ba,oa,none⟩) (f.v k).args.length sc),(114,.int .i64 ((f.v k).args.length:Int)),(115,.int .i64 (j:Int)),(9,.int .i64 (j:Int)),(10,.int .i64 (a:Int))]∧Below SA W Z∧Keep w' Z∧Below b1 w Z) ?_ ?_
  ·refine Ae (Ac ?_)
   have v0':=hKi2 _ _ v0
   refine Ab (Al rfl (Ak rfl)) rfl (Ab (Ai rfl (Ag rfl) ‹_›) rfl ?_)
   refine Ab (Bn rfl rfl) rfl (Af (Aa ?_))
   refine AI rfl rfl (fun hphi=>?_) (fun hphi=>?_)
   rotate_left
   ·refine Aq ?_
    refine C5 ⟨kn,hkn.trans ?_,Ar rfl ⟨rfl,rfl,rfl,rfl,rfl,rfl,rfl,rfl,rfl,rfl,rfl,rfl,rfl,rfl,trivial⟩,hbi2,hKi2,hbeli2⟩
    unfold DG
    rw[if_neg hphi,Int.toNat_natCast,hna,hkb,Int.toNat_natCast]
    constructor
    ·rintro (⟨h1,h2⟩|⟨h1,h2⟩)
     ·exact .inl ⟨by omega,h2⟩
     exact .inr ⟨by omega,by omega⟩
    rintro (⟨h1,h2⟩|⟨h1,h2⟩)
    ·exact .inl ⟨by omega,h2⟩
    exact .inr ⟨by omega,by omega⟩
   have hjl:j<(predsOf f kb).length:=by
    rw[hphi] at halen
    have:manyI 13 ((predsOf f kb).length:Nat)=((predsOf f kb).length:Nat):=rfl
    omega
   obtain ⟨pa,pc,hpc,hpi⟩:=hP kb hkbn
   have hplen:(nats (predsOf f kb)).length=(predsOf f kb).length:=List.length_map ..
   obtain ⟨pb,po,rfl,hpv⟩:=hpi.get (k:=j) (by rw[hplen];exact hjl)
   rw[hplen] at hpc
   rw[F3] at hpv
   have hpn:(predsOf f kb).getD j 0<f.blks.length:=Fv (Bq hjl)
   have hKWY:Keep W Y':=Keep.of_below hbi2 (by omega)
   have hc2:Cells [(⟨b1,0+0,none⟩,.slice (some ⟨bb,ob,none⟩) f.vals.length cv),(⟨bb,ob+a * 4+1,none⟩,.int .i64 (na:Int)),(⟨V,0+1,none⟩,.int .i64 (kb:Int)),(⟨g,0+na,none⟩,.slice (some ⟨r,0,none⟩) f.blks.length f.blks.length),(⟨G,0+kb,none⟩,.slice (some ⟨pb,po,none⟩) (predsOf f kb).length pc),(⟨pb,po+j,none⟩,.int .i64 (((predsOf f kb).getD j 0:Nat):Int)),(⟨r,0+(predsOf f kb).getD j 0,none⟩,.bool (DA f na ((predsOf f kb).getD j 0)))] Y'.drew:=
    (Keep.drew Y').cells (.cons (hKWY _ _ hW0) (.cons (hKWY _ _ hcA1) (.cons (hKi2 _ _ v1) (.cons (hKWY _ _ hr1) (.cons (hKWY _ _ hpc) (.cons (hKWY _ _ hpv) (.cons (hKWY _ _ (hr2 _ hpn)) (.nil _))))))))
   refine AY mixed _ [(0,false),(1,false),(2,false),(3,false),(4,false),(5,false),(6,false),(7,false),(8,false),(9,false),(10,false),(11,false),(12,false),(13,false),(14,false),(15,false),(16,false),(17,false),(18,false),(19,false)] (by kernel_rfl) hc2 ?_
   have hbi3:=hbi2.drew
   have hKi3:=hKi2.trans (Keep.drew Y')
   have hbeli3:=hbeli2.drew
   generalize Y'.drew=Z at hc2 hbi3 hKi3 hbeli3 ⊢
   obtain ⟨p,hp⟩:∃p,p=(predsOf f kb).getD j 0:=⟨_,rfl⟩
   rw[← hp] at hc2 hpn ⊢
   refine Aj rfl (fun _ _=>Ad) (Aj rfl (fun _ _=>Al rfl (Ak rfl)) (Aj rfl (fun _ hS=>Ai rfl (Ag rfl) (hS.get (by first|exact mm0|exact mm1|exact mm2|exact mm3|exact mm4|exact mm5|exact mm6|exact mm7))) ?_))
   refine Aj rfl (fun _ _=>Ad) (Aj rfl (fun _ _=>A5 (n:=4) rfl rfl (An rfl) han) (Aj rfl (fun _ _=>Al rfl (Ak rfl)) (Aj rfl (fun _ hS=>Ai rfl (Ag rfl) (hS.get (by first|exact mm0|exact mm1|exact mm2|exact mm3|exact mm4|exact mm5|exact mm6|exact mm7))) ?_)))
   refine Aj rfl (fun _ _=>x_index1 rfl rfl (An rfl) (by omega)) (Aj rfl (fun _ hS=>Ai rfl (Ag rfl) (hS.get (by first|exact mm0|exact mm1|exact mm2|exact mm3|exact mm4|exact mm5|exact mm6|exact mm7))) ?_)
   refine Aj rfl (fun _ _=>Ad) (Aj rfl (fun _ _=>Al rfl (Ak rfl)) (Aj rfl (fun _ hS=>Ai rfl (Ag rfl) (hS.get (by first|exact mm0|exact mm1|exact mm2|exact mm3|exact mm4|exact mm5|exact mm6|exact mm7))) ?_))
   refine Aj rfl (fun _ _=>x_index1 rfl rfl (An rfl) (by omega)) (Aj rfl (fun _ hS=>Ai rfl (Ag rfl) (hS.get (by first|exact mm0|exact mm1|exact mm2|exact mm3|exact mm4|exact mm5|exact mm6|exact mm7))) ?_)
   refine Aj rfl (fun _ _=>Ad) (Aj rfl (fun _ _=>x_index1 rfl rfl (An rfl) (by omega)) (Aj rfl (fun _ hS=>Ai rfl (Ag rfl) (hS.get (by first|exact mm0|exact mm1|exact mm2|exact mm3|exact mm4|exact mm5|exact mm6|exact mm7))) ?_))
   refine Aj rfl (fun _ _=>x_index1 rfl rfl (An rfl) (by omega)) (Aj rfl (fun _ hS=>Ai rfl (Ag rfl) (hS.get (by first|exact mm0|exact mm1|exact mm2|exact mm3|exact mm4|exact mm5|exact mm6|exact mm7))) ?_)
   refine Aj rfl (fun _ _=>Ah) (AP ?_)
   refine C5 ⟨_,?_,Ar rfl ⟨rfl,rfl,rfl,rfl,rfl,rfl,rfl,rfl,rfl,rfl,rfl,rfl,rfl,rfl,trivial⟩,hbi3,hKi3,hbeli3⟩
   rw[Di,hp]
   unfold DG
   rw[if_pos hphi,Int.toNat_natCast,hna,hkb,Int.toNat_natCast]
  clear hkn hbi2 hKi2 hbeli2 hc kn
  rintro e Z ⟨kn,hkn,⟨t,rfl⟩,hbi2,hKi2,hbeli2⟩
  refine Ae (Ac (Ab Ad rfl (Ab (BS rfl) rfl (Af (Aa ?_)))))
  cases kn with
  |false=>
   refine Bm rfl rfl (Ae (Ac (Ab Ah rfl (Af (Aa (AE (AS (AO (Bt (AS (AS ?_)))))))))))
   refine AO (Bt (AS (Co ?_)))
   refine Az rfl rfl rfl ⟨false,rfl,⟨fun h=>(by cases h),fun h=>?_⟩,hbeli2⟩
   have h1:=((h.snd k hlt).2 j hlj).2
   rw[ha] at h1
   exact hkn.2 h1
  |true=>
   refine Bh rfl rfl (Aq (Ap (Aa (Ac (Ab (x_inc rfl rfl (by omega)) rfl (Ab Ad rfl (Af ?_)))))))
   refine Aw ((f.v k).args.length - (j+1)) (by omega) ⟨j+1,by omega,Ar rfl ⟨rfl,rfl,rfl,rfl,rfl,rfl,rfl,rfl,rfl,rfl,rfl,trivial⟩,hbi2,hKi2,hbeli2,fun i hij=>?_,rfl⟩
   by_cases e:i=j
   ·subst e
    exact ⟨by rw[ha];omega,by rw[ha];exact hkn.1 rfl⟩
   exact hall i (by omega)
 rintro e wr ⟨⟨t,rfl⟩,hb,hsnd⟩
 have tok:TOk f:=fun v hv ho=>by
  have h1:((f.v v).args.length:Int)=manyI (f.v v).op ((predsOf f (f.v v).blk.toNat).length:Nat):=Classical.byContradiction fun e=>hfst v hv (.inr e)
  rw[ho] at h1
  have h2:manyI 14 ((predsOf f (f.v v).blk.toNat).length:Nat)=1:=rfl
  have h3:0<(f.v v).args.length:=by omega
  exact ⟨h3,((hsnd v hv).2 0 h3).1⟩
 refine Cg (fun e wr=>At e [(1,.pointer (some ⟨b1,0,none⟩)),(3,.slice (some ⟨G,0,none⟩) f.blks.length f.blks.length),(4,.slice (some ⟨g,0,none⟩) f.blks.length cap)]∧Below SA W wr∧∀i,i<f.vals.length→∀k,k<(f.v i).args.length→DX f i k) ?_ ?_
 ·have g0:=Keep.of_below hb (by omega) _ _ hW0
  refine Ae (Ac (Ab (Al rfl (Ak rfl)) rfl (Ab (Ai rfl (Ag rfl) ‹_›) rfl ?_)))
  refine Ab (AN rfl (An rfl)) rfl (Ab Ad rfl (Af (Aa (Ao ?_))))
  refine EC_loop (fun n e wr=>∃k,k≤f.vals.length∧At e [(1,.pointer (some ⟨b1,0,none⟩)),(3,.slice (some ⟨G,0,none⟩) f.blks.length f.blks.length),(4,.slice (some ⟨g,0,none⟩) f.blks.length cap),(196,.slice av f.vals.length cv),(197,.int .i64 (f.vals.length:Int)),(198,.int .i64 (k:Int))]∧Below SA W wr∧(∀i,i<k→∀k,k<(f.v i).args.length→DX f i k)∧n=f.vals.length - k) f.vals.length
   ⟨0,Nat.zero_le _,Ar rfl ⟨rfl,rfl,rfl,rfl,rfl,rfl,trivial⟩,hb,fun b hb=>absurd hb (Nat.not_lt_zero _),rfl⟩ ?_
  clear hb g0
  rintro n e wr ⟨k,hk,⟨t,rfl⟩,hb,hok,rfl⟩
  refine Ae (Ac (Ab (AX rfl rfl) rfl (Af (Aa (Ae ?_)))))
  refine AI rfl rfl (fun hlt=>?_) (fun hge=>?_)
  rotate_left
  ·have hk:k=f.vals.length:=by omega
   subst hk
   refine AK (AB (AD (AA ?_)))
   exact C5 ⟨Ar rfl ⟨rfl,rfl,rfl,trivial⟩,hb,hok⟩
  have hlt:k<f.vals.length:=by omega
  obtain ⟨bb,ob,rfl,⟨s0,hcells0,⟨sa,sc,rfl,hints⟩⟩⟩:=hvW k hlt
  have hKr:Keep W wr:=Keep.of_below hb (by omega)
  have hcells:=hcells0.keep hKr
  have hszr:=hb.size
  refine Aq (Aa (Ae (Ao (Ae (Ac (Ab (A5 (n:=4) rfl rfl (An rfl) hlt) rfl (Ab (A4 rfl (A0 rfl) hcells) rfl (Ab (A9 DZ) rfl (Bc (Bb rfl rfl (A7 rfl) rfl rfl) rfl (Af (Aa ?_)))))))))))
  have hBle:B≤wr.heap.size:=by omega
  refine ec_new (.cells #[.int .i64 (f.v k).op,.int .i64 (f.v k).blk,.slice sa (f.v k).args.length sc,.int .i64 (f.v k).aux] 39) B (by omega) fun X hN3 hO3 hZ3 hB3 hK3=>?_
  obtain ⟨V,hV⟩:∃V,V=wr.heap.size:=⟨_,rfl⟩
  rw[← hV] at hN3 ⊢
  have hbX:Below SA W X:=hb.trans ⟨hB3.os,hB3.tape,hB3.output,hB3.size,fun j hj=>hO3 j (by omega)⟩
  have hbelX:Below b1 w X:=hbW.trans (hbX.mono (by omega))
  have v0:X.cell? ⟨V,0+0,none⟩=some (.int .i64 (f.v k).op):=Am hN3 rfl
  have v2:X.cell? ⟨V,0+2,none⟩=some (.slice sa (f.v k).args.length sc):=Am hN3 rfl
  refine Ae (Ac (Ab (Al rfl (Ak rfl)) rfl (Ab (Ai rfl (Ag rfl) ‹_›) rfl ?_)))
  refine Ab (AN rfl (An rfl)) rfl (Ab Ad rfl (Af (Aa ?_)))
  have halen64:(f.v k).args.length<9223372036854775807:=by
   have h1:((f.v k).args.length:Int)=manyI (f.v k).op ((predsOf f (f.v k).blk.toNat).length:Nat):=Classical.byContradiction fun e=>hfst k hlt (.inr e)
   have h2:=predsOf_short sh (f.v k).blk.toNat
   have h3:manyI (f.v k).op ((predsOf f (f.v k).blk.toNat).length:Nat)≤20:=by
    unfold manyI
    repeat (first|omega|split)
   omega
  refine Ao ?_
  refine EC_loop (fun n e wi=>∃j,j≤(f.v k).args.length∧At e [(1,.pointer (some ⟨b1,0,none⟩)),(3,.slice (some ⟨G,0,none⟩) f.blks.length f.blks.length),(4,.slice (some ⟨g,0,none⟩) f.blks.length cap),(196,.slice (some ⟨bb,ob,none⟩) f.vals.length cv),(197,.int .i64 (f.vals.length:Int)),(198,.int .i64 (k:Int)),(13,.pointer (some ⟨V,0,none⟩)),(203,.slice sa (f.v k).args.length sc),(204,.int .i64 ((f.v k).args.length:Int)),(205,.int .i64 (j:Int))]∧Below SA W wi∧Keep X wi∧Below b1 w wi∧(∀i,i<j→DX f k i)∧n=(f.v k).args.length - j) (f.v k).args.length
   ⟨0,Nat.zero_le _,Ar rfl ⟨rfl,rfl,rfl,rfl,rfl,rfl,rfl,rfl,rfl,rfl,trivial⟩,hbX,fun _ _ h=>h,hbelX,fun b hb=>absurd hb (Nat.not_lt_zero _),rfl⟩ ?_
  rintro n e wi ⟨j,hj,⟨t,rfl⟩,hbi,hKi,hbeli,hall,rfl⟩
  refine Ae (Ac (Ab (AX rfl rfl) rfl (Af (Aa (Ae ?_)))))
  refine AI rfl rfl (fun hlj=>?_) (fun hge=>?_)
  rotate_left
  ·have hj:j=(f.v k).args.length:=by omega
   subst hj
   refine AK (AB (AD (AA (Ap (Aa (Ac (Ab (x_inc rfl rfl (by omega)) rfl (Ab Ad rfl (Af ?_)))))))))
   refine Aw (f.vals.length - (k+1)) (by omega) ⟨k+1,by omega,Ar rfl ⟨rfl,rfl,rfl,rfl,rfl,rfl,trivial⟩,hbi,fun i hik=>?_,rfl⟩
   by_cases e:i=k
   ·subst e;exact hall
   exact hok i (by omega)
  have hlj:j<(f.v k).args.length:=by omega
  obtain ⟨ba,oa,rfl,hai⟩:=hints.get hlj
  have hKWi:Keep W wi:=Keep.of_below hbi (by omega)
  have hai:=hKWi _ _ hai
  have g0:wi.cell? ⟨b1,0+0,none⟩=some (.slice (some ⟨bb,ob,none⟩) f.vals.length cv):=hKWi _ _ hW0
  have g1:wi.cell? ⟨b1,0+1,none⟩=some (.slice ab f.blks.length cb):=hKWi _ _ hW1
  have v0':=hKi _ _ v0
  have hszi:=hbi.size
  obtain ⟨⟨hr1,hr2⟩,_⟩:=(hsnd k hlt).2 j hlj
  obtain ⟨a,ha⟩:∃a:Nat,(f.v k).args.getD j 0=(a:Int):=⟨_,(Int.toNat_of_nonneg hr1).symm⟩
  have han:a<f.vals.length:=by omega
  rw[ha] at hai
  refine Aq (Aa (Ae (Ao (Ae (Ac (Ab Ad rfl (Ab (x_index1 rfl rfl (An rfl) (by omega)) rfl (Ab (Ai rfl (Ag rfl) ‹_›) rfl ?_))))))))
  refine Ab Ah rfl (Ab Ah rfl (Af (Aa (Ae (Ac ?_)))))
  refine Cm 8 (fun e w'=>w'=wi∧At e [(16,.bool (decide ((f.v k).op=15∧(j:Int)=2))),(1,.pointer (some ⟨b1,0,none⟩)),(3,.slice (some ⟨G,0,none⟩) f.blks.length f.blks.length),(4,.slice (some ⟨g,0,none⟩) f.blks.length cap),(196,.slice (some ⟨bb,ob,none⟩) f.vals.length cv),(197,.int .i64 (f.vals.length:Int)),(198,.int .i64 (k:Int)),(13,.pointer (some ⟨V,0,none⟩)),(203,.slice (some ⟨ba,oa,none⟩) (f.v k).args.length sc),(204,.int .i64 ((f.v k).args.length:Int)),(205,.int .i64 (j:Int)),(14,.int .i64 (j:Int)),(15,.int .i64 (a:Int))]) ?_ ?_
  ·refine Ab (Al rfl (Ak rfl)) rfl (Ab (Ai rfl (Ag rfl) ‹_›) rfl ?_)
   refine Ab (Bn rfl rfl) rfl (Ab Ad rfl ?_)
   by_cases h1:(f.v k).op=15
   ·rw[decide_eq_true h1]
    refine Av rfl rfl Ad rfl (Av rfl rfl (Bn rfl rfl) rfl (Ab (AV rfl) rfl (Ab Ah rfl (Af ?_))))
    by_cases h2:(j:Int)=2
    ·rw[decide_eq_true h2]
     exact ⟨rfl,Ar rfl ⟨congrArg Value.bool (decide_eq_true (⟨h1,h2⟩:(f.v k).op=15∧(j:Int)=2)).symm,rfl,rfl,rfl,rfl,rfl,rfl,rfl,rfl,rfl,rfl,rfl,rfl,trivial⟩⟩
    rw[decide_eq_false h2]
    exact ⟨rfl,Ar rfl ⟨congrArg Value.bool (decide_eq_false (fun h=>h2 h.2:¬ ((f.v k).op=15∧(j:Int)=2))).symm,rfl,rfl,rfl,rfl,rfl,rfl,rfl,rfl,rfl,rfl,rfl,rfl,trivial⟩⟩
   rw[decide_eq_false h1]
   refine AF rfl rfl (AF rfl rfl (Ab (AM rfl) rfl (Ab Ah rfl (Af ?_))))
   exact ⟨rfl,Ar rfl ⟨congrArg Value.bool (decide_eq_false (fun h=>h1 h.1:¬ ((f.v k).op=15∧(j:Int)=2))).symm,rfl,rfl,rfl,rfl,rfl,rfl,rfl,rfl,rfl,rfl,rfl,rfl,trivial⟩⟩
  rintro e w' ⟨rfl,t,rfl⟩
  refine Af (Aa (Ae (Ac ?_)))
  refine Cm 10 (fun e Z=>Below SA W Z∧Keep X Z∧Below b1 w Z∧∃q:Bool,(q=false↔DX f k j)∧At e [(226,.bool q),(1,.pointer (some ⟨b1,0,none⟩)),(3,.slice (some ⟨G,0,none⟩) f.blks.length f.blks.length),(4,.slice (some ⟨g,0,none⟩) f.blks.length cap),(196,.slice (some ⟨bb,ob,none⟩) f.vals.length cv),(197,.int .i64 (f.vals.length:Int)),(198,.int .i64 (k:Int)),(13,.pointer (some ⟨V,0,none⟩)),(203,.slice (some ⟨ba,oa,none⟩) (f.v k).args.length sc),(204,.int .i64 ((f.v k).args.length:Int)),(205,.int .i64 (j:Int)),(14,.int .i64 (j:Int)),(15,.int .i64 (a:Int))]) ?_ ?_
  ·refine Ab (Al rfl (Ak rfl)) rfl (Ab (Ai rfl (Ag rfl) ‹_›) rfl ?_)
   refine Ab (Bw rfl rfl) rfl (Ab Ad rfl ?_)
   by_cases h14:(f.v k).op≠14
   ·rw[decide_eq_true h14]
    refine Av rfl rfl (A4 (cs:=[.slice (some ⟨bb,ob,none⟩) f.vals.length cv,.slice ab f.blks.length cb]) rfl (A0 rfl) (fun j u hj=>by
     rcases j with _|_|j
     ·simp at hj;subst hj;exact g0
     ·simp at hj;subst hj;exact g1
     simp at hj)) rfl ?_
    refine Av rfl rfl Ad rfl (GG rfl rfl (AG Tryz.func27 rfl rfl rfl rfl) rfl (Truth_ret tok (hxW.keep hKWi) han) ?_)
    rintro _ Z ⟨rfl,hbZ⟩
    refine Av rfl rfl Ad rfl (Av rfl rfl (FI rfl rfl) rfl (Ab (AV rfl) rfl (Af ?_)))
    have hje:decide ((f.v k).op=15∧(j:Int)=2)=decide ((f.v k).op=15∧j=2):=decide_eq_decide.2 ⟨fun h=>⟨h.1,by omega⟩,fun h=>⟨h.1,by omega⟩⟩
    refine ⟨hbi.trans (hbZ.mono (by omega)),hKi.trans (Keep.of_below hbZ (Nat.le_refl _)),hbeli.trans (hbZ.mono (by omega)),_,?_,Ar rfl ⟨rfl,rfl,rfl,rfl,rfl,rfl,rfl,rfl,rfl,rfl,rfl,rfl,rfl,trivial⟩⟩
    unfold DX
    rw[ha,Int.toNat_natCast,hje]
    constructor
    ·intro h _
     simpa using h
    intro h
    rw[h h14]
    simp
   rw[decide_eq_false h14]
   refine AF rfl rfl (AF rfl rfl (AF rfl rfl (AF rfl rfl (AF rfl rfl (Ab (AM rfl) rfl (Af ?_))))))
   exact ⟨hbi,hKi,hbeli,false,⟨fun _ h=>absurd h h14,fun _=>rfl⟩,Ar rfl ⟨rfl,rfl,rfl,rfl,rfl,rfl,rfl,rfl,rfl,rfl,rfl,rfl,rfl,trivial⟩⟩
  clear hbi hKi hbeli hszi hai
  rintro e Z ⟨hbi,hKi,hbeli,q,hq,t,rfl⟩
  refine Af (Aa ?_)
  cases q with
  |true=>
   refine Bm rfl rfl (Ae (Ac (Ab Ah rfl (Af (Aa (AE (AS (AO (Bt (AS (AS ?_)))))))))))
   refine AO (Bt (AS (Co ?_)))
   refine Az rfl rfl rfl ⟨false,rfl,⟨fun h=>(by cases h),fun h=>?_⟩,hbeli⟩
   exact absurd (hq.2 (h.tru k hlt j hlj)) (by decide)
  |false=>
   refine Bh rfl rfl (Aq (Ap (Aa (Ac (Ab (x_inc rfl rfl (by omega)) rfl (Ab Ad rfl (Af ?_)))))))
   refine Aw ((f.v k).args.length - (j+1)) (by omega) ⟨j+1,by omega,Ar rfl ⟨rfl,rfl,rfl,rfl,rfl,rfl,rfl,rfl,rfl,rfl,trivial⟩,hbi,hKi,hbeli,fun i hij=>?_,rfl⟩
   by_cases e:i=j
   ·subst e;exact hq.1 rfl
   exact hall i (by omega)
 rintro e wr ⟨⟨t,rfl⟩,hb,htru⟩
 refine Cg (fun e wr=>At e [(1,.pointer (some ⟨b1,0,none⟩))]∧Below SA W wr∧∀b,b<f.blks.length→DM f b) ?_ ?_
 ·have g0:=Keep.of_below hb (by omega) _ _ hW1
  refine Ae (Ac (Ab (Al rfl (Ak rfl)) rfl (Ab (Ai rfl (Ag rfl) ‹_›) rfl ?_)))
  refine Ab (AN rfl (An rfl)) rfl (Ab Ad rfl (Af (Aa (Ao ?_))))
  refine EC_loop (fun n e wr=>∃k,k≤f.blks.length∧At e [(1,.pointer (some ⟨b1,0,none⟩)),(3,.slice (some ⟨G,0,none⟩) f.blks.length f.blks.length),(4,.slice (some ⟨g,0,none⟩) f.blks.length cap),(230,.slice ab f.blks.length cb),(231,.int .i64 (f.blks.length:Int)),(232,.int .i64 (k:Int))]∧Below SA W wr∧(∀b,b<k→DM f b)∧n=f.blks.length - k) f.blks.length
   ⟨0,Nat.zero_le _,Ar rfl ⟨rfl,rfl,rfl,rfl,rfl,rfl,trivial⟩,hb,fun b hb=>absurd hb (Nat.not_lt_zero _),rfl⟩ ?_
  clear hb g0
  rintro n e wr ⟨k,hk,⟨t,rfl⟩,hb,hok,rfl⟩
  refine Ae (Ac (Ab (AX rfl rfl) rfl (Af (Aa (Ae ?_)))))
  refine AI rfl rfl (fun hlt=>?_) (fun hge=>?_)
  rotate_left
  ·have hk:k=f.blks.length:=by omega
   subst hk
   refine AK (AB (AD (AA ?_)))
   exact C5 ⟨Ar rfl ⟨rfl,trivial⟩,hb,hok⟩
  have hlt:k<f.blks.length:=by omega
  obtain ⟨bb,ob,rfl,⟨s0,hcells0,⟨sa,sc,rfl,hints⟩⟩⟩:=hbW2 k hlt
  have hKr:Keep W wr:=Keep.of_below hb (by omega)
  have hcells:=hcells0.keep hKr
  have hszr:=hb.size
  refine Aq (Aa (Ae (Ao (Ae (Ac (Ab Ad rfl (Ab (A5 (n:=4) rfl rfl (An rfl) hlt) rfl (Ab (A4 rfl (A0 rfl) hcells) rfl (Ab (A9 Ew) rfl (Ab Ah rfl (Bc (Bb rfl rfl (A7 rfl) rfl rfl) rfl ?_)))))))))))
  refine Af (Aa ?_)
  have hBle:B≤wr.heap.size:=by omega
  refine ec_new (.cells #[.int .i64 (f.b k).kind,.int .i64 (f.b k).ctrl,.slice sa (f.b k).succs.length sc,.int .i64 (f.b k).likely] 54) B (by omega) fun X hN3 hO3 hZ3 hB3 hK3=>?_
  obtain ⟨V,hV⟩:∃V,V=wr.heap.size:=⟨_,rfl⟩
  rw[← hV] at hN3 ⊢
  have hbX:Below SA W X:=hb.trans ⟨hB3.os,hB3.tape,hB3.output,hB3.size,fun j hj=>hO3 j (by omega)⟩
  have hKX:Keep W X:=hKr.trans hK3
  have hbelX:Below b1 w X:=hbW.trans (hbX.mono (by omega))
  have v0:X.cell? ⟨V,0+0,none⟩=some (.int .i64 (f.b k).kind):=Am hN3 rfl
  have v1:X.cell? ⟨V,0+1,none⟩=some (.int .i64 (f.b k).ctrl):=Am hN3 rfl
  have hnext:∀(Z:World) (t:Nat→Value),Below SA W Z→DM f k→True:=fun _ _ _ _=>trivial
  refine Ae (Ae (Ac (Ab (Al rfl (Ak rfl)) rfl (Ab (Ai rfl (Ag rfl) ‹_›) rfl ?_))))
  refine Ab (Bn rfl rfl) rfl (Af (Aa ?_))
  refine AI rfl rfl (fun hplain=>?_) (fun hnp=>?_)
  ·refine AK (AB (AA (Aa (Ac (Ab (x_inc rfl rfl (by omega)) rfl (Ab Ad rfl (Af ?_)))))))
   refine Aw (f.blks.length - (k+1)) (by omega) ⟨k+1,by omega,Ar rfl ⟨rfl,rfl,rfl,rfl,rfl,rfl,trivial⟩,hbX,fun b hbk=>?_,rfl⟩
   by_cases e:b=k
   ·subst e;exact fun h=>absurd hplain h
   exact hok b (by omega)
  refine Aq (Aa ?_)
  have hctl:0≤(f.b k).ctrl∧(f.b k).ctrl<f.vals.length:=by
   have h1:=(hshp.blk k hlt).two
   unfold De at h1
   refine ⟨Classical.byContradiction fun e=>h1 (.inr ⟨hnp,.inl (by omega)⟩),Classical.byContradiction fun e=>h1 (.inr ⟨hnp,.inr (by omega)⟩)⟩
  obtain ⟨c,hcc⟩:∃c:Nat,(f.b k).ctrl=(c:Int):=⟨_,(Int.toNat_of_nonneg hctl.1).symm⟩
  have hcn:c<f.vals.length:=by omega
  rw[hcc] at v1
  obtain ⟨bv,ov,rfl,⟨s1,hcC,_⟩⟩:=hvW c hcn
  have hbC:0≤(f.v c).blk∧(f.v c).blk<f.blks.length:=by
   have h1:=hfst c hcn
   refine ⟨Classical.byContradiction fun e=>h1 (.inl (.inl (.inr (by omega)))),Classical.byContradiction fun e=>h1 (.inl (.inr (by omega)))⟩
  obtain ⟨nc,hnc⟩:∃nc:Nat,(f.v c).blk=(nc:Int):=⟨_,(Int.toNat_of_nonneg hbC.1).symm⟩
  have hncn:nc<f.blks.length:=by omega
  have hcC1:=hcC 1 _ rfl
  rw[hnc] at hcC1
  obtain ⟨r,hr1,hr2⟩:=hO nc hncn
  obtain ⟨D,hD⟩:∃D,D=DA f nc k:=⟨_,rfl⟩
  have hr3:=hr2 k hlt
  rw[← hD] at hr3
  refine Ae ?_
  have hc:Cells [(⟨b1,0+0,none⟩,.slice (some ⟨bv,ov,none⟩) f.vals.length cv),(⟨b1,0+1,none⟩,.slice (some ⟨bb,ob,none⟩) f.blks.length cb),(⟨V,0+0,none⟩,.int .i64 (f.b k).kind),(⟨V,0+1,none⟩,.int .i64 (c:Int)),(⟨bv,ov+c * 4+1,none⟩,.int .i64 (nc:Int)),(⟨g,0+nc,none⟩,.slice (some ⟨r,0,none⟩) f.blks.length f.blks.length),(⟨r,0+k,none⟩,.bool D)] X.drew:=
   (Keep.drew X).cells (.cons (hKX _ _ hW0) (.cons (hKX _ _ hW1) (.cons v0 (.cons v1 (.cons (hKX _ _ hcC1) (.cons (hKX _ _ hr1) (.cons (hKX _ _ hr3) (.nil _))))))))
  refine AY mixed _ [(0,false),(1,false),(2,false),(3,false),(4,false),(5,false),(6,false),(7,false),(8,false),(9,false),(10,false),(11,false),(12,false),(13,false),(14,false),(15,false),(16,false),(17,false),(19,false),(20,false),(21,false),(18,true),(22,false),(23,false)] (by kernel_rfl) hc ?_
  have hbi:=hbX.drew
  have hbeli:=hbelX.drew
  have hKd2:Keep W X.drew:=hKX.trans (Keep.drew X)
  generalize X.drew=Y at hc hbi hbeli hKd2 ⊢
  have hszi:=hbi.size
  refine DL_mono (fun e Z=>Below SA W Z∧Below b1 w Z∧∃q:Bool,(q=false↔DM f k)∧At e [(263,.bool q),(1,.pointer (some ⟨b1,0,none⟩)),(3,.slice (some ⟨G,0,none⟩) f.blks.length f.blks.length),(4,.slice (some ⟨g,0,none⟩) f.blks.length cap),(230,.slice (some ⟨bb,ob,none⟩) f.blks.length cb),(231,.int .i64 (f.blks.length:Int)),(232,.int .i64 (k:Int))]) ?_ ?_
  ·refine Aj rfl (fun _ _=>Ad) (Aj rfl (fun _ _=>Al rfl (Ak rfl)) (Aj rfl (fun _ hS=>Ai rfl (Ag rfl) (hS.get (by first|exact mm0|exact mm1|exact mm2|exact mm3|exact mm4|exact mm5|exact mm6|exact mm7))) ?_))
   refine Aj rfl (fun _ _=>Al rfl (Ak rfl)) (Aj rfl (fun _ hS=>Ai rfl (Ag rfl) (hS.get (by first|exact mm0|exact mm1|exact mm2|exact mm3|exact mm4|exact mm5|exact mm6|exact mm7))) ?_)
   refine Aj rfl (fun _ _=>A5 (n:=4) rfl rfl (An rfl) hcn) (Aj rfl (fun _ _=>Al rfl (Ak rfl)) (Aj rfl (fun _ hS=>Ai rfl (Ag rfl) (hS.get (by first|exact mm0|exact mm1|exact mm2|exact mm3|exact mm4|exact mm5|exact mm6|exact mm7))) ?_))
   refine Aj rfl (fun _ _=>x_index1 rfl rfl (An rfl) (by omega)) (Aj rfl (fun _ hS=>Ai rfl (Ag rfl) (hS.get (by first|exact mm0|exact mm1|exact mm2|exact mm3|exact mm4|exact mm5|exact mm6|exact mm7))) ?_)
   refine Aj rfl (fun _ _=>Ad) (Aj rfl (fun _ _=>x_index1 rfl rfl (An rfl) (by omega)) (Aj rfl (fun _ hS=>Ai rfl (Ag rfl) (hS.get (by first|exact mm0|exact mm1|exact mm2|exact mm3|exact mm4|exact mm5|exact mm6|exact mm7))) ?_))
   refine Aj rfl (fun _ _=>BS rfl) (Aj rfl (fun _ _=>Ad) ?_)
   cases D with
   |false=>
    refine AJ rfl rfl (AJ rfl rfl (AJ rfl rfl (AJ rfl rfl (AJ rfl rfl (AJ rfl rfl (FS rfl rfl (.inr hc) (AJ rfl rfl (Aj rfl (fun _ _=>AV rfl) (AP ?_)))))))))
    refine ⟨hbi,hbeli,true,⟨fun h=>(by cases h),fun h=>?_⟩,Ar rfl ⟨rfl,rfl,rfl,rfl,rfl,rfl,rfl,trivial⟩⟩
    have h1:=(h hnp).1
    rw[hcc,Int.toNat_natCast,hnc] at h1
    exact absurd (F7 hD.symm) h1
   |true=>
    refine Ay rfl rfl (fun _ hS=>A4 (cs:=[.slice (some ⟨bv,ov,none⟩) f.vals.length cv,.slice (some ⟨bb,ob,none⟩) f.blks.length cb]) rfl (A0 rfl) (fun j u hj=>by
     rcases j with _|_|j
     ·simp at hj;subst hj;exact hS.get (.head _)
     ·simp at hj;subst hj;exact hS.get (.tail _ (.head _))
     simp at hj)) ?_
    refine Ay rfl rfl (fun _ _=>Al rfl (Ak rfl)) (Ay rfl rfl (fun _ hS=>Ai rfl (Ag rfl) (hS.get (by first|exact mm0|exact mm1|exact mm2|exact mm3|exact mm4|exact mm5|exact mm6|exact mm7))) ?_)
    refine Ay rfl rfl (fun _ _=>Al rfl (Ak rfl)) (Ay rfl rfl (fun _ hS=>Ai rfl (Ag rfl) (hS.get (by first|exact mm0|exact mm1|exact mm2|exact mm3|exact mm4|exact mm5|exact mm6|exact mm7))) ?_)
    refine Ay rfl rfl (fun _ _=>Bn rfl rfl) (FR rfl rfl (AG Tryz.func27 rfl rfl rfl rfl) (Truth_ret tok (hxW.keep hKd2) hcn) ?_)
    rintro _ Z ⟨rfl,hbZ⟩
    refine ⟨.inr ((Keep.of_below hbZ (Nat.le_refl _)).cells hc),?_⟩
    refine Ay rfl rfl (fun _ _=>FI rfl rfl) (Aj rfl (fun _ _=>AM rfl) (AP ?_))
    refine ⟨hbi.trans (hbZ.mono (by omega)),hbeli.trans (hbZ.mono (by omega)),_,?_,Ar rfl ⟨rfl,rfl,rfl,rfl,rfl,rfl,rfl,trivial⟩⟩
    unfold DM
    rw[hcc,Int.toNat_natCast,hnc]
    constructor
    ·intro h _
     exact ⟨Di.1 hD.symm,by simpa using h⟩
    intro h
    rw[(h hnp).2]
    simp
  clear hbi hbeli hszi
  rintro e Z ⟨hbi,hbeli,q,hq,t,rfl⟩
  refine Aa ?_
  cases q with
  |true=>
   refine Bm rfl rfl (Ae (Ac (Ab Ah rfl (Af (Aa (AE (AS (AO (Bt (AS (Co ?_)))))))))))
   refine Az rfl rfl rfl ⟨false,rfl,⟨fun h=>(by cases h),fun h=>?_⟩,hbeli⟩
   exact absurd (hq.2 (h.ctl k hlt)) (by decide)
  |false=>
   refine Bh rfl rfl (Aq (Ap (Aa (Ac (Ab (x_inc rfl rfl (by omega)) rfl (Ab Ad rfl (Af ?_)))))))
   refine Aw (f.blks.length - (k+1)) (by omega) ⟨k+1,by omega,Ar rfl ⟨rfl,rfl,rfl,rfl,rfl,rfl,trivial⟩,hbi,fun b hbk=>?_,rfl⟩
   by_cases e:b=k
   ·subst e;exact hq.1 rfl
   exact hok b (by omega)
 rintro e wr ⟨⟨t,rfl⟩,hb,hctl⟩
 refine Ae (Ac (Ab Ah rfl (Af (Aa (AE ?_)))))
 exact Az rfl rfl rfl ⟨true,rfl,⟨fun _=>⟨hshp,hfst,hsnd,htru,hctl⟩,fun _=>rfl⟩,hbW.trans (hb.mono (by omega))⟩
end Go.Proofs.YteepnepebilckaaGreatDoor
