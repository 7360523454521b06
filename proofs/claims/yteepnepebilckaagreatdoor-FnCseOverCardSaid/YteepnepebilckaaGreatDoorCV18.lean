/- The law FnCseOver returns true for every input in which the opcode table reads as laid, and its argument reads as it did, the table being tied to the text of the program. -/
import Derived.Test.YteepnepebilckaaGreatDoorCV17
namespace Go.Proofs.YteepnepebilckaaGreatDoor
open Go Go.Eng Go.RowKit
section
variable {P : Program} {w : World} {ρ : Operand → Value} {d : Option Tmp} {ty : TypeId} {pos : String} {af : Array Edge} {g : Option (Nat × Bool)}
theorem Eo {x:Operand} {a b c e:Value} (hx:ρ x= .tuple #[a,b,c,e]):(execOp ρ ⟨d,.extract x 0,ty,pos,af,g⟩).run P w= .ok (.value a) w:=by
 have key:(Instr.extract (.tuple #[a,b,c,e]) 0).run P w= .ok a w:=rfl
 simp [execOp,hx,key]
theorem Ex {x:Operand} {a b c e:Value} (hx:ρ x= .tuple #[a,b,c,e]):(execOp ρ ⟨d,.extract x 1,ty,pos,af,g⟩).run P w= .ok (.value b) w:=by
 have key:(Instr.extract (.tuple #[a,b,c,e]) 1).run P w= .ok b w:=rfl
 simp [execOp,hx,key]
theorem Ey {x:Operand} {a b c e:Value} (hx:ρ x= .tuple #[a,b,c,e]):(execOp ρ ⟨d,.extract x 2,ty,pos,af,g⟩).run P w= .ok (.value c) w:=by
 have key:(Instr.extract (.tuple #[a,b,c,e]) 2).run P w= .ok c w:=rfl
 simp [execOp,hx,key]
theorem Eu {x:Operand} {a b c e:Value} (hx:ρ x= .tuple #[a,b,c,e]):(execOp ρ ⟨d,.extract x 3,ty,pos,af,g⟩).run P w= .ok (.value e) w:=by
 have key:(Instr.extract (.tuple #[a,b,c,e]) 3).run P w= .ok e w:=rfl
 simp [execOp,hx,key]
theorem FW {e:Env} {fn:Func} {S:Value→World→Prop} {t u v x:Tmp} (hres:fn.results=#[.tmp t,.tmp u,.tmp v,.tmp x]) (hlt:Nat.blt t fn.ntmps=true) (hlu:Nat.blt u fn.ntmps=true) (hlv:Nat.blt v fn.ntmps=true) (hlx:Nat.blt x fn.ntmps=true)
 (hd:e.d=[]) (h:S (.tuple #[e.t t,e.t u,e.t v,e.t x]) w):bodyQ P fn S .ret e w:=
 ⟨hd,_,fun a hr=>by
   rw[← hr.t t (Cf hlt),← hr.t u (Cf hlu),← hr.t v (Cf hlv),← hr.t x (Cf hlx)]
   simp [results,hres],h⟩
theorem Ee {a:Addr} {x:Operand} (hx:ρ x= .pointer (some a)):(execOp ρ ⟨d,.load 99 x,ty,pos,af,g⟩).run Tryz.prog w= .ok (.value (.agg #[])) w:=by
 have key:(Instr.loadAt 99 (.pointer (some a))).run Tryz.prog w= .ok (.agg #[]) w:=by kernel_rfl
 simp [execOp,hx,key]
theorem GZ {x y:Operand} {u:TypeId} (hx:ρ x= .bool false) (hy:ρ y= .bool false):(execOp ρ ⟨d,.binOp .neq 4 x y u,ty,pos,af,g⟩).run Tryz.prog w= .ok (.value (.bool false)) w:=by
 have key:(Op.equal 4 (.bool false) (.bool false)).run Tryz.prog w= .ok true w:=by kernel_rfl
 simp [execOp,hx,hy,eqGuard,binOp,key]
theorem iP0:((Tryz.prog.info? 99).map (·.size))=some 0:=by kernel_rfl
theorem cV7:Tryz.prog.cellsOf 101=7:=by kernel_rfl
theorem bV80:Tryz.prog.bytesOf 101=80:=by kernel_rfl
theorem bV0:byteOfCell Tryz.prog Tryz.prog.depth 101 0=some 0:=by kernel_rfl
theorem byteV {b o:Nat} {cs:Array Value} (hb:w.heap[b]? =some (.cells cs 101 (0,0))) (ho:o % 7=0):
 (byteOf ⟨b,o,none⟩).run Tryz.prog w= .ok (o / 7 * 80+0) w:=by
 have hsh:w.shape? b=some (101,cs.size):=by simp [World.shape?,hb]
 simp [byteOf,program,Sem.run_bind,noView,viewAt,shape,Sem.run,hsh,cV7,ho,bV0,bV80]
theorem Fw {b:Nat} {cs:Array Value} {x:Operand} (hx:ρ x= .pointer (some ⟨b,0,none⟩)) (hb:w.heap[b]? =some (.cells cs 101 (0,0))):
 (execOp ρ ⟨d,.fieldAddr 101 x 7,ty,pos,af,g⟩).run Tryz.prog w= .ok (.value (.pointer (some ⟨b,7,some 72⟩))) w:=by
 obtain ⟨i,hi,hz⟩:=Option.map_eq_some_iff.1 iP0
 have h0:=byteV (o:=0) hb rfl
 have h2:=byteV (o:=7) hb rfl
 have hp:(partAt ⟨b,0,none⟩ 7 72).run Tryz.prog w= .ok ⟨b,7,some 72⟩ w:=by
  unfold partAt
  simp [Sem.run_bind,h0,h2]
 simp [execOp,hx,Instr.fieldAt,run_underlying Tryz.underlying101,Instr.sureAddr,fieldPlace,Go.sizeOf,typeInfo,hi,hz,hp]
end
def ca (cls:Nat→Int):List Nat→List Nat→Int
 |a :: r,b :: q=>if cls (a+1)<cls (b+1) then -1 else if cls (b+1)<cls (a+1) then 1 else ca cls r q
 |_,_=>0
theorem Fo (cls:Nat→Int) (a b:Nat) (r q:List Nat):ca cls (a :: r) (b :: q)=if cls (a+1)<cls (b+1) then -1 else if cls (b+1)<cls (a+1) then 1 else ca cls r q:=rfl
theorem CA {xs:List Nat} {k:Nat} (h:k<xs.length):xs.drop k=xs.getD k 0 :: xs.drop (k+1):=by
 rw[List.getD_eq_getElem?_getD,List.getElem?_eq_getElem h]
 exact List.drop_eq_getElem_cons h
set_option maxHeartbeats 4000000
attribute [local irreducible] EC EL DL Ret thenQ blockQ Bi bodyQ onlyN execOp Sem.run World.cell? World.frozen? World.setCell World.alloc
theorem Df {w:World} (x:Value):Ret Tryz.prog 56 #[x] w fun v w'=>v= .tuple #[.int .i64 (-1),.int .i64 (-1),.int .i64 0,.bool false]∧w'=w:=by
 refine ret_of_EC Tryz.func56 rfl rfl (Ae (Ac (Ab Ah rfl (Ab Ah rfl (Ab Ah rfl (Ab Ah rfl (Af (Aa (Ae (Ac (Ab Ah rfl ?_)))))))))))
 refine Ab Ah rfl (Ab Ah rfl (Ab Ah rfl (Af (Aa (AE ?_)))))
 exact FW rfl rfl rfl rfl rfl rfl ⟨rfl,rfl⟩
theorem Du {w:World}:Ret Tryz.prog 64 #[.agg #[]] w fun v w'=>v= .int .u64 0∧Gn w w':=by
 refine ret_of_EC Tryz.func64 rfl rfl (Ae (Ac (Ab (Bv (v:=.agg #[]) rfl) rfl ?_)))
 have hW:=Gn.alloc' w (.cells #[] 99)
 change EL _ _ _ _ _ _ (w.alloc (.cells #[] 99))
 generalize w.alloc (.cells #[] 99)=w1 at hW ⊢
 refine Ab Ah rfl (Af (Aa (Ae (Ac (Ab Ah rfl (Af (Aa (AE ?_))))))))
 exact Az rfl rfl rfl ⟨rfl,hW⟩
theorem NumValues_ret {w:World} {B:Nat} {L:Lay} {g:Gph} (h:GRep w B L g) (hn:g.nv≤48):Ret Tryz.prog 47 #[L.fp] w fun v w'=>v= .int .i64 ((g.nv+1:Nat):Int)∧w'=w:=by
 refine ret_of_EC Tryz.func47 rfl rfl ?_
 obtain ⟨a2,cap2,ha2⟩:=Row.len (f:=L.vp) (h.comp .fvalues)
 rw[List.length_range] at ha2
 have h1:=h.fValues
 rw[ha2] at h1
 refine Ae (Ac (Ab Ah rfl (Af (Aa (Ae (Ac (Ab Ad rfl (Ab (Au rfl) rfl (Ab (Al rfl (Ak rfl)) rfl (Ab (Ai rfl (Ag rfl) ‹_›) rfl ?_))))))))))
 refine Ab (AN rfl (An rfl)) rfl (Ab (x_inc rfl rfl (by omega)) rfl (Ab Ah rfl (Af (Aa (AE ?_)))))
 exact Az rfl rfl rfl ⟨rfl,rfl⟩
theorem cse2_ret {w:World} {B:Nat} {L:Lay} {g:Gph} {x y mb vb VE:Nat} {cls:Nat→Int} (hg:GRep w B L g) (hx:x<g.nv) (hy:y<g.nv) (hl:(g.args x).length=(g.args y).length) (hs:(g.args x).length≤1000)
 (hax:∀a∈g.args x,a<g.nv) (hay:∀a∈g.args y,a<g.nv) (hv:w.cell? ⟨vb,0,none⟩=some (.slice (some ⟨VE,0,none⟩) (g.nv+1) (g.nv+1)))
 (hr:w.heap[VE]? =some (.cells (cellsOf (fun i=>.int .i32 (cls i)) (g.nv+1)) 88 (0,0))):
 Ret Tryz.prog 55 #[L.vp x,L.vp y,.pointer (some ⟨mb,0,none⟩),.pointer (some ⟨vb,0,none⟩)] w fun v w'=>v= .int .i64 (ca cls (g.args x) (g.args y))∧Gn w w':=by
 refine ret_of_EC Tryz.func55 rfl rfl ?_
 obtain ⟨n,hn⟩:∃n,n=(g.args x).length:=⟨_,rfl⟩
 obtain ⟨ax,capx,hsx⟩:=Row.len (hg.comp (.args x) hx)
 rw[← hn] at hsx hl hs
 have hvl:vb<w.heap.size:=by
  refine Classical.byContradiction fun hh=>?_
  have:w.heap[vb]? =none:=Array.getElem?_eq_none (by omega)
  simp [World.cell?,this] at hv
 refine Ae (Ac (Ab Ah rfl (Af (Aa (Ae (Ac (Ab Ad rfl (Be (AG Tryz.func56 rfl rfl rfl rfl) rfl (Df _) ?_))))))))
 rintro _ wx ⟨rfl,ew⟩
 rw[ew]
 clear ew wx
 refine Ab Ad rfl (Ab (Eo rfl) rfl (Ab (Ex rfl) rfl (Ab (Ey rfl) rfl (Ab (Eu rfl) rfl (Ab Ah rfl (Ab Ah rfl (Ab Ah rfl (Ab Ah rfl (Af (Aa (Ae ?_)))))))))))
 refine Ae (Ac ?_)
 have h1:=hg.vArgs hx
 rw[hsx] at h1
 refine Ab Ad rfl (Ab (Au rfl) rfl (Ab (Al rfl (Ak rfl)) rfl (Ab (Ai rfl (Ag rfl) ‹_›) rfl ?_)))
 refine Ab (AN rfl (An rfl)) rfl (Ab Ad rfl (Af (Aa (Ao ?_))))
 refine EC_loop (fun m e w1=>∃k,k≤n∧Gn w w1∧ca cls ((g.args x).drop k) ((g.args y).drop k)=ca cls (g.args x) (g.args y)∧At e [(0,L.vp x),(1,L.vp y),(2,.pointer (some ⟨mb,0,none⟩)),(3,.pointer (some ⟨vb,0,none⟩)),(8,.int .i64 (-1)),(26,.slice ax n capx),(27,.int .i64 (n:Int)),(28,.int .i64 (k:Int))]∧m=n - k) n
  ⟨0,Nat.zero_le _,Gn.refl w,rfl,Ar rfl ⟨rfl,rfl,rfl,rfl,rfl,rfl,rfl,rfl,trivial⟩,rfl⟩ ?_
 rintro m e w1 ⟨k,hk,hW,hca,⟨t,rfl⟩,rfl⟩
 refine Ae (Ac (Ab (AX rfl rfl) rfl (Af (Aa (Ae ?_)))))
 refine AI rfl rfl (fun hlt=>?_) (fun hge=>?_)
 rotate_left
 ·have hkn:k=n:=by omega
  rw[List.drop_eq_nil_of_le (by omega)] at hca
  refine AK (AB (AD (AA (Aa (Ae (Ac (Ab Ah rfl (Af (Aa (AE ?_))))))))))
  exact Az rfl rfl rfl ⟨congrArg (Value.int .i64) hca,hW⟩
 have hkn:k<n:=by omega
 refine Aq (Aa ?_)
 have hg1:=hg.on hW.below
 have hr1:=(hW.below.block VE (Array.getElem?_eq_some_iff.1 hr).1).trans hr
 have hv1:=(Below.cell hW.below (p:=⟨vb,0,none⟩) hvl).trans hv
 obtain ⟨bx,capx',e1,_,hcx,_⟩:=Row.elem (hg1.comp (.args x) hx) (k:=k) (by omega)
 obtain ⟨byy,capy,hsy,_,hcy,_⟩:=Row.elem (hg1.comp (.args y) hy) (k:=k) (by omega)
 rw[hsx] at e1
 injection e1 with e1 e2 e3
 subst e1
 obtain ⟨a,hae⟩:∃a,a=(g.args x).getD k 0:=⟨_,rfl⟩
 obtain ⟨b,hbe⟩:∃b,b=(g.args y).getD k 0:=⟨_,rfl⟩
 have hda:(g.args x).drop k=a :: (g.args x).drop (k+1):=by rw[hae];exact CA (by omega)
 have hdb:(g.args y).drop k=b :: (g.args y).drop (k+1):=by rw[hbe];exact CA (by omega)
 have han:a<g.nv:=by rw[hae];exact hax _ (Bq (by omega))
 have hbn:b<g.nv:=by rw[hbe];exact hay _ (Bq (by omega))
 rw[← hae] at hcx
 rw[← hbe] at hcy
 rw[hda,hdb] at hca
 rw[Fo] at hca
 have hca1:w1.cell? ⟨VE,0+(a+1),none⟩=some (.int .i32 (cls (a+1))):=Am hr1 (by rw[Nat.zero_add];exact Bf _ (by omega))
 have hcb1:w1.cell? ⟨VE,0+(b+1),none⟩=some (.int .i32 (cls (b+1))):=Am hr1 (by rw[Nat.zero_add];exact Bf _ (by omega))
 refine Ae (Ao (Ae (Ac (Ab Ad rfl (Ab (x_index1 rfl rfl (An rfl) (by omega)) rfl (Ab (Ai rfl (Ag rfl) ‹_›) rfl ?_))))))
 refine Ab Ah rfl (Ab Ah rfl (Af (Aa (Ae (Ac (Ab Ah rfl (Ab Ah rfl (Af (Aa (Ae (Ae ?_)))))))))))
 refine Ac (Ab Ad rfl (Ab Ad rfl (Ab (Bw rfl rfl) rfl (Af (Aa ?_)))))
 rw[decide_eq_true (show (k:Int)≠ -1 by omega)]
 refine Bm rfl rfl ?_
 have h1:=hg1.vArgs hy
 refine Ae (Ac (Ab Ad rfl (Ab (Au rfl) rfl (Ab (Al rfl (Ak rfl)) rfl (Ab (Ai rfl (Ag rfl) ‹_›) rfl ?_)))))
 refine Ab Ad rfl (Ab (x_index1 hsy rfl (An rfl) (by omega)) rfl (Ab (Ai rfl (Ag rfl) ‹_›) rfl ?_))
 refine Ab Ah rfl (Af (Aa ?_))
 have hia:=hg1.vID han
 have hib:=hg1.vID hbn
 refine Ae (Ac (Ab Ad rfl (Ab (Au rfl) rfl (Ab (Al rfl (Ak rfl)) rfl (Ab (Ai rfl (Ag rfl) ‹_›) rfl ?_)))))
 refine Ab Ah rfl (Af (Aa (Ac (Ab Ad rfl (Ab (Au rfl) rfl (Ab (Al rfl (Ak rfl)) rfl (Ab (Ai rfl (Ag rfl) ‹_›) rfl ?_)))))))
 refine Ab Ah rfl (Af (Aa (BV [(0,L.vp x),(1,L.vp y),(2,.pointer (some ⟨mb,0,none⟩)),(3,.pointer (some ⟨vb,0,none⟩)),(8,.int .i64 (-1)),(26,.slice (some ⟨bx,0,none⟩) n capx),(27,.int .i64 (n:Int)),(28,.int .i64 (k:Int)),(13,.int .i32 ((a:Int)+1)),(14,.int .i32 ((b:Int)+1))] rfl ⟨rfl,rfl,rfl,rfl,rfl,rfl,rfl,rfl,rfl,rfl,trivial⟩ fun t=>?_)))
 clear hcx hcy
 refine Ae (Ae ?_)
 have hc:Cells [(⟨vb,0,none⟩,.slice (some ⟨VE,0,none⟩) (g.nv+1) (g.nv+1)),(⟨VE,0+(a+1),none⟩,.int .i32 (cls (a+1))),(⟨VE,0+(b+1),none⟩,.int .i32 (cls (b+1)))] w1:=.cons hv1 (.cons hca1 (.cons hcb1 (.nil _)))
 refine AY mixed (Cells [(⟨vb,0,none⟩,.slice (some ⟨VE,0,none⟩) (g.nv+1) (g.nv+1)),(⟨VE,0+(a+1),none⟩,.int .i32 (cls (a+1))),(⟨VE,0+(b+1),none⟩,.int .i32 (cls (b+1)))]) [(0,false),(1,false),(2,false),(3,false),(4,false),(5,false),(6,false),(7,false),(8,false)] (by kernel_rfl) hc.drew ?_
 replace hW:=hW.drew
 replace hc:=hc.drew
 generalize w1.drew=w2 at hW hc ⊢
 clear hg1 hr1 hv1 hca1 hcb1 hia hib h1
 refine Aj rfl (fun _ hS=>Ai rfl (Ag rfl) (hS.get (by first|exact mm0|exact mm1|exact mm2|exact mm3|exact mm4|exact mm5|exact mm6|exact mm7))) ?_
 refine Aj rfl (fun _ _=>Ad) (Aj rfl (fun _ _=>Ba (i:=a+1) rfl rfl (by omega) (An rfl) (by omega)) (Aj rfl (fun _ hS=>Ai rfl (Ag rfl) (hS.get (by first|exact mm0|exact mm1|exact mm2|exact mm3|exact mm4|exact mm5|exact mm6|exact mm7))) ?_))
 refine Aj rfl (fun _ hS=>Ai rfl (Ag rfl) (hS.get (by first|exact mm0|exact mm1|exact mm2|exact mm3|exact mm4|exact mm5|exact mm6|exact mm7))) ?_
 refine Aj rfl (fun _ _=>Ad) (Aj rfl (fun _ _=>Ba (i:=b+1) rfl rfl (by omega) (An rfl) (by omega)) (Aj rfl (fun _ hS=>Ai rfl (Ag rfl) (hS.get (by first|exact mm0|exact mm1|exact mm2|exact mm3|exact mm4|exact mm5|exact mm6|exact mm7))) ?_))
 refine Aj rfl (fun _ _=>AX rfl rfl) (AP (Aa ?_))
 refine AI rfl rfl (fun h1=>?_) (fun h1=>?_)
 ·rw[if_pos h1] at hca
  refine Ae (Ac (Ab Ah rfl (Af (Aa (AE (AO (AS (AO (Bt (AS (AO ?_)))))))))))
  exact Az rfl rfl rfl ⟨congrArg (Value.int .i64) hca,hW⟩
 rw[if_neg h1] at hca
 refine Aq (Aa (Ae (AY mixed (Cells [(⟨vb,0,none⟩,.slice (some ⟨VE,0,none⟩) (g.nv+1) (g.nv+1)),(⟨VE,0+(a+1),none⟩,.int .i32 (cls (a+1))),(⟨VE,0+(b+1),none⟩,.int .i32 (cls (b+1)))]) [(0,false),(1,false),(2,false),(3,false),(4,false),(5,false),(6,false),(7,false),(8,false)] (by kernel_rfl) hc.drew ?_)))
 replace hW:=hW.drew
 replace hc:=hc.drew
 generalize w2.drew=w3 at hW hc ⊢
 refine Aj rfl (fun _ hS=>Ai rfl (Ag rfl) (hS.get (by first|exact mm0|exact mm1|exact mm2|exact mm3|exact mm4|exact mm5|exact mm6|exact mm7))) ?_
 refine Aj rfl (fun _ _=>Ad) (Aj rfl (fun _ _=>Ba (i:=a+1) rfl rfl (by omega) (An rfl) (by omega)) (Aj rfl (fun _ hS=>Ai rfl (Ag rfl) (hS.get (by first|exact mm0|exact mm1|exact mm2|exact mm3|exact mm4|exact mm5|exact mm6|exact mm7))) ?_))
 refine Aj rfl (fun _ hS=>Ai rfl (Ag rfl) (hS.get (by first|exact mm0|exact mm1|exact mm2|exact mm3|exact mm4|exact mm5|exact mm6|exact mm7))) ?_
 refine Aj rfl (fun _ _=>Ad) (Aj rfl (fun _ _=>Ba (i:=b+1) rfl rfl (by omega) (An rfl) (by omega)) (Aj rfl (fun _ hS=>Ai rfl (Ag rfl) (hS.get (by first|exact mm0|exact mm1|exact mm2|exact mm3|exact mm4|exact mm5|exact mm6|exact mm7))) ?_))
 refine Aj rfl (fun _ _=>BE rfl rfl) (AP (Aa ?_))
 refine AI rfl rfl (fun h2=>?_) (fun h2=>?_)
 ·rw[if_pos h2] at hca
  refine Ae (Ac (Ab Ah rfl (Af (Aa (AE (AS (AO (Bt (AS (AO ?_))))))))))
  exact Az rfl rfl rfl ⟨congrArg (Value.int .i64) hca,hW⟩
 rw[if_neg h2] at hca
 refine Aq (Ap (Aa (Ac (Ab (x_inc rfl rfl (by omega)) rfl (Ab Ad rfl (Af ?_))))))
 exact Aw (n - (k+1)) (by omega) ⟨k+1,by omega,hW,hca,Ar rfl ⟨rfl,rfl,rfl,rfl,rfl,rfl,rfl,rfl,trivial⟩,rfl⟩
theorem GN {w:World} {B:Nat} {L:Lay} {g:Gph} {x y mb tb T:Nat} {en ex:Nat→Nat} (hg:GRep w B L g) (hx:x<g.nv) (hy:y<g.nv) (hbx:g.blk x<g.nb) (hby:g.blk y<g.nb) (hn:g.nb≤9)
 (hv:w.cell? ⟨tb,0,none⟩=some (.slice (some ⟨T,0,none⟩) (g.nb+1) (g.nb+1))) (hT:SdT w L g T en ex):
 Ret Tryz.prog 60 #[L.vp x,L.vp y,.pointer (some ⟨tb,0,none⟩),.pointer (some ⟨mb,0,none⟩)] w fun v w'=>v= .int .i64 (Dg ((en (g.blk x+1):Nat):Int) ((en (g.blk y+1):Nat):Int))∧Gn w w':=by
 refine ret_of_EC Tryz.func60 rfl rfl (Ae (Ac (Ab Ah rfl (Af (Aa (Ae (Ae ?_)))))))
 obtain ⟨c,hc⟩:∃c,c=Dg ((en (g.blk x+1):Nat):Int) ((en (g.blk y+1):Nat):Int):=⟨_,rfl⟩
 rw[← hc]
 obtain ⟨W,hWd⟩:∃W,W=w.drew:=⟨_,rfl⟩
 have hv1:W.cell? ⟨tb,0,none⟩=some (.slice (some ⟨T,0,none⟩) (g.nb+1) (g.nb+1)):=by rw[hWd];exact Keep.drew w _ _ hv
 have hg1:GRep W B L g:=by rw[hWd];exact hg.drew
 have hT1:SdT W L g T en ex:=hT.stay (by rw[hWd];rfl)
 have hW:Gn w W:=by rw[hWd];exact Gn.drew' w
 have h1:=hg1.vBlk hx
 have h2:=hg1.vBlk hy
 refine AY mixed (fun w'=>w'=W) [(0,false),(1,false),(2,false),(3,false),(4,false),(6,false),(7,false),(8,false),(9,false),(10,false),(5,true),(11,true),(12,true),(13,false)] (by kernel_rfl) hWd.symm ?_
 rw[← hWd]
 refine Aj rfl (fun _ hS=>Ai rfl (Ag rfl) (by cases hS;with_reducible assumption)) ?_
 refine Aj rfl (fun _ _=>Ad) (Aj rfl (fun _ _=>Au rfl) (Aj rfl (fun _ _=>Al rfl (Ak rfl)) (Aj rfl (fun _ hS=>Ai rfl (Ag rfl) (by cases hS;with_reducible assumption)) ?_)))
 refine Aj rfl (fun _ hS=>Ai rfl (Ag rfl) (by cases hS;with_reducible assumption)) ?_
 refine Aj rfl (fun _ _=>Ad) (Aj rfl (fun _ _=>Au rfl) (Aj rfl (fun _ _=>Al rfl (Ak rfl)) (Aj rfl (fun _ hS=>Ai rfl (Ag rfl) (by cases hS;with_reducible assumption)) ?_)))
 refine BO rfl (AG Tryz.func62 rfl rfl rfl rfl) (domorder_ret hg1 hT1 hbx) ?_
 rintro _ wx ⟨rfl,ew⟩
 rw[ew]
 clear ew wx
 refine ⟨.inr rfl,?_⟩
 refine BO rfl (AG Tryz.func62 rfl rfl rfl rfl) (domorder_ret hg1 hT1 hby) ?_
 rintro _ wx ⟨rfl,ew⟩
 rw[ew]
 clear ew wx
 refine ⟨.inr rfl,?_⟩
 refine BO rfl (AG Tryz.func61 rfl rfl rfl rfl) (FJ _ _) ?_
 rintro _ wx ⟨rfl,ew⟩
 rw[ew,← hc]
 clear ew wx
 refine ⟨.inr rfl,?_⟩
 refine Aj rfl (fun _ _=>Ah) (AP (Aa (Ae (Ac (Ab Ad rfl (Ab (Bw rfl rfl) rfl (Af (Aa ?_))))))))
 refine AI rfl rfl (fun hne=>?_) (fun heq=>?_)
 ·refine Ae (Ac (Ab Ad rfl (Ab Ah rfl (Af (Aa (AE (AO ?_)))))))
  exact Az rfl rfl rfl ⟨rfl,hW⟩
 have hc0:c=0:=Classical.not_not.1 heq
 rw[hc0]
 refine Aq (Aa (BV [(0,L.vp x),(1,L.vp y),(2,.pointer (some ⟨tb,0,none⟩)),(3,.pointer (some ⟨mb,0,none⟩))] rfl ⟨rfl,rfl,rfl,rfl,trivial⟩ fun t=>(Ae (Ae (Ac (Ab Ad rfl (Be (AG Tryz.func56 rfl rfl rfl rfl) rfl (Df _) ?_)))))))
 rintro _ wx ⟨rfl,ew⟩
 rw[ew]
 clear ew wx
 refine Ab Ad rfl (Ab (Eo rfl) rfl (Ab (Ex rfl) rfl (Ab (Ey rfl) rfl (Ab (Eu rfl) rfl (Ab Ah rfl (Ab Ah rfl (Ab Ah rfl (Ab Ah rfl (Af (Aa (Ae ?_)))))))))))
 refine Ac (Ab Ad rfl (Af (Aa (Bh rfl rfl (Aq (Aa (Ae (Ac (Ab Ad rfl (Ab (Au rfl) rfl (Ab (Fw rfl (hg1.val hx)) rfl ?_)))))))))))
 refine Ab (Ee rfl) rfl (Be (AG Tryz.func64 rfl rfl rfl rfl) rfl Du ?_)
 rintro _ w2 ⟨rfl,hW2⟩
 have hg2:=hg1.on hW2.below
 refine Ab (Bn rfl rfl) rfl (Ab Ah rfl (Af (Aa (Ae (Ac (Ab Ad rfl (Ab (Au rfl) rfl (Ab (Fw rfl (hg2.val hy)) rfl (Ab (Ee rfl) rfl (Be (AG Tryz.func64 rfl rfl rfl rfl) rfl Du ?_))))))))))
 rintro _ w3 ⟨rfl,hW3⟩
 refine Ab (Bn rfl rfl) rfl (Ab Ah rfl (Af (Aa (Ae (Ae (Ac (Ab Ad rfl (Ab Ad rfl (Ab (GZ rfl rfl) rfl (Af (Aa ?_)))))))))))
 refine Bh rfl rfl (Aq (Aa (Ae (Ac (Ab Ah rfl (Af (Aa (AE ?_))))))))
 exact Az rfl rfl rfl ⟨rfl,(hW.trans hW2).trans hW3⟩
end Go.Proofs.YteepnepebilckaaGreatDoor
namespace Go.Proofs.YteepnepebilckaaGreatDoor
open Go Go.Eng Go.RowKit Go.Shelf
section
open Go.Sort
variable {α : Type} [Inhabited α] (lt : α → α → Bool) (nm : α → Nat)
def ltN (x y:α):Bool:=lt x y || (!lt y x && decide (nm x<nm y))
omit [Inhabited α] in
theorem swoN (h:SWO lt):SWO (ltN lt nm):=by
 have asy:∀x y,lt x y=true→lt y x=false:=fun x y h1=>by
  cases h2:lt y x with
  |false=>rfl
  |true=>have:=h.trans x y x h1 h2;rw[h.irrefl] at this;cases this
 have tn:∀x y z,lt x y=true→lt z y=false→lt x z=true:=fun x y z h1 h2=>by
  cases h3:lt x z with
  |true=>rfl
  |false=>have:=h.ntrans x z y h3 h2;rw[h1] at this;cases this
 have nt:∀x y z,lt y x=false→lt y z=true→lt x z=true:=fun x y z h1 h2=>by
  cases h3:lt x z with
  |true=>rfl
  |false=>have:=h.ntrans y x z h1 h3;rw[h2] at this;cases this
 have spec:∀x y,ltN lt nm x y=true↔lt x y=true∨(lt y x=false∧nm x<nm y):=fun x y=>by
  unfold ltN
  simp
 refine ⟨fun x=>?_,fun x y z h1 h2=>?_,fun x y z h1 h2=>?_⟩
 ·cases hb:ltN lt nm x x with
  |false=>rfl
  |true=>
   rcases (spec x x).1 hb with h1|h1
   ·rw[h.irrefl] at h1;cases h1
   omega
 ·rw[spec] at h1 h2 ⊢
  rcases h1 with h1|⟨h1,h1'⟩ <;> rcases h2 with h2|⟨h2,h2'⟩
  ·exact .inl (h.trans _ _ _ h1 h2)
  ·exact .inl (tn _ _ _ h1 h2)
  ·exact .inl (nt _ _ _ h1 h2)
  exact .inr ⟨h.ntrans _ _ _ h2 h1,by omega⟩
 have key:∀a b,ltN lt nm a b=false↔lt a b=false∧(lt b a=true∨nm b≤nm a):=fun a b=>by
  unfold ltN
  cases lt a b <;> cases lt b a <;> simp
 rw[key] at h1 h2 ⊢
 refine ⟨h.ntrans _ _ _ h1.1 h2.1,?_⟩
 rcases h1.2 with h3|h3
 ·exact .inl (nt _ _ _ h2.1 h3)
 rcases h2.2 with h4|h4
 ·exact .inl (tn _ _ _ h4 h1.1)
 exact .inr (by omega)
theorem ins_keep (a:Nat):∀(j:Nat) (d:Array α),j<d.size→(insInner lt a j d).size=d.size∧(∀q,j<q→(insInner lt a j d)[q]! =d[q]!)∧∀p,p≤j→∃p',p'≤j∧(insInner lt a j d)[p]! =d[p']!
 |0,d,_=>⟨by rw[insInner],fun q _=>by rw[insInner],fun p hp=>⟨p,hp,by rw[insInner]⟩⟩
 |j+1,d,hj=>by
  rw[insInner]
  by_cases hc:(j+1 > a && lt d[j+1]! d[j]!)=true
  ·rw[if_pos hc]
   obtain ⟨h1,h2,h3⟩:=ins_keep a j (swp d (j+1) j) (by rw[swp_size];omega)
   refine ⟨by rw[h1,swp_size],fun q hq=>?_,fun p hp=>?_⟩
   ·rw[h2 q (by omega),swp_other _ _ _ _ (by omega) (by omega)]
   have get:∀k,(swp d (j+1) j)[k]! =if k=j then d[j+1]! else if k=j+1 then d[j]! else d[k]! :=fun k=>swp_get d (by omega) (by omega) k
   by_cases hpj:p=j+1
   ·subst hpj
    refine ⟨j,by omega,?_⟩
    rw[h2 _ (by omega),get,if_neg (by omega),if_pos rfl]
   obtain ⟨p',hp',e⟩:=h3 p (by omega)
   rw[e,get]
   by_cases h4:p'=j
   ·exact ⟨j+1,Nat.le_refl _,by rw[if_pos h4]⟩
   exact ⟨p',by omega,by rw[if_neg h4,if_neg (by omega)]⟩
  rw[if_neg hc]
  exact ⟨rfl,fun q _=>rfl,fun p hp=>⟨p,hp,rfl⟩⟩
theorem ins_same (a:Nat):∀(j:Nat) (d:Array α),j<d.size→(∀p,p<j→nm d[p]! <nm d[j]!)→insInner lt a j d=insInner (ltN lt nm) a j d
 |0,d,_,_=>by rw[insInner,insInner]
 |j+1,d,hj,h=>by
  have h1:ltN lt nm d[j+1]! d[j]! =lt d[j+1]! d[j]! :=by
   have:=h j (by omega)
   unfold ltN
   rw[decide_eq_false (by omega)]
   simp
  rw[insInner,insInner,h1]
  by_cases hc:(j+1 > a && lt d[j+1]! d[j]!)=true
  ·rw[if_pos hc,if_pos hc]
   refine ins_same a j _ (by rw[swp_size];omega) fun p hp=>?_
   rw[swp_get d (by omega) (by omega),swp_get d (by omega) (by omega),if_neg (by omega),if_neg (by omega),if_pos rfl]
   exact h p (by omega)
  rw[if_neg hc,if_neg hc]
theorem outer_same (b:Nat):∀(n i:Nat) (d:Array α),b - i=n→b≤d.size→(∀p q,p<q→i≤q→q<b→nm d[p]! <nm d[q]!)→insOuter lt 0 b i d=insOuter (ltN lt nm) 0 b i d
 |0,i,d,hn,_,_=>by
  have g1:∀f:α→α→Bool,insOuter f 0 b i d=d:=fun f=>by rw[insOuter,if_neg (by omega)]
  rw[g1,g1]
 |n+1,i,d,hn,hb,h=>by
  have g1:∀f:α→α→Bool,insOuter f 0 b i d=insOuter f 0 b (i+1) (insInner f 0 i d):=fun f=>by rw[insOuter,if_pos (by omega)]
  rw[g1,g1,← ins_same lt nm 0 i d (by omega) fun p hp=>h p i hp (Nat.le_refl _) (by omega)]
  obtain ⟨h1,h2,h3⟩:=ins_keep lt 0 i d (by omega)
  refine outer_same b n (i+1) _ (by omega) (by rw[h1];exact hb) fun p q hpq hq hqb=>?_
  rw[h2 q (by omega)]
  by_cases hp:p≤i
  ·obtain ⟨p',hp',e⟩:=h3 p hp
   rw[e]
   exact h p' q (by omega) (by omega) hqb
  rw[h2 p (by omega)]
  exact h p q hpq (by omega) hqb
theorem FD (hS:SWO lt) (d:Array α) (lim:Nat) (h12:d.size≤12) (hasc:∀p q,p<q→q<d.size→nm d[p]! <nm d[q]!) (i j:Nat) (hij:i<j) (hj:j<d.size):
 lt (pdq lt d 0 d.size lim true true)[i]! (pdq lt d 0 d.size lim true true)[j]! =true∨nm (pdq lt d 0 d.size lim true true)[i]! ≤nm (pdq lt d 0 d.size lim true true)[j]! :=by
 have e:pdq lt d 0 d.size lim true true=pdq (ltN lt nm) d 0 d.size lim true true:=by
  rw[pdq_small (by omega),pdq_small (by omega)]
  unfold insertionSort
  exact outer_same lt nm d.size _ 1 d rfl (Nat.le_refl _) fun p q hpq _ hq=>hasc p q hpq hq
 have hs:=(pdq_sorts (ltN lt nm) (swoN lt nm hS) d 0 d.size lim true true (Nat.zero_le _) (Nat.le_refl _) (.inl rfl)).2 i j (Nat.zero_le _) hij hj
 rw[e]
 generalize (pdq (ltN lt nm) d 0 d.size lim true true)[i]! =x at hs ⊢
 generalize (pdq (ltN lt nm) d 0 d.size lim true true)[j]! =y at hs ⊢
 unfold ltN at hs
 cases h1:lt x y with
 |true=>exact .inl rfl
 |false=>
  rw[h1] at hs
  simp at hs
  exact .inr (hs.2)
end
section
variable {α : Type} [Inhabited α] {enc : α → Value} {w : World} {A off m N : Nat} {dk : Array α} {os : Array Obj}
theorem sw_only:Only (fun j=>j=A) w (sortWorld enc w A off m dk os):=by
 refine ⟨rfl,rfl,rfl,?_,fun j hj hn=>?_⟩
 ·show _≤((w.heap.modify A _) ++ os).size
  rw[Array.size_append,Array.size_modify];omega
 show ((w.heap.modify A _) ++ os)[j]? =_
 rw[Array.getElem?_append_left (by rw[Array.size_modify];exact hj),Array.getElem?_modify,if_neg (fun e=>hn e.symm)]
theorem sw_row {R:Nat→Value} {T:TypeId} (h:w.heap[A]? =some (.cells (cellsOf R N) T (0,0))):
 (sortWorld enc w A off m dk os).heap[A]? =some (.cells (cellsOf (fun i=>if off≤i∧i<off+dk.size then enc dk[i - off]! else R i) N) T (0,0)):=by
 have hl:A<w.heap.size:=(Array.getElem?_eq_some_iff.1 h).1
 show ((w.heap.modify A _) ++ os)[A]? =_
 rw[Array.getElem?_append_left (by rw[Array.size_modify];exact hl),Array.getElem?_modify,if_pos rfl,h]
 show some (Obj.cells (Go.Sort.putCells enc off dk (cellsOf R N)) T (0,0))=_
 congr 2
 unfold Go.Sort.putCells cellsOf
 refine Array.ext (by simp) fun i h1 h2=>?_
 simp
end
@[reducible] def CL {D : List Nat} (hne : D ≠ []) : Inhabited {v : Nat // v ∈ D} := ⟨⟨D.head hne, List.head_mem hne⟩⟩
noncomputable def Eh (cf:Nat→Nat→Int) (D:List Nat):List Nat:=
 open Classical in if h : D ≠ [] then (letI := CL h; (Go.Sort.pdq (ltOf fun (a b : {v : Nat // v ∈ D}) => cf a.1 b.1) D.attach.toArray 0 D.attach.toArray.size (Lib.bitLen D.length) true true).toList.map (·.1)) else []
structure SortOut (cf:Nat→Nat→Int) (D D':List Nat):Prop where
 det:D'=Eh cf D
 perm:D'.Perm D
 srt:∀i j,i<j→j<D.length→¬ cf (D'.getD j 0) (D'.getD i 0)<0
 stb:D.length≤12→(∀p q,p<q→q<D.length→D.getD p 0<D.getD q 0)→∀i j,i<j→j<D.length→cf (D'.getD i 0) (D'.getD j 0)<0∨D'.getD i 0≤D'.getD j 0
section
variable {w : World} {L : Lay} {D : List Nat} {cf : Nat → Nat → Int} {A off N cap gf lim : Nat} {cb : Array Value} {R : Nat → Value} {T : TypeId}
theorem Fs (hne:D≠ []) {j:Nat} (hj:j<D.length):letI:=CL hne;(D.attach.toArray)[j]!.1=D.getD j 0:=by
 letI:=CL hne
 have h1:j<D.attach.toArray.size:=by simpa using hj
 rw[getElem!_pos _ j h1,List.getD_eq_getElem?_getD,List.getElem?_eq_getElem hj]
 simp
theorem sort_out (hne:D≠ []) (hS:Go.Sort.SWO (α:= {v:Nat // v∈D}) (ltOf fun a b=>cf a.1 b.1)):
 letI:=CL hne
 ∃D',SortOut cf D D'∧D'.length=D.length∧(Go.Sort.pdq (ltOf fun (a b: {v:Nat // v∈D})=>cf a.1 b.1) D.attach.toArray 0 D.attach.toArray.size (Lib.bitLen D.length) true true).size=D.length∧
  ∀j,j<D.length→(Go.Sort.pdq (ltOf fun (a b: {v:Nat // v∈D})=>cf a.1 b.1) D.attach.toArray 0 D.attach.toArray.size (Lib.bitLen D.length) true true)[j]!.1=D'.getD j 0:=by
 letI:=CL hne
 obtain ⟨d,hd⟩:∃d,d=D.attach.toArray:=⟨_,rfl⟩
 have hds:d.size=D.length:=by rw[hd];simp
 have hg:∀j,j<D.length→d[j]!.1=D.getD j 0:=fun j hj=>by rw[hd];exact Fs hne hj
 have h1:=Go.Sort.pdq_sorts (ltOf fun (a b: {v:Nat // v∈D})=>cf a.1 b.1) hS d 0 d.size (Lib.bitLen D.length) true true (Nat.zero_le _) (Nat.le_refl _) (.inl rfl)
 have h2:=FD (ltOf fun (a b: {v:Nat // v∈D})=>cf a.1 b.1) (fun a=>a.1) hS d (Lib.bitLen D.length)
 have h3:(Go.Sort.pdq (ltOf fun (a b: {v:Nat // v∈D})=>cf a.1 b.1) D.attach.toArray 0 D.attach.toArray.size (Lib.bitLen D.length) true true).toList.map (·.1)=Eh cf D:=by
  unfold Eh
  rw[dif_pos hne]
 rw[← hd] at h3 ⊢
 generalize Go.Sort.pdq (ltOf fun (a b: {v:Nat // v∈D})=>cf a.1 b.1) d 0 d.size (Lib.bitLen D.length) true true=r at h1 h2 h3 ⊢
 obtain ⟨⟨hrs,_,hp⟩,hs⟩:=h1
 rw[hds] at hrs hs h2
 have hr:∀j,j<D.length→r[j]!.1=(r.toList.map (·.1)).getD j 0:=fun j hj=>by
  rw[getElem!_pos _ j (by omega),List.getD_eq_getElem?_getD,List.getElem?_map,Array.getElem?_toList,Array.getElem?_eq_getElem (by omega)]
  rfl
 refine ⟨r.toList.map (·.1),⟨h3,?_,fun i j hij hj=>?_,fun h12 hasc i j hij hj=>?_⟩,by simpa using hrs,hrs,hr⟩
 ·have e1:(r.extract 0 d.size).toList=r.toList:=by rw[hds,← hrs];simp
  have e2:(d.extract 0 d.size).toList=d.toList:=by simp
  rw[e1,e2] at hp
  have:=hp.map (·.1)
  rw[hd] at this
  simpa using this
 ·have:=hs i j (Nat.zero_le _) hij hj
  unfold ltOf at this
  rw[← hr i (by omega),← hr j hj]
  exact of_decide_eq_false this
 have:=h2 h12 (fun p q hpq hq=>by rw[hg p (by omega),hg q hq];exact hasc p q hpq hq) i j hij hj
 rw[← hr i (by omega),← hr j hj]
 rcases this with h3|h3
 ·exact .inl (of_decide_eq_true h3)
 exact .inr h3
theorem sort_pre (hne:D≠ []) (hoff:off+D.length≤N) (hrow:w.heap[A]? =some (.cells (cellsOf R N) T (0,0))) (hR:∀j,j<D.length→R (off+j)=L.vp (D.getD j 0)):
 letI:=CL hne
 Go.Sort.Holds (fun a: {v:Nat // v∈D}=>L.vp a.1) w A off D.attach.toArray∧A<w.heap.size:=by
 letI:=CL hne
 refine ⟨fun j hj=>?_,(Array.getElem?_eq_some_iff.1 hrow).1⟩
 have hj':j<D.length:=by simpa using hj
 show w.cell? ⟨A,off+j,none⟩=some (L.vp (D.attach.toArray[j]!).1)∧_
 rw[Fs hne hj']
 exact ⟨Am hrow (by rw[Bf _ (by omega),hR j hj']),AQ hrow⟩
theorem E3 (hne:D≠ []) (hcmp:∀W,Only (fun j=>j=A) w W→∀x∈D,∀y∈D,Ret Tryz.prog gf (#[L.vp x,L.vp y] ++ cb) W fun v W'=>v= .int .i64 (cf x y)∧Gn W W'):
 letI:=CL hne
 CmpLays1 Tryz.prog gf cb (fun a: {v:Nat // v∈D}=>L.vp a.1) (fun a b=>cf a.1 b.1) A off D.attach.toArray.size w:=by
 letI:=CL hne
 intro m os dk hs x y
 refine Calls.mono (hcmp _ sw_only x.1 x.2 y.1 y.2) ?_
 rintro e W' ⟨v,rfl,rfl,hW⟩
 exact ⟨rfl,hW⟩
theorem sort_post (hne:D≠ []) (hrow:w.heap[A]? =some (.cells (cellsOf R N) T (0,0))) {D':List Nat} {dk:Array {v:Nat // v∈D}} (hs:dk.size=D.length) (hget:letI:=CL hne;∀j,j<D.length→dk[j]!.1=D'.getD j 0) {m:Nat} {os:Array Obj}:
 letI:=CL hne
 (sortWorld (fun a: {v:Nat // v∈D}=>L.vp a.1) w A off m dk os).heap[A]? =some (.cells (cellsOf (fun i=>if off≤i∧i<off+D.length then L.vp (D'.getD (i - off) 0) else R i) N) T (0,0)):=by
 letI:=CL hne
 rw[sw_row hrow]
 congr 2
 refine BA fun i _=>?_
 rw[hs]
 by_cases h:off≤i∧i<off+D.length
 ·rw[if_pos h,if_pos h,hget (i - off) (by omega)]
 rw[if_neg h,if_neg h]
theorem FX (hne:D≠ []):OneCell (fun a: {v:Nat // v∈D}=>L.vp a.1):=fun _=>rfl
theorem sortV_ret (hne:D≠ []) (hlen:D.length≤1000) (hoff:off+D.length≤N) (hrow:w.heap[A]? =some (.cells (cellsOf R N) T (0,0))) (hR:∀j,j<D.length→R (off+j)=L.vp (D.getD j 0))
 (heg:∀args w,(callFunc gf args).run Tryz.prog w= .ok (.enter gf args) w) (hS:Go.Sort.SWO (α:= {v:Nat // v∈D}) (ltOf fun a b=>cf a.1 b.1))
 (hcmp:∀W,Only (fun j=>j=A) w W→∀x∈D,∀y∈D,Ret Tryz.prog gf (#[L.vp x,L.vp y] ++ cb) W fun v W'=>v= .int .i64 (cf x y)∧Gn W W'):
 Ret Tryz.prog 76 #[.slice (some ⟨A,off,none⟩) D.length cap,.func (.func gf) #[] cb] w fun v w'=>v= .tuple #[]∧∃D',SortOut cf D D'∧
  w'.heap[A]? =some (.cells (cellsOf (fun i=>if off≤i∧i<off+D.length then L.vp (D'.getD (i - off) 0) else R i) N) T (0,0))∧Only (fun j=>j=A) w w':=by
 letI:=CL hne
 obtain ⟨hH,hA⟩:=sort_pre hne hoff hrow hR
 have hsz:D.attach.toArray.size=D.length:=by simp
 have h:=Any.slices_SortFunc_eq Er (fun a: {v:Nat // v∈D}=>L.vp a.1) (FX hne) (fun a b=>cf a.1 b.1) hS gf cb A off cap D.attach.toArray w heg (E3 hne hcmp) hH hA (by rw[hsz];omega)
 obtain ⟨D',h1,h2,h3,h4⟩:=sort_out hne hS
 rw[show (D.attach.toArray.size:Nat)=D.length from hsz] at h h3 h4
 refine Calls.mono h ?_
 rintro e w' ⟨rfl,n,os,rfl⟩
 exact ⟨_,rfl,rfl,D',h1,sort_post hne hrow h3 h4,sw_only⟩
theorem bitsLen_ret {n:Nat} (hn:n≤1000):Ret Tryz.prog 81 #[.int .u64 (n:Int)] w fun v w'=>v= .int .i64 ((Lib.bitLen n:Nat):Int)∧w'=w:=by
 have h:=Any.bits_Len (SlLaysF0.n15.bits (P:=Tryz.prog) (ρ:=laySort_ren) { Er with }) (n:Int) w (by omega) (by omega)
 rw[Int.toNat_natCast] at h
 refine Calls.mono h ?_
 rintro e w' ⟨he,hw⟩
 exact ⟨_,he,rfl,hw⟩
theorem pdqV_ret (hne:D≠ []) (hlen:D.length≤1000) (hoff:off+D.length≤N) (hrow:w.heap[A]? =some (.cells (cellsOf R N) T (0,0))) (hR:∀j,j<D.length→R (off+j)=L.vp (D.getD j 0))
 (heg:∀args w,(callFunc gf args).run Tryz.prog w= .ok (.enter gf args) w) (hS:Go.Sort.SWO (α:= {v:Nat // v∈D}) (ltOf fun a b=>cf a.1 b.1))
 (hcmp:∀W,Only (fun j=>j=A) w W→∀x∈D,∀y∈D,Ret Tryz.prog gf (#[L.vp x,L.vp y] ++ cb) W fun v W'=>v= .int .i64 (cf x y)∧Gn W W'):
 Ret Tryz.prog 80 #[.slice (some ⟨A,off,none⟩) D.length cap,.int .i64 0,.int .i64 (D.length:Nat),.int .i64 ((Lib.bitLen D.length:Nat):Int),.func (.func gf) #[] cb] w fun v w'=>v= .tuple #[]∧∃D',SortOut cf D D'∧
  w'.heap[A]? =some (.cells (cellsOf (fun i=>if off≤i∧i<off+D.length then L.vp (D'.getD (i - off) 0) else R i) N) T (0,0))∧Only (fun j=>j=A) w w':=by
 letI:=CL hne
 obtain ⟨hH,hA⟩:=sort_pre hne hoff hrow hR
 have hsz:D.attach.toArray.size=D.length:=by simp
 have h:=Any.pdqsortCmpFunc_all (P:=Tryz.prog) (ρ:=laySort_ren) { Er with } (fun a: {v:Nat // v∈D}=>L.vp a.1) (fun a b=>cf a.1 b.1) gf cb hS A off cap D.attach.toArray w heg (E3 hne hcmp) ⟨FX hne,hH,hA⟩
  (D.length+1) 0 D.length (Lib.bitLen D.length) D.attach.toArray w (by omega) rfl (SW.start hH) (Nat.zero_le _) (by rw[hsz];exact Nat.le_refl _) (by rw[hsz];omega) (Nat.lt_of_le_of_lt (Lib.bitLen_le D.length 62 (by omega) (by omega)) (by omega)) (Or.inl rfl)
 obtain ⟨D',h1,h2,h3,h4⟩:=sort_out hne hS
 rw[hsz] at h h3 h4
 refine Calls.mono h ?_
 rintro e w' ⟨rfl,n,os,rfl⟩
 exact ⟨_,rfl,rfl,D',h1,sort_post hne hrow h3 h4,sw_only⟩
end
set_option maxHeartbeats 4000000
attribute [local irreducible] EC EL DL Ret thenQ blockQ Bi bodyQ onlyN execOp Sem.run World.cell? World.frozen? World.setCell World.alloc
section
variable {w : World} {L : Lay} {D : List Nat} {cf : Nat → Nat → Int} {A off N cap gf lim : Nat} {cb : Array Value} {R : Nat → Value} {T : TypeId}
theorem sortE_ret (hne:D≠ []) (hlen:D.length≤1000) (hoff:off+D.length≤N) (hrow:w.heap[A]? =some (.cells (cellsOf R N) T (0,0))) (hR:∀j,j<D.length→R (off+j)=L.vp (D.getD j 0))
 (heg:∀args w,(callFunc gf args).run Tryz.prog w= .ok (.enter gf args) w) (hS:Go.Sort.SWO (α:= {v:Nat // v∈D}) (ltOf fun a b=>cf a.1 b.1))
 (hcmp:∀W,Only (fun j=>j=A) w W→∀x∈D,∀y∈D,Ret Tryz.prog gf (#[L.vp x,L.vp y] ++ cb) W fun v W'=>v= .int .i64 (cf x y)∧Gn W W'):
 Ret Tryz.prog 54 #[.slice (some ⟨A,off,none⟩) D.length cap,.func (.func gf) #[] cb] w fun v w'=>v= .tuple #[]∧∃D',SortOut cf D D'∧
  w'.heap[A]? =some (.cells (cellsOf (fun i=>if off≤i∧i<off+D.length then L.vp (D'.getD (i - off) 0) else R i) N) T (0,0))∧Only (fun j=>j=A) w w':=by
 have hp:=pdqV_ret (cap:=cap) hne hlen hoff hrow hR heg hS hcmp
 refine ret_of_EC Tryz.func54 rfl rfl (Ae (Ac (Ab Ad rfl (Ab (AN rfl (An rfl)) rfl (Ab Ah rfl (Af (Aa (Ac (Ab Ad rfl (Ab Ad rfl (Ab Ad rfl ?_)))))))))))
 refine Ab (Ce (m:=(D.length:Int)) rfl (by kernel_rfl) (B2 rfl) (by simp [IntKind.wrap,IntKind.bits,IntKind.signed];omega)) rfl ?_
 refine Be (AG Tryz.func81 rfl rfl rfl rfl) rfl (bitsLen_ret hlen) ?_
 rintro _ wx ⟨rfl,ew⟩
 rw[ew]
 clear ew wx
 refine Ab Ad rfl (Be (AG Tryz.func80 rfl rfl rfl rfl) rfl hp ?_)
 rintro _ w1 ⟨rfl,hp1⟩
 refine Af ?_
 exact BF rfl rfl ⟨rfl,hp1⟩
end
section
variable {w : World} {p : Option Addr} {cap : Nat} {f : Value}
theorem ins0_ret:Ret Tryz.prog 93 #[.slice p 0 cap,.int .i64 0,.int .i64 0,f] w fun v w'=>v= .tuple #[]∧w'=w:=by
 refine ret_of_EC Tryz.func93 rfl rfl (Ae (Ac (Ab Ad rfl (Ab (He rfl rfl (by omega)) rfl (Ab Ah rfl (Af (Aa (Ao (EC_loop (fun _ e w1=>w1=w∧At e [(8,.int .i64 1),(2,.int .i64 0)]) 0 ⟨rfl,Ar rfl ⟨rfl,rfl,trivial⟩⟩ ?_)))))))))
 rintro n e w1 ⟨rfl,⟨t,rfl⟩⟩
 refine Ae (Ae (Ac (Ab Ad rfl (Ab Ad rfl (Ab (AX rfl rfl) rfl (Af (Aa (Bh rfl rfl (AK (AB (AD ?_)))))))))))
 refine AA ?_
 exact BF rfl rfl ⟨rfl,rfl⟩
theorem GT:Ret Tryz.prog 80 #[.slice p 0 cap,.int .i64 0,.int .i64 0,.int .i64 ((Lib.bitLen 0:Nat):Int),f] w fun v w'=>v= .tuple #[]∧w'=w:=by
 refine ret_of_EC Tryz.func80 rfl rfl (Ae (Ac (Ab Ah rfl (Af (Aa (Ae (Ac (Ab Ah rfl (Af (Aa (Ao ?_)))))))))))
 refine EC_loop (fun _ e w1=>w1=w∧At e [(0,.slice p 0 cap),(1,.int .i64 0),(2,.int .i64 0),(4,f)]) 0 ⟨rfl,Ar rfl ⟨rfl,rfl,rfl,rfl,trivial⟩⟩ ?_
 rintro n e w1 ⟨rfl,⟨t,rfl⟩⟩
 refine Ao (Ae (Ac (Ab Ad rfl (Ab Ad rfl (Ab (Ch rfl rfl (by decide)) rfl (Ab Ah rfl (Af (Aa (Ae (Ae (Ac ?_)))))))))))
 refine Ab Ad rfl (Ab (C7 rfl rfl) rfl (Af (Aa (Bm rfl rfl (Ae (Ac (Ab Ad rfl (Ab Ad rfl (Ab Ad rfl (Ab Ad rfl (Be (AG Tryz.func93 rfl rfl rfl rfl) rfl ins0_ret ?_)))))))))))
 rintro _ wx ⟨rfl,ew⟩
 rw[ew]
 clear ew wx
 refine Af (Aa (AE (AO (AS (Bt (AS ?_))))))
 exact ET rfl rfl ⟨rfl,rfl⟩
theorem sort0_ret:Ret Tryz.prog 76 #[.slice p 0 cap,f] w fun v w'=>v= .tuple #[]∧w'=w:=by
 refine ret_of_EC Tryz.func76 rfl rfl (Ae (Ac (Ab Ad rfl (Ab (AN rfl (An rfl)) rfl (Ab Ah rfl (Af (Aa (Ac (Ab Ad rfl (Ab Ad rfl (Ab Ad rfl ?_)))))))))))
 refine Ab (Ce (m:=0) rfl (by kernel_rfl) (B2 rfl) (by simp [IntKind.wrap,IntKind.bits,IntKind.signed])) rfl ?_
 have hb0:=bitsLen_ret (w:=w) (n:=0) (by omega)
 obtain ⟨b0,hb⟩:∃b0,b0=Lib.bitLen 0:=⟨_,rfl⟩
 have hp0:=GT (w:=w) (p:=p) (cap:=cap) (f:=f)
 rw[← hb] at hb0 hp0
 refine Be (AG Tryz.func81 rfl rfl rfl rfl) rfl hb0 ?_
 rintro _ wx ⟨rfl,ew⟩
 rw[ew]
 clear ew wx
 refine Ab Ad rfl (Be (AG Tryz.func80 rfl rfl rfl rfl) rfl hp0 ?_)
 rintro _ wx ⟨rfl,ew⟩
 rw[ew]
 clear ew wx
 refine Af ?_
 exact BF rfl rfl ⟨rfl,rfl⟩
end
end Go.Proofs.YteepnepebilckaaGreatDoor
namespace Go.Proofs.YteepnepebilckaaGreatDoor
open Go Go.Eng Go.RowKit Go.Shelf
def lexc:List Int→List Int→Int
 |a :: r,b :: q=>if a<b then -1 else if b<a then 1 else lexc r q
 |_,_=>0
theorem lexc_cons (a b:Int) (r q:List Int):lexc (a :: r) (b :: q)=if a<b then -1 else if b<a then 1 else lexc r q:=rfl
theorem lexc_le:∀a b,-1≤lexc a b∧lexc a b≤1
 | [],_=>by simp [lexc]
 |_ :: _,[]=>by simp [lexc]
 |a :: r,b :: q=>by
  have:=lexc_le r q
  rw[lexc_cons]
  split
  ·omega
  split <;> omega
theorem lexc_neg:∀a b,lexc b a= - lexc a b
 | [],[]=>rfl
 | [],_ :: _=>rfl
 |_ :: _,[]=>rfl
 |a :: r,b :: q=>by
  have:=lexc_neg r q
  rw[lexc_cons,lexc_cons]
  by_cases h1:a<b
  ·rw[if_pos h1,if_neg (by omega),if_pos h1];rfl
  by_cases h2:b<a
  ·rw[if_pos h2,if_neg h1,if_pos h2]
  rw[if_neg h1,if_neg h2,if_neg h2,if_neg h1,this]
theorem lexc_eq:∀a b,a.length=b.length→(lexc a b=0↔a=b)
 | [],[],_=>by simp [lexc]
 |a :: r,b :: q,h=>by
  have:=lexc_eq r q (by simpa using h)
  rw[lexc_cons]
  by_cases h1:a<b
  ·rw[if_pos h1];simp;omega
  by_cases h2:b<a
  ·rw[if_neg h1,if_pos h2];simp;omega
  rw[if_neg h1,if_neg h2,this]
  have:a=b:=by omega
  simp [this]
theorem lexc_trans:∀a b c,a.length=b.length→b.length=c.length→lexc a b≤0→lexc b c≤0→lexc a c≤0
 | [],[],[],_,_,_,_=>by simp [lexc]
 |a :: r,b :: q,c :: p,h1,h2,h3,h4=>by
  have ih:=lexc_trans r q p (by simpa using h1) (by simpa using h2)
  rw[lexc_cons] at h3 h4 ⊢
  by_cases ab:a<b
  ·by_cases bc:c<b
   ·rw[if_neg (by omega),if_pos bc] at h4;omega
   rw[if_pos (by omega)];omega
  by_cases ba:b<a
  ·rw[if_neg ab,if_pos ba] at h3;omega
  rw[if_neg ab,if_neg ba] at h3
  have:a=b:=by omega
  subst this
  by_cases bc:a<c
  ·rw[if_pos bc];omega
  by_cases cb:c<a
  ·rw[if_neg bc,if_pos cb] at h4;omega
  rw[if_neg bc,if_neg cb] at h4 ⊢
  exact ih h3 h4
theorem lexc_app:∀(a b c d:List Int),a.length=b.length→lexc (a ++ c) (b ++ d)=if lexc a b=0 then lexc c d else lexc a b
 | [],[],c,d,_=>by simp [lexc]
 |a :: r,b :: q,c,d,h=>by
  have ih:=lexc_app r q c d (by simpa using h)
  show lexc (a :: (r ++ c)) (b :: (q ++ d))=_
  rw[lexc_cons,lexc_cons,ih]
  by_cases h1:a<b
  ·rw[if_pos h1,if_pos h1];rfl
  by_cases h2:b<a
  ·rw[if_neg h1,if_pos h2,if_neg h1,if_pos h2];rfl
  rw[if_neg h1,if_neg h2,if_neg h1,if_neg h2]
theorem lexc_swo {α:Type} (k:α→List Int) (hl:∀x y,(k x).length=(k y).length):Go.Sort.SWO (ltOf fun x y=>lexc (k x) (k y)):=by
 have e:∀x y,ltOf (fun x y=>lexc (k x) (k y)) x y=decide (lexc (k x) (k y)<0):=fun _ _=>rfl
 refine ⟨fun x=>?_,fun x y z h1 h2=>?_,fun x y z h1 h2=>?_⟩
 ·rw[e,(lexc_eq _ _ rfl).2 rfl];rfl
 ·rw[e] at *
  have h1:=of_decide_eq_true h1
  have h2:=of_decide_eq_true h2
  refine decide_eq_true ?_
  have h3:=lexc_trans _ _ _ (hl x y) (hl y z) (by omega) (by omega)
  by_cases h4:lexc (k x) (k z)=0
  ·have h5:=(lexc_eq _ _ (hl x z)).1 h4
   rw[h5,lexc_neg] at h1
   omega
  omega
 rw[e] at *
 have h1:=of_decide_eq_false h1
 have h2:=of_decide_eq_false h2
 refine decide_eq_false ?_
 have h3:=lexc_trans _ _ _ (hl z y) (hl y x) (by rw[lexc_neg];omega) (by rw[lexc_neg];omega)
 rw[lexc_neg] at h3
 omega
def key (g:Gph) (x:Nat):List Int:=[g.op x,g.aux x,((g.args x).length:Int),if g.op x=13 then ((g.blk x:Nat):Int)+1 else 0]
theorem cv_lexc (g:Gph) (x y:Nat):cv g x y=lexc (key g x) (key g y):=by
 unfold cv key
 simp only [lexc_cons]
 have c:∀a b:Int,a≠b→c2 (decide (a<b))=if a<b then -1 else if b<a then 1 else 0:=fun a b h=>by
  unfold c2
  by_cases h1:a<b
  ·simp [h1]
  have h2:b<a:=by omega
  simp [h1,h2]
 have z:∀(a b:Int) (r:Int),a≠b→(if a<b then -1 else if b<a then 1 else r)=(if a<b then -1 else if b<a then 1 else 0:Int):=fun a b r h=>by
  by_cases h1:a<b
  ·rw[if_pos h1,if_pos h1]
  rw[if_neg h1,if_neg h1,if_pos (by omega),if_pos (by omega)]
 have e:∀(a b:Int) (r:Int),a=b→(if a<b then -1 else if b<a then 1 else r:Int)=r:=fun a b r h=>by rw[if_neg (by omega),if_neg (by omega)]
 by_cases h1:g.op x=g.op y
 ·rw[if_neg (fun h=>h h1),e _ _ _ h1]
  by_cases h2:g.aux x=g.aux y
  ·rw[if_neg (fun h=>h h2),e _ _ _ h2]
   by_cases h3:((g.args x).length:Int)=((g.args y).length:Int)
   ·rw[if_neg (fun h=>h h3),e _ _ _ h3]
    have hn:lexc [] []=0:=rfl
    rw[hn]
    by_cases h4:g.op x=13
    ·have h4y:g.op y=13:=h1 ▸ h4
     rw[if_pos (c:=g.op x=13) h4,if_pos (c:=g.op y=13) h4y]
     by_cases h5:g.blk x=g.blk y
     ·rw[if_neg (fun h=>h.2 h5),e _ _ _ (by rw[h5])]
     rw[if_pos ⟨h4,h5⟩,c _ _ (by omega)]
    have h4y:¬ g.op y=13:=fun h=>h4 (h1.trans h)
    rw[if_neg (fun h=>h4 h.1),if_neg (c:=g.op x=13) h4,if_neg (c:=g.op y=13) h4y,e _ _ _ rfl]
   rw[if_pos h3];exact (c _ _ h3).trans (z _ _ _ h3).symm
  rw[if_pos h2];exact (c _ _ h2).trans (z _ _ _ h2).symm
 rw[if_pos h1];exact (c _ _ h1).trans (z _ _ _ h1).symm
def kx (g:Gph) (x:Nat):List Int:=key g x ++ [(x:Int)+1]
theorem cp_lexc (g:Gph) (x y:Nat):cp g x y=lexc (kx g x) (kx g y):=by
 unfold cp kx
 rw[lexc_app (key g x) (key g y) _ _ rfl,cv_lexc]
 have h:=lexc_le (key g x) (key g y)
 by_cases h1:lexc (key g x) (key g y)= -1
 ·rw[if_pos h1,if_neg (by omega),h1]
 rw[if_neg h1]
 by_cases h2:lexc (key g x) (key g y)=1
 ·rw[if_pos h2,if_neg (by omega),h2]
 rw[if_neg h2,if_pos (by omega)];rfl
theorem ca_lexc (cls:Nat→Int):∀a b,ca cls a b=lexc (a.map fun x=>cls (x+1)) (b.map fun x=>cls (x+1))
 | [],_=>by simp [ca,lexc]
 |_ :: _,[]=>by simp [ca,lexc]
 |a :: r,b :: q=>by
  rw[Fo,List.map_cons,List.map_cons,lexc_cons,ca_lexc cls r q]
end Go.Proofs.YteepnepebilckaaGreatDoor
