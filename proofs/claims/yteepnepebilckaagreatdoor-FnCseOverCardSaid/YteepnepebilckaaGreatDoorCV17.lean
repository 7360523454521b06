/- The law FnCseOver returns true for every input in which the opcode table reads as laid, and its argument reads as it did, the table being tied to the text of the program. -/
import Derived.Test.YteepnepebilckaaGreatDoorCV16
namespace Go.Proofs.YteepnepebilckaaGreatDoor
open Go Go.Eng Go.RowKit
def Gn (w w':World):Prop:=∃q os,w'=Go.Sort.grow (w.drewN q) os
theorem Gn.refl (w:World):Gn w w:=⟨0,#[],by rw[Go.Sort.grow_empty];rfl⟩
theorem Gn.trans {a b c:World} (h:Gn a b) (k:Gn b c):Gn a c:=by
 obtain ⟨q,os,rfl⟩:=h
 obtain ⟨q',os',rfl⟩:=k
 refine ⟨q+q',os ++ os',?_⟩
 show Go.Sort.grow (Go.Sort.grow ((a.drewN q).drewN q') os) os'=_
 rw[Go.Sort.grow_grow,World.drewN_drewN]
theorem Gn.drew' (w:World):Gn w w.drew:=⟨1,#[],by rw[Go.Sort.grow_empty];rfl⟩
theorem Gn.alloc' (w:World) (o:Obj):Gn w (w.alloc o):=⟨0,#[o],by
 show w.alloc o= { w with heap:=w.heap ++ #[o] }
 rw[← Array.push_eq_append];rfl⟩
theorem Gn.drew {a b:World} (h:Gn a b):Gn a b.drew:=h.trans (Gn.drew' b)
theorem Gn.below {a b:World} (h:Gn a b):Below a.heap.size a b:=by
 obtain ⟨q,os,rfl⟩:=h
 refine ⟨rfl,rfl,rfl,?_,fun j hj=>?_⟩
 ·show _≤(a.heap ++ os).size
  rw[Array.size_append];omega
 show (a.heap ++ os)[j]? =_
 rw[Array.getElem?_append_left hj]
def c2 (b:Bool):Int:=if b then -1 else 1
def Dg (a b:Int):Int:=if a<b then -1 else if b<a then 1 else 0
def cv (g:Gph) (x y:Nat):Int:=
 if g.op x≠g.op y then c2 (decide (g.op x<g.op y)) else
 if g.aux x≠g.aux y then c2 (decide (g.aux x<g.aux y)) else
 if ((g.args x).length:Int)≠((g.args y).length:Int) then c2 (decide (((g.args x).length:Int)<((g.args y).length:Int))) else
 if g.op x=13∧g.blk x≠g.blk y then c2 (decide (((g.blk x:Nat):Int)+1<((g.blk y:Nat):Int)+1)) else 0
def cp (g:Gph) (x y:Nat):Int:=if cv g x y= -1 then -1 else if cv g x y=1 then 1 else Dg ((x:Int)+1) ((y:Int)+1)
section
variable {w : World} {B : Nat} {L : Lay} {g : Gph}
theorem GRep.vTy (h:GRep w B L g) {i:Nat} (hi:i<g.nv):w.cell? ⟨L.vb i,0+2,none⟩=some (.int .i64 (g.ty i)):=Am (h.val hi) rfl
theorem GRep.vNil (h:GRep w B L g) {i:Nat} (hi:i<g.nv):w.cell? ⟨L.vb i,0+4,none⟩=some (.pointer none):=Am (h.val hi) rfl
end
theorem GP {w:World} {ρ:Operand→Value} {d:Option Tmp} {ty u:TypeId} {pos:String} {af:Array Edge} {g:Option (Nat×Bool)} {x y:Operand} (hx:ρ x= .pointer none) (hy:ρ y= .pointer none):
 (execOp ρ ⟨d,.binOp .neq 98 x y u,ty,pos,af,g⟩).run Tryz.prog w= .ok (.value (.bool false)) w:=by
 have key:(Op.equal 98 (.pointer none) (.pointer none)).run Tryz.prog w= .ok true w:=by kernel_rfl
 simp [execOp,hx,hy,eqGuard,binOp,key]
set_option maxHeartbeats 4000000
attribute [local irreducible] EC EL DL Ret thenQ blockQ Bi bodyQ onlyN execOp Sem.run World.cell? World.frozen? World.setCell World.alloc
theorem EO {w:World} (a:Int):Ret Tryz.prog 92 #[.int .i32 a] w fun v w'=>v= .bool false∧w'=w:=by
 refine ret_of_EC Tryz.func92 rfl rfl (Ae (Ac (Ab Ah rfl (Af (Aa (Ae (Ac (Ab Ad rfl (Ab Ad rfl (Ab (Bw rfl rfl) rfl (Ab Ah rfl ?_)))))))))))
 refine Af (Aa (AE ?_))
 exact Az rfl rfl rfl ⟨congrArg Value.bool (decide_eq_false (fun h=>h rfl)),rfl⟩
theorem D5 {w:World} (a:Int):Ret Tryz.prog 85 #[.int .i32 a] w fun v w'=>v= .bool false∧w'=w:=by
 refine ret_of_EC Tryz.func85 rfl rfl (Ae (Ac (Ab Ah rfl (Af (Aa (Ae (Ac (Ab Ad rfl (Ab Ad rfl (Ab (Bw rfl rfl) rfl (Ab Ah rfl ?_)))))))))))
 refine Af (Aa (AE ?_))
 exact Az rfl rfl rfl ⟨congrArg Value.bool (decide_eq_false (fun h=>h rfl)),rfl⟩
theorem Gl {w:World} (a b:Int):Ret Tryz.prog 79 #[.int .i32 a,.int .i32 b] w fun v w'=>v= .int .i64 (Dg a b)∧w'=w:=by
 refine ret_of_EC Tryz.func79 rfl rfl (Ae (Ac (Ab Ah rfl (Af (Aa (Ae (Ac (Ab Ad rfl (Be (AG Tryz.func92 rfl rfl rfl rfl) rfl (EO a) ?_)))))))))
 rintro _ wx ⟨rfl,ew⟩
 rw[ew]
 clear ew wx
 refine Ab Ah rfl (Af (Aa (Ae (Ac (Ab Ad rfl (Be (AG Tryz.func92 rfl rfl rfl rfl) rfl (EO b) ?_))))))
 rintro _ wx ⟨rfl,ew⟩
 rw[ew]
 clear ew wx
 refine Ab Ah rfl (Af (Aa (Ae (Ae (Ac (Ab Ad rfl (Af (Aa (Bh rfl rfl (Aq (Aa ?_)))))))))))
 refine Ae (Ae (Ac (Ab Ad rfl (Af (Aa (Bh rfl rfl (Aq (Aa ?_))))))))
 unfold Dg
 refine Ae (Ae (Ac (Ab Ad rfl (Ab Ad rfl (Ab (AX rfl rfl) rfl (Af (Aa ?_)))))))
 refine AI rfl rfl (fun h1=>?_) (fun h1=>?_)
 ·rw[if_pos h1]
  refine Ae (Ac (Ab Ah rfl (Af (Aa (AE (AO ?_))))))
  exact Az rfl rfl rfl ⟨rfl,rfl⟩
 rw[if_neg h1]
 refine Aq (Aa (Ae (Ae (Ac (Ab Ad rfl (Ab Ad rfl (Ab (BE rfl rfl) rfl (Af (Aa ?_)))))))))
 refine AI rfl rfl (fun h1=>?_) (fun h1=>?_)
 ·rw[if_pos h1]
  refine Ae (Ac (Ab Ah rfl (Af (Aa (AE (AO ?_))))))
  exact Az rfl rfl rfl ⟨rfl,rfl⟩
 rw[if_neg h1]
 refine Aq (Aa (Ae (Ac (Ab Ah rfl (Af (Aa (AE ?_)))))))
 exact Az rfl rfl rfl ⟨rfl,rfl⟩
theorem FJ {w:World} (a b:Int):Ret Tryz.prog 61 #[.int .i32 a,.int .i32 b] w fun v w'=>v= .int .i64 (Dg a b)∧w'=w:=by
 refine ret_of_EC Tryz.func61 rfl rfl (Ae (Ac (Ab Ah rfl (Af (Aa (Ae (Ac (Ab Ad rfl (Be (AG Tryz.func85 rfl rfl rfl rfl) rfl (D5 a) ?_)))))))))
 rintro _ wx ⟨rfl,ew⟩
 rw[ew]
 clear ew wx
 refine Ab Ah rfl (Af (Aa (Ae (Ac (Ab Ad rfl (Be (AG Tryz.func85 rfl rfl rfl rfl) rfl (D5 b) ?_))))))
 rintro _ wx ⟨rfl,ew⟩
 rw[ew]
 clear ew wx
 refine Ab Ah rfl (Af (Aa (Ae (Ae (Ac (Ab Ad rfl (Af (Aa (Bh rfl rfl (Aq (Aa ?_)))))))))))
 refine Ae (Ae (Ac (Ab Ad rfl (Af (Aa (Bh rfl rfl (Aq (Aa ?_))))))))
 unfold Dg
 refine Ae (Ae (Ac (Ab Ad rfl (Ab Ad rfl (Ab (AX rfl rfl) rfl (Af (Aa ?_)))))))
 refine AI rfl rfl (fun h1=>?_) (fun h1=>?_)
 ·rw[if_pos h1]
  refine Ae (Ac (Ab Ah rfl (Af (Aa (AE (AO ?_))))))
  exact Az rfl rfl rfl ⟨rfl,rfl⟩
 rw[if_neg h1]
 refine Aq (Aa (Ae (Ae (Ac (Ab Ad rfl (Ab Ad rfl (Ab (BE rfl rfl) rfl (Af (Aa ?_)))))))))
 refine AI rfl rfl (fun h1=>?_) (fun h1=>?_)
 ·rw[if_pos h1]
  refine Ae (Ac (Ab Ah rfl (Af (Aa (AE (AO ?_))))))
  exact Az rfl rfl rfl ⟨rfl,rfl⟩
 rw[if_neg h1]
 refine Aq (Aa (Ae (Ac (Ab Ah rfl (Af (Aa (AE ?_)))))))
 exact Az rfl rfl rfl ⟨rfl,rfl⟩
theorem DO {w:World} (b:Bool):Ret Tryz.prog 90 #[.bool b] w fun v w'=>v= .int .i8 (c2 b)∧w'=w:=by
 refine ret_of_EC Tryz.func90 rfl rfl (Ae (Ac (Ab Ah rfl (Af (Aa (Ae (Ae (Ac (Ab Ad rfl (Af (Aa ?_)))))))))))
 cases b with
 |true=>
  refine Bm rfl rfl (Ae (Ac (Ab Ah rfl (Af (Aa (AE (AO ?_)))))))
  exact Az rfl rfl rfl ⟨rfl,rfl⟩
 |false=>
  refine Bh rfl rfl (Aq (Aa (Ae (Ac (Ab Ah rfl (Af (Aa (AE ?_))))))))
  exact Az rfl rfl rfl ⟨rfl,rfl⟩
theorem FQ {w:World} (a:Int):Ret Tryz.prog 91 #[.int .i64 a,.int .i64 a] w fun v w'=>v= .int .i8 0∧w'=w:=by
 refine ret_of_EC Tryz.func91 rfl rfl (Ae (Ac (Ab Ah rfl (Af (Aa (Ae (Ao (Ae (Ac (Ab Ad rfl (Ab Ad rfl ?_)))))))))))
 refine Ab (AX rfl rfl) rfl (Ab Ah rfl (Af (Aa ?_)))
 refine AI rfl rfl (fun h=>absurd h (Int.lt_irrefl _)) (fun _=>?_)
 refine Ae (Ac (Ab Ad rfl (Ab Ad rfl (Ab (BE rfl rfl) rfl (Ab Ah rfl (Af (Aa ?_)))))))
 refine AI rfl rfl (fun h=>absurd h (Int.lt_irrefl _)) (fun _=>?_)
 refine Aq (Ap (Aa (Ae (Ac (Ab Ah rfl (Af (Aa (AE ?_))))))))
 exact Az rfl rfl rfl ⟨rfl,rfl⟩
theorem EM {w:World} (a:Int):Ret Tryz.prog 50 #[.int .i64 a] w fun v w'=>v= .bool false∧w'=w:=by
 refine ret_of_EC Tryz.func50 rfl rfl (Ae (Ac (Ab Ah rfl (Af (Aa (Ae (Ac (Ab Ah rfl (Af (Aa (AE ?_)))))))))))
 exact Az rfl rfl rfl ⟨rfl,rfl⟩
theorem cmpVal_ret {w:World} {B:Nat} {L:Lay} {g:Gph} {x y:Nat} {am:Value} (hg:GRep w B L g) (hx:x<g.nv) (hy:y<g.nv) (hbx:g.blk x<g.nb) (hby:g.blk y<g.nb)
 (hty:g.op x=g.op y→g.ty x=g.ty y) (hop:g.op x≤15):
 Ret Tryz.prog 78 #[L.vp x,L.vp y,am] w fun v w'=>v= .int .i8 (cv g x y)∧Gn w w':=by
 refine ret_of_EC Tryz.func78 rfl rfl ?_
 obtain ⟨ax,capx,hax⟩:=Row.len (hg.comp (.args x) hx)
 obtain ⟨ay,capy,hay⟩:=Row.len (hg.comp (.args y) hy)
 have hW:Gn w w:=Gn.refl w
 refine Ae (Ac (Ab Ah rfl (Af (Aa (Ae (Ae (AY mixed (fun w'=>GRep w' B L g) [(0,false),(1,false),(2,false),(3,false),(4,false),(5,false),(6,false),(7,false),(8,false)] (by kernel_rfl) hg.drew ?_)))))))
 replace hg:=hg.drew
 replace hW:=hW.drew
 generalize w.drew=w1 at hg hW ⊢
 refine Aj rfl (fun _ _=>Ad) (Aj rfl (fun _ _=>Au rfl) (Aj rfl (fun _ _=>Al rfl (Ak rfl)) (Aj rfl (fun _ hS=>Ai rfl (Ag rfl) (by first|exact GRep.vOp hS hx|exact GRep.vOp hS hy|exact GRep.vID hS hx|exact GRep.vID hS hy|exact GRep.vAux hS hx|exact GRep.vAux hS hy|exact GRep.vArgs hS hx|exact GRep.vArgs hS hy|exact GRep.vBlk hS hx|exact GRep.vBlk hS hy|exact GRep.vTy hS hx|exact GRep.vTy hS hy|exact GRep.vNil hS hx|exact GRep.vNil hS hy|exact GRep.bID hS hbx|exact GRep.bID hS hby)) ?_)))
 refine Aj rfl (fun _ _=>Ad) (Aj rfl (fun _ _=>Au rfl) (Aj rfl (fun _ _=>Al rfl (Ak rfl)) (Aj rfl (fun _ hS=>Ai rfl (Ag rfl) (by first|exact GRep.vOp hS hx|exact GRep.vOp hS hy|exact GRep.vID hS hx|exact GRep.vID hS hy|exact GRep.vAux hS hx|exact GRep.vAux hS hy|exact GRep.vArgs hS hx|exact GRep.vArgs hS hy|exact GRep.vBlk hS hx|exact GRep.vBlk hS hy|exact GRep.vTy hS hx|exact GRep.vTy hS hy|exact GRep.vNil hS hx|exact GRep.vNil hS hy|exact GRep.bID hS hbx|exact GRep.bID hS hby)) ?_)))
 refine Aj rfl (fun _ _=>Bw rfl rfl) (AP (Aa ?_))
 unfold cv
 refine AI rfl rfl (fun hne=>?_) (fun heq=>?_)
 ·rw[if_pos hne]
  refine Ae (AY mixed (fun w'=>GRep w' B L g) [(0,false),(1,false),(2,false),(3,false),(4,false),(5,false),(6,false),(7,false),(8,false),(9,true),(10,false)] (by kernel_rfl) hg.drew ?_)
  replace hg:=hg.drew
  replace hW:=hW.drew
  generalize w1.drew=w2 at hg hW ⊢
  refine Aj rfl (fun _ _=>Ad) (Aj rfl (fun _ _=>Au rfl) (Aj rfl (fun _ _=>Al rfl (Ak rfl)) (Aj rfl (fun _ hS=>Ai rfl (Ag rfl) (by first|exact GRep.vOp hS hx|exact GRep.vOp hS hy|exact GRep.vID hS hx|exact GRep.vID hS hy|exact GRep.vAux hS hx|exact GRep.vAux hS hy|exact GRep.vArgs hS hx|exact GRep.vArgs hS hy|exact GRep.vBlk hS hx|exact GRep.vBlk hS hy|exact GRep.vTy hS hx|exact GRep.vTy hS hy|exact GRep.vNil hS hx|exact GRep.vNil hS hy|exact GRep.bID hS hbx|exact GRep.bID hS hby)) ?_)))
  refine Aj rfl (fun _ _=>Ad) (Aj rfl (fun _ _=>Au rfl) (Aj rfl (fun _ _=>Al rfl (Ak rfl)) (Aj rfl (fun _ hS=>Ai rfl (Ag rfl) (by first|exact GRep.vOp hS hx|exact GRep.vOp hS hy|exact GRep.vID hS hx|exact GRep.vID hS hy|exact GRep.vAux hS hx|exact GRep.vAux hS hy|exact GRep.vArgs hS hx|exact GRep.vArgs hS hy|exact GRep.vBlk hS hx|exact GRep.vBlk hS hy|exact GRep.vTy hS hx|exact GRep.vTy hS hy|exact GRep.vNil hS hx|exact GRep.vNil hS hy|exact GRep.bID hS hbx|exact GRep.bID hS hby)) ?_)))
  refine Aj rfl (fun _ _=>AX rfl rfl) (BO rfl (AG Tryz.func90 rfl rfl rfl rfl) (DO _) ?_)
  rintro _ wx ⟨rfl,ew⟩
  rw[ew]
  clear ew wx
  refine ⟨.inr hg,?_⟩
  refine Aj rfl (fun _ _=>Ah) (AP (Aa (AE (AO ?_))))
  exact Az rfl rfl rfl ⟨rfl,hW⟩
 rw[if_neg heq]
 have ho:g.op x=g.op y:=Classical.not_not.1 heq
 refine Aq (Aa (Ae (Ae (AY mixed (fun w'=>GRep w' B L g) [(0,false),(1,false),(2,false),(3,false),(4,false),(5,false),(6,false),(7,false),(8,false)] (by kernel_rfl) hg.drew ?_))))
 replace hg:=hg.drew
 replace hW:=hW.drew
 generalize w1.drew=w2 at hg hW ⊢
 refine Aj rfl (fun _ _=>Ad) (Aj rfl (fun _ _=>Au rfl) (Aj rfl (fun _ _=>Al rfl (Ak rfl)) (Aj rfl (fun _ hS=>Ai rfl (Ag rfl) (by first|exact GRep.vOp hS hx|exact GRep.vOp hS hy|exact GRep.vID hS hx|exact GRep.vID hS hy|exact GRep.vAux hS hx|exact GRep.vAux hS hy|exact GRep.vArgs hS hx|exact GRep.vArgs hS hy|exact GRep.vBlk hS hx|exact GRep.vBlk hS hy|exact GRep.vTy hS hx|exact GRep.vTy hS hy|exact GRep.vNil hS hx|exact GRep.vNil hS hy|exact GRep.bID hS hbx|exact GRep.bID hS hby)) ?_)))
 refine Aj rfl (fun _ _=>Ad) (Aj rfl (fun _ _=>Au rfl) (Aj rfl (fun _ _=>Al rfl (Ak rfl)) (Aj rfl (fun _ hS=>Ai rfl (Ag rfl) (by first|exact GRep.vOp hS hx|exact GRep.vOp hS hy|exact GRep.vID hS hx|exact GRep.vID hS hy|exact GRep.vAux hS hx|exact GRep.vAux hS hy|exact GRep.vArgs hS hx|exact GRep.vArgs hS hy|exact GRep.vBlk hS hx|exact GRep.vBlk hS hy|exact GRep.vTy hS hx|exact GRep.vTy hS hy|exact GRep.vNil hS hx|exact GRep.vNil hS hy|exact GRep.bID hS hbx|exact GRep.bID hS hby)) ?_)))
 refine Aj rfl (fun _ _=>Bw rfl rfl) (AP (Aa ?_))
 refine AI rfl rfl (fun hne=>?_) (fun heq=>?_)
 ·rw[if_pos hne]
  refine Ae (AY mixed (fun w'=>GRep w' B L g) [(0,false),(1,false),(2,false),(3,false),(4,false),(5,false),(6,false),(7,false),(8,false),(9,true),(10,false)] (by kernel_rfl) hg.drew ?_)
  replace hg:=hg.drew
  replace hW:=hW.drew
  generalize w2.drew=w3 at hg hW ⊢
  refine Aj rfl (fun _ _=>Ad) (Aj rfl (fun _ _=>Au rfl) (Aj rfl (fun _ _=>Al rfl (Ak rfl)) (Aj rfl (fun _ hS=>Ai rfl (Ag rfl) (by first|exact GRep.vOp hS hx|exact GRep.vOp hS hy|exact GRep.vID hS hx|exact GRep.vID hS hy|exact GRep.vAux hS hx|exact GRep.vAux hS hy|exact GRep.vArgs hS hx|exact GRep.vArgs hS hy|exact GRep.vBlk hS hx|exact GRep.vBlk hS hy|exact GRep.vTy hS hx|exact GRep.vTy hS hy|exact GRep.vNil hS hx|exact GRep.vNil hS hy|exact GRep.bID hS hbx|exact GRep.bID hS hby)) ?_)))
  refine Aj rfl (fun _ _=>Ad) (Aj rfl (fun _ _=>Au rfl) (Aj rfl (fun _ _=>Al rfl (Ak rfl)) (Aj rfl (fun _ hS=>Ai rfl (Ag rfl) (by first|exact GRep.vOp hS hx|exact GRep.vOp hS hy|exact GRep.vID hS hx|exact GRep.vID hS hy|exact GRep.vAux hS hx|exact GRep.vAux hS hy|exact GRep.vArgs hS hx|exact GRep.vArgs hS hy|exact GRep.vBlk hS hx|exact GRep.vBlk hS hy|exact GRep.vTy hS hx|exact GRep.vTy hS hy|exact GRep.vNil hS hx|exact GRep.vNil hS hy|exact GRep.bID hS hbx|exact GRep.bID hS hby)) ?_)))
  refine Aj rfl (fun _ _=>AX rfl rfl) (BO rfl (AG Tryz.func90 rfl rfl rfl rfl) (DO _) ?_)
  rintro _ wx ⟨rfl,ew⟩
  rw[ew]
  clear ew wx
  refine ⟨.inr hg,?_⟩
  refine Aj rfl (fun _ _=>Ah) (AP (Aa (AE (AO ?_))))
  exact Az rfl rfl rfl ⟨rfl,hW⟩
 rw[if_neg heq]
 refine Aq (Aa (Ae (Ae (AY mixed (fun w'=>GRep w' B L g) [(0,false),(1,false),(2,false),(3,false),(4,false),(5,false),(6,false),(7,false),(8,false),(9,false),(10,false)] (by kernel_rfl) hg.drew ?_))))
 replace hg:=hg.drew
 replace hW:=hW.drew
 generalize w2.drew=w3 at hg hW ⊢
 refine Aj rfl (fun _ _=>Ad) (Aj rfl (fun _ _=>Au rfl) (Aj rfl (fun _ _=>Al rfl (Ak rfl)) (Aj rfl (fun _ hS=>Ai rfl (Ag rfl) (by first|exact GRep.vOp hS hx|exact GRep.vOp hS hy|exact GRep.vID hS hx|exact GRep.vID hS hy|exact GRep.vAux hS hx|exact GRep.vAux hS hy|exact GRep.vArgs hS hx|exact GRep.vArgs hS hy|exact GRep.vBlk hS hx|exact GRep.vBlk hS hy|exact GRep.vTy hS hx|exact GRep.vTy hS hy|exact GRep.vNil hS hx|exact GRep.vNil hS hy|exact GRep.bID hS hbx|exact GRep.bID hS hby)) ?_)))
 refine Aj rfl (fun _ _=>AN hax (An rfl)) (Aj rfl (fun _ _=>Ad) (Aj rfl (fun _ _=>Au rfl) (Aj rfl (fun _ _=>Al rfl (Ak rfl)) (Aj rfl (fun _ hS=>Ai rfl (Ag rfl) (by first|exact GRep.vOp hS hx|exact GRep.vOp hS hy|exact GRep.vID hS hx|exact GRep.vID hS hy|exact GRep.vAux hS hx|exact GRep.vAux hS hy|exact GRep.vArgs hS hx|exact GRep.vArgs hS hy|exact GRep.vBlk hS hx|exact GRep.vBlk hS hy|exact GRep.vTy hS hx|exact GRep.vTy hS hy|exact GRep.vNil hS hx|exact GRep.vNil hS hy|exact GRep.bID hS hbx|exact GRep.bID hS hby)) ?_))))
 refine Aj rfl (fun _ _=>AN hay (An rfl)) (Aj rfl (fun _ _=>Bw rfl rfl) (AP (Aa ?_)))
 refine AI rfl rfl (fun hne=>?_) (fun heq=>?_)
 ·rw[if_pos hne]
  refine Ae (AY mixed (fun w'=>GRep w' B L g) [(0,false),(1,false),(2,false),(3,false),(4,false),(5,false),(6,false),(7,false),(8,false),(9,false),(10,false),(11,true),(12,false)] (by kernel_rfl) hg.drew ?_)
  replace hg:=hg.drew
  replace hW:=hW.drew
  generalize w3.drew=w4 at hg hW ⊢
  refine Aj rfl (fun _ _=>Ad) (Aj rfl (fun _ _=>Au rfl) (Aj rfl (fun _ _=>Al rfl (Ak rfl)) (Aj rfl (fun _ hS=>Ai rfl (Ag rfl) (by first|exact GRep.vOp hS hx|exact GRep.vOp hS hy|exact GRep.vID hS hx|exact GRep.vID hS hy|exact GRep.vAux hS hx|exact GRep.vAux hS hy|exact GRep.vArgs hS hx|exact GRep.vArgs hS hy|exact GRep.vBlk hS hx|exact GRep.vBlk hS hy|exact GRep.vTy hS hx|exact GRep.vTy hS hy|exact GRep.vNil hS hx|exact GRep.vNil hS hy|exact GRep.bID hS hbx|exact GRep.bID hS hby)) ?_)))
  refine Aj rfl (fun _ _=>AN hax (An rfl)) (Aj rfl (fun _ _=>Ad) (Aj rfl (fun _ _=>Au rfl) (Aj rfl (fun _ _=>Al rfl (Ak rfl)) (Aj rfl (fun _ hS=>Ai rfl (Ag rfl) (by first|exact GRep.vOp hS hx|exact GRep.vOp hS hy|exact GRep.vID hS hx|exact GRep.vID hS hy|exact GRep.vAux hS hx|exact GRep.vAux hS hy|exact GRep.vArgs hS hx|exact GRep.vArgs hS hy|exact GRep.vBlk hS hx|exact GRep.vBlk hS hy|exact GRep.vTy hS hx|exact GRep.vTy hS hy|exact GRep.vNil hS hx|exact GRep.vNil hS hy|exact GRep.bID hS hbx|exact GRep.bID hS hby)) ?_))))
  refine Aj rfl (fun _ _=>AN hay (An rfl)) (Aj rfl (fun _ _=>AX rfl rfl) (BO rfl (AG Tryz.func90 rfl rfl rfl rfl) (DO _) ?_))
  rintro _ wx ⟨rfl,ew⟩
  rw[ew]
  clear ew wx
  refine ⟨.inr hg,?_⟩
  refine Aj rfl (fun _ _=>Ah) (AP (Aa (AE (AO ?_))))
  exact Az rfl rfl rfl ⟨rfl,hW⟩
 rw[if_neg heq]
 refine Aq (Aa (Ae (Ae (AY mixed (fun w'=>GRep w' B L g) [(0,false),(1,false),(2,false),(3,false),(4,false),(5,false),(6,false),(7,false),(8,false),(9,false),(10,false),(11,false),(12,false),(13,false),(14,false),(15,false)] (by kernel_rfl) hg.drew ?_))))
 replace hg:=hg.drew
 replace hW:=hW.drew
 generalize w3.drew=w4 at hg hW ⊢
 have hdec:decide ((⟨L.bb (g.blk x),0,none⟩:Addr)=⟨L.bb (g.blk y),0,none⟩)=decide (g.blk x=g.blk y):=by
  by_cases hb:g.blk x=g.blk y
  ·rw[hb,decide_eq_true rfl,decide_eq_true rfl]
  rw[decide_eq_false hb,decide_eq_false]
  intro e
  injection e with e
  exact hb (Gi hg hbx hby e)
 refine DL_cut 16 (fun e w'=>w'=w4∧At e [(84,.bool (decide (g.op x=13∧g.blk x≠g.blk y))),(0,L.vp x),(1,L.vp y),(2,am)]) rfl ?_ ?_
 ·refine Aj rfl (fun _ _=>Ad) (Aj rfl (fun _ _=>Au rfl) (Aj rfl (fun _ _=>Al rfl (Ak rfl)) (Aj rfl (fun _ hS=>Ai rfl (Ag rfl) (by first|exact GRep.vOp hS hx|exact GRep.vOp hS hy|exact GRep.vID hS hx|exact GRep.vID hS hy|exact GRep.vAux hS hx|exact GRep.vAux hS hy|exact GRep.vArgs hS hx|exact GRep.vArgs hS hy|exact GRep.vBlk hS hx|exact GRep.vBlk hS hy|exact GRep.vTy hS hx|exact GRep.vTy hS hy|exact GRep.vNil hS hx|exact GRep.vNil hS hy|exact GRep.bID hS hbx|exact GRep.bID hS hby)) ?_)))
  refine Aj rfl (fun _ _=>Bn rfl rfl) (Aj rfl (fun _ _=>Ad) ?_)
  by_cases h13:g.op x=13
  ·rw[decide_eq_true h13]
   refine Ay rfl rfl (fun _ _=>Ad) (Ay rfl rfl (fun _ _=>Au rfl) (Ay rfl rfl (fun _ _=>Al rfl (Ak rfl)) (Ay rfl rfl (fun _ hS=>Ai rfl (Ag rfl) (by first|exact GRep.vOp hS hx|exact GRep.vOp hS hy|exact GRep.vID hS hx|exact GRep.vID hS hy|exact GRep.vAux hS hx|exact GRep.vAux hS hy|exact GRep.vArgs hS hx|exact GRep.vArgs hS hy|exact GRep.vBlk hS hx|exact GRep.vBlk hS hy|exact GRep.vTy hS hx|exact GRep.vTy hS hy|exact GRep.vNil hS hx|exact GRep.vNil hS hy|exact GRep.bID hS hbx|exact GRep.bID hS hby)) ?_)))
   refine Ay rfl rfl (fun _ _=>Ad) (Ay rfl rfl (fun _ _=>Au rfl) (Ay rfl rfl (fun _ _=>Al rfl (Ak rfl)) (Ay rfl rfl (fun _ hS=>Ai rfl (Ag rfl) (by first|exact GRep.vOp hS hx|exact GRep.vOp hS hy|exact GRep.vID hS hx|exact GRep.vID hS hy|exact GRep.vAux hS hx|exact GRep.vAux hS hy|exact GRep.vArgs hS hx|exact GRep.vArgs hS hy|exact GRep.vBlk hS hx|exact GRep.vBlk hS hy|exact GRep.vTy hS hx|exact GRep.vTy hS hy|exact GRep.vNil hS hx|exact GRep.vNil hS hy|exact GRep.bID hS hbx|exact GRep.bID hS hby)) ?_)))
   refine Ay rfl rfl (fun _ hS=>x_neqp (a:=⟨L.bb (g.blk x),0,none⟩) (b:=⟨L.bb (g.blk y),0,none⟩) rfl rfl (BT rfl) (GRep.bPlain hS hbx) (GRep.bPlain hS hby)) ?_
   rw[hdec]
   refine Aj rfl (fun _ _=>AV rfl) ?_
   refine AP ⟨rfl,Ar rfl ⟨?_,rfl,rfl,rfl,trivial⟩⟩
   show Value.bool (!decide (g.blk x=g.blk y))=_
   by_cases hb:g.blk x=g.blk y
   ·rw[decide_eq_true hb,decide_eq_false (fun h=>h.2 hb)];rfl
   rw[decide_eq_false hb,decide_eq_true ⟨h13,hb⟩];rfl
  rw[decide_eq_false h13]
  refine AJ rfl rfl (AJ rfl rfl (AJ rfl rfl (AJ rfl rfl (AJ rfl rfl (AJ rfl rfl (AJ rfl rfl (AJ rfl rfl (AJ rfl rfl (Aj rfl (fun _ _=>AM rfl) ?_)))))))))
  refine AP ⟨rfl,Ar rfl ⟨?_,rfl,rfl,rfl,trivial⟩⟩
  exact congrArg Value.bool (decide_eq_false (fun h:g.op x=13∧_=>h13 h.1)).symm
 rintro e w' ⟨rfl,t,rfl⟩
 refine AP (Aa ?_)
 refine AI rfl rfl (fun hne=>?_) (fun heq=>?_)
 ·rw[if_pos hne]
  refine Ae (AY mixed (fun w'=>GRep w' B L g) [(0,false),(1,false),(2,false),(3,false),(4,false),(5,false),(6,false),(7,false),(8,false),(9,false),(10,false),(11,false),(12,false),(13,false),(14,false),(15,true),(16,false)] (by kernel_rfl) hg.drew ?_)
  replace hg:=hg.drew
  replace hW:=hW.drew
  generalize w'.drew=w5 at hg hW ⊢
  refine Aj rfl (fun _ _=>Ad) (Aj rfl (fun _ _=>Au rfl) (Aj rfl (fun _ _=>Al rfl (Ak rfl)) (Aj rfl (fun _ hS=>Ai rfl (Ag rfl) (by first|exact GRep.vOp hS hx|exact GRep.vOp hS hy|exact GRep.vID hS hx|exact GRep.vID hS hy|exact GRep.vAux hS hx|exact GRep.vAux hS hy|exact GRep.vArgs hS hx|exact GRep.vArgs hS hy|exact GRep.vBlk hS hx|exact GRep.vBlk hS hy|exact GRep.vTy hS hx|exact GRep.vTy hS hy|exact GRep.vNil hS hx|exact GRep.vNil hS hy|exact GRep.bID hS hbx|exact GRep.bID hS hby)) ?_)))
  refine Aj rfl (fun _ _=>Au rfl) (Aj rfl (fun _ _=>Al rfl (Ak rfl)) (Aj rfl (fun _ hS=>Ai rfl (Ag rfl) (by first|exact GRep.vOp hS hx|exact GRep.vOp hS hy|exact GRep.vID hS hx|exact GRep.vID hS hy|exact GRep.vAux hS hx|exact GRep.vAux hS hy|exact GRep.vArgs hS hx|exact GRep.vArgs hS hy|exact GRep.vBlk hS hx|exact GRep.vBlk hS hy|exact GRep.vTy hS hx|exact GRep.vTy hS hy|exact GRep.vNil hS hx|exact GRep.vNil hS hy|exact GRep.bID hS hbx|exact GRep.bID hS hby)) ?_))
  refine Aj rfl (fun _ _=>Ad) (Aj rfl (fun _ _=>Au rfl) (Aj rfl (fun _ _=>Al rfl (Ak rfl)) (Aj rfl (fun _ hS=>Ai rfl (Ag rfl) (by first|exact GRep.vOp hS hx|exact GRep.vOp hS hy|exact GRep.vID hS hx|exact GRep.vID hS hy|exact GRep.vAux hS hx|exact GRep.vAux hS hy|exact GRep.vArgs hS hx|exact GRep.vArgs hS hy|exact GRep.vBlk hS hx|exact GRep.vBlk hS hy|exact GRep.vTy hS hx|exact GRep.vTy hS hy|exact GRep.vNil hS hx|exact GRep.vNil hS hy|exact GRep.bID hS hbx|exact GRep.bID hS hby)) ?_)))
  refine Aj rfl (fun _ _=>Au rfl) (Aj rfl (fun _ _=>Al rfl (Ak rfl)) (Aj rfl (fun _ hS=>Ai rfl (Ag rfl) (by first|exact GRep.vOp hS hx|exact GRep.vOp hS hy|exact GRep.vID hS hx|exact GRep.vID hS hy|exact GRep.vAux hS hx|exact GRep.vAux hS hy|exact GRep.vArgs hS hx|exact GRep.vArgs hS hy|exact GRep.vBlk hS hx|exact GRep.vBlk hS hy|exact GRep.vTy hS hx|exact GRep.vTy hS hy|exact GRep.vNil hS hx|exact GRep.vNil hS hy|exact GRep.bID hS hbx|exact GRep.bID hS hby)) ?_))
  refine Aj rfl (fun _ _=>AX rfl rfl) (BO rfl (AG Tryz.func90 rfl rfl rfl rfl) (DO _) ?_)
  rintro _ wx ⟨rfl,ew⟩
  rw[ew]
  clear ew wx
  refine ⟨.inr hg,?_⟩
  refine Aj rfl (fun _ _=>Ah) (AP (Aa (AE (AO ?_))))
  exact Az rfl rfl rfl ⟨rfl,hW⟩
 rw[if_neg heq]
 refine Aq (Aa (Ae (Ae (Ac ?_))))
 have h1:=hg.vTy hx
 refine Ab Ad rfl (Ab (Au rfl) rfl (Ab (Al rfl (Ak rfl)) rfl (Ab (Ai rfl (Ag rfl) ‹_›) rfl ?_)))
 refine Be (AG Tryz.func50 rfl rfl rfl rfl) rfl (EM _) ?_
 rintro _ wx ⟨rfl,ew⟩
 rw[ew]
 clear ew wx
 refine Af (Aa (Bh rfl rfl (Aq (Aa (Ae (Ae (Ac ?_)))))))
 have h2:=hg.vOp hx
 refine Cm 19 (fun e w''=>w''=w'∧At e [(134,.bool true),(0,L.vp x),(1,L.vp y),(2,am)]) ?_ ?_
 ·refine Ab Ad rfl (Ab (Au rfl) rfl (Ab (Al rfl (Ak rfl)) rfl (Ab (Ai rfl (Ag rfl) ‹_›) rfl ?_)))
  refine Ab (Bw rfl rfl) rfl (Ab Ad rfl ?_)
  rw[decide_eq_true (show g.op x≠18 by omega)]
  refine Av rfl rfl Ad rfl (Av rfl rfl (Au rfl) rfl (Av rfl rfl (Al rfl (Ak rfl)) rfl (Av rfl rfl (Ai rfl (Ag rfl) ‹_›) rfl ?_)))
  refine Av rfl rfl (Bw rfl rfl) rfl (Ab (AV rfl) rfl (Ab Ad rfl ?_))
  rw[decide_eq_true (show g.op x≠19 by omega)]
  refine Av rfl rfl Ad rfl (Av rfl rfl (Au rfl) rfl (Av rfl rfl (Al rfl (Ak rfl)) rfl (Av rfl rfl (Ai rfl (Ag rfl) ‹_›) rfl ?_)))
  refine Av rfl rfl (Bw rfl rfl) rfl (Ab (AV rfl) rfl (Af ?_))
  rw[decide_eq_true (show g.op x≠20 by omega)]
  exact ⟨rfl,Ar rfl ⟨rfl,rfl,rfl,rfl,trivial⟩⟩
 rintro e w'' ⟨rfl,t,rfl⟩
 refine Af (Aa (Bm rfl rfl (Ae (AY mixed (fun w'=>GRep w' B L g) [(0,false),(1,false),(2,false),(3,false),(4,false),(5,false),(6,false),(7,false),(8,true),(9,false)] (by kernel_rfl) hg.drew ?_))))
 replace hg:=hg.drew
 replace hW:=hW.drew
 generalize w''.drew=w5 at hg hW ⊢
 refine Aj rfl (fun _ _=>Ad) (Aj rfl (fun _ _=>Au rfl) (Aj rfl (fun _ _=>Al rfl (Ak rfl)) (Aj rfl (fun _ hS=>Ai rfl (Ag rfl) (by first|exact GRep.vOp hS hx|exact GRep.vOp hS hy|exact GRep.vID hS hx|exact GRep.vID hS hy|exact GRep.vAux hS hx|exact GRep.vAux hS hy|exact GRep.vArgs hS hx|exact GRep.vArgs hS hy|exact GRep.vBlk hS hx|exact GRep.vBlk hS hy|exact GRep.vTy hS hx|exact GRep.vTy hS hy|exact GRep.vNil hS hx|exact GRep.vNil hS hy|exact GRep.bID hS hbx|exact GRep.bID hS hby)) ?_)))
 refine Aj rfl (fun _ _=>Ad) (Aj rfl (fun _ _=>Au rfl) (Aj rfl (fun _ _=>Al rfl (Ak rfl)) (Aj rfl (fun _ hS=>Ai rfl (Ag rfl) (by first|exact GRep.vOp hS hx|exact GRep.vOp hS hy|exact GRep.vID hS hx|exact GRep.vID hS hy|exact GRep.vAux hS hx|exact GRep.vAux hS hy|exact GRep.vArgs hS hx|exact GRep.vArgs hS hy|exact GRep.vBlk hS hx|exact GRep.vBlk hS hy|exact GRep.vTy hS hx|exact GRep.vTy hS hy|exact GRep.vNil hS hx|exact GRep.vNil hS hy|exact GRep.bID hS hbx|exact GRep.bID hS hby)) ?_)))
 rw[hty ho]
 refine BO rfl (AG Tryz.func91 rfl rfl rfl rfl) (FQ _) ?_
 rintro _ wx ⟨rfl,ew⟩
 rw[ew]
 clear ew wx
 refine ⟨.inr hg,?_⟩
 refine Aj rfl (fun _ _=>Ah) (AP (Aa (Ae (Ac (Ab Ad rfl (Ab (Bw rfl rfl) rfl (Af (Aa (Bh rfl rfl (Aq (Aa ?_)))))))))))
 refine Ae (Ae (AY mixed (fun w'=>GRep w' B L g) [(0,false),(1,false),(2,false),(3,false),(4,false),(5,false),(6,false),(7,false),(8,false)] (by kernel_rfl) hg.drew ?_))
 replace hg:=hg.drew
 replace hW:=hW.drew
 generalize w5.drew=w6 at hg hW ⊢
 refine Aj rfl (fun _ _=>Ad) (Aj rfl (fun _ _=>Au rfl) (Aj rfl (fun _ _=>Al rfl (Ak rfl)) (Aj rfl (fun _ hS=>Ai rfl (Ag rfl) (by first|exact GRep.vOp hS hx|exact GRep.vOp hS hy|exact GRep.vID hS hx|exact GRep.vID hS hy|exact GRep.vAux hS hx|exact GRep.vAux hS hy|exact GRep.vArgs hS hx|exact GRep.vArgs hS hy|exact GRep.vBlk hS hx|exact GRep.vBlk hS hy|exact GRep.vTy hS hx|exact GRep.vTy hS hy|exact GRep.vNil hS hx|exact GRep.vNil hS hy|exact GRep.bID hS hbx|exact GRep.bID hS hby)) ?_)))
 refine Aj rfl (fun _ _=>Ad) (Aj rfl (fun _ _=>Au rfl) (Aj rfl (fun _ _=>Al rfl (Ak rfl)) (Aj rfl (fun _ hS=>Ai rfl (Ag rfl) (by first|exact GRep.vOp hS hx|exact GRep.vOp hS hy|exact GRep.vID hS hx|exact GRep.vID hS hy|exact GRep.vAux hS hx|exact GRep.vAux hS hy|exact GRep.vArgs hS hx|exact GRep.vArgs hS hy|exact GRep.vBlk hS hx|exact GRep.vBlk hS hy|exact GRep.vTy hS hx|exact GRep.vTy hS hy|exact GRep.vNil hS hx|exact GRep.vNil hS hy|exact GRep.bID hS hbx|exact GRep.bID hS hby)) ?_)))
 refine Aj rfl (fun _ _=>GP rfl rfl) (AP (Aa (Bh rfl rfl (Aq (Aa (Ae (Ac (Ab Ah rfl (Af (Aa (AE ?_)))))))))))
 exact Az rfl rfl rfl ⟨rfl,hW⟩
theorem Gf {w:World} {B:Nat} {L:Lay} {g:Gph} {x y bx:Nat} {am:Value} (hg:GRep w B L g) (hx:x<g.nv) (hy:y<g.nv) (hbx:g.blk x<g.nb) (hby:g.blk y<g.nb)
 (hty:g.op x=g.op y→g.ty x=g.ty y) (hop:g.op x≤15) (hbx:w.cell? ⟨bx,0,none⟩=some am):
 Ret Tryz.prog 77 #[L.vp x,L.vp y,.pointer (some ⟨bx,0,none⟩)] w fun v w'=>v= .int .i64 (cp g x y)∧Gn w w':=by
 refine ret_of_EC Tryz.func77 rfl rfl (Ae (Ac (Ab Ah rfl (Af (Aa (Ae (Ac (Ab Ad rfl (Ab Ad rfl (Ab (Ai rfl (Ag rfl) ‹_›) rfl ?_))))))))))
 refine Be (AG Tryz.func78 rfl rfl rfl rfl) rfl (cmpVal_ret hg hx hy ‹_› hby hty hop) ?_
 rintro _ w1 ⟨rfl,hW⟩
 replace hg:=hg.on hW.below
 refine Af (Aa ?_)
 unfold cp
 refine Ao (Ae (Ac (Ab (Bn rfl rfl) rfl (Ab Ah rfl (Af (Aa ?_))))))
 refine AI rfl rfl (fun h1=>?_) (fun h1=>?_)
 ·rw[if_pos h1]
  refine Ae (Ac (Ab Ah rfl (Af (Aa (AE (AS ?_))))))
  exact Az rfl rfl rfl ⟨rfl,hW⟩
 rw[if_neg h1]
 refine Ae (Ac (Ab (Bn rfl rfl) rfl (Ab Ah rfl (Af (Aa ?_)))))
 refine AI rfl rfl (fun h1=>?_) (fun h1=>?_)
 ·rw[if_pos h1]
  refine Ae (Ac (Ab Ah rfl (Af (Aa (AE (AS ?_))))))
  exact Az rfl rfl rfl ⟨rfl,hW⟩
 rw[if_neg h1]
 refine Ae (AY mixed (fun w'=>GRep w' B L g) [(0,false),(1,false),(2,false),(3,false),(4,false),(5,false),(6,false),(7,false),(8,true),(9,false)] (by kernel_rfl) hg.drew ?_)
 replace hg:=hg.drew
 replace hW:=hW.drew
 generalize w1.drew=w2 at hg hW ⊢
 refine Aj rfl (fun _ _=>Ad) (Aj rfl (fun _ _=>Au rfl) (Aj rfl (fun _ _=>Al rfl (Ak rfl)) (Aj rfl (fun _ hS=>Ai rfl (Ag rfl) (by first|exact GRep.vOp hS hx|exact GRep.vOp hS hy|exact GRep.vID hS hx|exact GRep.vID hS hy|exact GRep.vAux hS hx|exact GRep.vAux hS hy|exact GRep.vArgs hS hx|exact GRep.vArgs hS hy|exact GRep.vBlk hS hx|exact GRep.vBlk hS hy|exact GRep.vTy hS hx|exact GRep.vTy hS hy|exact GRep.vNil hS hx|exact GRep.vNil hS hy|exact GRep.bID hS hbx|exact GRep.bID hS hby)) ?_)))
 refine Aj rfl (fun _ _=>Ad) (Aj rfl (fun _ _=>Au rfl) (Aj rfl (fun _ _=>Al rfl (Ak rfl)) (Aj rfl (fun _ hS=>Ai rfl (Ag rfl) (by first|exact GRep.vOp hS hx|exact GRep.vOp hS hy|exact GRep.vID hS hx|exact GRep.vID hS hy|exact GRep.vAux hS hx|exact GRep.vAux hS hy|exact GRep.vArgs hS hx|exact GRep.vArgs hS hy|exact GRep.vBlk hS hx|exact GRep.vBlk hS hy|exact GRep.vTy hS hx|exact GRep.vTy hS hy|exact GRep.vNil hS hx|exact GRep.vNil hS hy|exact GRep.bID hS hbx|exact GRep.bID hS hby)) ?_)))
 refine BO rfl (AG Tryz.func79 rfl rfl rfl rfl) (Gl _ _) ?_
 rintro _ wx ⟨rfl,ew⟩
 rw[ew]
 clear ew wx
 refine ⟨.inr hg,?_⟩
 refine Aj rfl (fun _ _=>Ah) (AP (Aa (AE (AS ?_))))
 exact Az rfl rfl rfl ⟨rfl,hW⟩
end Go.Proofs.YteepnepebilckaaGreatDoor
namespace Go.Eng
open Go Go.RowKit
inductive PT where
 |nil
 |rd (i:Nat) (t:PT)
 |wr (f:Bool) (i:Nat) (t:PT)
 |fork (i:Nat) (t:PT) (j:Nat) (u:PT)
def DT (P:Program) (l:List Oper) (S:World→Prop) (Q:Env→World→Prop):PT→Env→World→Prop
 |.nil,e,w=>Q e w
 |.rd i t,e,w=>∃v,(∀w',S w'→Cs P l e i w' v)∧DT P l S Q t (e.put (nthO l i).dst v) w
 |.wr f i t,e,w=>Ca P l e i w fun v w1=>(f=true∨S w1)∧DT P l S Q t (e.put (nthO l i).dst v) w1
 |.fork i t j u,e,w=>(Ca P l e i w fun v w1=>(false=true∨S w1)∧DT P l S Q t (e.put (nthO l i).dst v) w1)∧
   Ca P l e j w fun v w1=>(false=true∨S w1)∧DT P l S Q u (e.put (nthO l j).dst v) w1
def paths:PT→List (List Nat)
 |.nil=>[[]]
 |.rd i t=>(paths t).map (i :: ·)
 |.wr _ i t=>(paths t).map (i :: ·)
 |.fork i t j u=>(paths t).map (i :: ·) ++ (paths u).map (j :: ·)
def noRd:PT→Bool
 |.nil=>true
 |.rd _ _=>false
 |.wr _ _ t=>noRd t
 |.fork _ t _ u=>noRd t && noRd u
def headW:PT→Prop
 |.rd _ _=>False
 |_=>True
def wrOk (b:List Nat):List Nat→PT→Bool
 |_,.nil=>true
 |d,.rd i t=>wrOk b (i :: d) t
 |d,.wr f i t=>(paths t).all (fun s=>s.all fun x=>(b.getD x 0).testBit i) && (!f || (noRd t && d.all fun x=>(b.getD i 0).testBit x)) && wrOk b (i :: d) t
 |d,.fork i t j u=>(paths t).all (fun s=>s.all fun x=>Nat.beq x j || (b.getD x 0).testBit i || (b.getD x 0).testBit j) &&
   (paths u).all (fun s=>s.all fun x=>Nat.beq x i || (b.getD x 0).testBit i || (b.getD x 0).testBit j) && wrOk b (i :: d) t && wrOk b (j :: d) u
def noF (s:List Nat):List (Nat×Bool):=s.map fun i=>(i,false)
def chkT (N:Nat) (l:List Oper) (t:PT):Bool:=(paths t).all (fun s=>chk N l (noF s)) && wrOk (bits l) [] t
def WO (l:List Oper):List Nat→PT→Prop
 |_,.nil=>True
 |d,.rd i t=>WO l (i :: d) t
 |d,.wr f i t=>(∀s∈paths t,∀x∈s,Anc l i x)∧(f=true→noRd t=true∧∀x∈d,Anc l x i)∧WO l (i :: d) t
 |d,.fork i t j u=>(∀s∈paths t,∀x∈s,x=j∨Anc l i x∨Anc l j x)∧(∀s∈paths u,∀x∈s,x=i∨Anc l i x∨Anc l j x)∧WO l (i :: d) t∧WO l (j :: d) u
theorem noF_fst (s:List Nat):(noF s).map (·.1)=s:=by
 unfold noF
 rw[List.map_map]
 have:((fun x:Nat×Bool=>x.1) ∘ fun i=>(i,false))=id:=rfl
 rw[this,List.map_id]
theorem path_ex:∀t:PT,∃s,s∈paths t
 |.nil=>⟨[],by simp [paths]⟩
 |.rd i t=>by obtain ⟨s,hs⟩:=path_ex t;exact ⟨i :: s,List.mem_map.2 ⟨s,hs,rfl⟩⟩
 |.wr _ i t=>by obtain ⟨s,hs⟩:=path_ex t;exact ⟨i :: s,List.mem_map.2 ⟨s,hs,rfl⟩⟩
 |.fork i t j u=>by obtain ⟨s,hs⟩:=path_ex t;exact ⟨i :: s,List.mem_append_left _ (List.mem_map.2 ⟨s,hs,rfl⟩)⟩
theorem wo_of (l:List Oper):∀(t:PT) (d:List Nat),wrOk (bits l) d t=true→WO l d t
 |.nil,_,_=>trivial
 |.rd i t,d,h=>wo_of l t (i :: d) h
 |.wr f i t,d,h=>by
  simp only [wrOk,Bool.and_eq_true,List.all_eq_true,Bool.or_eq_true,Bool.not_eq_true'] at h
  refine ⟨fun s hs x hx=>BQ l _ _ (h.1.1 s hs x hx),fun hf=>?_,wo_of l t _ h.2⟩
  rcases h.1.2 with h1|h1
  ·rw[hf] at h1;cases h1
  exact ⟨h1.1,fun x hx=>BQ l _ _ (h1.2 x hx)⟩
 |.fork i t j u,d,h=>by
  simp only [wrOk,Bool.and_eq_true,List.all_eq_true,Bool.or_eq_true] at h
  refine ⟨fun s hs x hx=>?_,fun s hs x hx=>?_,wo_of l t _ h.1.2,wo_of l u _ h.2⟩
  ·rcases h.1.1.1 s hs x hx with (h1|h1)|h1
   ·exact .inl (beq_true h1)
   ·exact .inr (.inl (BQ l _ _ h1))
   exact .inr (.inr (BQ l _ _ h1))
  rcases h.1.1.2 s hs x hx with (h1|h1)|h1
  ·exact .inl (beq_true h1)
  ·exact .inr (.inl (BQ l _ _ h1))
  exact .inr (.inr (BQ l _ _ h1))
theorem WO.same {l:List Oper}:∀{t:PT} {d d':List Nat},(∀x,x∈d'→x∈d)→WO l d t→WO l d' t
 |.nil,_,_,_,_=>trivial
 |.rd i t,d,d',hd,h=>WO.same (t:=t) (d:=i :: d) (fun x hx=>by
   rcases List.mem_cons.1 hx with rfl|hx
   ·exact .head _
   exact .tail _ (hd x hx)) h
 |.wr f i t,d,d',hd,h=>⟨h.1,fun hf=>⟨(h.2.1 hf).1,fun x hx=>(h.2.1 hf).2 x (hd x hx)⟩,WO.same (t:=t) (d:=i :: d) (fun x hx=>by
   rcases List.mem_cons.1 hx with rfl|hx
   ·exact .head _
   exact .tail _ (hd x hx)) h.2.2⟩
 |.fork i t j u,d,d',hd,h=>⟨h.1,h.2.1,WO.same (t:=t) (d:=i :: d) (fun x hx=>by
   rcases List.mem_cons.1 hx with rfl|hx
   ·exact .head _
   ·exact .tail _ (hd x hx)) h.2.2.1,WO.same (t:=u) (d:=j :: d) (fun x hx=>by
   rcases List.mem_cons.1 hx with rfl|hx
   ·exact .head _
   exact .tail _ (hd x hx)) h.2.2.2⟩
section
variable {P : Program} {N : Nat} {l : List Oper}
theorem peelT {S:World→Prop} {Q:Env→World→Prop} {w:World}:∀(t:PT) (e:Env),DT P l S Q t e w→
 ∃(q:List (Nat×Value)) (t':PT),(∀s∈paths t',q.map (·.1) ++ s∈paths t)∧(∀d,WO l d t→WO l ((q.map (·.1)).reverse ++ d) t')∧DT P l S Q t' (runE l e q) w∧headW t'∧
  (∀q1 i v q2,q=q1 ++ (i,v) :: q2→∀w',S w'→Cs P l (runE l e q1) i w' v)∧(noRd t=true→q=[]∧t'=t)
 |.nil,e,h=>⟨[],.nil,fun s hs=>hs,fun _ h=>h,h,trivial,by simp,fun _=>⟨rfl,rfl⟩⟩
 |.wr f i t,e,h=>⟨[],.wr f i t,fun s hs=>hs,fun _ h=>h,h,trivial,by simp,fun _=>⟨rfl,rfl⟩⟩
 |.fork i t j u,e,h=>⟨[],.fork i t j u,fun s hs=>hs,fun _ h=>h,h,trivial,by simp,fun _=>⟨rfl,rfl⟩⟩
 |.rd i t,e,h=>by
  obtain ⟨v,hv,hr⟩:=h
  obtain ⟨q,t',h1,h2,h3,h4,h5,_⟩:=peelT t _ hr
  refine ⟨(i,v) :: q,t',fun s hs=>List.mem_map.2 ⟨_,h1 s hs,rfl⟩,fun d hd=>?_,h3,h4,?_,fun hn=>(by cases hn)⟩
  ·have:=h2 (i :: d) hd
   simpa using this
  intro q1 i' v' q2 hq w' hw'
  cases q1 with
  |nil=>
   simp at hq
   obtain ⟨⟨rfl,rfl⟩,_⟩:=hq
   exact hv w' hw'
  |cons y q1=>
   simp at hq
   obtain ⟨rfl,hq⟩:=hq
   exact h5 q1 i' v' q2 hq w' hw'
theorem altT {S:World→Prop} {Q:Env→World→Prop} {t:PT} {d:List Nat} {e:Env} {w:World} {i:Nat} {s:List Nat} (hh:headW t) (hw:WO l d t) (hd:DT P l S Q t e w) (hs:s∈paths t) (hi:i∈s)
 (hn:∀c,Anc l c i→∀s∈paths t,c∉s):
 ∃(ti:PT) (f:Bool),(∀s∈paths ti,i :: s∈paths t)∧WO l (i :: d) ti∧(f=true→noRd ti=true∧∀x∈d,Anc l x i)∧
  Ca P l e i w fun v w1=>(f=true∨S w1)∧DT P l S Q ti (e.put (nthO l i).dst v) w1:=by
 cases t with
 |nil=>simp [paths] at hs;subst hs;cases hi
 |rd i t=>exact hh.elim
 |wr f c t=>
  obtain ⟨s',hs',rfl⟩:=List.mem_map.1 hs
  rcases List.mem_cons.1 hi with rfl|hi
  ·exact ⟨t,f,fun s hs=>List.mem_map.2 ⟨s,hs,rfl⟩,hw.2.2,hw.2.1,hd⟩
  exact absurd (.head _) (hn c (hw.1 s' hs' i hi) _ hs)
 |fork c t j u=>
  obtain ⟨st,hst⟩:=path_ex t
  obtain ⟨su,hsu⟩:=path_ex u
  have hct:c :: st∈paths (.fork c t j u):=List.mem_append_left _ (List.mem_map.2 ⟨_,hst,rfl⟩)
  have hju:j :: su∈paths (.fork c t j u):=List.mem_append_right _ (List.mem_map.2 ⟨_,hsu,rfl⟩)
  have hc:i=c→∃(ti:PT) (f:Bool),(∀s∈paths ti,i :: s∈paths (.fork c t j u))∧WO l (i :: d) ti∧(f=true→noRd ti=true∧∀x∈d,Anc l x i)∧
   Ca P l e i w fun v w1=>(f=true∨S w1)∧DT P l S Q ti (e.put (nthO l i).dst v) w1:=by
   rintro rfl
   exact ⟨t,false,fun s hs=>List.mem_append_left _ (List.mem_map.2 ⟨_,hs,rfl⟩),hw.2.2.1,fun h=>(by cases h),hd.1⟩
  have hj:i=j→∃(ti:PT) (f:Bool),(∀s∈paths ti,i :: s∈paths (.fork c t j u))∧WO l (i :: d) ti∧(f=true→noRd ti=true∧∀x∈d,Anc l x i)∧
   Ca P l e i w fun v w1=>(f=true∨S w1)∧DT P l S Q ti (e.put (nthO l i).dst v) w1:=by
   rintro rfl
   exact ⟨u,false,fun s hs=>List.mem_append_right _ (List.mem_map.2 ⟨_,hs,rfl⟩),hw.2.2.2,fun h=>(by cases h),hd.2⟩
  have hs0:s∈(paths t).map (c :: ·) ++ (paths u).map (j :: ·):=hs
  rcases List.mem_append.1 hs0 with h|h
  ·obtain ⟨s',hs',rfl⟩:=List.mem_map.1 h
   rcases List.mem_cons.1 hi with rfl|hi
   ·exact hc rfl
   rcases hw.1 s' hs' i hi with h1|h1|h1
   ·exact hj h1
   ·exact absurd (.head _) (hn c h1 _ hct)
   exact absurd (.head _) (hn j h1 _ hju)
  obtain ⟨s',hs',rfl⟩:=List.mem_map.1 h
  rcases List.mem_cons.1 hi with rfl|hi
  ·exact hj rfl
  rcases hw.2.1 s' hs' i hi with h1|h1|h1
  ·exact hc h1
  ·exact absurd (.head _) (hn c h1 _ hct)
  exact absurd (.head _) (hn j h1 _ hju)
structure StT (P:Program) (N:Nat) (l:List Oper) (S:World→Prop) (Q:Env→World→Prop) (e0:Env)
 (p:List (Nat×Value)) (t:PT) (listed:Array Bool) (a:Act) (w:World):Prop where
 ok:∀s∈paths t,Ok N l (noF (p.map (·.1) ++ s))
 wo:WO l (p.map (·.1)) t
 sub:∀i,isL listed i=true→i∈p.map (·.1)
 size:listed.size=l.length
 closed:∀i,isL listed i=true→∀j∈edges (nthO l i),isL listed j=true
 pend:∀p1 i v p2,p=p1 ++ (i,v) :: p2→isL listed i=false→∀w',S w'→Cs P l (runE l e0 p1) i w' v
 dl:DT P l S Q t (runE l e0 p) w
 hd:headW t
 sw:S w∨(noRd t=true∧∀x∈p,isL listed x.1=true)
 rep:Rep N (runE l e0 (p.filter fun x=>isL listed x.1)) a
variable {S : World → Prop} {Q : Env → World → Prop} {e0 : Env} {Qx : Exit → Act → World → Prop}
theorem StT.end_ {p:List (Nat×Value)} {t:PT} {listed:Array Bool} {a:Act} {w:World} (st:StT P N l S Q e0 p t listed a w) (hall:∀s∈paths t,∀i∈p.map (·.1) ++ s,isL listed i=true):
 ∃e,Rep N e a∧Q e w:=by
 have hs:t= .nil:=by
  obtain ⟨s,hs⟩:=path_ex t
  have key:∀c s',s=c :: s'→False:=by
   rintro c s' rfl
   have h1:=st.sub c (hall _ hs c (by simp))
   have hnd:=(st.ok _ hs).nodup
   rw[noF_fst] at hnd
   exact (List.nodup_append.1 hnd).2.2 c h1 c (by simp) rfl
  cases t with
  |nil=>rfl
  |rd i t=>exact st.hd.elim
  |wr f i t=>obtain ⟨s',_,rfl⟩:=List.mem_map.1 hs;exact (key _ _ rfl).elim
  |fork i t j u=>
   have hs0:s∈(paths t).map (i :: ·) ++ (paths u).map (j :: ·):=hs
   rcases List.mem_append.1 hs0 with h|h
   ·obtain ⟨s',_,rfl⟩:=List.mem_map.1 h;exact (key _ _ rfl).elim
   obtain ⟨s',_,rfl⟩:=List.mem_map.1 h;exact (key _ _ rfl).elim
 subst hs
 refine ⟨runE l e0 p,?_,st.dl⟩
 have:=st.rep
 rw[Dn] at this
 ·exact this
 intro x hx
 exact hall [] (by simp [paths]) x.1 (by simp;exact ⟨_,hx⟩)
theorem draw_mainT (hQ:∀e a w,Rep N e a→Q e w→Qx .normal a w):∀(fuel:Nat) (p:List (Nat×Value)) (t:PT) (listed:Array Bool) (a:Act) (w:World),
 left listed≤fuel→StT P N l S Q e0 p t listed a w→wpAny P .any l.toArray Qx fuel listed a w:=by
 intro fuel
 induction fuel with
 |zero=>
  intro p t listed a w hf st
  have hall:∀s∈paths t,∀i∈p.map (·.1) ++ s,isL listed i=true:=by
   intro s hs i hi
   have h1:=(st.ok s hs).lt (i,false) (List.mem_map.2 ⟨i,hi,rfl⟩)
   exact CT (by omega) (by rw[st.size];exact h1)
  refine ⟨?_,?_⟩
  ·cases hr:Region.ready .any l.toArray listed with
   |nil=>rfl
   |cons i r=>
    exfalso
    have hm:i∈Region.ready .any l.toArray listed:=by rw[hr];simp
    obtain ⟨hil,hl,_⟩:=(mem_ready st.size).1 hm
    have:=CT (i:=i) (show left listed=0 by omega) (by rw[st.size];exact hil)
    rw[this] at hl;cases hl
  obtain ⟨e,he,hq⟩:=st.end_ hall
  exact hQ e a w he hq
 |succ fuel ih=>
  intro p t listed a w hf st
  refine ⟨fun hr=>?_,fun i hi=>?_⟩
  ·have hall:∀s∈paths t,∀i∈p.map (·.1) ++ s,isL listed i=true:=by
    intro s hs i hi
    exact St.stuck (st.ok s hs) st.size hr i (by rw[noF_fst];exact hi)
   obtain ⟨e,he,hq⟩:=st.end_ hall
   exact hQ e a w he hq
  obtain ⟨hil,hiL,hir⟩:=(mem_ready st.size).1 hi
  have hsz:i<listed.size:=by rw[st.size];exact hil
  have hleft:=D9 hsz hiL
  obtain ⟨s0,hs0⟩:=path_ex t
  have ok0:=st.ok s0 hs0
  obtain ⟨okO',okG'⟩:=ok0.ok i hil
  have hnd:=ok0.nodup
  rw[noF_fst] at hnd
  have hset:∀j,isL (listed.setIfInBounds i true) j=(Nat.beq j i || isL listed j):=fun j=>DY hsz
  have hclosed':∀k,isL (listed.setIfInBounds i true) k=true→∀j∈edges (nthO l k),isL (listed.setIfInBounds i true) j=true:=by
   intro k hk j hj
   rw[hset] at hk ⊢
   simp only [Bool.or_eq_true] at hk ⊢
   rcases hk with hk|hk
   ·right;rw[beq_true hk] at hj;exact hir j hj
   right;exact st.closed k hk j hj
  have hmono:∀k,isL listed k=true→isL (listed.setIfInBounds i true) k=true:=fun k hk=>by rw[hset,hk];simp
  have hiπ:i∈p.map (·.1) ++ s0:=by
   have:=ok0.full i hil
   rw[noF_fst] at this;exact this
  by_cases hip:i∈p.map (·.1)
  ·-- a reader that was put off
   obtain ⟨x,hx,hxi⟩:=List.mem_map.1 hip
   obtain ⟨p1,p2,hp⟩:=List.append_of_mem hx
   obtain ⟨i',v⟩:=x
   dsimp only at hxi
   subst hxi
   have hSw:S w:=by
    rcases st.sw with h|⟨_,h⟩
    ·exact h
    have:=h (i',v) hx
    rw[hiL] at this;cases this
   have hd:=st.pend p1 i' v p2 hp hiL w hSw
   have hn:i'∉p1.map (·.1)∧i'∉p2.map (·.1):=by
    have h1:=(List.nodup_append.1 hnd).1
    rw[hp,List.map_append,List.map_cons] at h1
    refine ⟨fun h=>(List.nodup_append.1 h1).2.2 i' h i' (by simp) rfl,?_⟩
    exact (List.nodup_cons.1 (List.nodup_append.1 h1).2.1).1
   have hlook:∀t∈names l (nthO l i'),(p.filter fun x=>isL listed x.1).filter (fun x=>(nthO l x.1).dst == some t)=p1.filter (fun x=>(nthO l x.1).dst == some t):=by
    intro t ht
    refine CU (p2:=(i',v) :: p2) (s:=noF s0) ok0 hp (.inl ?_) ?_ hil st.closed hiL hir t ht
    ·rw[noF_fst,noF_fst,hp];simp
    intro x hx
    rcases List.mem_cons.1 hx with rfl|hx
    ·exact .inl rfl
    right;simp;exact ⟨_,hx⟩
   have hd':Cs P l (runE l e0 (p.filter fun x=>isL listed x.1)) i' w v:=
    DB okO' (fun t ht=>(B8 l t _ _ e0 (hlook t (by unfold names;exact List.mem_append_right _ ht))).symm) hd
   refine Dy hil okO' okG' st.rep hd' (ih p t _ _ _ (by omega) ?_)
   refine ⟨st.ok,st.wo,?_,by simp [st.size],hclosed',?_,st.dl,st.hd,?_,?_⟩
   ·intro k hk
    rw[hset] at hk
    simp only [Bool.or_eq_true] at hk
    rcases hk with hk|hk
    ·rw[beq_true hk];exact hip
    exact st.sub k hk
   ·intro q1 k u q2 hq hk
    rw[hset] at hk
    simp only [Bool.or_eq_false_iff] at hk
    exact st.pend q1 k u q2 hq hk.2
   ·rcases st.sw with h|⟨h1,h2⟩
    ·exact .inl h
    exact .inr ⟨h1,fun x hx=>hmono _ (h2 x hx)⟩
   refine Es hiL hsz st.rep ?_ ⟨p1,p2,hp,hn⟩
   intro q1 q2 hq t htd x hx hxd
   have hqq:q1=p1∧q2=p2:=by
    have h1:p1 ++ (i',v) :: p2=q1 ++ (i',v) :: q2:=by rw[← hp,hq]
    rcases List.append_eq_append_iff.1 h1 with ⟨r,hr1,hr2⟩|⟨r,hr1,hr2⟩
    ·cases r with
     |nil=>simp at hr1 hr2;exact ⟨hr1,hr2.symm⟩
     |cons y r=>
      simp at hr2
      exfalso
      apply hn.2
      rw[hr2.2];simp
    cases r with
    |nil=>simp at hr1 hr2;exact ⟨hr1.symm,hr2⟩
    |cons y r=>
     simp at hr2
     exfalso
     apply hn.1
     rw[hr1,← hr2.1];simp
   rw[hqq.2] at hx
   have hf:=hlook t (by unfold names;rw[htd];simp)
   cases hLx:isL listed x.1 with
   |false=>rfl
   |true=>
    exfalso
    have hm:x∈(p.filter fun x=>isL listed x.1).filter (fun x=>(nthO l x.1).dst == some t):=by
     rw[List.mem_filter,List.mem_filter]
     exact ⟨⟨by rw[hp];simp [hx],hLx⟩,by simp [hxd]⟩
    rw[hf,List.mem_filter] at hm
    have h1:=(List.nodup_append.1 hnd).1
    rw[hp,List.map_append,List.map_cons] at h1
    exact (List.nodup_append.1 h1).2.2 x.1 (List.mem_map.2 ⟨x,hm.1,rfl⟩) x.1 (by simp;right;exact ⟨_,hx⟩) rfl
  -- a writer
  have his:i∈s0:=(List.mem_append.1 hiπ).resolve_left hip
  obtain ⟨ti,f,hti,hwi,hfi,hacts⟩:=altT st.hd st.wo st.dl hs0 his (fun c hc s hs hcs=>by
   have h1:=st.sub c (CC st.closed hc hir)
   have h2:=(st.ok s hs).nodup
   rw[noF_fst] at h2
   exact (List.nodup_append.1 h2).2.2 c h1 c hcs rfl)
  obtain ⟨si,hsi⟩:=path_ex ti
  have ok1:=st.ok _ (hti si hsi)
  have hlook:∀t∈names l (nthO l i),(p.filter fun x=>isL listed x.1).filter (fun x=>(nthO l x.1).dst == some t)=p.filter (fun x=>(nthO l x.1).dst == some t):=by
   intro t ht
   refine CU (p1:=p) (p2:=[]) (s:=noF (i :: si)) ok1 (by simp) (.inr ⟨rfl,si,?_⟩) (by simp) hil st.closed hiL hir t ht
   rw[noF_fst]
  have hacts':Ca P l (runE l e0 (p.filter fun x=>isL listed x.1)) i w fun v w1=>(f=true∨S w1)∧DT P l S Q ti ((runE l e0 p).put (nthO l i).dst v) w1:=
   EG okO' (fun t ht=>(B8 l t _ _ e0 (hlook t (by unfold names;exact List.mem_append_right _ ht))).symm) hacts
  refine EJ hil okO' okG' st.rep hacts' ?_
  rintro v w1 ⟨hS1,hdl1⟩
  obtain ⟨q,t',hpt,hwt,hdl2,hhd2,hpend2,hnr⟩:=peelT ti _ hdl1
  obtain ⟨s1,hs1⟩:=path_ex t'
  have hnd1:=(st.ok _ (hti _ (hpt s1 hs1))).nodup
  rw[noF_fst] at hnd1
  have hqL:∀x∈q,isL listed x.1=false:=by
   intro x hx
   cases hLx:isL listed x.1 with
   |false=>rfl
   |true=>
    exfalso
    have h1:=st.sub _ hLx
    exact (List.nodup_append.1 hnd1).2.2 x.1 h1 x.1 (by simp;right;left;exact ⟨_,hx⟩) rfl
  have hqi:∀x∈q,x.1≠i:=by
   intro x hx e
   have h1:=(List.nodup_append.1 hnd1).2.1
   exact (List.nodup_cons.1 h1).1 (by rw[← e];simp;left;exact ⟨_,hx⟩)
  refine ih (p ++ (i,v) :: q) t' _ _ _ (by omega) ?_
  refine ⟨fun s hs=>?_,?_,?_,by simp [st.size],hclosed',?_,?_,hhd2,?_,?_⟩
  ·have:=st.ok _ (hti _ (hpt s hs))
   simpa using this
  ·refine WO.same (fun x hx=>?_) (hwt _ hwi)
   simp only [List.map_append,List.map_cons,List.mem_append,List.mem_cons,List.mem_reverse] at hx ⊢
   rcases hx with h|h|h
   ·exact .inr (.inr h)
   ·exact .inr (.inl h)
   exact .inl h
  ·intro k hk
   rw[hset] at hk
   simp only [Bool.or_eq_true] at hk
   rcases hk with hk|hk
   ·rw[beq_true hk];simp
   have:=st.sub k hk
   rw[List.map_append]
   exact List.mem_append_left _ this
  ·intro q1 k u q2 hq hk
   rw[hset] at hk
   simp only [Bool.or_eq_false_iff] at hk
   rcases List.append_eq_append_iff.1 hq with ⟨t,ht1,ht2⟩|⟨t,ht1,ht2⟩
   ·-- behind p
    cases t with
    |nil=>
     simp at ht1 ht2
     exfalso
     have:k=i:=by rw[← ht2.1.1]
     rw[this,Nat.beq_refl] at hk
     exact Bool.noConfusion hk.1
    |cons y t=>
     simp at ht2
     obtain ⟨rfl,ht2⟩:=ht2
     have:=hpend2 t k u q2 ht2
     rw[ht1,B7]
     exact this
   cases t with
   |nil=>
    simp at ht1 ht2
    exfalso
    have:k=i:=by rw[ht2.1.1]
    rw[this,Nat.beq_refl] at hk
    exact Bool.noConfusion hk.1
   |cons y t=>
    simp at ht2
    obtain ⟨rfl,ht2⟩:=ht2
    exact st.pend q1 k u t ht1 hk.2
  ·rw[B7]
   exact hdl2
  ·rcases hS1 with hfr|hS
   ·right
    obtain ⟨hnr1,hanc⟩:=hfi hfr
    obtain ⟨hq0,ht0⟩:=hnr hnr1
    refine ⟨by rw[ht0];exact hnr1,?_⟩
    rw[hq0]
    intro x hx
    rcases List.mem_append.1 hx with h|h
    ·exact hmono _ (CC st.closed (hanc x.1 (List.mem_map.2 ⟨x,h,rfl⟩)) hir)
    simp at h
    rw[h,hset,Nat.beq_refl];rfl
   exact .inl hS
  have hff:((p ++ (i,v) :: q).filter fun x=>isL (listed.setIfInBounds i true) x.1)=(p.filter fun x=>isL listed x.1) ++ [(i,v)]:=by
   rw[List.filter_append]
   congr 1
   ·apply List.filter_congr
    intro x hx
    rw[hset]
    have:Nat.beq x.1 i=false:=by
     cases hb:Nat.beq x.1 i with
     |true=>exact absurd (List.mem_map.2 ⟨x,hx,beq_true hb⟩) hip
     |false=>rfl
    rw[this];rfl
   rw[List.filter_cons_of_pos (by rw[hset,Nat.beq_refl];rfl),B5]
   intro x hx
   rw[hset,hqL x hx]
   cases hb:Nat.beq x.1 i with
   |true=>exact absurd (beq_true hb) (hqi x hx)
   |false=>rfl
  rw[hff,B7]
  exact st.rep.put (nthO l i).dst v
theorem D7 {id:Nat} {l:List Oper} {Q:Exit→Env→World→Prop} {e:Env} {w:World} {N:Nat} (hm:P.follows .mixedOrders=true) (S:World→Prop) (t:PT) (hc:chkT N l t=true)
 (hS:S w.drew) (h:DT P l S (Q .normal) t e w.drew):EC P N (.region id l.toArray true) Q e w:=by
 intro Qx a hr hq
 simp only [chkT,Bool.and_eq_true,List.all_eq_true] at hc
 refine wp_region_any hm ?_
 obtain ⟨q,t',h1,h2,h3,h4,h5,_⟩:=peelT t _ h
 have hrep:∀i,isL (Array.replicate l.toArray.size false) i=false:=by
  intro i
  unfold isL
  rw[Array.getD_eq_getD_getElem?,Array.getElem?_replicate]
  split <;> rfl
 refine draw_mainT (S:=S) (Q:=Q .normal) (e0:=e) (p:=q) (t:=t') (fun e' a' w' hr' hx=>hq _ _ _ _ hr' hx) _ _ _ _ ?_ ?_
 ·unfold left
  refine Nat.le_trans (List.length_filter_le _ _) ?_
  simp
 refine ⟨fun s hs=>ok_of_chk (hc.1 _ (h1 s hs)),WO.same (fun x hx=>?_) (h2 [] (wo_of l t [] hc.2)),fun i hi=>?_,by simp,fun i hi=>?_,fun p1 i v p2 hp _=>h5 p1 i v p2 hp,h3,h4,.inl hS,?_⟩
 ·simpa using hx
 ·rw[hrep] at hi;cases hi
 ·rw[hrep] at hi;cases hi
 rw[B5 (fun x _=>hrep x.1)]
 exact hr
end
section
variable {P : Program} {l : List Oper} {S : World → Prop} {Q : Env → World → Prop} {t u : PT} {e : Env} {w : World} {i j d : Nat} {op : Op} {ty : TypeId} {pos : String} {af : Array Edge} {f : Bool}
theorem CZ (h:Q e w):DT P l S Q .nil e w:=h
theorem BI {v:Value} (ho:nthO l i=⟨some d,op,ty,pos,af,none⟩) (hx:∀w',S w'→(execOp e.ev ⟨some d,op,ty,pos,af,none⟩).run P w'= .ok (.value v) w')
 (h:DT P l S Q t (e.set d v) w):DT P l S Q (.rd i t) e w:=
 ⟨v,fun w' hw'=>.inl ⟨B9 ho,by rw[ho];exact hx w' hw'⟩,by rw[ho];exact h⟩
theorem A_wv {K:Value→World→Prop} {v:Value} {w1:World} (ho:nthO l i=⟨some d,op,ty,pos,af,none⟩) (hx:(execOp e.ev ⟨some d,op,ty,pos,af,none⟩).run P w= .ok (.value v) w1) (h:K v w1):Ca P l e i w K:=
 .inr ⟨B9 ho,.inl ⟨v,w1,by rw[ho];exact hx,h⟩⟩
theorem A_ws {K:Value→World→Prop} {w1:World} (ho:nthO l i=⟨none,op,ty,pos,af,none⟩) (hx:(execOp e.ev ⟨none,op,ty,pos,af,none⟩).run P w= .ok .skip w1) (h:K undef w1):Ca P l e i w K:=
 .inr ⟨B9 ho,.inr (.inl ⟨w1,by rw[ho];exact hx,h⟩)⟩
theorem A_wc {K:Value→World→Prop} {g:FuncId} {args:Array Value} {w1:World} {C:Value→World→Prop} (ho:nthO l i=⟨some d,op,ty,pos,af,none⟩) (hx:(execOp e.ev ⟨some d,op,ty,pos,af,none⟩).run P w= .ok (.enter g args) w1)
 (hc:Ret P g args w1 C) (h:∀v w2,C v w2→K v w2):Ca P l e i w K:=
 .inr ⟨B9 ho,.inr (.inr ⟨g,args,w1,C,by rw[ho];exact hx,hc,h⟩)⟩
theorem Dt {v:Value} {w1:World} (ho:nthO l i=⟨some d,op,ty,pos,af,none⟩) (hx:(execOp e.ev ⟨some d,op,ty,pos,af,none⟩).run P w= .ok (.value v) w1) (h:(f=true∨S w1)∧DT P l S Q t (e.set d v) w1):DT P l S Q (.wr f i t) e w:=
 A_wv ho hx (by rw[ho];exact h)
theorem Db {w1:World} (ho:nthO l i=⟨none,op,ty,pos,af,none⟩) (hx:(execOp e.ev ⟨none,op,ty,pos,af,none⟩).run P w= .ok .skip w1) (h:(f=true∨S w1)∧DT P l S Q t e w1):DT P l S Q (.wr f i t) e w:=
 A_ws ho hx (by rw[ho];exact h)
theorem CO {g:FuncId} {args:Array Value} {w1:World} {C:Value→World→Prop} (ho:nthO l i=⟨some d,op,ty,pos,af,none⟩) (hx:(execOp e.ev ⟨some d,op,ty,pos,af,none⟩).run P w= .ok (.enter g args) w1)
 (hc:Ret P g args w1 C) (h:∀v w2,C v w2→(f=true∨S w2)∧DT P l S Q t (e.set d v) w2):DT P l S Q (.wr f i t) e w:=
 A_wc ho hx hc (fun v w2 hv=>by rw[ho];exact h v w2 hv)
theorem DR (h1:DT P l S Q (.wr false i t) e w) (h2:DT P l S Q (.wr false j u) e w):DT P l S Q (.fork i t j u) e w:=⟨h1,h2⟩
end
end Go.Eng
