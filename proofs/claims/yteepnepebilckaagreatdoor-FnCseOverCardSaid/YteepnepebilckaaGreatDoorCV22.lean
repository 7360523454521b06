/- The law FnCseOver returns true for every input in which the opcode table reads as laid, and its argument reads as it did, the table being tied to the text of the program. -/
import Derived.Test.YteepnepebilckaaGreatDoorCV21
namespace Go.Proofs.YteepnepebilckaaGreatDoor
open Go Go.Eng Go.RowKit Go.Shelf
def vcl (g:Gph) (cls:Nat→Int) (x:Nat):List Int:=(g.args x).map fun a=>cls (a+1)
def spt (g:Gph) (cls:Nat→Int) (arr:Nat→Nat) (o m:Nat):List Nat:=0 :: (List.range m).filter fun j=>decide (1≤j∧vcl g cls (arr (o+j - 1))≠vcl g cls (arr (o+j)))
def nI (l:List Nat):List Value:=l.map fun a=>.int .i64 ((a:Nat):Int)
structure Bl.Ok2 (b:Bl) (Bs:Nat):Prop where
 all:b.E≤Bs∧b.A<Bs∧b.fbx<Bs∧b.abx<Bs∧b.vbx<Bs∧b.VE<Bs
theorem G4 {w:World} {ρ:Operand→Value} {d:Option Tmp} {ty:TypeId} {pos:String} {af:Array Edge} {g:Option (Nat×Bool)} {x c:Operand} (hx:ρ x= .slice none 0 0) (hc:ρ c= .int .i64 0):
 (execOp ρ ⟨d,.slice 35 x none (some c) none,ty,pos,af,g⟩).run Tryz.prog w= .ok (.value (.slice none 0 0)) w:=by
 have key:(Instr.sliceAt 35 (.slice none 0 0) none (some (.int .i64 0)) none).run Tryz.prog w= .ok (.slice none 0 0) w:=by kernel_rfl
 simp [execOp,hx,hc,key]
section
variable {w w' : World} {B : Nat} {L : Lay} {b : Bl} {g : Gph} {arr : Nat → Nat} {cls : Nat → Int} {pv : Value} {P : List (Nat × Nat)}
theorem St.grow {Bs:Nat} {row:Option Nat} (h:St w B L b g arr cls pv P) (hb0:b.Ok) (hb:b.Ok2 Bs) (hE:GE b.E L g) (hg:w.grownBy w' row) (hr:∀k,row=some k→Bs≤k) (hpv:∀k,pv.ownBlock=some k→row≠some k):St w' B L b g arr cls pv P:=by
 have h1:=hb.all
 have h2:=hb0.e
 have hf:=hE.fb
 have hfw:=Br h.rep
 have hk:∀k,k<w.heap.size→k<Bs→w'.heap[k]? =w.heap[k]? :=fun k hk hn=>hg.block k hk fun e=>by have:=hr k e.symm;omega
 have hAl:=Bg h.ar
 exact ⟨h.rep.keepE hE fun k hk2=>hk k (by omega) (by omega),(hk _ (Bg h.ar) (by omega)).trans h.ar,(hk _ (Bg h.ve) (by omega)).trans h.ve,(hk _ (Bg h.fb) (by omega)).trans h.fb,(hk _ (Bg h.vb) (by omega)).trans h.vb,(hk _ (Bg h.ab) (by omega)).trans h.ab,
  Ax h.row fun k e=>hg.block k (As h.row k e).2 fun e2=>hpv k e e2.symm,h.ne,fun k hk2=>(World.cell?_of_block (a:=⟨0,k,none⟩) (hk 0 (by omega) (by omega))).trans (h.opt k hk2)⟩
end
structure Sp (w:World) (Bs:Nat) (sp pv:Value) (l:List Nat):Prop where
 row:w.ownsRow Bs 3 1 sp l.length (nI l)
 ne:∀k,pv.ownBlock=some k→sp.ownBlock≠some k
theorem Sp.same {w w':World} {Bs:Nat} {sp pv:Value} {l:List Nat} (h:Sp w Bs sp pv l) (hk:∀k,k<w.heap.size→w'.heap[k]? =w.heap[k]?):Sp w' Bs sp pv l:=
 ⟨Ax h.row fun k e=>hk k (As h.row k e).2,h.ne⟩
theorem Gv (g:Gph) (cls:Nat→Int) (arr:Nat→Nat) (o m:Nat):spt g cls arr o (m+1)=if 1≤m∧vcl g cls (arr (o+m - 1))≠vcl g cls (arr (o+m)) then spt g cls arr o m ++ [m] else spt g cls arr o m:=by
 unfold spt
 rw[List.range_succ,List.filter_append]
 by_cases h:1≤m∧vcl g cls (arr (o+m - 1))≠vcl g cls (arr (o+m))
 ·rw[if_pos h];simp [h]
 rw[if_neg h];simp [h]
theorem spt_len (g:Gph) (cls:Nat→Int) (arr:Nat→Nat) (o m:Nat):(spt g cls arr o m).length≤m+1:=by
 unfold spt
 have:=List.length_filter_le (fun j=>decide (1≤j∧vcl g cls (arr (o+j - 1))≠vcl g cls (arr (o+j)))) (List.range m)
 rw[List.length_range] at this
 simp only [List.length_cons]
 omega
set_option maxHeartbeats 4000000
attribute [local irreducible] EC EL DL Ret thenQ blockQ Bi bodyQ onlyN execOp Sem.run World.cell? World.frozen? World.setCell World.alloc
section
variable {w : World} {B Bs : Nat} {L : Lay} {b : Bl} {g : Gph} {arr : Nat → Nat} {cls : Nat → Int} {pv sp : Value} {P : List (Nat × Nat)} {Q : Exit → Env → World → Prop} {t : Nat → Value} {ds : List Deferred} {pn : Int} {mbx i o n : Nat} {chg : Bool} {l0 : List Nat}
theorem cseD3a (hs:St w B L b g arr cls pv P) (hE:GE b.E L g) (hb:b.Ok) (hb2:b.Ok2 Bs) (hBs:Bs≤w.heap.size) (hsp:Sp w Bs sp pv l0)
 (h:∀t w' sp',St w' B L b g arr cls pv P→Sp w' Bs sp' pv [0]→Below Bs w w'→w.heap.size≤w'.heap.size→
   EC Tryz.prog Tryz.f41.ntmps (dropC 4 BH) Q (Env.sets ⟨t,ds⟩ [(1,.pointer (some ⟨b.fbx,0,none⟩)),(7,pv),(8,.pointer (some ⟨b.vbx,0,none⟩)),(13,.int .i32 pn),(18,.pointer (some ⟨mbx,0,none⟩)),(19,sp'),(20,.bool chg),(21,.int .i64 (i:Int)),(22,.slice (some ⟨b.A,o,none⟩) n (g.nv+1 - o))]) w'):
 EC Tryz.prog Tryz.f41.ntmps (dropC 3 BH) Q (Env.sets ⟨t,ds⟩ [(1,.pointer (some ⟨b.fbx,0,none⟩)),(7,pv),(8,.pointer (some ⟨b.vbx,0,none⟩)),(13,.int .i32 pn),(18,.pointer (some ⟨mbx,0,none⟩)),(19,sp),(20,.bool chg),(21,.int .i64 (i:Int)),(22,.slice (some ⟨b.A,o,none⟩) n (g.nv+1 - o))]) w:=by
 have hpvl:∀k,pv.ownBlock=some k→k<w.heap.size:=fun k e=>(As hs.row k e).2
 have hcut:∃sp0,sp0.ownBlock=sp.ownBlock∧w.ownsRow Bs 3 1 sp0 0 []∧∀(ρ:Operand→Value) (d:Option Tmp) ty pos af g x c,ρ x=sp→ρ c= .int .i64 0→(execOp ρ ⟨d,.slice 35 x none (some c) none,ty,pos,af,g⟩).run Tryz.prog w= .ok (.value sp0) w:=by
  rcases hsp.row.2 with ⟨rfl,_⟩|⟨gb,cap,cur,rfl,h1,h2,h3,h4,h5,_⟩
  ·exact ⟨_,rfl,World.ownsRow_nil _ _ _ _,fun ρ d ty pos af g x c hx hc=>G4 hx hc⟩
  exact ⟨.slice (some ⟨gb,0,none⟩) 0 cap,rfl,⟨rfl,.inr ⟨gb,cap,cur,rfl,h1,h2,Nat.zero_le _,h4,h5,by simp⟩⟩,fun ρ d ty pos af g x c hx hc=>x_sliceK (k:=0) Tryz.underlying35 Cb hx hc (Nat.zero_le _)⟩
 obtain ⟨sp0,hob,hrow,hsl⟩:=hcut
 refine Ae (Ac (Ab Ad rfl (Ab (hsl _ _ _ _ _ _ _ _ rfl rfl) rfl (Ab (Bo (v:=.int .i64 0) rfl rfl Tryz.underlying35 (by kernel_rfl) (z:=.int .i64 0) rfl) rfl (el_new0 (.cells #[.int .i64 0] 3) fun w1 hN1 hO1 hZ1 hB1 hK1=>?_)))))
 have hrow1:=Ax hrow (w':=w1) fun k e=>hO1 k (As hrow k e).2
 have hs1:=hs.below hB1
 refine BD hrow1 (Am hN1 rfl) rfl (by omega) (by decide) (by omega) Tryz.underlying35 Cb rfl rfl rfl rfl ?_
 intro sp6 w6 hrow6 hgr6 hwh6
 have hspk:∀k,sp0.ownBlock=some k→Bs≤k:=fun k e=>(As hrow k e).1
 have hs6:=hs1.grow hb hb2 hE hgr6 hspk fun k e=>by rw[hob];exact hsp.ne k e
 have hb6:Below Bs w w6:=(hB1.mono hBs).trans ⟨hgr6.os,hgr6.tape,hgr6.output,hgr6.size,fun k hk=>hgr6.block k (by omega) fun e=>by have:=hspk k e.symm;omega⟩
 have hsz6:=hgr6.size
 have hSp6:Sp w6 Bs sp6 pv [0]:=by
  refine ⟨hrow6,fun k e=>?_⟩
  rcases hwh6 with h1|h1
  ·rw[h1,hob];exact hsp.ne k e
  rw[h1]
  intro e2
  injection e2 with e2
  have:=hpvl k e
  omega
 refine Ab Ah rfl (Af (Aa (Bj ds [(1,.pointer (some ⟨b.fbx,0,none⟩)),(7,pv),(8,.pointer (some ⟨b.vbx,0,none⟩)),(13,.int .i32 pn),(18,.pointer (some ⟨mbx,0,none⟩)),(19,sp6),(20,.bool chg),(21,.int .i64 (i:Int)),(22,.slice (some ⟨b.A,o,none⟩) n (g.nv+1 - o))] rfl ⟨rfl,rfl,rfl,rfl,rfl,rfl,rfl,rfl,rfl,trivial⟩ fun t=>?_)))
 exact h t w6 sp6 hs6 hSp6 hb6 (by omega)
theorem cseD3b (hs:St w B L b g arr cls pv P) (hE:GE b.E L g) (hb:b.Ok) (hb2:b.Ok2 Bs) (hBs:Bs≤w.heap.size) (hsp:Sp w Bs sp pv [0]) (hn:g.nv≤48) (hp:(elems arr g.nv).Perm (List.range g.nv)) (ho:o+n≤g.nv) (hn1:0<n)
 (hlen:∀i,i<n→(g.args (arr (o+i))).length=(g.args (arr o)).length) (hsm:∀v,v<g.nv→(g.args v).length≤1000) (ha:∀v,v<g.nv→∀x∈g.args v,x<g.nv)
 (h:∀t w' sp,St w' B L b g arr cls pv P→Sp w' Bs sp pv (spt g cls arr o n)→Below Bs w w'→
   EC Tryz.prog Tryz.f41.ntmps (dropC 5 BH) Q (Env.sets ⟨t,ds⟩ [(1,.pointer (some ⟨b.fbx,0,none⟩)),(7,pv),(8,.pointer (some ⟨b.vbx,0,none⟩)),(13,.int .i32 pn),(18,.pointer (some ⟨mbx,0,none⟩)),(19,sp),(20,.bool chg),(21,.int .i64 (i:Int)),(22,.slice (some ⟨b.A,o,none⟩) n (g.nv+1 - o))]) w'):
 EC Tryz.prog Tryz.f41.ntmps (dropC 4 BH) Q (Env.sets ⟨t,ds⟩ [(1,.pointer (some ⟨b.fbx,0,none⟩)),(7,pv),(8,.pointer (some ⟨b.vbx,0,none⟩)),(13,.int .i32 pn),(18,.pointer (some ⟨mbx,0,none⟩)),(19,sp),(20,.bool chg),(21,.int .i64 (i:Int)),(22,.slice (some ⟨b.A,o,none⟩) n (g.nv+1 - o))]) w:=by
 refine Ae (Ae (Ac (Ab Ah rfl (Af (Aa (Ao ?_))))))
 refine EC_loop (fun m e w1=>∃j sp,1≤j∧j≤n∧St w1 B L b g arr cls pv P∧Sp w1 Bs sp pv (spt g cls arr o j)∧Below Bs w w1∧AtD e ds [(1,.pointer (some ⟨b.fbx,0,none⟩)),(7,pv),(8,.pointer (some ⟨b.vbx,0,none⟩)),(13,.int .i32 pn),(18,.pointer (some ⟨mbx,0,none⟩)),(19,sp),(20,.bool chg),(21,.int .i64 (i:Int)),(22,.slice (some ⟨b.A,o,none⟩) n (g.nv+1 - o)),(25,.int .i64 (j:Int))]∧m=n - j) (n - 1)
  ⟨1,sp,Nat.le_refl _,hn1,hs,by rw[show spt g cls arr o 1=[0] by simp [spt]];exact hsp,Below.refl _ _,AT rfl ⟨rfl,rfl,rfl,rfl,rfl,rfl,rfl,rfl,rfl,rfl,trivial⟩,rfl⟩ ?_
 clear hs hsp
 rintro m e w1 ⟨j,sp,hj1,hj,hs,hsp,hbl,⟨t,rfl⟩,rfl⟩
 refine Ae (Ae (Ac (Ab Ad rfl (Ab Ad rfl (Ab (AN rfl (An rfl)) rfl (Ab (AX rfl rfl) rfl (Af (Aa ?_))))))))
 refine AI rfl rfl (fun hlt=>?_) (fun hge=>?_)
 rotate_left
 ·have hjn:j=n:=by omega
  rw[hjn] at hsp
  refine AK (AB (AD (AA (Aa (Bj ds [(1,.pointer (some ⟨b.fbx,0,none⟩)),(7,pv),(8,.pointer (some ⟨b.vbx,0,none⟩)),(13,.int .i32 pn),(18,.pointer (some ⟨mbx,0,none⟩)),(19,sp),(20,.bool chg),(21,.int .i64 (i:Int)),(22,.slice (some ⟨b.A,o,none⟩) n (g.nv+1 - o))] rfl ⟨rfl,rfl,rfl,rfl,rfl,rfl,rfl,rfl,rfl,trivial⟩ fun t=>?_)))))
  exact h t w1 sp hs hsp hbl
 have hjn:j<n:=by omega
 refine Aq (Aa ?_)
 obtain ⟨x,hx⟩:∃x,x=arr (o+j - 1):=⟨_,rfl⟩
 obtain ⟨y,hy⟩:∃y,y=arr (o+j):=⟨_,rfl⟩
 have hxn:x<g.nv:=by rw[hx];exact BR hp (by omega)
 have hyn:y<g.nv:=by rw[hy];exact BR hp (by omega)
 have hxl:(g.args x).length=(g.args (arr o)).length:=by rw[hx,show o+j - 1=o+(j - 1) by omega];exact hlen _ (by omega)
 have hyl:(g.args y).length=(g.args (arr o)).length:=by rw[hy];exact hlen _ hjn
 have hsd:St w1.drew B L b g arr cls pv P:=hs.same fun _ _=>rfl
 have hspd:Sp w1.drew Bs sp pv (spt g cls arr o j):=hsp.same fun _ _=>rfl
 have hbd:Below Bs w w1.drew:=hbl.drew
 have h1:=hsd.arc (i:=o+(j - 1)) (by omega)
 have h2:=hsd.arc (i:=o+j) (by omega)
 rw[show o+(j - 1)=o+j - 1 by omega,← hx,show o+j - 1=o+(j - 1) by omega] at h1
 rw[← hy] at h2
 have h3:=Gv g cls arr o j
 rw[← hx,← hy] at h3
 clear hx hy
 refine Ae (Ao (Ae (AY mixed (fun w'=>w'=w1.drew) [(0,false),(1,false),(2,false),(3,false),(4,false),(5,false),(6,false),(7,false),(8,false),(9,false),(10,false)] (by kernel_rfl) rfl ?_)))
 generalize w1.drew=W at *
 refine Aj rfl (fun _ _=>Ad) (Aj rfl (fun _ _=>Ad) (Aj rfl (fun _ _=>Ch rfl rfl (by omega)) (Aj rfl (fun _ _=>Ba (i:=j - 1) rfl rfl (by omega) (An rfl) (by omega)) (Aj rfl (fun _ hS=>Ai rfl (Ag rfl) (by cases hS;with_reducible assumption)) ?_))))
 refine Aj rfl (fun _ _=>Ad) (Aj rfl (fun _ _=>Ad) (Aj rfl (fun _ _=>x_index1 rfl rfl (An rfl) (by omega)) (Aj rfl (fun _ hS=>Ai rfl (Ag rfl) (by cases hS;with_reducible assumption)) ?_)))
 refine Aj rfl (fun _ _=>Ah) (Aj rfl (fun _ _=>Ah) (AP (Aa (Ae (Ac (Ab Ah rfl (Af (Aa (Ae (Ac (Ab Ad rfl ?_)))))))))))
 refine Be (AG Tryz.func56 rfl rfl rfl rfl) rfl (Df _) ?_
 rintro _ wx ⟨rfl,ew⟩
 rw[ew]
 clear ew wx
 refine Ab Ad rfl (Ab (Eo rfl) rfl (Ab (Ex rfl) rfl (Ab (Ey rfl) rfl (Ab (Eu rfl) rfl (Ab Ah rfl (Ab Ah rfl (Ab Ah rfl (Ab Ah rfl (Af (Aa ?_))))))))))
 obtain ⟨nx,hnx⟩:∃nx,nx=(g.args x).length:=⟨_,rfl⟩
 have hny:(g.args y).length=nx:=by omega
 have hnxs:nx≤1000:=by rw[hnx];exact hsm x hxn
 obtain ⟨ax,capx,hsx⟩:=Row.len (hsd.rep.comp (.args x) hxn)
 rw[← hnx] at hsx
 have hvx:=hsd.rep.vArgs hxn
 rw[hsx] at hvx
 refine Bj ds [(1,.pointer (some ⟨b.fbx,0,none⟩)),(7,pv),(8,.pointer (some ⟨b.vbx,0,none⟩)),(13,.int .i32 pn),(18,.pointer (some ⟨mbx,0,none⟩)),(19,sp),(20,.bool chg),(21,.int .i64 (i:Int)),(22,.slice (some ⟨b.A,o,none⟩) n (g.nv+1 - o)),(25,.int .i64 (j:Int)),(26,L.vp x),(27,L.vp y),(28,.bool true),(30,.int .i64 (-1))] rfl ⟨rfl,rfl,rfl,rfl,rfl,rfl,rfl,rfl,rfl,rfl,rfl,rfl,rfl,rfl,trivial⟩ fun t=>?_
 refine AW (fun e w2=>∃eq:Bool,(eq=true↔vcl g cls x=vcl g cls y)∧St w2 B L b g arr cls pv P∧Sp w2 Bs sp pv (spt g cls arr o j)∧Below Bs w w2∧AtD e ds [(1,.pointer (some ⟨b.fbx,0,none⟩)),(7,pv),(8,.pointer (some ⟨b.vbx,0,none⟩)),(13,.int .i32 pn),(18,.pointer (some ⟨mbx,0,none⟩)),(19,sp),(20,.bool chg),(21,.int .i64 (i:Int)),(22,.slice (some ⟨b.A,o,none⟩) n (g.nv+1 - o)),(25,.int .i64 (j:Int)),(28,.bool eq)]) ?_ ?_
 ·refine Ae (Ac (Ab Ad rfl (Ab (Au rfl) rfl (Ab (Al rfl (Ak rfl)) rfl (Ab (Ai rfl (Ag rfl) ‹_›) rfl ?_)))))
  refine Ab (AN rfl (An rfl)) rfl (Ab Ad rfl (Af (Aa (Ao ?_))))
  refine EC_loop (fun m e w2=>∃k,k≤nx∧(∀q,q<k→cls ((g.args x).getD q 0+1)=cls ((g.args y).getD q 0+1))∧St w2 B L b g arr cls pv P∧Sp w2 Bs sp pv (spt g cls arr o j)∧Below Bs w w2∧
   AtD e ds [(1,.pointer (some ⟨b.fbx,0,none⟩)),(7,pv),(8,.pointer (some ⟨b.vbx,0,none⟩)),(13,.int .i32 pn),(18,.pointer (some ⟨mbx,0,none⟩)),(19,sp),(20,.bool chg),(21,.int .i64 (i:Int)),(22,.slice (some ⟨b.A,o,none⟩) n (g.nv+1 - o)),(25,.int .i64 (j:Int)),(26,L.vp x),(27,L.vp y),(28,.bool true),(30,.int .i64 (-1)),(310,.slice ax nx capx),(311,.int .i64 (nx:Int)),(312,.int .i64 (k:Int))]∧m=nx - k) nx
   ⟨0,Nat.zero_le _,fun q hq=>absurd hq (Nat.not_lt_zero _),hsd,hspd,hbd,AT rfl ⟨rfl,rfl,rfl,rfl,rfl,rfl,rfl,rfl,rfl,rfl,rfl,rfl,rfl,rfl,rfl,rfl,rfl,trivial⟩,rfl⟩ ?_
  clear hsd hspd hbd h1 h2 hvx
  rintro m e w2 ⟨k,hk,heq,hs2,hsp2,hb2',⟨t,rfl⟩,rfl⟩
  refine Ae (Ac (Ab (AX rfl rfl) rfl (Af (Aa (Ae ?_)))))
  refine AI rfl rfl (fun hlt=>?_) (fun hge=>?_)
  rotate_left
  ·have hkn:k=nx:=by omega
   refine AK (AB (AD (AA ?_)))
   refine AR ⟨true,⟨fun _=>?_,fun _=>rfl⟩,hs2,hsp2,hb2',AT rfl ⟨rfl,rfl,rfl,rfl,rfl,rfl,rfl,rfl,rfl,rfl,rfl,trivial⟩⟩
   unfold vcl
   refine List.ext_getElem (by simp;omega) fun q h5 h6=>?_
   rw[List.length_map] at h5 h6
   have h7:=heq q (by omega)
   rw[List.getD_eq_getElem?_getD,List.getElem?_eq_getElem h5,List.getD_eq_getElem?_getD,List.getElem?_eq_getElem h6] at h7
   simpa using h7
  have hkn:k<nx:=by omega
  refine Aq (Aa ?_)
  obtain ⟨bx,capx',e1,_,hcx,_⟩:=Row.elem (hs2.rep.comp (.args x) hxn) (k:=k) (by omega)
  obtain ⟨byy,capy,hsy,_,hcy,_⟩:=Row.elem (hs2.rep.comp (.args y) hyn) (k:=k) (by omega)
  rw[hsx] at e1
  injection e1 with e1 e2 e3
  subst e1
  obtain ⟨p,hpe⟩:∃p,p=(g.args x).getD k 0:=⟨_,rfl⟩
  obtain ⟨q,hqe⟩:∃q,q=(g.args y).getD k 0:=⟨_,rfl⟩
  have hpn:p<g.nv:=by rw[hpe];exact ha x hxn _ (Bq (by omega))
  have hqn:q<g.nv:=by rw[hqe];exact ha y hyn _ (Bq (by omega))
  rw[← hpe] at hcx
  rw[← hqe] at hcy
  have h1:=hs2.rep.vArgs hyn
  have hip:=hs2.rep.vID hpn
  have hiq:=hs2.rep.vID hqn
  refine Ae (Ao (Ae (Ac (Ab Ad rfl (Ab (x_index1 rfl rfl (An rfl) (by omega)) rfl (Ab (Ai rfl (Ag rfl) ‹_›) rfl ?_))))))
  refine Ab Ah rfl (Ab Ah rfl (Af (Aa (Ae (Ac (Ab Ah rfl (Ab Ah rfl (Af (Aa (Ae (Ae ?_)))))))))))
  refine Ac (Ab Ad rfl (Ab Ad rfl (Ab (Bw rfl rfl) rfl (Af (Aa ?_)))))
  rw[decide_eq_true (show (k:Int)≠ -1 by omega)]
  refine Bm rfl rfl (Ae (Ac (Ab Ad rfl (Ab (Au rfl) rfl (Ab (Al rfl (Ak rfl)) rfl (Ab (Ai rfl (Ag rfl) ‹_›) rfl ?_))))))
  refine Ab Ad rfl (Ab (x_index1 hsy rfl (An rfl) (by omega)) rfl (Ab (Ai rfl (Ag rfl) ‹_›) rfl ?_))
  refine Ab Ah rfl (Af (Aa (Ae (Ac (Ab Ad rfl (Ab (Au rfl) rfl (Ab (Al rfl (Ak rfl)) rfl (Ab (Ai rfl (Ag rfl) ‹_›) rfl ?_))))))))
  refine Ab Ah rfl (Af (Aa (Ac (Ab Ad rfl (Ab (Au rfl) rfl (Ab (Al rfl (Ak rfl)) rfl (Ab (Ai rfl (Ag rfl) ‹_›) rfl ?_)))))))
  refine Ab Ah rfl (Af (Aa (Bj ds [(1,.pointer (some ⟨b.fbx,0,none⟩)),(7,pv),(8,.pointer (some ⟨b.vbx,0,none⟩)),(13,.int .i32 pn),(18,.pointer (some ⟨mbx,0,none⟩)),(19,sp),(20,.bool chg),(21,.int .i64 (i:Int)),(22,.slice (some ⟨b.A,o,none⟩) n (g.nv+1 - o)),(25,.int .i64 (j:Int)),(26,L.vp x),(27,L.vp y),(28,.bool true),(30,.int .i64 (-1)),(310,.slice (some ⟨bx,0,none⟩) nx capx),(311,.int .i64 (nx:Int)),(312,.int .i64 (k:Int)),(35,.int .i32 ((p:Int)+1)),(36,.int .i32 ((q:Int)+1))] rfl ⟨rfl,rfl,rfl,rfl,rfl,rfl,rfl,rfl,rfl,rfl,rfl,rfl,rfl,rfl,rfl,rfl,rfl,rfl,rfl,trivial⟩ fun t=>?_)))
  clear hcx hcy h1 hip hiq
  have hs3:St w2.drew B L b g arr cls pv P:=hs2.same fun _ _=>rfl
  have hsp3:Sp w2.drew Bs sp pv (spt g cls arr o j):=hsp2.same fun _ _=>rfl
  have hb3:Below Bs w w2.drew:=hb2'.drew
  have hvb:=hs3.vbc
  have hep:=hs3.vec hpn
  have heq':=hs3.vec hqn
  refine Ae (AY mixed (fun w'=>w'=w2.drew) [(0,false),(1,false),(2,false),(3,false),(4,false),(5,false),(6,false),(7,false),(8,false)] (by kernel_rfl) rfl ?_)
  generalize w2.drew=V at *
  refine Aj rfl (fun _ hS=>Ai rfl (Ag rfl) (by cases hS;with_reducible assumption)) ?_
  refine Aj rfl (fun _ _=>Ad) (Aj rfl (fun _ _=>Ba (i:=p+1) rfl rfl (by omega) (An rfl) (by omega)) (Aj rfl (fun _ hS=>Ai rfl (Ag rfl) (by cases hS;with_reducible assumption)) ?_))
  refine Aj rfl (fun _ hS=>Ai rfl (Ag rfl) (by cases hS;with_reducible assumption)) ?_
  refine Aj rfl (fun _ _=>Ad) (Aj rfl (fun _ _=>Ba (i:=q+1) rfl rfl (by omega) (An rfl) (by omega)) (Aj rfl (fun _ hS=>Ai rfl (Ag rfl) (by cases hS;with_reducible assumption)) ?_))
  refine Aj rfl (fun _ _=>Bw rfl rfl) (AP (Aa ?_))
  refine AI rfl rfl (fun hne=>?_) (fun heqn=>?_)
  rotate_left
  ·refine Aq (Ap (Aa (Ac (Ab (x_inc rfl rfl (by omega)) rfl (Ab Ad rfl (Af ?_))))))
   refine Aw (nx - (k+1)) (by omega) ⟨k+1,by omega,fun q' hq'=>?_,hs3,hsp3,hb3,AT rfl ⟨rfl,rfl,rfl,rfl,rfl,rfl,rfl,rfl,rfl,rfl,rfl,rfl,rfl,rfl,rfl,rfl,rfl,trivial⟩,rfl⟩
   by_cases e:q'=k
   ·subst e
    rw[← hpe,← hqe]
    exact Classical.not_not.1 heqn
   exact heq q' (by omega)
  refine Ae (Ac (Ab Ah rfl (Af (Aa (AK (CP rfl (AB (AD (AA ?_)))))))))
  refine AR ⟨false,⟨fun h=>(by cases h),fun h=>?_⟩,hs3,hsp3,hb3,AT rfl ⟨rfl,rfl,rfl,rfl,rfl,rfl,rfl,rfl,rfl,rfl,rfl,trivial⟩⟩
  exfalso
  apply hne
  have h5:=congrArg (fun l:List Int=>l.getD k 0) h
  unfold vcl at h5
  simp only [List.getD_eq_getElem?_getD,List.getElem?_map] at h5
  rw[hpe,hqe,List.getD_eq_getElem?_getD,List.getD_eq_getElem?_getD]
  rw[List.getElem?_eq_getElem (show k<(g.args x).length by omega),List.getElem?_eq_getElem (show k<(g.args y).length by omega)] at h5 ⊢
  exact h5
 rintro e w2 ⟨eq,heq,hs2,hsp2,hb2',⟨t,rfl⟩⟩
 clear hsd hspd hbd h1 h2 hvx
 refine Ae (Ac (Ab Ad rfl (Ab (BS rfl) rfl (Af (Aa ?_)))))
 cases eq with
 |true=>
  refine Bh rfl rfl (Aq (Ap (Aa (Ac (Ab Ad rfl (Ab (x_inc rfl rfl (by omega)) rfl (Ab Ah rfl (Af ?_))))))))
  rw[if_neg (fun h=>h.2 (heq.1 rfl))] at h3
  rw[← h3] at hsp2
  exact Aw (n - (j+1)) (by omega) ⟨j+1,sp,by omega,by omega,hs2,hsp2,hb2',AT rfl ⟨rfl,rfl,rfl,rfl,rfl,rfl,rfl,rfl,rfl,rfl,trivial⟩,rfl⟩
 |false=>
  refine Bm rfl rfl ?_
  rw[if_pos ⟨hj1,fun h=>by have:=heq.2 h;cases this⟩] at h3
  have hsl:=spt_len g cls arr o j
  have hsz2:=hb2'.size
  refine Ac (Ab Ad rfl (Ab Ad rfl (Ab (Bo (v:=.int .i64 (j:Int)) rfl rfl Tryz.underlying35 (by kernel_rfl) (z:=.int .i64 0) rfl) rfl (el_new0 (.cells #[.int .i64 (j:Int)] 3) fun w5 hN5 hO5 hZ5 hB5 hK5=>?_))))
  have hsp5:=hsp2.same (w':=w5) fun k hk=>hO5 k hk
  have hs5:=hs2.below hB5
  refine BD hsp5.row (Am hN5 rfl) rfl (by omega) (by decide) (by omega) Tryz.underlying35 Cb rfl rfl rfl rfl ?_
  intro sp6 w6 hrow6 hgr6 hwh6
  have hspk:∀k,sp.ownBlock=some k→Bs≤k:=fun k e=>(As hsp5.row k e).1
  have hs6:=hs5.grow hb hb2 hE hgr6 hspk fun k e=>hsp2.ne k e
  have hb6:Below Bs w w6:=(hb2'.trans (hB5.mono (by omega))).trans ⟨hgr6.os,hgr6.tape,hgr6.output,hgr6.size,fun k hk=>hgr6.block k (by omega) fun e=>by have:=hspk k e.symm;omega⟩
  have hSp6:Sp w6 Bs sp6 pv (spt g cls arr o (j+1)):=by
   rw[h3]
   refine ⟨?_,fun k e=>?_⟩
   ·have:nI (spt g cls arr o j ++ [j])=nI (spt g cls arr o j) ++ [.int .i64 (j:Int)]:=by simp [nI]
    rw[this,List.length_append]
    exact hrow6
   rcases hwh6 with h1|h1
   ·rw[h1];exact hsp2.ne k e
   rw[h1]
   intro e2
   injection e2 with e2
   have:=(As hs5.row k e).2
   omega
  refine Ab Ah rfl (Af (Ap (Aa (Ac (Ab Ad rfl (Ab (x_inc rfl rfl (by omega)) rfl (Ab Ah rfl (Af ?_))))))))
  exact Aw (n - (j+1)) (by omega) ⟨j+1,sp6,by omega,by omega,hs6,hSp6,hb6,AT rfl ⟨rfl,rfl,rfl,rfl,rfl,rfl,rfl,rfl,rfl,rfl,trivial⟩,rfl⟩
end
end Go.Proofs.YteepnepebilckaaGreatDoor
namespace Go.Proofs.YteepnepebilckaaGreatDoor
open Go Go.Eng Go.RowKit Go.Shelf
theorem St.setPv {w w':World} {B:Nat} {L:Lay} {b:Bl} {g:Gph} {arr:Nat→Nat} {cls:Nat→Int} {pv pv':Value} {P P':List (Nat×Nat)} (h:St w B L b g arr cls pv P) (hE:GE b.E L g) (hb:b.Ok) (hO:Only (fun j=>pv.ownBlock=some j) w w')
 (hr:w'.ownsRow b.Eb 113 1 pv' P'.length (P'.map (slV b.A (g.nv+1)))) (hne:pv'.ownBlock≠some b.vbx∧pv'.ownBlock≠some b.VE):St w' B L b g arr cls pv' P':=by
 have h1:=hb.e
 have h3:=hb.hi
 have hf:=hE.fb
 have hAl:=Bg h.ar
 have hfw:=Br h.rep
 have hp:∀k,pv.ownBlock=some k→b.Eb≤k:=fun k e=>(As h.row k e).1
 have hk:∀k,k<w.heap.size→pv.ownBlock≠some k→w'.heap[k]? =w.heap[k]? :=fun k hk hn=>hO.block k hk hn
 have hlo:∀k,k<b.Eb→pv.ownBlock≠some k:=fun k hk e=>by have:=hp k e;omega
 exact ⟨h.rep.keepE hE fun k hk2=>hk k (by omega) (hlo k (by omega)),(hk _ (Bg h.ar) (hlo _ (by omega))).trans h.ar,(hk _ (Bg h.ve) h.ne.2).trans h.ve,(hk _ (Bg h.fb) (hlo _ (by omega))).trans h.fb,(hk _ (Bg h.vb) h.ne.1).trans h.vb,(hk _ (Bg h.ab) (hlo _ (by omega))).trans h.ab,
  hr,hne,fun k hk2=>(World.cell?_of_block (a:=⟨0,k,none⟩) (hk 0 (by omega) (hlo 0 (by omega)))).trans (h.opt k hk2)⟩
theorem Q_atD {Q:Exit→Env→World→Prop} {x:Exit} {e:Env} {w:World} (ds:List Deferred) (l:List (Nat×Value)) (hd:e.d=ds) (h:Eng.Holds e l) (k:∀t,Q x (Env.sets ⟨t,ds⟩ l) w):Q x e w:=by
 obtain ⟨t,rfl⟩:=AT hd h
 exact k t
theorem row_pre {w:World} {base gb cap n m:Nat} {el:TypeId} {xs:List Value} (h:w.ownsRow base el 1 (.slice (some ⟨gb,0,none⟩) n cap) n xs) (hm:m≤n):w.ownsRow base el 1 (.slice (some ⟨gb,0,none⟩) m cap) m (xs.take m):=by
 have hl:=h.1
 rcases h.2 with ⟨h0,_⟩|⟨g',cap',cur,e,hb,hg,h1,h2,h3,h4⟩
 ·cases h0
 injection e with e1 e2 e3
 injection e1 with e1
 injection e1 with e1 _ _
 subst e1
 subst e3
 refine ⟨by rw[List.length_take];omega,.inr ⟨gb,cap,cur,rfl,hb,hg,by omega,h2,h3,?_⟩⟩
 rw[← h4,List.take_take]
 congr 1
 omega
def popP (P:List (Nat×Nat)) (i:Nat):List (Nat×Nat):=(P.set i (P.getD (P.length - 1) (0,0))).dropLast
theorem Fb (P:List (Nat×Nat)) (i:Nat):(popP P i).length=P.length - 1:=by simp [popP]
set_option maxHeartbeats 4000000
attribute [local irreducible] EC EL DL Ret thenQ blockQ Bi bodyQ onlyN execOp Sem.run World.cell? World.frozen? World.setCell World.alloc
section
variable {w : World} {B Bs : Nat} {L : Lay} {b : Bl} {g : Gph} {arr : Nat → Nat} {cls : Nat → Int} {pv sp : Value} {P : List (Nat × Nat)} {Q : Exit → Env → World → Prop} {t : Nat → Value} {ds : List Deferred} {pn : Int} {mbx i o n : Nat} {chg : Bool} {l : List Nat}
theorem cseD4 (hsp:Sp w Bs sp pv l) (h1:l.length=1→∀t,Q (.exit 15) (Env.sets ⟨t,ds⟩ [(1,.pointer (some ⟨b.fbx,0,none⟩)),(7,pv),(8,.pointer (some ⟨b.vbx,0,none⟩)),(13,.int .i32 pn),(18,.pointer (some ⟨mbx,0,none⟩)),(19,sp),(20,.bool chg),(21,.int .i64 (i:Int)),(22,.slice (some ⟨b.A,o,none⟩) n (g.nv+1 - o))]) w)
 (h:l.length≠1→∀t,EC Tryz.prog Tryz.f41.ntmps (dropC 6 BH) Q (Env.sets ⟨t,ds⟩ [(1,.pointer (some ⟨b.fbx,0,none⟩)),(7,pv),(8,.pointer (some ⟨b.vbx,0,none⟩)),(13,.int .i32 pn),(18,.pointer (some ⟨mbx,0,none⟩)),(19,sp),(20,.bool chg),(21,.int .i64 (i:Int)),(22,.slice (some ⟨b.A,o,none⟩) n (g.nv+1 - o))]) w):
 EC Tryz.prog Tryz.f41.ntmps (dropC 5 BH) Q (Env.sets ⟨t,ds⟩ [(1,.pointer (some ⟨b.fbx,0,none⟩)),(7,pv),(8,.pointer (some ⟨b.vbx,0,none⟩)),(13,.int .i32 pn),(18,.pointer (some ⟨mbx,0,none⟩)),(19,sp),(20,.bool chg),(21,.int .i64 (i:Int)),(22,.slice (some ⟨b.A,o,none⟩) n (g.nv+1 - o))]) w:=by
 obtain ⟨sa,sc,hsv⟩:=Bx hsp.row
 subst hsv
 refine Ae (Ae (Ac (Ab Ad rfl (Ab (AN rfl (An rfl)) rfl (Ab (Bn rfl rfl) rfl (Af (Aa ?_)))))))
 refine AI rfl rfl (fun he=>?_) (fun hne=>?_)
 ·refine AK (AB (Q_atD ds [(1,.pointer (some ⟨b.fbx,0,none⟩)),(7,pv),(8,.pointer (some ⟨b.vbx,0,none⟩)),(13,.int .i32 pn),(18,.pointer (some ⟨mbx,0,none⟩)),(19,.slice sa l.length sc),(20,.bool chg),(21,.int .i64 (i:Int)),(22,.slice (some ⟨b.A,o,none⟩) n (g.nv+1 - o))] rfl ⟨rfl,rfl,rfl,rfl,rfl,rfl,rfl,rfl,rfl,trivial⟩ fun t=>?_))
  exact h1 (by omega) t
 refine Aq (Aa (Bj ds [(1,.pointer (some ⟨b.fbx,0,none⟩)),(7,pv),(8,.pointer (some ⟨b.vbx,0,none⟩)),(13,.int .i32 pn),(18,.pointer (some ⟨mbx,0,none⟩)),(19,.slice sa l.length sc),(20,.bool chg),(21,.int .i64 (i:Int)),(22,.slice (some ⟨b.A,o,none⟩) n (g.nv+1 - o))] rfl ⟨rfl,rfl,rfl,rfl,rfl,rfl,rfl,rfl,rfl,trivial⟩ fun t=>?_))
 exact h (by omega) t
theorem cseD5 (hs:St w B L b g arr cls pv P) (hE:GE b.E L g) (hb:b.Ok) (hi:i<P.length) (hPl:P.length≤1000)
 (h:∀t w' pv',St w' B L b g arr cls pv' (popP P i)→pv'.ownBlock=pv.ownBlock→Only (fun j=>pv.ownBlock=some j) w w'→
   EC Tryz.prog Tryz.f41.ntmps (dropC 9 BH) Q (Env.sets ⟨t,ds⟩ [(1,.pointer (some ⟨b.fbx,0,none⟩)),(7,pv'),(8,.pointer (some ⟨b.vbx,0,none⟩)),(13,.int .i32 pn),(18,.pointer (some ⟨mbx,0,none⟩)),(19,sp),(20,.bool chg),(21,.int .i64 ((i:Int) - 1)),(22,.slice (some ⟨b.A,o,none⟩) n (g.nv+1 - o))]) w'):
 EC Tryz.prog Tryz.f41.ntmps (dropC 6 BH) Q (Env.sets ⟨t,ds⟩ [(1,.pointer (some ⟨b.fbx,0,none⟩)),(7,pv),(8,.pointer (some ⟨b.vbx,0,none⟩)),(13,.int .i32 pn),(18,.pointer (some ⟨mbx,0,none⟩)),(19,sp),(20,.bool chg),(21,.int .i64 (i:Int)),(22,.slice (some ⟨b.A,o,none⟩) n (g.nv+1 - o))]) w:=by
 have hml:(P.map (slV b.A (g.nv+1))).length=P.length:=List.length_map ..
 have hrow:w.ownsRow b.Eb 113 1 pv (P.map (slV b.A (g.nv+1))).length (P.map (slV b.A (g.nv+1))):=by rw[hml];exact hs.row
 obtain ⟨gb,capb,e1,hgb,hgb2,hcap,hcell⟩:=row_form hrow (k:=P.length - 1) (by rw[hml];omega)
 obtain ⟨gb',capb',e1',_,_,_,hcell'⟩:=row_form hrow (k:=i) (by rw[hml];exact hi)
 rw[e1] at e1'
 injection e1' with e2 _ e3
 injection e2 with e2
 injection e2 with e2
 subst e2
 rw[hml] at e1 hcap
 subst e1
 rw[List.getElem_map] at hcell hcell'
 have hlast:P[P.length - 1]=P.getD (P.length - 1) (0,0):=by
  rw[List.getD_eq_getElem?_getD,List.getElem?_eq_getElem (by omega)];rfl
 rw[hlast] at hcell
 obtain ⟨la,hla⟩:∃la,la=P.getD (P.length - 1) (0,0):=⟨_,rfl⟩
 rw[← hla] at hcell
 have hfr:w.frozen? ⟨gb,0+i,none⟩=false:=by
  rcases hrow.2 with ⟨h0,_⟩|⟨gq,cq,cur,e,_,hg,_⟩
  ·cases h0
  injection e with e _ _
  injection e with e
  injection e with e
  subst e
  exact AQ hg
 refine Ae (Ac (Ab Ad rfl (Ab Ad rfl (Ab Ad rfl (Ab Ad rfl (Ab (AN rfl (An rfl)) rfl (Ab (Ch rfl rfl (by omega)) rfl (Ab (Ba (i:=P.length - 1) rfl rfl (by omega) (An rfl) (by omega)) rfl (Ab (Ai rfl (Ag rfl) ‹_›) rfl ?_)))))))))
 refine Ab (x_index1 rfl rfl (An rfl) (by omega)) rfl (Bc (AU (v:=slV b.A (g.nv+1) la) rfl rfl rfl (AH rfl) hcell' hfr) rfl (Af (Aa ?_)))
 change EC _ _ _ _ _ (w.setCell ⟨gb,0+i,none⟩ (slV b.A (g.nv+1) la))
 have hrow2:=Fk (w:=w) (base:=b.Eb) (cap:=capb) (xs:=P.map (slV b.A (g.nv+1))) (by rw[hml];rw[hml] at hrow;exact hrow) (k:=i) (by rw[hml];exact hi) (slV b.A (g.nv+1) la)
 have hO2:Only (fun j=>Value.ownBlock (.slice (some ⟨gb,0,none⟩) P.length capb)=some j) w (w.setCell ⟨gb,0+i,none⟩ (slV b.A (g.nv+1) la)):=(Only.refl _ _).set _ rfl
 generalize w.setCell ⟨gb,0+i,none⟩ (slV b.A (g.nv+1) la)=w1 at hrow2 hO2 ⊢
 rw[List.length_set,hml] at hrow2
 have hrow3:=row_pre hrow2 (m:=P.length - 1) (by omega)
 have hls:((P.map (slV b.A (g.nv+1))).set i (slV b.A (g.nv+1) la)).take (P.length - 1)=(popP P i).map (slV b.A (g.nv+1)):=by
  unfold popP
  rw[← hla,← List.map_set,List.map_dropLast,List.dropLast_eq_take,List.length_map,List.length_set]
 rw[hls] at hrow3
 have hs3:St w1 B L b g arr cls (.slice (some ⟨gb,0,none⟩) (P.length - 1) capb) (popP P i):=hs.setPv hE hb hO2 (by rw[Fb];exact hrow3) hs.ne
 refine Ae (Ac (Ab Ad rfl (Ab Ad rfl (Ab (AN rfl (An rfl)) rfl (Ab (Ch rfl rfl (by omega)) rfl (Ab (x_sliceK (k:=P.length - 1) Tryz.underlying108 EA rfl (congrArg (Value.int .i64) (show (P.length:Int) - 1=((P.length - 1:Nat):Int) by omega)) (by omega)) rfl (Ab Ah rfl (Af (Aa (Ae (Ac ?_)))))))))))
 refine Ab Ad rfl (Ab (Ch rfl rfl (by omega)) rfl (Ab Ah rfl (Af (Aa (Bj ds [(1,.pointer (some ⟨b.fbx,0,none⟩)),(7,.slice (some ⟨gb,0,none⟩) (P.length - 1) capb),(8,.pointer (some ⟨b.vbx,0,none⟩)),(13,.int .i32 pn),(18,.pointer (some ⟨mbx,0,none⟩)),(19,sp),(20,.bool chg),(21,.int .i64 ((i:Int) - 1)),(22,.slice (some ⟨b.A,o,none⟩) n (g.nv+1 - o))] rfl ⟨rfl,rfl,rfl,rfl,rfl,rfl,rfl,rfl,rfl,trivial⟩ fun t=>?_)))))
 exact h t w1 _ hs3 rfl hO2
end
end Go.Proofs.YteepnepebilckaaGreatDoor
namespace Go.Proofs.YteepnepebilckaaGreatDoor
open Go Go.Eng Go.RowKit Go.Shelf
def upR (cls:Nat→Int) (arr:Nat→Nat) (lo m:Nat) (z:Int):Nat→Int:=fun x=>if (List.range m).any (fun q=>x == arr (lo+q)+1) then z else cls x
theorem GO (cls:Nat→Int) (arr:Nat→Nat) (lo:Nat) (z:Int):upR cls arr lo 0 z=cls:=by
 unfold upR
 simp
theorem upR_succ (cls:Nat→Int) (arr:Nat→Nat) (lo m:Nat) (z:Int):(fun x=>if x=arr (lo+m)+1 then z else upR cls arr lo m z x)=upR cls arr lo (m+1) z:=by
 funext x
 unfold upR
 rw[List.range_succ,List.any_append]
 by_cases h:x=arr (lo+m)+1
 ·rw[if_pos h];simp [h]
 rw[if_neg h];simp [h]
def parts (arr:Nat→Nat) (o:Nat):List Nat→(Nat→Int)→List (Nat×Nat)→Int→(Nat→Int)×List (Nat×Nat)×Int
 |a :: c :: r,cls,P,pn=>
  if c - a=1 then parts arr o (c :: r) (fun x=>if x=arr (o+a)+1 then -((arr (o+a):Int)+1) else cls x) P pn
  else parts arr o (c :: r) (upR cls arr (o+a) (c - a) pn) (P ++ [(o+a,c - a)]) (pn+1)
 | [_],cls,P,pn=>(cls,P,pn)
 | [],cls,P,pn=>(cls,P,pn)
theorem parts_two (arr:Nat→Nat) (o a c:Nat) (r:List Nat) (cls:Nat→Int) (P:List (Nat×Nat)) (pn:Int):parts arr o (a :: c :: r) cls P pn=
 if c - a=1 then parts arr o (c :: r) (fun x=>if x=arr (o+a)+1 then -((arr (o+a):Int)+1) else cls x) P pn
 else parts arr o (c :: r) (upR cls arr (o+a) (c - a) pn) (P ++ [(o+a,c - a)]) (pn+1):=by rw[parts]
structure Cuts (ks:List Nat) (n:Nat):Prop where
 len:1≤ks.length∧ks.length≤1000
 mono:∀q,q+1<ks.length→ks.getD q 0<ks.getD (q+1) 0∧ks.getD (q+1) 0≤n
set_option maxHeartbeats 4000000
attribute [local irreducible] EC EL DL Ret thenQ blockQ Bi bodyQ onlyN execOp Sem.run World.cell? World.frozen? World.setCell World.alloc
section
variable {w : World} {B Bs : Nat} {L : Lay} {b : Bl} {g : Gph} {arr : Nat → Nat} {cls : Nat → Int} {pv sp : Value} {P : List (Nat × Nat)} {Q : Exit → Env → World → Prop} {t : Nat → Value} {ds : List Deferred} {pn iv : Int} {mbx o n : Nat} {chg : Bool} {l : List Nat}
theorem cseD6a (hs:St w B L b g arr cls pv P) (hE:GE b.E L g) (hb:b.Ok) (hb2:b.Ok2 Bs) (hBs:Bs≤w.heap.size) (hsp:Sp w Bs sp pv l) (hl:l.length≤1000)
 (h:∀t w' sp,St w' B L b g arr cls pv P→Sp w' Bs sp pv (l ++ [n])→Below Bs w w'→w.heap.size≤w'.heap.size→
   EC Tryz.prog Tryz.f41.ntmps (dropC 10 BH) Q (Env.sets ⟨t,ds⟩ [(1,.pointer (some ⟨b.fbx,0,none⟩)),(7,pv),(8,.pointer (some ⟨b.vbx,0,none⟩)),(13,.int .i32 pn),(18,.pointer (some ⟨mbx,0,none⟩)),(19,sp),(20,.bool chg),(21,.int .i64 iv),(22,.slice (some ⟨b.A,o,none⟩) n (g.nv+1 - o))]) w'):
 EC Tryz.prog Tryz.f41.ntmps (dropC 9 BH) Q (Env.sets ⟨t,ds⟩ [(1,.pointer (some ⟨b.fbx,0,none⟩)),(7,pv),(8,.pointer (some ⟨b.vbx,0,none⟩)),(13,.int .i32 pn),(18,.pointer (some ⟨mbx,0,none⟩)),(19,sp),(20,.bool chg),(21,.int .i64 iv),(22,.slice (some ⟨b.A,o,none⟩) n (g.nv+1 - o))]) w:=by
 refine Ae (Ac (Ab Ad rfl (Ab Ad rfl (Ab (AN rfl (An rfl)) rfl (Ab (Bo (v:=.int .i64 (n:Int)) rfl rfl Tryz.underlying35 (by kernel_rfl) (z:=.int .i64 0) rfl) rfl (el_new0 (.cells #[.int .i64 (n:Int)] 3) fun w5 hN5 hO5 hZ5 hB5 hK5=>?_))))))
 have hsp5:=hsp.same (w':=w5) fun k hk=>hO5 k hk
 have hs5:=hs.below hB5
 refine BD hsp5.row (Am hN5 rfl) rfl (by omega) (by decide) (by omega) Tryz.underlying35 Cb rfl rfl rfl rfl ?_
 intro sp6 w6 hrow6 hgr6 hwh6
 have hspk:∀k,sp.ownBlock=some k→Bs≤k:=fun k e=>(As hsp5.row k e).1
 have hs6:=hs5.grow hb hb2 hE hgr6 hspk fun k e=>hsp.ne k e
 have hb6:Below Bs w w6:=(hB5.mono (by omega)).trans ⟨hgr6.os,hgr6.tape,hgr6.output,hgr6.size,fun k hk=>hgr6.block k (by omega) fun e=>by have:=hspk k e.symm;omega⟩
 have hSp6:Sp w6 Bs sp6 pv (l ++ [n]):=by
  refine ⟨?_,fun k e=>?_⟩
  ·have:nI (l ++ [n])=nI l ++ [.int .i64 (n:Int)]:=by simp [nI]
   rw[this,List.length_append]
   exact hrow6
  rcases hwh6 with h1|h1
  ·rw[h1];exact hsp.ne k e
  rw[h1]
  intro e2
  injection e2 with e2
  have:=(As hs5.row k e).2
  omega
 have hsz6:=hgr6.size
 refine Ab Ah rfl (Af (Aa (Bj ds [(1,.pointer (some ⟨b.fbx,0,none⟩)),(7,pv),(8,.pointer (some ⟨b.vbx,0,none⟩)),(13,.int .i32 pn),(18,.pointer (some ⟨mbx,0,none⟩)),(19,sp6),(20,.bool chg),(21,.int .i64 iv),(22,.slice (some ⟨b.A,o,none⟩) n (g.nv+1 - o))] rfl ⟨rfl,rfl,rfl,rfl,rfl,rfl,rfl,rfl,rfl,trivial⟩ fun t=>?_)))
 exact h t w6 sp6 hs6 hSp6 hb6 (by omega)
theorem cseD6b (hs:St w B L b g arr cls pv P) (hE:GE b.E L g) (hBE:B≤b.E) (hEbw:b.Eb≤w.heap.size) (hb:b.Ok) (hBs:b.Ok2 Bs) (hsp:Sp w Bs sp pv l) (hl:Cuts l n) (hn:g.nv≤48) (hp:(elems arr g.nv).Perm (List.range g.nv)) (ho:o+n≤g.nv)
 (hpn:0≤pn∧pn≤1000) (hPl:P.length≤1000)
 (h:∀t w' pv',St w' B L b g arr (parts arr o l cls P pn).1 pv' (parts arr o l cls P pn).2.1→Sp w' Bs sp pv' l→Below B w w'→
   Q .normal (Env.sets ⟨t,ds⟩ [(1,.pointer (some ⟨b.fbx,0,none⟩)),(7,pv'),(8,.pointer (some ⟨b.vbx,0,none⟩)),(13,.int .i32 (parts arr o l cls P pn).2.2),(18,.pointer (some ⟨mbx,0,none⟩)),(19,sp),(20,.bool true),(21,.int .i64 iv),(22,.slice (some ⟨b.A,o,none⟩) n (g.nv+1 - o))]) w'):
 EC Tryz.prog Tryz.f41.ntmps (dropC 10 BH) Q (Env.sets ⟨t,ds⟩ [(1,.pointer (some ⟨b.fbx,0,none⟩)),(7,pv),(8,.pointer (some ⟨b.vbx,0,none⟩)),(13,.int .i32 pn),(18,.pointer (some ⟨mbx,0,none⟩)),(19,sp),(20,.bool chg),(21,.int .i64 iv),(22,.slice (some ⟨b.A,o,none⟩) n (g.nv+1 - o))]) w:=by
 obtain ⟨sa,sc,hsv⟩:=Bx hsp.row
 subst hsv
 obtain ⟨fin,hfin⟩:∃fin,fin=parts arr o l cls P pn:=⟨_,rfl⟩
 rw[← hfin] at h
 refine Ae (Ae (Ac (Ab Ah rfl (Af (Aa (Ao ?_))))))
 refine EC_loop (fun m e w1=>∃jj cls' pv' P' pn',jj+1≤l.length∧parts arr o (l.drop jj) cls' P' pn'=fin∧St w1 B L b g arr cls' pv' P'∧Sp w1 Bs (.slice sa l.length sc) pv' l∧Below B w w1∧(0≤pn'∧pn'≤1000+jj)∧P'.length≤1000+jj∧
  AtD e ds [(1,.pointer (some ⟨b.fbx,0,none⟩)),(7,pv'),(8,.pointer (some ⟨b.vbx,0,none⟩)),(13,.int .i32 pn'),(18,.pointer (some ⟨mbx,0,none⟩)),(19,.slice sa l.length sc),(20,.bool chg),(21,.int .i64 iv),(22,.slice (some ⟨b.A,o,none⟩) n (g.nv+1 - o)),(38,.int .i64 (jj:Int))]∧m=l.length - jj) l.length
  ⟨0,cls,pv,P,pn,hl.len.1,hfin.symm,hs,hsp,Below.refl _ _,⟨hpn.1,by omega⟩,by omega,AT rfl ⟨rfl,rfl,rfl,rfl,rfl,rfl,rfl,rfl,rfl,rfl,trivial⟩,rfl⟩ ?_
 clear hs hsp hpn hPl hfin
 rintro m e w1 ⟨jj,cls',pv',P',pn',hjj,hpa,hs,hsp,hbl,hpn',hPl',⟨t,rfl⟩,rfl⟩
 have hll:=hl.len.2
 refine Ae (Ae (Ac (Ab Ad rfl (Ab Ad rfl (Ab (AN rfl (An rfl)) rfl (Ab (Ch rfl rfl (by omega)) rfl (Ab (AX rfl rfl) rfl (Af (Aa ?_)))))))))
 refine AI rfl rfl (fun hlt=>?_) (fun hge=>?_)
 rotate_left
 ·have hjl:jj+1=l.length:=by omega
  have hd:l.drop jj=[l.getD jj 0]:=by rw[CA (by omega),List.drop_eq_nil_of_le (by omega)]
  rw[hd] at hpa
  have hpa:(cls',P',pn')=fin:=hpa
  rw[← hpa] at h
  refine AK (AB (AD (AA (Aa (Ac (Ab Ah rfl (Af (Q_atD ds [(1,.pointer (some ⟨b.fbx,0,none⟩)),(7,pv'),(8,.pointer (some ⟨b.vbx,0,none⟩)),(13,.int .i32 pn'),(18,.pointer (some ⟨mbx,0,none⟩)),(19,.slice sa l.length sc),(20,.bool true),(21,.int .i64 iv),(22,.slice (some ⟨b.A,o,none⟩) n (g.nv+1 - o))] rfl ⟨rfl,rfl,rfl,rfl,rfl,rfl,rfl,rfl,rfl,trivial⟩ fun t=>?_))))))))
  exact h t w1 pv' hs hsp hbl
 have hjl:jj+1<l.length:=by omega
 refine Aq (Aa ?_)
 obtain ⟨a,hae⟩:∃a,a=l.getD jj 0:=⟨_,rfl⟩
 obtain ⟨c,hce⟩:∃c,c=l.getD (jj+1) 0:=⟨_,rfl⟩
 have hac:=hl.mono jj hjl
 rw[← hae,← hce] at hac
 have hd1:l.drop jj=a :: c :: l.drop (jj+1+1):=by rw[CA (by omega),CA hjl,← hae,← hce]
 have hd2:l.drop (jj+1)=c :: l.drop (jj+1+1):=by rw[CA hjl,← hce]
 rw[hd1,parts_two,← hd2] at hpa
 have hnl:(nI l).length=l.length:=by simp [nI]
 have hrs:w1.ownsRow Bs 3 1 (.slice sa l.length sc) (nI l).length (nI l):=by rw[hnl];exact hsp.row
 obtain ⟨gs,cs,e1,_,_,_,hca⟩:=row_form hrs (k:=jj) (by rw[hnl];omega)
 obtain ⟨gs',cs',e1',_,_,_,hcc⟩:=row_form hrs (k:=jj+1) (by rw[hnl];omega)
 rw[e1] at e1'
 injection e1' with e2 _ _
 injection e2 with e2
 injection e2 with e2
 subst e2
 injection e1 with e1 _ e3
 subst e1
 subst e3
 have hca:w1.cell? ⟨gs,0+jj,none⟩=some (.int .i64 (a:Int)):=by
  rw[hca,hae,List.getD_eq_getElem?_getD,List.getElem?_eq_getElem (show jj<l.length by omega)]
  simp [nI]
 have hcc:w1.cell? ⟨gs,0+(jj+1),none⟩=some (.int .i64 (c:Int)):=by
  rw[hcc,hce,List.getD_eq_getElem?_getD,List.getElem?_eq_getElem hjl]
  simp [nI]
 have hca1:=Keep.drew w1 _ _ hca
 have hcc1:=Keep.drew w1 _ _ hcc
 have hs1:St w1.drew B L b g arr cls' pv' P':=hs.same fun _ _=>rfl
 have hsp1:Sp w1.drew Bs (.slice (some ⟨gs,0,none⟩) l.length sc) pv' l:=hsp.same fun _ _=>rfl
 have hb1:Below B w w1.drew:=hbl.drew
 clear hs hsp hbl hca hcc hrs
 refine Ae (Ao (Ae (AY mixed (fun w'=>w'=w1.drew) [(0,false),(1,false),(2,false),(3,false),(4,false),(5,false),(6,false),(7,false),(8,false),(9,false),(10,false),(11,false)] (by kernel_rfl) rfl ?_)))
 generalize w1.drew=V at *
 refine Aj rfl (fun _ _=>Ad) (Aj rfl (fun _ _=>Ad) (Aj rfl (fun _ _=>Ad) (Aj rfl (fun _ _=>x_index1 rfl rfl (An rfl) (by omega)) (Aj rfl (fun _ hS=>Ai rfl (Ag rfl) (by cases hS;with_reducible assumption)) ?_))))
 refine Aj rfl (fun _ _=>Ad) (Aj rfl (fun _ _=>Ad) (Aj rfl (fun _ _=>x_inc rfl rfl (by omega)) (Aj rfl (fun _ _=>x_index1 rfl rfl (An rfl) (by omega)) (Aj rfl (fun _ hS=>Ai rfl (Ag rfl) (by cases hS;with_reducible assumption)) ?_))))
 refine Aj rfl (fun _ _=>x_sliceLH Tryz.underlying113 CH rfl rfl rfl (by omega) (by omega) (by omega)) (Aj rfl (fun _ _=>Ah) (AP (Aa (Ae (Ae (Ac (Ab Ad rfl (Ab (AN rfl (An rfl)) rfl (Ab (Bn rfl rfl) rfl (Af (Aa ?_)))))))))))
 refine Bj ds [(1,.pointer (some ⟨b.fbx,0,none⟩)),(7,pv'),(8,.pointer (some ⟨b.vbx,0,none⟩)),(13,.int .i32 pn'),(18,.pointer (some ⟨mbx,0,none⟩)),(19,.slice (some ⟨gs,0,none⟩) l.length sc),(20,.bool chg),(21,.int .i64 iv),(22,.slice (some ⟨b.A,o,none⟩) n (g.nv+1 - o)),(38,.int .i64 (jj:Int)),(39,.slice (some ⟨b.A,o+a,none⟩) (c - a) (g.nv+1 - o - a)),(407,.bool (decide (((c - a:Nat):Int)=1)))] rfl ⟨rfl,rfl,rfl,rfl,rfl,rfl,rfl,rfl,rfl,rfl,rfl,rfl,trivial⟩ fun t=>?_
 clear hca1 hcc1
 refine AI rfl rfl (fun h1=>?_) (fun h1=>?_)
 ·rw[if_pos (by omega)] at hpa
  have hvn:arr (o+a)<g.nv:=BR hp (by omega)
  obtain ⟨v,hv⟩:∃v,v=arr (o+a):=⟨_,rfl⟩
  have hs2:St V.drew B L b g arr cls' pv' P':=hs1.same fun _ _=>rfl
  have hsp2:Sp V.drew Bs (.slice (some ⟨gs,0,none⟩) l.length sc) pv' l:=hsp1.same fun _ _=>rfl
  have hb3:Below B w V.drew:=hb1.drew
  have h2:V.drew.cell? ⟨b.A,o+a+0,none⟩=some (L.vp (arr (o+a))):=hs2.arc (i:=o+a) (by omega)
  rw[← hv] at h2 hvn hpa
  have hid:=hs2.rep.vID hvn
  have hvb:=hs2.vbc
  have hvv:=hs2.vec hvn
  have hvf:V.drew.frozen? ⟨b.VE,0+(v+1),none⟩=false:=AQ hs2.ve
  refine Ae (AY mixed (fun w'=>w'=V.drew) [(0,false),(1,false),(2,false),(3,false),(4,false),(5,false),(6,false),(7,false),(8,false),(9,false),(10,false),(11,false),(12,false),(13,false),(14,false),(15,true)] (by kernel_rfl) rfl ?_)
  generalize V.drew=W at *
  refine Aj rfl (fun _ hS=>Ai rfl (Ag rfl) (by cases hS;with_reducible assumption)) ?_
  refine Aj rfl (fun _ _=>Ad) (Aj rfl (fun _ _=>x_index0 rfl rfl (An rfl) (by omega)) (Aj rfl (fun _ hS=>Ai rfl (Ag rfl) (by cases hS;with_reducible assumption)) ?_))
  refine Aj rfl (fun _ _=>Au rfl) (Aj rfl (fun _ _=>Al rfl (Ak rfl)) (Aj rfl (fun _ hS=>Ai rfl (Ag rfl) (by cases hS;with_reducible assumption)) ?_))
  refine Aj rfl (fun _ _=>Ad) (Aj rfl (fun _ _=>x_index0 rfl rfl (An rfl) (by omega)) (Aj rfl (fun _ hS=>Ai rfl (Ag rfl) (by cases hS;with_reducible assumption)) ?_))
  refine Aj rfl (fun _ _=>Au rfl) (Aj rfl (fun _ _=>Al rfl (Ak rfl)) (Aj rfl (fun _ hS=>Ai rfl (Ag rfl) (by cases hS;with_reducible assumption)) ?_))
  refine Aj rfl (fun _ _=>x_neg (c:= -((v:Int)+1)) rfl (by rw[IntWalk.i32_in _ (by omega)];omega)) ?_
  refine Aj rfl (fun _ _=>Ba (i:=v+1) rfl rfl (by omega) (An rfl) (by omega)) (BP rfl (AU (v:=.int .i32 (-((v:Int)+1))) rfl rfl rfl (AH rfl) hvv hvf) (.inl rfl) (AP (Aa ?_)))
  have hs3:=hs2.setVE hE hb (v+1) (-((v:Int)+1))
  have hsp3:Sp (W.setCell ⟨b.VE,0+(v+1),none⟩ (.int .i32 (-((v:Int)+1)))) Bs (.slice (some ⟨gs,0,none⟩) l.length sc) pv' l:=⟨Ax hsp2.row fun k e=>Below.heap_setCell _ _ _ _ (by have:=(As hsp2.row k e).1;have:=hBs.all;show k≠b.VE;omega),hsp2.ne⟩
  have hb4:=hb3.setCell (p:=⟨b.VE,0+(v+1),none⟩) (Nat.le_trans hBE hb.e.2.2.2.2) (.int .i32 (-((v:Int)+1)))
  change EC _ _ _ _ _ (W.setCell ⟨b.VE,0+(v+1),none⟩ (.int .i32 (-((v:Int)+1))))
  generalize W.setCell ⟨b.VE,0+(v+1),none⟩ (.int .i32 (-((v:Int)+1)))=w5 at hs3 hsp3 hb4 ⊢
  refine AK (AB (AA (Aa (Ac (Ab Ad rfl (Ab (x_inc rfl rfl (by omega)) rfl (Ab Ah rfl (Af ?_))))))))
  exact Aw (l.length - (jj+1)) (by omega) ⟨jj+1,_,pv',P',pn',by omega,hpa,hs3,hsp3,hb4,⟨hpn'.1,by omega⟩,by omega,AT rfl ⟨rfl,rfl,rfl,rfl,rfl,rfl,rfl,rfl,rfl,rfl,trivial⟩,rfl⟩
 rw[if_neg (by omega)] at hpa
 refine Aq (Aa ?_)
 obtain ⟨m,hm⟩:∃m,m=c - a:=⟨_,rfl⟩
 rw[← hm] at hpa ⊢
 refine AW (fun e w2=>St w2 B L b g arr (upR cls' arr (o+a) m pn') pv' P'∧Sp w2 Bs (.slice (some ⟨gs,0,none⟩) l.length sc) pv' l∧Below B w w2∧AtD e ds [(1,.pointer (some ⟨b.fbx,0,none⟩)),(7,pv'),(8,.pointer (some ⟨b.vbx,0,none⟩)),(13,.int .i32 pn'),(18,.pointer (some ⟨mbx,0,none⟩)),(19,.slice (some ⟨gs,0,none⟩) l.length sc),(20,.bool chg),(21,.int .i64 iv),(22,.slice (some ⟨b.A,o,none⟩) n (g.nv+1 - o)),(38,.int .i64 (jj:Int)),(39,.slice (some ⟨b.A,o+a,none⟩) m (g.nv+1 - o - a))]) ?_ ?_
 ·refine Ae (Ac (Ab Ad rfl (Ab (AN rfl (An rfl)) rfl (Ab Ad rfl (Af (Aa (Ao ?_)))))))
  refine EC_loop (fun mm e w2=>∃q,q≤m∧St w2 B L b g arr (upR cls' arr (o+a) q pn') pv' P'∧Sp w2 Bs (.slice (some ⟨gs,0,none⟩) l.length sc) pv' l∧Below B w w2∧AtD e ds [(1,.pointer (some ⟨b.fbx,0,none⟩)),(7,pv'),(8,.pointer (some ⟨b.vbx,0,none⟩)),(13,.int .i32 pn'),(18,.pointer (some ⟨mbx,0,none⟩)),(19,.slice (some ⟨gs,0,none⟩) l.length sc),(20,.bool chg),(21,.int .i64 iv),(22,.slice (some ⟨b.A,o,none⟩) n (g.nv+1 - o)),(38,.int .i64 (jj:Int)),(39,.slice (some ⟨b.A,o+a,none⟩) m (g.nv+1 - o - a)),(423,.slice (some ⟨b.A,o+a,none⟩) m (g.nv+1 - o - a)),(424,.int .i64 (m:Int)),(425,.int .i64 (q:Int))]∧mm=m - q) m
   ⟨0,Nat.zero_le _,by rw[GO];exact hs1,hsp1,hb1,AT rfl ⟨rfl,rfl,rfl,rfl,rfl,rfl,rfl,rfl,rfl,rfl,rfl,rfl,rfl,rfl,trivial⟩,rfl⟩ ?_
  clear hs1 hsp1 hb1
  rintro mm e w2 ⟨q,hq,hs1,hsp1,hb1,⟨t,rfl⟩,rfl⟩
  refine Ae (Ac (Ab (AX rfl rfl) rfl (Af (Aa (Ae ?_)))))
  refine AI rfl rfl (fun hlt=>?_) (fun hge=>?_)
  rotate_left
  ·have hqm:q=m:=by omega
   subst hqm
   refine AK (AB (AD (AA ?_)))
   exact AR ⟨hs1,hsp1,hb1,AT rfl ⟨rfl,rfl,rfl,rfl,rfl,rfl,rfl,rfl,rfl,rfl,rfl,trivial⟩⟩
  have hqm:q<m:=by omega
  refine Aq (Aa ?_)
  have hvn:arr (o+a+q)<g.nv:=BR hp (by omega)
  obtain ⟨v,hv⟩:∃v,v=arr (o+a+q):=⟨_,rfl⟩
  have h2:=hs1.arc (i:=o+a+q) (by omega)
  rw[← hv] at h2 hvn
  refine Ae (Ao (Ae (Ac (Ab (x_index1 rfl rfl (An rfl) (by omega)) rfl (Ab (Ai rfl (Ag rfl) ‹_›) rfl ?_)))))
  refine Ab Ah rfl (Af (Aa ?_))
  have hs2:St w2.drew B L b g arr (upR cls' arr (o+a) q pn') pv' P':=hs1.same fun _ _=>rfl
  have hsp2:Sp w2.drew Bs (.slice (some ⟨gs,0,none⟩) l.length sc) pv' l:=hsp1.same fun _ _=>rfl
  have hb3:Below B w w2.drew:=hb1.drew
  have hid:=hs2.rep.vID hvn
  have hvb:=hs2.vbc
  have hvv:=hs2.vec hvn
  have hvf:w2.drew.frozen? ⟨b.VE,0+(v+1),none⟩=false:=AQ hs2.ve
  refine AY mixed (fun w'=>w'=w2.drew) [(0,false),(1,false),(2,false),(3,false),(4,false),(5,false),(6,false),(7,true)] (by kernel_rfl) rfl ?_
  generalize w2.drew=W at *
  refine Aj rfl (fun _ hS=>Ai rfl (Ag rfl) (by cases hS;with_reducible assumption)) ?_
  refine Aj rfl (fun _ _=>Ad) (Aj rfl (fun _ _=>Au rfl) (Aj rfl (fun _ _=>Al rfl (Ak rfl)) (Aj rfl (fun _ hS=>Ai rfl (Ag rfl) (by cases hS;with_reducible assumption)) ?_)))
  refine Aj rfl (fun _ _=>Ad) (Aj rfl (fun _ _=>Ba (i:=v+1) rfl rfl (by omega) (An rfl) (by omega)) (BP rfl (AU (v:=.int .i32 pn') rfl rfl rfl (AH rfl) hvv hvf) (.inl rfl) (AP (Ap (Aa ?_)))))
  have hs3:=hs2.setVE hE hb (v+1) pn'
  rw[hv,upR_succ,← hv] at hs3
  have hsp3:Sp (W.setCell ⟨b.VE,0+(v+1),none⟩ (.int .i32 pn')) Bs (.slice (some ⟨gs,0,none⟩) l.length sc) pv' l:=⟨Ax hsp2.row fun k e=>Below.heap_setCell _ _ _ _ (by have:=(As hsp2.row k e).1;have:=hBs.all;show k≠b.VE;omega),hsp2.ne⟩
  have hb4:=hb3.setCell (p:=⟨b.VE,0+(v+1),none⟩) (Nat.le_trans hBE hb.e.2.2.2.2) (.int .i32 pn')
  change EC _ _ _ _ _ (W.setCell ⟨b.VE,0+(v+1),none⟩ (.int .i32 pn'))
  generalize W.setCell ⟨b.VE,0+(v+1),none⟩ (.int .i32 pn')=w5 at hs3 hsp3 hb4 ⊢
  refine Ac (Ab (x_inc rfl rfl (by omega)) rfl (Ab Ad rfl (Af ?_)))
  exact Aw (m - (q+1)) (by omega) ⟨q+1,by omega,hs3,hsp3,hb4,AT rfl ⟨rfl,rfl,rfl,rfl,rfl,rfl,rfl,rfl,rfl,rfl,rfl,rfl,rfl,rfl,trivial⟩,rfl⟩
 rintro e w2 ⟨hs2,hsp2,hb2,⟨t,rfl⟩⟩
 clear hs1 hsp1 hb1
 refine Ae (Ac (Ab Ad rfl (Ab (Cq (c:=pn'+1) rfl rfl (IntWalk.i32_in _ (by omega))) rfl (Ab Ah rfl (Af (Aa ?_))))))
 have hrw:=hs2.row
 refine Ac (Ab Ad rfl (Ab Ad rfl (Ab (Bo (v:=slV b.A (g.nv+1) (o+a,m)) (by show Value.slice _ _ (g.nv+1 - o - a)=Value.slice _ _ (g.nv+1 - (o+a));rw[Nat.sub_sub]) rfl Tryz.underlying108 (by kernel_rfl) (z:=.slice none 0 0) rfl) rfl ?_)))
 have hsz2:=hb2.size
 have hBw2:B≤w2.heap.size:=by have:=Bg hs2.ar;have:=hb.e;omega
 have hhi:=hb.hi
 have hee:=hb.e
 refine el_new0 (.cells #[slV b.A (g.nv+1) (o+a,m)] 113) fun w5 hN5 hO5 hZ5 hB5 hK5=>?_
 have hs5:=hs2.below hB5
 have hsp5:=hsp2.same (w':=w5) fun k hk=>hO5 k hk
 refine BD hs5.row (Am hN5 rfl) rfl (by omega) (by decide) (by omega) Tryz.underlying108 EA rfl rfl rfl rfl ?_
 intro pv6 w6 hrow6 hgr6 hwh6
 have hpk:∀k,pv'.ownBlock=some k→b.Eb≤k:=fun k e=>(As hs5.row k e).1
 have hs6:St w6 B L b g arr (upR cls' arr (o+a) m pn') pv6 (P' ++ [(o+a,m)]):=by
  refine hs5.setPv hE hb ⟨hgr6.os,hgr6.tape,hgr6.output,hgr6.size,fun j hj hn=>hgr6.block j hj fun e=>hn e.symm⟩ ?_ ?_
  ·rw[List.length_append,List.map_append];exact hrow6
  rcases hwh6 with h5|h5
  ·rw[h5];exact hs5.ne
  rw[h5]
  have h6:=Bg hs5.vb
  have h7:=Bg hs5.ve
  exact ⟨fun e=>by injection e with e;omega,fun e=>by injection e with e;omega⟩
 have hsp6:Sp w6 Bs (.slice (some ⟨gs,0,none⟩) l.length sc) pv6 l:=by
  refine ⟨Ax hsp5.row fun k e=>hgr6.block k (As hsp5.row k e).2 fun e2=>hsp5.ne k e2.symm e,fun k e=>?_⟩
  rcases hwh6 with h5|h5
  ·rw[h5] at e;exact hsp5.ne k e
  rw[h5] at e
  injection e with e
  intro e2
  have:=(As hsp5.row k e2).2
  omega
 have hb6:Below B w w6:=(hb2.trans (hB5.mono hBw2)).trans ⟨hgr6.os,hgr6.tape,hgr6.output,hgr6.size,fun k hk=>hgr6.block k (by omega) fun e=>by have:=hpk k e.symm;omega⟩
 refine Ab Ah rfl (Af (Ap (Aa (Ac (Ab Ad rfl (Ab (x_inc rfl rfl (by omega)) rfl (Ab Ah rfl (Af ?_))))))))
 exact Aw (l.length - (jj+1)) (by omega) ⟨jj+1,_,pv6,_,pn'+1,by omega,hpa,hs6,hsp6,hb6,⟨by omega,by omega⟩,by rw[List.length_append];simp;omega,AT rfl ⟨rfl,rfl,rfl,rfl,rfl,rfl,rfl,rfl,rfl,rfl,trivial⟩,rfl⟩
end
end Go.Proofs.YteepnepebilckaaGreatDoor
