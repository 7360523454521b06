/- The law FnCseOver returns true for every input in which the opcode table reads as laid, and its argument reads as it did, the table being tied to the text of the program. -/
import Derived.Test.YteepnepebilckaaGreatDoorCV18
namespace Go.Proofs.YteepnepebilckaaGreatDoor
open Go Go.Eng Go.RowKit Go.Shelf
structure GE (E:Nat) (L:Lay) (g:Gph):Prop where
 fb:L.fb<E
 bb:∀i,i<g.nb→L.bb i<E
 vb:∀i,i<g.nv→L.vb i<E
 sl:∀τ,IsLst τ=true→Live g τ→∀k,(L.sl τ).ownBlock=some k→k<E
theorem GRep.ge {w:World} {B:Nat} {L:Lay} {g:Gph} (h:GRep w B L g):GE w.heap.size L g:=by
 refine ⟨Br h,fun i hi=>(Array.getElem?_eq_some_iff.1 (h.blk hi)).1,fun i hi=>(Array.getElem?_eq_some_iff.1 (h.val hi)).1,fun τ hτ hl k hk=>?_⟩
 cases τ with
 |fblocks=>exact (Row.lt (show Row _ _ _ _ _ from h.comp .fblocks) k hk).2
 |fvalues=>exact (Row.lt (show Row _ _ _ _ _ from h.comp .fvalues) k hk).2
 |args i=>exact (Row.lt (h.comp (.args i) hl) k hk).2
 |succs i=>exact (Row.lt (h.comp (.succs i) hl) k hk).2
 |preds i=>exact (Row.lt (h.comp (.preds i) hl) k hk).2
 |bvals i=>exact (Row.lt (h.comp (.bvals i) hl) k hk).2
 |ctrl i=>exact (Row.lt (h.comp (.ctrl i) hl) k hk).2
 |fn=>cases hτ
 |blk i=>cases hτ
 |val i=>cases hτ
 |other=>cases hτ
theorem GRep.keepE {w w':World} {B E:Nat} {L:Lay} {g:Gph} (h:GRep w B L g) (hE:GE E L g) (hk:∀k,k<E→w'.heap[k]? =w.heap[k]?):GRep w' B L g:=by
 have T:Tags B { L with tag:=fun k=>if k<E then L.tag k else .other } g:=by
  refine ⟨?_,fun i hi=>?_,fun i hi=>?_,fun τ hτ hl k hk=>?_,h.tags.fbB,h.tags.bbB,h.tags.vbB⟩
  ·show (if L.fb<E then L.tag L.fb else .other)=_
   rw[if_pos hE.fb];exact h.tags.fb
  ·show (if L.bb i<E then L.tag (L.bb i) else .other)=_
   rw[if_pos (hE.bb i hi)];exact h.tags.bb i hi
  ·show (if L.vb i<E then L.tag (L.vb i) else .other)=_
   rw[if_pos (hE.vb i hi)];exact h.tags.vb i hi
  show (if k<E then L.tag k else .other)=_
  rw[if_pos (hE.sl τ hτ hl k hk)];exact h.tags.sl τ hτ hl k hk
 refine ⟨fun τ=>?_,h.tags⟩
 have c1:Comp w B { L with tag:=fun k=>if k<E then L.tag k else .other } g τ:=by have c0:=h.comp τ;cases τ <;> exact c0
 by_cases hτ:τ= .other
 ·subst hτ;trivial
 have c2:=c1.congr (w':=w') τ T fun k _ hkt=>by
  by_cases hkE:k<E
  ·exact hk k hkE
  have:(if k<E then L.tag k else Tag.other)=τ:=hkt
  rw[if_neg hkE] at this
  exact absurd this.symm hτ
 cases τ <;> exact c2
section
variable {P : Program} {w : World} {ρ : Operand → Value} {d : Option Tmp} {ty : TypeId} {pos : String} {af : Array Edge} {g : Option (Nat × Bool)}
theorem x_sliceL {t el:TypeId} {x:Operand} {b o n cap l:Nat} {z:Value} {bytes:Nat} (ht:P.underlying t=some (.slice el)) (hi:(P.info? el).map (fun i=>(i.zero,i.size,i.bytes))=some (some z,1,bytes))
 (hx:ρ x= .slice (some ⟨b,o,none⟩) n cap) {c:Operand} (hc:ρ c= .int .i64 (l:Int)) (hl:l≤n) (hk:n≤cap) (hlc:l<cap):
 (execOp ρ ⟨d,.slice t x (some c) none none,ty,pos,af,g⟩).run P w= .ok (.value (.slice (some ⟨b,o+l,none⟩) (n - l) (cap - l))) w:=by
 obtain ⟨i,hi1,_,hi3,_⟩:=info_parts hi
 have:(Instr.slice t (.slice (some ⟨b,o,none⟩) n cap) (some (.int .i64 (l:Int))) none none).run P w= .ok (.slice (some ⟨b,o+l,none⟩) (n - l) (cap - l)) w:=by
  unfold Instr.slice Instr.sliceBounds Instr.sliceBound
  simp only [Sem.run_bind,run_underlying ht,Result.andThen_ok,Sem.run_pure,asIntOf]
  have h1:(0:Int)≤(l:Int)∧(l:Int)≤(cap:Int):=by omega
  simp only [if_pos h1,Sem.run_pure,Result.andThen_ok,sizeOf,typeInfo,Sem.run_bind]
  simp [hi1,hi3,Addr.add,show ¬ cap=l by omega,hl]
 simp [execOp,hx,hc,Instr.sliceAt,run_underlying ht,this]
theorem G6 {x:Operand} {o:Option Nat} (hx:ρ x= .map o):(execOp ρ ⟨d,.box 80 x,ty,pos,af,g⟩).run Tryz.prog w= .ok (.value (.pointer (some ⟨w.heap.size,0,none⟩))) (w.alloc (.cells #[.map o] 80)):=by
 rw[Bv (v:=.map o) hx];rfl
end
theorem G7 {P:Program} {w:World} {ρ:Operand→Value} {d:Option Tmp} {ty:TypeId} {pos:String} {af:Array Edge} {g:Option (Nat×Bool)} {f:FuncId} {x:Operand} {a:Value} (hx:ρ x=a):
 (execOp ρ ⟨d,.makeFunc (.func f) #[] #[x],ty,pos,af,g⟩).run P w= .ok (.value (.func (.func f) #[] #[a])) w:=by
 subst hx
 simp [execOp,Instr.makeFunc]
theorem En {P:Program} {w:World} {ρ:Operand→Value} {d:Option Tmp} {ty:TypeId} {pos:String} {af:Array Edge} {g:Option (Nat×Bool)} {f:FuncId} {x y:Operand} {a b:Value} (hx:ρ x=a) (hy:ρ y=b):
 (execOp ρ ⟨d,.makeFunc (.func f) #[] #[x,y],ty,pos,af,g⟩).run P w= .ok (.value (.func (.func f) #[] #[a,b])) w:=by
 subst hx hy
 simp [execOp,Instr.makeFunc]
def slV (A M:Nat) (p:Nat×Nat):Value:=.slice (some ⟨A,p.1,none⟩) p.2 (M - p.1)
def arV (L:Lay) (arr:Nat→Nat) (nv:Nat):Nat→Value:=fun i=>if i<nv then L.vp (arr i) else .pointer none
def BW (w:World) (L:Lay) (A nv:Nat) (arr:Nat→Nat):Prop:=w.heap[A]? =some (.cells (cellsOf (arV L arr nv) (nv+1)) 97 (0,0))
def elems (arr:Nat→Nat) (n:Nat):List Nat:=(List.range n).map arr
structure Part0 (g:Gph) (arr arr':Nat→Nat) (Pl:List (Nat×Nat)):Prop where
 perm:(elems arr' g.nv).Perm (elems arr g.nv)
 long:∀p∈Pl,2≤p.2∧p.1+p.2≤g.nv
 apart:Pl.Pairwise fun a b=>a.1+a.2≤b.1
 same:∀p∈Pl,∀i,i<p.2→key g (arr' p.1)=key g (arr' (p.1+i))
 most:∀i j,i<j→j<g.nv→key g (arr' i)=key g (arr' j)→∃p∈Pl,p.1≤i∧j<p.1+p.2
 asc:∀p∈Pl,∀i j,i<j→j<p.2→arr' (p.1+i)<arr' (p.1+j)
 top:∀i,g.nv≤i→arr' i=0
 srt:∀i j,i<j→j<g.nv→lexc (key g (arr' i)) (key g (arr' j))≤0∧(key g (arr' i)=key g (arr' j)→arr' i<arr' j)
theorem BN (arr:Nat→Nat) (n:Nat):(elems arr n).length=n:=by simp [elems]
theorem Da {arr:Nat→Nat} {n j:Nat} (h:j<n):(elems arr n).getD j 0=arr j:=by
 unfold elems
 rw[List.getD_eq_getElem?_getD,List.getElem?_map,List.getElem?_range h];rfl
theorem elems_of {D:List Nat} {arr:Nat→Nat} {n:Nat} (hl:D.length=n) (h:∀j,j<n→arr j=D.getD j 0):elems arr n=D:=by
 refine List.ext_getElem (by rw[BN,hl]) fun j h1 h2=>?_
 have h3:=Da (arr:=arr) (show j<n by omega)
 rw[h j (by omega)] at h3
 rw[List.getD_eq_getElem?_getD,List.getElem?_eq_getElem h1,List.getD_eq_getElem?_getD,List.getElem?_eq_getElem h2] at h3
 simpa using h3
theorem cp_swo (g:Gph) (D:List Nat):Go.Sort.SWO (α:= {v:Nat // v∈D}) (ltOf fun a b=>cp g a.1 b.1):=by
 have:(fun a b: {v:Nat // v∈D}=>cp g a.1 b.1)=fun a b=>lexc (kx g a.1) (kx g b.1):=by
  funext a b
  exact cp_lexc g a.1 b.1
 rw[this]
 exact lexc_swo (fun a: {v:Nat // v∈D}=>kx g a.1) fun _ _=>rfl
theorem key_mono {g:Gph} {D D':List Nat} (h:SortOut (cp g) D D') {i j:Nat} (hij:i<j) (hj:j<D.length) (hne:D'.getD i 0≠D'.getD j 0):
 lexc (key g (D'.getD i 0)) (key g (D'.getD j 0))≤0∧(key g (D'.getD i 0)=key g (D'.getD j 0)→D'.getD i 0<D'.getD j 0):=by
 have h1:=h.srt i j hij hj
 generalize D'.getD i 0=x at *
 generalize D'.getD j 0=y at *
 rw[cp_lexc,lexc_neg] at h1
 unfold kx at h1
 rw[lexc_app (key g x) (key g y) _ _ rfl] at h1
 by_cases h2:lexc (key g x) (key g y)=0
 ·rw[if_pos h2,lexc_cons] at h1
  refine ⟨by omega,fun _=>?_⟩
  by_cases h3:(x:Int)+1<(y:Int)+1
  ·omega
  by_cases h4:(y:Int)+1<(x:Int)+1
  ·rw[if_neg h3,if_pos h4] at h1;omega
  omega
 rw[if_neg h2] at h1
 exact ⟨by omega,fun e=>absurd ((lexc_eq (key g x) (key g y) rfl).2 e) h2⟩
structure PartI (g:Gph) (arr':Nat→Nat) (o:Nat) (Pl:List (Nat×Nat)):Prop where
 len:2 * Pl.length≤o
 ends : ∀ p ∈ Pl, 2 ≤ p.2 ∧ p.1 + p.2 ≤ o
 apart:Pl.Pairwise fun a b=>a.1+a.2≤b.1
 same:∀p∈Pl,∀i,i<p.2→key g (arr' p.1)=key g (arr' (p.1+i))
 most:∀i j,i<j→j<g.nv→i<o→key g (arr' i)=key g (arr' j)→∃p∈Pl,p.1≤i∧j<p.1+p.2
theorem PartI.next {g:Gph} {arr':Nat→Nat} {o j:Nat} {Pl:List (Nat×Nat)} (h:PartI g arr' o Pl) (hmono:∀i j,i<j→j<g.nv→lexc (key g (arr' i)) (key g (arr' j))≤0) (hj:1≤j) (hjn:o+j≤g.nv)
 (hs:∀i,i<j→key g (arr' o)=key g (arr' (o+i))) (he:o+j=g.nv∨key g (arr' o)≠key g (arr' (o+j))):PartI g arr' (o+j) (if 1<j then Pl ++ [(o,j)] else Pl):=by
 have hm:∀p,p∈(if 1<j then Pl ++ [(o,j)] else Pl)→p∈Pl∨(1<j∧p=(o,j)):=fun p hp=>by
  by_cases h1:1<j
  ·rw[if_pos h1] at hp
   rcases List.mem_append.1 hp with h2|h2
   ·exact .inl h2
   exact .inr ⟨h1,by simpa using h2⟩
  rw[if_neg h1] at hp;exact .inl hp
 refine ⟨?_,fun p hp=>?_,?_,fun p hp=>?_,fun a b hab hb ha hk=>?_⟩
 ·have:=h.len
  by_cases h1:1<j
  ·rw[if_pos h1,List.length_append];simp;omega
  rw[if_neg h1];omega
 ·rcases hm p hp with h1|⟨h1,rfl⟩
  ·have:=h.ends p h1;omega
  exact ⟨h1,Nat.le_refl _⟩
 ·by_cases h1:1<j
  ·rw[if_pos h1,List.pairwise_append]
   refine ⟨h.apart,List.pairwise_singleton ..,fun p hp q hq=>?_⟩
   have:q=(o,j):=by simpa using hq
   subst this
   exact (h.ends p hp).2
  rw[if_neg h1];exact h.apart
 ·rcases hm p hp with h1|⟨h1,rfl⟩
  ·exact h.same p h1
  exact hs
 by_cases hao:a<o
 ·obtain ⟨p,hp,h1⟩:=h.most a b hab hb hao hk
  refine ⟨p,?_,h1⟩
  split
  ·exact List.mem_append_left _ hp
  exact hp
 have e1:=hs (a - o) (by omega)
 rw[show o+(a - o)=a by omega] at e1
 by_cases hbj:b<o+j
 ·refine ⟨(o,j),?_,by omega,hbj⟩
  rw[if_pos (by omega)]
  exact List.mem_append_right _ (.head _)
 exfalso
 rcases he with h1|h1
 ·omega
 have m1:=hmono o (o+j) (by omega) (by omega)
 have m2:lexc (key g (arr' (o+j))) (key g (arr' b))≤0:=by
  by_cases e:o+j=b
  ·rw[e,(lexc_eq _ _ rfl).2 rfl];omega
  exact hmono _ _ (by omega) hb
 rw[← hk,← e1,lexc_neg] at m2
 exact h1 ((lexc_eq (key g (arr' o)) (key g (arr' (o+j))) rfl).1 (by omega))
set_option maxHeartbeats 4000000
attribute [local irreducible] EC EL DL Ret thenQ blockQ Bi bodyQ onlyN execOp Sem.run World.cell? World.frozen? World.setCell World.alloc
theorem part_ret {w:World} {B E A:Nat} {L:Lay} {g:Gph} {arr:Nat→Nat} {o:Option Nat} (hg:GRep w B L g) (hE:GE E L g) (hEA:E≤A) (hA:BW w L A g.nv arr) (hn:g.nv≤48)
 (harr:∀i,i<g.nv→arr i<g.nv) (hinj:(elems arr g.nv).Nodup) (hblk:∀i,i<g.nv→g.blk i<g.nb) (hty:∀x y,g.op x=g.op y→g.ty x=g.ty y) (hop:∀i,i<g.nv→g.op i≤15):
 Ret Tryz.prog 51 #[.slice (some ⟨A,0,none⟩) g.nv (g.nv+1),.map o] w fun v w'=>∃arr' Pl,Part0 g arr arr' Pl∧BW w' L A g.nv arr'∧Only (fun j=>j=A) w w'∧
  w'.ownsRow w.heap.size 113 1 v Pl.length (Pl.map (slV A (g.nv+1))):=by
 refine ret_of_EC Tryz.func51 rfl rfl ?_
 obtain ⟨N,hN⟩:∃N,N=g.nv:=⟨_,rfl⟩
 have hAl:A<w.heap.size:=(Array.getElem?_eq_some_iff.1 hA).1
 refine Ae (Ac (Ab (G6 rfl) rfl ?_))
 obtain ⟨bx,hbx⟩:∃bx,bx=w.heap.size:=⟨_,rfl⟩
 refine el_new0 (.cells #[.map o] 80) fun wa hN1 hO1 hZ1 hB1 hK1=>?_
 rw[← hbx] at hN1 ⊢
 have hgx:∀W,Only (fun j=>j=A) wa W→GRep W B L g:=fun W h=>hg.keepE hE fun k hk=>(h.block k (by omega) (by omega)).trans (hO1 k (by omega))
 have hOa:Only (fun j=>j=A) w wa:=Only.of_below hB1
 have hxc:∀W,Only (fun j=>j=A) wa W→W.cell? ⟨bx,0,none⟩=some (.map o):=fun W h=>Am ((h.block bx (by omega) (by omega)).trans hN1) rfl
 have hAa:BW wa L A g.nv arr:=(hO1 A hAl).trans hA
 refine Ab Ah rfl (Af (Aa ?_))
 refine AW (fun e w1=>∃D',SortOut (cp g) (elems arr g.nv) D'∧BW w1 L A g.nv (fun i=>D'.getD i 0)∧Only (fun j=>j=A) wa w1∧At e [(0,.slice (some ⟨A,0,none⟩) g.nv (g.nv+1)),(3,.pointer (some ⟨bx,0,none⟩))]) ?_ ?_
 ·refine Ac (Ab Ad rfl (Ab (G7 rfl) rfl ?_))
  by_cases h0:g.nv=0
  ·have hs0:Ret Tryz.prog 76 #[.slice (some ⟨A,0,none⟩) g.nv (g.nv+1),.func (.func 77) #[] #[.pointer (some ⟨bx,0,none⟩)]] wa fun v w'=>v= .tuple #[]∧w'=wa:=by
    rw[h0];exact sort0_ret
   refine Be (AG Tryz.func76 rfl (by kernel_rfl) rfl rfl) rfl hs0 ?_
   rintro _ wx ⟨rfl,ew⟩
   rw[ew]
   clear ew wx
   refine Af ?_
   refine AR ⟨[],⟨by rw[h0];unfold Eh elems;rw[dif_neg (by simp)],?_,fun i j _ hj=>?_,fun _ _ i j _ hj=>?_⟩,?_,Only.refl _ _,Ar rfl ⟨rfl,rfl,trivial⟩⟩
   ·rw[h0];exact List.Perm.refl _
   ·rw[BN] at hj;omega
   ·rw[BN] at hj;omega
   unfold BW
   rw[show wa.heap[A]? =_ from hAa]
   congr 2
   refine BA fun i _=>?_
   unfold arV
   rw[if_neg (by omega),if_neg (by omega)]
  have hmem:∀x∈elems arr g.nv,x<g.nv:=fun x hx=>by
   obtain ⟨i,hi,rfl⟩:=List.mem_map.1 hx
   exact harr i (List.mem_range.1 hi)
  have hsr:=sortV_ret (w:=wa) (L:=L) (D:=elems arr g.nv) (cf:=cp g) (A:=A) (off:=0) (N:=g.nv+1) (cap:=g.nv+1) (gf:=77) (cb:=#[.pointer (some ⟨bx,0,none⟩)]) (R:=arV L arr g.nv) (T:=97)
   (fun e=>by have:=BN arr g.nv;rw[e] at this;exact h0 this.symm) (by rw[BN];omega) (by rw[BN];omega) hAa (fun j hj=>by
     rw[BN] at hj
     rw[Da hj,Nat.zero_add]
     unfold arV
     rw[if_pos hj]) (enters_of Tryz.func77 (by kernel_rfl) rfl) (cp_swo g _) (fun W hW x hx y hy=>Gf (hgx W hW) (hmem x hx) (hmem y hy) (hblk x (hmem x hx)) (hblk y (hmem y hy)) (hty x y) (hop x (hmem x hx)) (hxc W hW))
  rw[BN] at hsr
  refine Be (AG Tryz.func76 rfl (by kernel_rfl) rfl rfl) rfl hsr ?_
  rintro _ w1 ⟨rfl,D',hso,hrow,hO⟩
  refine Af ?_
  refine AR ⟨D',hso,?_,hO,Ar rfl ⟨rfl,rfl,trivial⟩⟩
  unfold BW
  rw[hrow]
  congr 2
  refine BA fun i _=>?_
  unfold arV
  by_cases hi:i<g.nv
  ·rw[if_pos (by omega),if_pos hi];rfl
  rw[if_neg (by omega),if_neg hi,if_neg hi]
 rintro e w1 ⟨D',hso,hAr,hO,⟨t,rfl⟩⟩
 obtain ⟨arr',harr'⟩:∃arr':Nat→Nat,arr'=fun i=>D'.getD i 0:=⟨_,rfl⟩
 rw[← harr'] at hAr
 have hDl:D'.length=g.nv:=by rw[hso.perm.length_eq,BN]
 have hel:elems arr' g.nv=D':=elems_of hDl fun j _=>by rw[harr']
 have hDn:D'.Nodup:=hso.perm.nodup_iff.2 hinj
 have htop:∀i,g.nv≤i→arr' i=0:=fun i hi=>by
  rw[harr']
  show D'.getD i 0=0
  rw[List.getD_eq_getElem?_getD,List.getElem?_eq_none (by omega)];rfl
 have hlt':∀i,i<g.nv→arr' i<g.nv:=fun i hi=>by
  have h1:D'.getD i 0∈elems arr g.nv:=hso.perm.mem_iff.1 (Bq (by omega))
  obtain ⟨k,hk,e⟩:=List.mem_map.1 h1
  rw[harr']
  show D'.getD i 0<g.nv
  rw[← e]
  exact harr k (List.mem_range.1 hk)
 have hne:∀i j,i<j→j<g.nv→arr' i≠arr' j:=fun i j hij hj e=>by
  rw[harr'] at e
  have e':D'.getD i 0=D'.getD j 0:=e
  rw[List.getD_eq_getElem?_getD,List.getElem?_eq_getElem (show i<D'.length by omega),List.getD_eq_getElem?_getD,List.getElem?_eq_getElem (show j<D'.length by omega)] at e'
  have:=(List.getElem_inj hDn).1 (show D'[i]=D'[j] from e')
  omega
 have hkm:∀i j,i<j→j<g.nv→lexc (key g (arr' i)) (key g (arr' j))≤0∧(key g (arr' i)=key g (arr' j)→arr' i<arr' j):=fun i j hij hj=>by
  have h1:=key_mono hso hij (by rw[BN];exact hj) (by have:=hne i j hij hj;rw[harr'] at this;exact this)
  rw[harr']
  exact h1
 have hpm:(elems arr' g.nv).Perm (elems arr g.nv):=by rw[hel];exact hso.perm
 clear hel hDn hDl harr' hso
 have hcell:∀W,BW W L A g.nv arr'→∀i,i<g.nv→W.cell? ⟨A,i,none⟩=some (L.vp (arr' i)):=fun W h i hi=>Am h (by rw[Bf _ (by omega)];unfold arV;rw[if_pos hi])
 refine Ae (Ac (Ab Ah rfl (Af (Aa ?_))))
 have hOw1:=hO.size
 refine Ae (Ao ?_)
 refine EC_loop (fun m e w2=>∃o Pl p,o≤g.nv∧PartI g arr' o Pl∧BW w2 L A g.nv arr'∧Only (fun j=>j=A) wa w2∧w2.ownsRow (bx+1) 113 1 p Pl.length (Pl.map (slV A (g.nv+1)))∧
  At e [(0,.slice (some ⟨A,o,none⟩) (g.nv - o) (g.nv+1 - o)),(3,.pointer (some ⟨bx,0,none⟩)),(5,p)]∧m=g.nv - o) g.nv
  ⟨0,[],.slice none 0 0,Nat.zero_le _,⟨by simp,fun p hp=>(by cases hp),.nil,fun p hp=>(by cases hp),fun i j _ _ h=>(by omega)⟩,hAr,hO,World.ownsRow_nil _ _ _ _,Ar rfl ⟨rfl,rfl,rfl,trivial⟩,rfl⟩ ?_
 clear hO hAr hAa
 rintro m e w2 ⟨o,Pl,p,ho,hPI,hAr,hO,hrow,⟨t,rfl⟩,rfl⟩
 refine Ae (Ae (Ac (Ab Ad rfl (Ab (AN rfl (An rfl)) rfl (Ab (BE rfl rfl) rfl (Af (Aa ?_)))))))
 refine AI rfl rfl (fun hgt=>?_) (fun hle=>?_)
 rotate_left
 ·have hon:o=g.nv:=by omega
  subst hon
  refine AK (AB (AD (AA (Aa (Ae (Ac (Ab Ad rfl (Ab Ah rfl (Af (Aa (AE ?_)))))))))))
  refine Az rfl rfl rfl ⟨arr',Pl,⟨hpm,hPI.ends,hPI.apart,hPI.same,fun i j hij hj hk=>hPI.most i j hij hj (by omega) hk,fun q hq i j hij hj=>?_,htop,hkm⟩,hAr,hOa.trans hO,ownsRow_low hrow (by omega)⟩
  have:=hPI.ends q hq
  exact (hkm (q.1+i) (q.1+j) (by omega) (by omega)).2 ((hPI.same q hq i (by omega)).symm.trans (hPI.same q hq j hj))
 have hon:o<g.nv:=by omega
 refine Aq (Aa (Ao ?_))
 have h1:=hcell w2 hAr o hon
 rw[show o=o+0 from rfl] at h1
 refine Ae (Ac (Ab Ad rfl (Ab (x_index0 rfl rfl (An rfl) (by omega)) rfl (Ab (Ai rfl (Ag rfl) ‹_›) rfl ?_))))
 refine Ab Ah rfl (Af (Aa (Ae (Ac (Ab Ah rfl (Af (Aa ?_)))))))
 have hg2:=hgx w2 hO
 refine BV [(0,.slice (some ⟨A,o,none⟩) (g.nv - o) (g.nv+1 - o)),(3,.pointer (some ⟨bx,0,none⟩)),(5,p),(6,L.vp (arr' o)),(7,.int .i64 ((1:Nat):Int))] rfl ⟨rfl,rfl,rfl,rfl,rfl,trivial⟩ fun t=>?_
 refine AW (fun e w3=>∃j,1≤j∧o+j≤g.nv∧(∀i,i<j→key g (arr' o)=key g (arr' (o+i)))∧(o+j=g.nv∨key g (arr' o)≠key g (arr' (o+j)))∧Gn w2 w3∧
  At e [(0,.slice (some ⟨A,o,none⟩) (g.nv - o) (g.nv+1 - o)),(3,.pointer (some ⟨bx,0,none⟩)),(5,p),(7,.int .i64 (j:Int))]) ?_ ?_
 ·refine Ao ?_
  refine EC_loop (fun m e w3=>∃j,1≤j∧o+j≤g.nv∧(∀i,i<j→key g (arr' o)=key g (arr' (o+i)))∧Gn w2 w3∧
   At e [(0,.slice (some ⟨A,o,none⟩) (g.nv - o) (g.nv+1 - o)),(3,.pointer (some ⟨bx,0,none⟩)),(5,p),(6,L.vp (arr' o)),(7,.int .i64 (j:Int))]∧m=g.nv - j) (g.nv - 1)
   ⟨1,Nat.le_refl _,by omega,fun i hi=>by rw[show i=0 by omega,Nat.add_zero],Gn.refl _,Ar rfl ⟨rfl,rfl,rfl,rfl,rfl,trivial⟩,rfl⟩ ?_
  rintro m e w3 ⟨j,hj,hjn,hs,hW,⟨t,rfl⟩,rfl⟩
  refine Ae (Ae (Ac (Ab Ad rfl (Ab Ad rfl (Ab (AN rfl (An rfl)) rfl (Ab (AX rfl rfl) rfl (Af (Aa ?_))))))))
  refine AI rfl rfl (fun hlt=>?_) (fun hge=>?_)
  rotate_left
  ·refine AK (AB (AD (AA ?_)))
   exact AR ⟨j,hj,hjn,hs,.inl (by omega),hW,Ar rfl ⟨rfl,rfl,rfl,rfl,trivial⟩⟩
  have hjl:o+j<g.nv:=by omega
  refine Aq (Aa ?_)
  have hb3:=hW.below
  have hO3:=hO.bel (hO.size) hb3
  have hAr3:BW w3 L A g.nv arr':=(hb3.block A (Array.getElem?_eq_some_iff.1 hAr).1).trans hAr
  have hg3:=hgx w3 hO3
  have hx3:=hxc w3 hO3
  have h2:=hcell w3 hAr3 (o+j) hjl
  refine Ae (Ao (Ae (Ac (Ab Ad rfl (Ab Ad rfl (Ab (x_index1 rfl rfl (An rfl) (by omega)) rfl (Ab (Ai rfl (Ag rfl) ‹_›) rfl ?_)))))))
  refine Ab Ah rfl (Af (Aa (Ae (Ac (Ab Ad rfl (Ab Ad rfl (Ab (Ai rfl (Ag rfl) ‹_›) rfl ?_)))))))
  refine Be (AG Tryz.func78 rfl rfl rfl rfl) rfl (cmpVal_ret hg3 (hlt' o hon) (hlt' (o+j) hjl) (hblk _ (hlt' o hon)) (hblk _ (hlt' (o+j) hjl)) (hty _ _) (hop _ (hlt' o hon))) ?_
  rintro _ w4 ⟨rfl,hW4⟩
  refine Ab (Bw rfl rfl) rfl (Af (Aa ?_))
  refine AI rfl rfl (fun hne'=>?_) (fun heq=>?_)
  ·refine AK (CP rfl (AB (AD (AA ?_))))
   refine AR ⟨j,hj,hjn,hs,.inr fun e=>hne' ?_,hW.trans hW4,Ar rfl ⟨rfl,rfl,rfl,rfl,trivial⟩⟩
   rw[cv_lexc];exact (lexc_eq (key g (arr' o)) (key g (arr' (o+j))) rfl).2 e
  refine Aq (Ap (Aa (Ac (Ab Ad rfl (Ab (x_inc rfl rfl (by omega)) rfl (Ab Ah rfl (Af ?_)))))))
  refine Aw (g.nv - (j+1)) (by omega) ⟨j+1,by omega,by omega,fun i hi=>?_,hW.trans hW4,Ar rfl ⟨rfl,rfl,rfl,rfl,rfl,trivial⟩,rfl⟩
  by_cases e:i=j
  ·subst e
   have:=Classical.not_not.1 heq
   rw[cv_lexc] at this
   exact (lexc_eq (key g (arr' o)) (key g (arr' (o+i))) rfl).1 this
  exact hs i (by omega)
 rintro e w3 ⟨j,hj,hjn,hs,he,hW,⟨t,rfl⟩⟩
 have hnx:=hPI.next (fun i j h1 h2=>(hkm i j h1 h2).1) hj hjn hs he
 have hb3:=hW.below
 have hO3:=hO.bel (hO.size) hb3
 have hAr3:BW w3 L A g.nv arr':=(hb3.block A (Array.getElem?_eq_some_iff.1 hAr).1).trans hAr
 have hrow3:=Ax hrow (w':=w3) fun k e=>hb3.block k (As hrow k e).2
 have hs3:=hO3.size
 refine AW (fun e w4=>∃p',w4.ownsRow (bx+1) 113 1 p' (if 1<j then Pl ++ [(o,j)] else Pl).length ((if 1<j then Pl ++ [(o,j)] else Pl).map (slV A (g.nv+1)))∧BW w4 L A g.nv arr'∧Only (fun j=>j=A) wa w4∧
  At e [(0,.slice (some ⟨A,o,none⟩) (g.nv - o) (g.nv+1 - o)),(3,.pointer (some ⟨bx,0,none⟩)),(5,p'),(7,.int .i64 (j:Int))]) ?_ ?_
 ·refine Ae (Ac (Ab Ad rfl (Ab (BE rfl rfl) rfl (Af (Aa ?_)))))
  refine AI rfl rfl (fun h1=>?_) (fun h1=>?_)
  rotate_left
  ·rw[if_neg (show ¬ 1<j by omega)]
   refine Aq ?_
   exact AR ⟨p,hrow3,hAr3,hO3,Ar rfl ⟨rfl,rfl,rfl,rfl,trivial⟩⟩
  have h1:1<j:=by omega
  refine Ac (Ab Ad rfl (Ab Ad rfl (Ab Ad rfl (Ab (x_sliceK (k:=j) Tryz.underlying78 CH rfl rfl (by omega)) rfl (Ab (Bo (v:=slV A (g.nv+1) (o,j)) rfl rfl Tryz.underlying108 (by kernel_rfl) (z:=.slice none 0 0) rfl) rfl ?_)))))
  have hpl:=hPI.len
  refine el_new0 (.cells #[slV A (g.nv+1) (o,j)] 113) fun w5 hN5 hO5 hZ5 hB5 hK5=>?_
  have hO5':=hO3.bel (hO3.size) hB5
  have hAr5:BW w5 L A g.nv arr':=(hO5 A (Array.getElem?_eq_some_iff.1 hAr3).1).trans hAr3
  have hrow5:=Ax hrow3 (w':=w5) fun k e=>hO5 k (As hrow3 k e).2
  refine BD hrow5 (Am hN5 rfl) rfl (by omega) (by decide) (by omega) Tryz.underlying108 EA rfl rfl rfl rfl ?_
  intro p6 w6 hrow6 hgr6 hwh6
  have hnA:∀k,p.ownBlock=some k→bx+1≤k:=fun k hk=>(As hrow3 k hk).1
  have hO6:Only (fun j=>j=A) wa w6:=hO5'.grow hgr6 fun k hk=>by have:=hnA k hk;omega
  have hAr6:BW w6 L A g.nv arr':=(hgr6.block A (by omega) (fun e=>by have:=hnA A e.symm;omega)).trans hAr5
  refine Ab Ah rfl (Af ?_)
  refine AR ⟨p6,?_,hAr6,hO6,Ar rfl ⟨rfl,rfl,rfl,rfl,trivial⟩⟩
  rw[if_pos h1,List.length_append,List.map_append]
  exact hrow6
 rintro e w4 ⟨p',hrow4,hAr4,hO4,⟨t,rfl⟩⟩
 refine Ac (Ab Ad rfl (Ab Ad rfl (Ab (x_sliceL (l:=j) Tryz.underlying78 CH rfl rfl (by omega) (by omega) (by omega)) rfl (Ab Ah rfl (Af (Ap ?_))))))
 rw[Nat.sub_sub,Nat.sub_sub]
 exact Aw (g.nv - (o+j)) (by omega) ⟨o+j,_,p',hjn,hnx,hAr4,hO4,hrow4,Ar rfl ⟨rfl,rfl,rfl,trivial⟩,rfl⟩
end Go.Proofs.YteepnepebilckaaGreatDoor
namespace Go.Proofs.YteepnepebilckaaGreatDoor
open Go Go.Eng Go.RowKit Go.Shelf
theorem GRep.setCl {w:World} {B:Nat} {L:Lay} {g:Gph} (h:GRep w B L g) (v:Value):GRep (w.setCell ⟨L.fb,0+5,none⟩ v) B L { g with cl:=v }:=by
 refine ⟨fun τ=>?_,⟨h.tags.fb,h.tags.bb,h.tags.vb,fun τ hτ hl=>h.tags.sl τ hτ (by cases τ <;> exact hl),h.tags.fbB,h.tags.bbB,h.tags.vbB⟩⟩
 by_cases hτ:τ= .fn
 ·subst hτ
  exact AC (o:=0+5) (u:=v) (h.comp .fn)
 have:=CG (o:=0+5) (u:=v) h h.tags.fb hτ
 cases τ <;> first|exact this|exact absurd rfl hτ
theorem GRep.setAm {w:World} {B:Nat} {L:Lay} {g:Gph} (h:GRep w B L g) (v:Value):GRep (w.setCell ⟨L.fb,0+3,none⟩ v) B L { g with am:=v }:=by
 refine ⟨fun τ=>?_,⟨h.tags.fb,h.tags.bb,h.tags.vb,fun τ hτ hl=>h.tags.sl τ hτ (by cases τ <;> exact hl),h.tags.fbB,h.tags.bbB,h.tags.vbB⟩⟩
 by_cases hτ:τ= .fn
 ·subst hτ
  exact AC (o:=0+3) (u:=v) (h.comp .fn)
 have:=CG (o:=0+3) (u:=v) h h.tags.fb hτ
 cases τ <;> first|exact this|exact absurd rfl hτ
theorem GE.cl {E:Nat} {L:Lay} {g:Gph} (h:GE E L g) (v:Value):GE E L { g with cl:=v }:=⟨h.fb,h.bb,h.vb,fun τ hτ hl=>h.sl τ hτ (by cases τ <;> exact hl)⟩
theorem GE.am {E:Nat} {L:Lay} {g:Gph} (h:GE E L g) (v:Value):GE E L { g with am:=v }:=⟨h.fb,h.bb,h.vb,fun τ hτ hl=>h.sl τ hτ (by cases τ <;> exact hl)⟩
structure LLs (w:World) (base:Nat) (v:Value) (us:List Value) (xss:List (List Int)):Prop where
 row:w.ownsRow base 35 1 v us.length us
 len:us.length=xss.length
 ints:∀i,i<xss.length→w.ownsRow base 3 1 (us.getD i nilS) (xss.getD i []).length ((xss.getD i []).map (.int .i64))
 ne:∀i,i<xss.length→∀k,v.ownBlock=some k→(us.getD i nilS).ownBlock≠some k
section
variable {w w' : World} {base : Nat} {v v' l : Value} {us : List Value} {xss : List (List Int)} {ys : List Int}
theorem LLs.on (h:LLs w base v us xss) (hk:∀k,base≤k→k<w.heap.size→w'.heap[k]? =w.heap[k]?):LLs w' base v us xss:=
 ⟨Ax h.row fun k e=>hk k (As h.row k e).1 (As h.row k e).2,h.len,fun i hi=>Ax (h.ints i hi) fun k e=>hk k (As (h.ints i hi) k e).1 (As (h.ints i hi) k e).2,h.ne⟩
theorem LLs.push (h:LLs w base v us xss) (hl:w.ownsRow base 3 1 l ys.length (ys.map (.int .i64))) (hne:∀k,v.ownBlock=some k→l.ownBlock≠some k)
 (hr:w'.ownsRow base 35 1 v' (us.length+1) (us ++ [l])) (hg:w.grownBy w' v.ownBlock) (hw:v'.ownBlock=v.ownBlock∨v'.ownBlock=some w.heap.size):LLs w' base v' (us ++ [l]) (xss ++ [ys]):=by
 have hlen:=h.len
 have g1:∀i,i<us.length→(us ++ [l]).getD i nilS=us.getD i nilS:=fun i hi=>by simp [List.getD_eq_getElem?_getD,List.getElem?_append_left hi]
 have g2:∀i,i<xss.length→(xss ++ [ys]).getD i []=xss.getD i []:=fun i hi=>by simp [List.getD_eq_getElem?_getD,List.getElem?_append_left hi]
 have g3:(us ++ [l]).getD us.length nilS=l:=by simp [List.getD_eq_getElem?_getD]
 have g4:(xss ++ [ys]).getD xss.length []=ys:=by simp [List.getD_eq_getElem?_getD]
 refine ⟨by rw[List.length_append];exact hr,by simp [hlen],fun i hi=>?_,fun i hi k hk=>?_⟩
 ·by_cases e:i=xss.length
  ·subst e
   rw[g4,← hlen,g3]
   exact Ax hl fun k e=>hg.block k (As hl k e).2 fun e2=>hne k e2.symm e
  have hi':i<xss.length:=by simp at hi;omega
  rw[g1 i (by omega),g2 i hi']
  exact Ax (h.ints i hi') fun k e=>hg.block k (As (h.ints i hi') k e).2 fun e2=>h.ne i hi' k e2.symm e
 by_cases e:i=xss.length
 ·subst e
  rw[← hlen,g3]
  rcases hw with h1|h1
  ·exact hne k (h1 ▸ hk)
  intro e2
  have:=(As hl k e2).2
  rw[h1] at hk
  injection hk with hk
  omega
 have hi':i<xss.length:=by simp at hi;omega
 rw[g1 i (by omega)]
 rcases hw with h1|h1
 ·exact h.ne i hi' k (h1 ▸ hk)
 intro e2
 have:=(As (h.ints i hi') k e2).2
 rw[h1] at hk
 injection hk with hk
 omega
end
def BL (xs:List Int):List Int:=xs.mergeSort fun x y=>decide (x≤y)
theorem EB (xs:List Int):(BL xs).length=xs.length:=List.length_mergeSort xs
def clsL (arr:Nat→Nat) (p:Nat×Nat):List Int:=(List.range p.2).map fun j=>((arr (p.1+j):Nat):Int)
theorem sortInts_ret {w:World} {base:Nat} {v:Value} {xs:List Int} (h:w.ownsRow base 3 1 v xs.length (xs.map (.int .i64))) (hne:0<xs.length) (hsm:xs.length≤1000):
 Ret Tryz.prog 82 #[v] w fun u w'=>u= .tuple #[]∧w'.ownsRow base 3 1 v (BL xs).length ((BL xs).map (.int .i64))∧Only (fun j=>v.ownBlock=some j) w w':=by
 rcases h.2 with ⟨_,h0⟩|⟨g,cap,cur,rfl,hb,hg,h1,h2,h3,h4⟩
 ·omega
 have hcell:∀j (hj:j<xs.length),cur[j]? =some (.int .i64 xs[j]):=fun j hj=>by
  have:(cur.toList.take (xs.length * 1))[j]? =some (.int .i64 xs[j]):=by rw[h4];simp [hj]
  rw[List.getElem?_take] at this
  split at this
  ·rwa [Array.getElem?_toList] at this
  cases this
 have hH:Go.Sort.Holds (Value.int .i64) w g 0 xs.toArray:=fun j hj=>by
  have hj':j<xs.length:=by simpa using hj
  rw[Nat.zero_add]
  refine ⟨Am hg ?_,AQ hg⟩
  rw[hcell j hj',getElem!_pos _ j hj]
  simp
 have hr:=AnyM.slices_Sort_int GY g 0 cap xs w hH (Array.getElem?_eq_some_iff.1 hg).1 (by omega)
 refine Calls.mono hr ?_
 rintro e w' ⟨rfl,n,os,rfl⟩
 have hl:=EB xs
 refine ⟨_,rfl,rfl,⟨by simp,.inr ⟨g,cap,Go.Sort.putCells (Value.int .i64) 0 (BL xs).toArray cur,by rw[hl],hb,?_,by rw[hl];exact h1,h2,by rw[← h3];simp [Go.Sort.putCells],?_⟩⟩,?_⟩
 ·show ((w.heap.modify g _) ++ os)[g]? =_
  rw[Array.getElem?_append_left (by rw[Array.size_modify];exact (Array.getElem?_eq_some_iff.1 hg).1),Array.getElem?_modify,if_pos rfl,hg]
  rfl
 ·refine List.ext_getElem? fun j=>?_
  rw[List.getElem?_take,List.getElem?_map,Array.getElem?_toList]
  by_cases hj:j<xs.length
  ·rw[if_pos (by omega)]
   have hc:j<cur.size:=by omega
   unfold Go.Sort.putCells
   rw[Array.getElem?_mapIdx,Array.getElem?_eq_getElem hc]
   have:j<(BL xs).length:=by omega
   simp [this]
  rw[if_neg (by omega),List.getElem?_eq_none (by omega)];rfl
 refine ⟨rfl,rfl,rfl,?_,fun j hj hn=>?_⟩
 ·show _≤((w.heap.modify g _) ++ os).size
  rw[Array.size_append,Array.size_modify];omega
 show ((w.heap.modify g _) ++ os)[j]? =_
 rw[Array.getElem?_append_left (by rw[Array.size_modify];exact hj),Array.getElem?_modify,if_neg (fun e=>hn (by rw[e];rfl))]
set_option maxHeartbeats 4000000
attribute [local irreducible] EC EL DL Ret thenQ blockQ Bi bodyQ onlyN execOp Sem.run World.cell? World.frozen? World.setCell World.alloc
theorem keep_ret {w:World} {B E Eb A:Nat} {L:Lay} {g:Gph} {arr:Nat→Nat} {P:List (Nat×Nat)} {pv:Value} (hg:GRep w B L g) (hE:GE E L g) (hEA:E≤A) (hEb:E≤Eb) (hA:BW w L A g.nv arr) (hn:g.nv≤48)
 (harr:∀i,i<g.nv→arr i<g.nv) (hP:∀p∈P,2≤p.2∧p.1+p.2≤g.nv) (hPl:P.length≤1000) (hrow:w.ownsRow Eb 113 1 pv P.length (P.map (slV A (g.nv+1)))):
 Ret Tryz.prog 58 #[L.fp,pv] w fun v w'=>v= .tuple #[]∧∃cv us,GRep w' B L { g with cl:=cv }∧LLs w' w.heap.size cv us (P.map fun p=>BL (clsL arr p))∧Only (fun j=>j=L.fb) w w':=by
 refine ret_of_EC Tryz.func58 rfl rfl ?_
 obtain ⟨Bs,hBs⟩:∃Bs,Bs=w.heap.size:=⟨_,rfl⟩
 rw[← hBs]
 have hEB:E≤Bs:=by rw[hBs];have:=(Array.getElem?_eq_some_iff.1 hA).1;omega
 have hfb:=hE.fb
 have hcl0:w.cell? ⟨L.fb,0+5,none⟩=some g.cl:=Am (hg.comp .fn) rfl
 refine Ae (Ac (Ab Ad rfl (Ab (Au rfl) rfl (Ab (Al rfl (Ak rfl)) rfl (Bc (AU (v:=.slice none 0 0) rfl rfl rfl (AH rfl) hcl0 (AQ (hg.comp .fn))) rfl (Af (Aa ?_)))))))
 change EC _ _ _ _ _ (w.setCell ⟨L.fb,0+5,none⟩ (.slice none 0 0))
 have hg1:=hg.setCl (.slice none 0 0)
 have hO1:Only (fun j=>j=L.fb) w (w.setCell ⟨L.fb,0+5,none⟩ (.slice none 0 0)):=(Only.refl _ _).set _ rfl
 generalize w.setCell ⟨L.fb,0+5,none⟩ (.slice none 0 0)=w1 at hg1 hO1 ⊢
 have hgn:∀W,Only (fun j=>j=L.fb) w W→∀k,k<Bs→k≠L.fb→W.heap[k]? =w.heap[k]? :=fun W h k hk hf=>h.block k (by omega) hf
 have hAW:∀W,Only (fun j=>j=L.fb) w W→BW W L A g.nv arr:=fun W h=>(h.block A (Array.getElem?_eq_some_iff.1 hA).1 (by omega)).trans hA
 have hrW:∀W,Only (fun j=>j=L.fb) w W→W.ownsRow Eb 113 1 pv P.length (P.map (slV A (g.nv+1))):=fun W h=>Ax hrow fun k e=>h.block k (As hrow k e).2 (by have:=(As hrow k e).1;omega)
 obtain ⟨pa,pc,hpv⟩:=Bx hrow
 subst hpv
 refine Ae (Ac (Ab Ad rfl (Ab (AN rfl (An rfl)) rfl (Ab Ad rfl (Af (Aa (Ao ?_)))))))
 refine EC_loop (fun m e w2=>∃k us cv,k≤P.length∧GRep w2 B L { g with cl:=cv }∧LLs w2 Bs cv us ((P.take k).map fun p=>BL (clsL arr p))∧Only (fun j=>j=L.fb) w w2∧
  At e [(0,L.fp),(12,.slice pa P.length pc),(13,.int .i64 (P.length:Int)),(14,.int .i64 (k:Int))]∧m=P.length - k) P.length
  ⟨0,[],.slice none 0 0,Nat.zero_le _,hg1,⟨World.ownsRow_nil _ _ _ _,rfl,fun i hi=>(by simp at hi),fun i hi=>(by simp at hi)⟩,hO1,Ar rfl ⟨rfl,rfl,rfl,rfl,trivial⟩,rfl⟩ ?_
 clear hg1 hO1 hcl0
 rintro m e w2 ⟨k,us,cv,hk,hg2,hL,hO,⟨t,rfl⟩,rfl⟩
 refine Ae (Ac (Ab (AX rfl rfl) rfl (Af (Aa (Ae ?_)))))
 refine AI rfl rfl (fun hlt=>?_) (fun hge=>?_)
 rotate_left
 ·have hkp:k=P.length:=by omega
  subst hkp
  rw[List.take_length] at hL
  refine AK (AB (AD (AA ?_)))
  exact BF rfl rfl ⟨rfl,cv,us,hg2,hL,hO⟩
 have hkp:k<P.length:=by omega
 refine Aq (Aa ?_)
 have hrw2:=hrW w2 hO
 obtain ⟨gb,capb,e1,hgb,hgb2,_,hcell⟩:=row_form (w:=w2) (base:=Eb) (el:=113) (v:=.slice pa P.length pc) (xs:=P.map (slV A (g.nv+1))) (by rw[List.length_map];exact hrw2) (k:=k) (by rw[List.length_map];exact hkp)
 rw[List.length_map] at e1
 injection e1 with e1 _ e3
 subst e1
 subst e3
 obtain ⟨q,hq⟩:∃q,q=P[k]:=⟨_,rfl⟩
 have hqP:q∈P:=by rw[hq];exact List.getElem_mem _
 rw[List.getElem_map,← hq] at hcell
 obtain ⟨o,n⟩:=q
 have hcell:w2.cell? ⟨gb,0+k,none⟩=some (.slice (some ⟨A,o,none⟩) n (g.nv+1 - o)):=hcell
 have hon:=hP _ hqP
 have hon2:2≤n:=hon.1
 have honv:o+n≤g.nv:=hon.2
 refine Ae (Ao (Ae (Ac (Ab (x_index1 rfl rfl (An rfl) (by omega)) rfl (Ab (Ai rfl (Ag rfl) ‹_›) rfl ?_)))))
 refine Ab Ah rfl (Af (Aa (Ae (Ac (Ab Ah rfl (Af (Aa (BV [(0,L.fp),(12,.slice (some ⟨gb,0,none⟩) P.length pc),(13,.int .i64 (P.length:Int)),(14,.int .i64 (k:Int)),(5,.slice (some ⟨A,o,none⟩) n (g.nv+1 - o)),(6,.slice none 0 0)] rfl ⟨rfl,rfl,rfl,rfl,rfl,rfl,trivial⟩ fun t=>?_))))))))
 have hO2:=hO.size
 refine AW (fun e w3=>∃l,w3.ownsRow Bs 3 1 l n ((List.range n).map fun i=>.int .i64 ((arr (o+i):Nat):Int))∧(∀q,l.ownBlock=some q→w2.heap.size≤q)∧Only (fun _=>False) w2 w3∧
  At e [(0,L.fp),(12,.slice (some ⟨gb,0,none⟩) P.length pc),(13,.int .i64 (P.length:Int)),(14,.int .i64 (k:Int)),(6,l)]) ?_ ?_
 ·refine Ae (Ac (Ab Ad rfl (Ab (AN rfl (An rfl)) rfl (Ab Ad rfl (Af (Aa (Ao ?_)))))))
  refine EC_loop (fun m e w3=>∃j l,j≤n∧w3.ownsRow Bs 3 1 l j ((List.range j).map fun i=>.int .i64 ((arr (o+i):Nat):Int))∧(∀q,l.ownBlock=some q→w2.heap.size≤q)∧Only (fun _=>False) w2 w3∧
   At e [(0,L.fp),(12,.slice (some ⟨gb,0,none⟩) P.length pc),(13,.int .i64 (P.length:Int)),(14,.int .i64 (k:Int)),(6,l),(18,.slice (some ⟨A,o,none⟩) n (g.nv+1 - o)),(19,.int .i64 (n:Int)),(20,.int .i64 (j:Int))]∧m=n - j) n
   ⟨0,.slice none 0 0,Nat.zero_le _,World.ownsRow_nil _ _ _ _,fun q hq=>(by cases hq),Only.refl _ _,Ar rfl ⟨rfl,rfl,rfl,rfl,rfl,rfl,rfl,rfl,trivial⟩,rfl⟩ ?_
  rintro m e w3 ⟨j,l,hj,hl,hlf,hO3,⟨t,rfl⟩,rfl⟩
  refine Ae (Ac (Ab (AX rfl rfl) rfl (Af (Aa (Ae ?_)))))
  refine AI rfl rfl (fun hlt=>?_) (fun hge=>?_)
  rotate_left
  ·have hjn:j=n:=by omega
   subst hjn
   refine AK (AB (AD (AA ?_)))
   exact AR ⟨l,hl,hlf,hO3,Ar rfl ⟨rfl,rfl,rfl,rfl,rfl,trivial⟩⟩
  have hjn:j<n:=by omega
  refine Aq (Aa ?_)
  have hOw3:=hO.trans (hO3.mono fun _ h=>h.elim)
  have hv:arr (o+j)<g.nv:=harr _ (by omega)
  have hg3:GRep w3 B L { g with cl:=cv }:=hg2.keepE (hE.cl cv) fun q hq=>hO3.block q (by omega) (fun h=>h)
  have hid:w3.cell? ⟨L.vb (arr (o+j)),0+0,none⟩=some (.int .i32 (((arr (o+j):Nat):Int)+1)):=hg3.vID (i:=arr (o+j)) hv
  have hca:w3.cell? ⟨A,o+j,none⟩=some (L.vp (arr (o+j))):=Am (hAW w3 hOw3) (by rw[Bf _ (by omega)];unfold arV;rw[if_pos (by omega)])
  refine Ae (Ao (Ae (Ac (Ab (x_index1 rfl rfl (An rfl) (by omega)) rfl (Ab (Ai rfl (Ag rfl) ‹_›) rfl ?_)))))
  refine Ab Ah rfl (Af (Aa (Ac (Ab Ad rfl (Ab Ad rfl (Ab (Au rfl) rfl (Ab (Al rfl (Ak rfl)) rfl (Ab (Ai rfl (Ag rfl) ‹_›) rfl ?_))))))))
  refine Ab (Ce (m:=((arr (o+j):Nat):Int)+1) rfl (by kernel_rfl) (B2 rfl) (IntWalk.i64_in _ (by omega))) rfl (Ab (Ch rfl rfl (by omega)) rfl ?_)
  rw[show ((arr (o+j):Nat):Int)+1 - 1=((arr (o+j):Nat):Int) by omega]
  refine Ab (Bo (v:=.int .i64 ((arr (o+j):Nat):Int)) rfl rfl Tryz.underlying35 (by kernel_rfl) (z:=.int .i64 0) rfl) rfl ?_
  have hs3:=hO3.size
  refine el_new0 (.cells #[.int .i64 ((arr (o+j):Nat):Int)] 3) fun w5 hN5 hO5 hZ5 hB5 hK5=>?_
  have hl5:=Ax hl (w':=w5) fun q e=>hO5 q (As hl q e).2
  refine BD hl5 (Am hN5 rfl) rfl (by omega) (by decide) (by omega) Tryz.underlying35 Cb rfl rfl rfl rfl ?_
  intro l6 w6 hrow6 hgr6 hwh6
  have hO6:Only (fun _=>False) w2 w6:=(hO3.bel hs3 hB5).grow hgr6 fun q hq=>hlf q hq
  refine Ab Ah rfl (Af (Ap (Aa (Ac (Ab (x_inc rfl rfl (by omega)) rfl (Ab Ad rfl (Af ?_)))))))
  refine Aw (n - (j+1)) (by omega) ⟨j+1,l6,by omega,?_,fun q hq=>?_,hO6,Ar rfl ⟨rfl,rfl,rfl,rfl,rfl,rfl,rfl,rfl,trivial⟩,rfl⟩
  ·rw[List.range_succ,List.map_append]
   exact hrow6
  rcases hwh6 with h1|h1
  ·exact hlf q (h1 ▸ hq)
  rw[h1] at hq
  injection hq with hq
  omega
 rintro e w3 ⟨l,hl,hlf,hO3,⟨t,rfl⟩⟩
 have hs3:=hO3.size
 have hlc:w3.ownsRow Bs 3 1 l (clsL arr (o,n)).length ((clsL arr (o,n)).map (.int .i64)):=by
  have e1:(clsL arr (o,n)).length=n:=by simp [clsL]
  have e2:(clsL arr (o,n)).map (Value.int .i64)=(List.range n).map fun i=>.int .i64 ((arr (o+i):Nat):Int):=by simp [clsL,List.map_map,Function.comp_def]
  rw[e1,e2];exact hl
 have hcl:(clsL arr (o,n)).length=n:=by simp [clsL]
 refine Ae (Ac (Ab Ad rfl (Be (AG Tryz.func82 rfl rfl rfl rfl) rfl (sortInts_ret hlc (by omega) (by omega)) ?_)))
 rintro _ w4 ⟨rfl,hl4,hO4⟩
 refine Af (Aa ?_)
 have hb4:Below w2.heap.size w3 w4:=hO4.below hs3 fun q hq=>hlf q hq
 have hs4:=hb4.size
 have hk4:∀q,q<w2.heap.size→w4.heap[q]? =w2.heap[q]? :=fun q hq=>(hb4.block q hq).trans (hO3.block q hq fun h=>h)
 have hg4:GRep w4 B L { g with cl:=cv }:=hg2.keepE (hE.cl cv) fun q hq=>hk4 q (by omega)
 have hL4:=hL.on (w':=w4) fun q _ hq=>hk4 q hq
 have hcv4:w4.cell? ⟨L.fb,0+5,none⟩=some cv:=Am (hg4.comp .fn) rfl
 have hOw4:Only (fun j=>j=L.fb) w w4:=(hO.trans (hO3.mono fun _ h=>h.elim)).bel (by omega) hb4
 refine Ac (Ab Ad rfl (Ab Ad rfl (Ab (Au rfl) rfl (Ab (Al rfl (Ak rfl)) rfl (Ab (Ai rfl (Ag rfl) ‹_›) rfl ?_)))))
 refine Ab Ad rfl (Ab (Bo (v:=l) rfl (Bd hl4) Tryz.underlying33 (by kernel_rfl) (z:=.slice none 0 0) rfl) rfl ?_)
 have hul:=hL.len
 rw[List.length_map,List.length_take] at hul
 refine el_new0 (.cells #[l] 35) fun w5 hN5 hO5 hZ5 hB5 hK5=>?_
 have hL5:=hL4.on (w':=w5) fun q _ hq=>hO5 q hq
 have hg5:GRep w5 B L { g with cl:=cv }:=hg4.on hB5
 have hl5:=Ax hl4 (w':=w5) fun q e=>hO5 q (As hl4 q e).2
 refine BD hL5.row (Am hN5 rfl) (Bd hl4) (by omega) (by decide) (by omega) Tryz.underlying33 FO rfl rfl rfl rfl ?_
 intro v6 w6 hrow6 hgr6 hwh6
 have hvb:∀q,cv.ownBlock=some q→Bs≤q∧q<w2.heap.size:=fun q hq=>As hL.row q hq
 have hL6:=hL5.push hl5 (fun q hq e=>by have:=hvb q hq;have:=hlf q e;omega) hrow6 hgr6 hwh6
 have hg6:GRep w6 B L { g with cl:=cv }:=hg5.keepE (hE.cl cv) fun q hq=>hgr6.block q (by omega) fun e=>by have:=hvb q e.symm;omega
 have hOw6:Only (fun j=>j=L.fb) w w6:=(hOw4.bel (by omega) hB5).grow hgr6 fun q hq=>by have:=hvb q hq;omega
 refine Ab (Au rfl) rfl (Ab (Al rfl (Ak rfl)) rfl (Bc (AU (v:=v6) rfl rfl (Bd hrow6) (AH rfl) (old:=cv) (Am (hg6.comp .fn) rfl) (AQ (hg6.comp .fn))) rfl (Af (Ap (Aa ?_)))))
 change EC _ _ _ _ _ (w6.setCell ⟨L.fb,0+5,none⟩ v6)
 have hg7:=hg6.setCl v6
 have hO7:=hOw6.set (s:=L.fb) (o:=0+5) v6 rfl
 have hL7:=hL6.on (w':=w6.setCell ⟨L.fb,0+5,none⟩ v6) fun q hq _=>Below.heap_setCell _ _ _ _ (show q≠L.fb by omega)
 generalize w6.setCell ⟨L.fb,0+5,none⟩ v6=w7 at hg7 hO7 hL7 ⊢
 refine Ac (Ab (x_inc rfl rfl (by omega)) rfl (Ab Ad rfl (Af ?_)))
 refine Aw (P.length - (k+1)) (by omega) ⟨k+1,us ++ [l],v6,by omega,hg7,?_,hO7,Ar rfl ⟨rfl,rfl,rfl,rfl,trivial⟩,rfl⟩
 rw[List.take_add_one,List.getElem?_eq_getElem hkp,← hq,List.map_append]
 exact hL7
end Go.Proofs.YteepnepebilckaaGreatDoor
namespace Go.Eng
open Go Go.RowKit
section
variable {P : Program}
def Ek (P:Program) (w:World) (D:Deferred):Prop:=∃fv cap f args,D.target= .fn fv cap∧(∀w,(invoke D.target D.args).run P w= .ok (.enter f args) w)∧
 ∀u w',Below w.heap.size w w'→CallsD P f args u w' fun e u' w''=>u'=u∧∃v,e= .returned v∧Below w'.heap.size w' w''
theorem Idle.at {D:Deferred} (h:Idle P D) (w:World):Ek P w D:=by
 obtain ⟨fv,cap,f,args,h1,h2,h3⟩:=h
 exact ⟨fv,cap,f,args,h1,h2,fun u w' _=>h3 u w'⟩
theorem leaves_idleW {fn:Func} {tmps:Array Value} {R:Ending→World→Prop} {w0:World}:∀(ds:List Deferred),(∀D∈ds,Ek P w0 D)→∀w,Below w0.heap.size w0 w→(∀w',Below w.heap.size w w'→∃v,(results fn tmps).run P w'= .ok v w'∧R (.returned v) w')→Leaves P fn tmps R ds .returning w
 | [],_,w,_,h=>h w (Below.refl _ _)
 |D :: ds,hd,w,h0,h=>by
  obtain ⟨fv,cap,f,args,h1,h2,h3⟩:=hd D (.head _)
  refine ⟨by simp,fv,cap,f,args,h1,h2 w,(h3 .returning w h0).mono ?_⟩
  rintro e u' w' ⟨rfl,v,rfl,hb⟩
  exact leaves_idleW ds (fun D hD=>hd D (.tail _ hD)) w' (h0.trans (hb.mono h0.size)) fun w'' hb'=>h w'' (hb.trans (hb'.mono hb.size))
def bodyQW (P:Program) (fn:Func) (S:Value→World→Prop):Exit→Env→World→Prop
 |.normal,e,w|.ret,e,w=>(∀D∈e.d,Ek P w D)∧∃v,∀w',Below w.heap.size w w'→(∀a,Rep fn.ntmps e a→(results fn a.tmps).run P w'= .ok v w')∧S v w'
 |_,_,_=>False
theorem ret_of_EC_W {w:World} {f:FuncId} {fn:Func} {c:Code} {l:List Value} {S:Value→World→Prop} (hf:P.funcs[f]? =some fn) (hb:fn.body=some c) (hl:Nat.ble l.length fn.ntmps=true)
 (h:EC P fn.ntmps c (bodyQW P fn S) ⟨env0 l 0,[]⟩ w):Ret P f l.toArray w S:=by
 have hl':l.length≤fn.ntmps:=Nat.le_of_ble_eq_true hl
 refine calls_of_wp_defers hf hb (h _ _ ⟨?_,rfl,fun k hk=>?_⟩ ?_)
 ·simp;omega
 ·show _=env0 l 0 k
  rw[env0_spec l 0 k (Nat.zero_le _),Array.getD_eq_getD_getElem?,Array.getElem?_append]
  by_cases hkl:k<l.length
  ·simp [hkl]
  rw[if_neg (by simpa using hkl)]
  simp only [List.size_toArray,Nat.sub_zero]
  rw[List.getElem?_eq_none (by omega)]
  simp [show k - l.length<fn.ntmps - l.length by omega]
 intro x e' a' w' hr' hx
 cases x with
 |normal=>
  obtain ⟨hd,v,hv⟩:=hx
  show Leaves P fn a'.tmps _ a'.defers .returning w'
  rw[hr'.d]
  exact leaves_idleW _ hd w' (Below.refl _ _) fun w'' hb'=>⟨v,(hv w'' hb').1 a' hr',v,rfl,(hv w'' hb').2⟩
 |ret=>
  obtain ⟨hd,v,hv⟩:=hx
  show Leaves P fn a'.tmps _ a'.defers .returning w'
  rw[hr'.d]
  exact leaves_idleW _ hd w' (Below.refl _ _) fun w'' hb'=>⟨v,(hv w'' hb').1 a' hr',v,rfl,(hv w'' hb').2⟩
 |exit i=>exact hx.elim
 |goto l=>exact hx.elim
 |panic ch=>exact hx.elim
 |outgrown=>exact hx.elim
theorem Fh {w:World} {fn:Func} {e:Env} {S:Value→World→Prop} (hres:fn.results=#[]) (hd:∀D∈e.d,Ek P w D) (h:∀w',Below w.heap.size w w'→S (.tuple #[]) w'):bodyQW P fn S .normal e w:=
 ⟨hd,_,fun w' hb=>⟨fun a _=>by rw[results_none hres],h w' hb⟩⟩
end
end Go.Eng
namespace Go.Proofs.YteepnepebilckaaGreatDoor
open Go Go.Eng Go.RowKit Go.Shelf
def dropC:Nat→Code→Code
 |0,c=>c
 |n+1,.seq _ b=>dropC n b
 |_+1,c=>c
noncomputable def BZ:Code:=Tryz.f41.body.getD .skip
section
variable {w : World} {ρ : Operand → Value} {d : Option Tmp} {ty : TypeId} {pos : String} {af : Array Edge} {g : Option (Nat × Bool)} {x y z : Operand} {r c b : Nat}
theorem FH (hx:ρ x= .map (some r)) (hy:ρ y= .pointer none) (h:w.heap[r]? =some (.map #[] c)):(execOp ρ ⟨d,.lookup 80 x y false,ty,pos,af,g⟩).run Tryz.prog w= .ok (.value (.int .i32 0)) w:=by
 have k0:(getObj r).run Tryz.prog w= .ok (.map #[] c) w:=by simp [getObj,Sem.run,h]
 have k1:(Instr.checkKey true 10000 98 (.pointer none)).run Tryz.prog w= .ok () w:=by kernel_rfl
 have k2:(Instr.findKey 98 (.pointer none) []).run Tryz.prog w= .ok none w:=by kernel_rfl
 have k3:(zeroValue 21).run Tryz.prog w= .ok (.int .i32 0) w:=by kernel_rfl
 simp [execOp,hx,hy,Instr.lookup,run_underlying Tryz.underlying80,k0,k1,k2,k3,Sem.run_bind]
theorem F6 (hx:ρ x= .map (some r)) (hy:ρ y= .pointer none) (h:w.heap[r]? =some (.map #[⟨.pointer none,.int .i32 1,b⟩] c)):(execOp ρ ⟨d,.lookup 80 x y false,ty,pos,af,g⟩).run Tryz.prog w= .ok (.value (.int .i32 1)) w:=by
 have k0:(getObj r).run Tryz.prog w= .ok (.map #[⟨.pointer none,.int .i32 1,b⟩] c) w:=by simp [getObj,Sem.run,h]
 have k1:(Instr.checkKey false 10000 98 (.pointer none)).run Tryz.prog w= .ok () w:=by kernel_rfl
 have k2:(Instr.findKey 98 (.pointer none) [⟨.pointer none,.int .i32 1,b⟩]).run Tryz.prog w= .ok (some (0,.int .i32 1)) w:=by kernel_rfl
 simp [execOp,hx,hy,Instr.lookup,run_underlying Tryz.underlying80,k0,k1,k2,Sem.run_bind]
theorem FP (hx:ρ x= .map (some r)) (h:w.heap[r]? =some (.map #[] c)):(execOp ρ ⟨d,.call { callee:=.builtin .len,args:=#[x],argTypes:=#[80] },ty,pos,af,g⟩).run Tryz.prog w= .ok (.value (.int .i64 0)) w:=by
 have k0:(getObj r).run Tryz.prog w= .ok (.map #[] c) w:=by simp [getObj,Sem.run,h]
 have key:(Builtin.len_ #[80] ty #[.map (some r)]).run Tryz.prog w= .ok (.int .i64 0) w:=by
  simp [Builtin.len_,run_underlying Tryz.underlying80,k0,Sem.run_bind]
  rfl
 unfold execOp
 simp only [resolve,invoke,builtin,Sem.run_bind,Sem.run_pure,Result.andThen_ok,List.map_toArray,List.map_cons,List.map_nil,hx,key]
theorem GL (hx:ρ x= .map (some r)) (hy:ρ y= .pointer none) (hz:ρ z= .int .i32 1) (h:w.heap[r]? =some (.map #[] c)):
 (execOp ρ ⟨none,.mapUpdate 80 x y z,ty,pos,af,g⟩).run Tryz.prog w= .ok .skip { w with heap:=w.heap.setIfInBounds r (.map #[⟨.pointer none,.int .i32 1,c⟩] (c+1)) }:=by
 have k0:(getObj r).run Tryz.prog w= .ok (.map #[] c) w:=by simp [getObj,Sem.run,h]
 have k9:(setObj r (.map #[⟨.pointer none,.int .i32 1,c⟩] (c+1))).run Tryz.prog w= .ok () { w with heap:=w.heap.setIfInBounds r (.map #[⟨.pointer none,.int .i32 1,c⟩] (c+1)) }:=by simp [setObj,Sem.run,h]
 have k1:(Instr.checkKey false 10000 98 (.pointer none)).run Tryz.prog w= .ok () w:=by kernel_rfl
 have k2:(Instr.findKey 98 (.pointer none) []).run Tryz.prog w= .ok none w:=by kernel_rfl
 simp [execOp,hx,hy,hz,Instr.mapUpdate,run_underlying Tryz.underlying80,k0,k1,k2,Sem.run_bind,k9]
theorem F5:(execOp ρ ⟨d,.makeMap 80 none,ty,pos,af,g⟩).run Tryz.prog w= .ok (.value (.map (some w.heap.size))) (w.alloc (.map #[] 0)):=by
 simp [execOp,run_makeMap]
theorem GR (hx:ρ x= .map none) (hy:ρ y= .map none) {u:TypeId}:(execOp ρ ⟨d,.binOp .eql 80 x y u,ty,pos,af,g⟩).run Tryz.prog w= .ok (.value (.bool true)) w:=by
 have key:(Op.equal 80 (.map none) (.map none)).run Tryz.prog w= .ok true w:=by kernel_rfl
 simp [execOp,hx,hy,eqGuard,binOp,key]
theorem Gx {f:FuncId} {cb:Array Value} (hx:ρ x= .func (.func f) #[] cb):(execOp ρ ⟨none,.defer { callee:=.value x,args:=#[],argTypes:=#[] },ty,pos,af,g⟩).run Tryz.prog w= .ok (.defer ⟨.fn (.func f) cb,#[]⟩) w:=by
 simp [execOp,resolve,Deferred.ofValue,hx]
theorem x_appRoom {P:Program} {t el:TypeId} {zv:Value} {bytes A n M q:Nat} {R:Nat→Value} {u:Value} (ht:P.underlying t=some (.slice el)) (hi:(P.info? el).map (fun i=>(i.zero,i.size,i.bytes))=some (some zv,1,bytes))
 (hx:ρ x= .slice (some ⟨A,0,none⟩) n M) (hg:w.heap[A]? =some (.cells (cellsOf R M) el (0,0))) (hy:ρ y= .slice (some ⟨q,0,none⟩) 1 1) (hu:w.cell? ⟨q,0,none⟩=some u) (h1:u.oneCell'=true) (hn:n<M):
 ∃w',(execOp ρ ⟨d,.call { callee:=.builtin .append,args:=#[x,y],argTypes:=#[t,t] },ty,pos,af,g⟩).run P w= .ok (.value (.slice (some ⟨A,0,none⟩) (n+1) M)) w'∧
  w'.heap[A]? =some (.cells (cellsOf (fun i=>if i=n then u else R i) M) el (0,0))∧Only (fun j=>j=A) w w':=by
 obtain ⟨i,hi1,_,hi3,_⟩:=info_parts hi
 have hr:=run_append_room (P:=P) w t ty el i ht hi1 A n M (cellsOf R M) hg ⟨q,0,none⟩ 1 1 [u] (by rw[hi3];rfl) (fun j y hj=>by
  cases j with
  |zero=>simp at hj;subst hj;simpa [Addr.add] using hu
  |succ j=>simp at hj) (fun y hy=>by simp at hy;subst hy;exact h1) (by omega) (by rw[hi3,Cl];simp;omega)
 have hA:=(Array.getElem?_eq_some_iff.1 hg).1
 have hcells:(List.take (n * i.size) (cellsOf R M).toList ++ [u] ++ List.drop (n * i.size+ [u].length) (cellsOf R M).toList).toArray=cellsOf (fun i=>if i=n then u else R i) M:=by
  rw[hi3,Nat.mul_one]
  unfold cellsOf
  congr 1
  refine List.ext_getElem? fun k=>?_
  rw[List.append_assoc]
  by_cases h1:k<n
  ·rw[List.getElem?_append_left (by simp;omega),List.getElem?_take,if_pos h1]
   simp [List.getElem?_range (show k<M by omega),show k≠n by omega]
  have hl:(List.take n ((List.range M).map R)).length=n:=by simp;omega
  rw[List.getElem?_append_right (by rw[hl];omega),hl]
  by_cases h2:k=n
  ·subst h2
   simp [hn]
  obtain ⟨m,hm⟩:∃m,k - n=m+1:=⟨k - n - 1,by omega⟩
  rw[hm]
  simp only [List.cons_append,List.nil_append,List.getElem?_cons_succ,List.getElem?_drop,List.length_singleton]
  rw[show n+1+m=k by omega]
  by_cases hk:k<M
  ·simp [List.getElem?_range hk,h2]
  simp [hk]
 refine ⟨w.setRow A (cellsOf (fun i=>if i=n then u else R i) M),?_,setRow_heap w A _ _ _ _ hg,⟨rfl,rfl,rfl,by simp [World.setRow],fun j hj hn=>setRow_other w A j _ hn⟩⟩
 unfold execOp
 simp only [resolve,invoke,builtin,Sem.run_bind,Sem.run_pure,Result.andThen_ok,List.map_toArray,List.map_cons,List.map_nil,hx,hy]
 rw[hr,hcells]
 rfl
end
end Go.Proofs.YteepnepebilckaaGreatDoor
