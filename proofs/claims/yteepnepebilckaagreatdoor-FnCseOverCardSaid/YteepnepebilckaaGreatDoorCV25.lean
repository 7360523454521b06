/- The law FnCseOver returns true for every input in which the opcode table reads as laid, and its argument reads as it did, the table being tied to the text of the program. -/
import Derived.Test.YteepnepebilckaaGreatDoorCV24
namespace Go.Proofs.YteepnepebilckaaGreatDoor
open Go Go.Eng Go.RowKit Go.Shelf
theorem GRep.cong {w:World} {B:Nat} {L:Lay} {g:Gph} (h:GRep w B L g) {A C:Nat→List Nat} (hA:∀v,v<g.nv→A v=g.args v) (hC:∀k,k<g.nb→C k=g.ctrl k):GRep w B L { g with args:=A,ctrl:=C }:=by
 refine ⟨fun τ=>?_,h.tags.same rfl rfl⟩
 have h1:=h.comp τ
 cases τ with
 |args i=>intro hi;show Row _ _ _ _ ((A i).map L.vp);rw[hA i hi];exact h1 hi
 |ctrl i=>intro hi;show Row _ _ _ _ ((C i).map L.vp);rw[hC i hi];exact h1 hi
 |_=>exact h1
theorem GE.ac {E:Nat} {L:Lay} {g:Gph} (h:GE E L g) (A C:Nat→List Nat):GE E L { g with args:=A,ctrl:=C }:=⟨h.fb,h.bb,h.vb,fun τ hτ hl=>h.sl τ hτ (by cases τ <;> exact hl)⟩
def fR (rw:Nat→Option Nat) (x:Nat):Nat:=(rw (x+1)).getD x
open Classical in
noncomputable def Cw (g:Gph) (f:Nat→Nat) (S:List Nat):Nat→List Nat:=fun x=>if x∈S then (g.args x).map f else g.args x
def Cr (g:Gph) (f:Nat→Nat) (k:Nat):Nat→List Nat:=fun x=>if x<k then (g.ctrl x).map f else g.ctrl x
def mpt (f:Nat→Nat) (l:List Nat) (a:Nat):List Nat:=(l.take a).map f ++ l.drop a
theorem mpt_len (f:Nat→Nat) (l:List Nat) (a:Nat):(mpt f l a).length=l.length:=by unfold mpt;simp;omega
theorem mpt_get (f:Nat→Nat) {l:List Nat} {a:Nat} (h:a<l.length):(mpt f l a).getD a 0=l.getD a 0:=by
 unfold mpt
 rw[List.getD_eq_getElem?_getD,List.getElem?_append_right (by simp;omega),List.getD_eq_getElem?_getD]
 simp [show min a l.length=a by omega]
theorem Fp (f:Nat→Nat) (l:List Nat):mpt f l l.length=l.map f:=by unfold mpt;simp
theorem mpt_set (f:Nat→Nat) {l:List Nat} {a:Nat} (h:a<l.length):(mpt f l a).set a (f (l.getD a 0))=mpt f l (a+1):=by
 have hg:l.getD a 0=l[a]:=by rw[List.getD_eq_getElem?_getD,List.getElem?_eq_getElem h];rfl
 unfold mpt
 rw[List.set_append_right _ _ (by simp;omega),hg]
 have h6:a - ((l.take a).map f).length=0:=by simp;omega
 rw[h6,List.drop_eq_getElem_cons h,List.set_cons_zero,List.take_succ_eq_append_getElem h,List.map_append,List.append_assoc]
 rfl
theorem E7 (f:Nat→Nat) {l:List Nat} {a:Nat} (h:a<l.length) (e:f (l.getD a 0)=l.getD a 0):mpt f l a=mpt f l (a+1):=by
 have hg:l.getD a 0=l[a]:=by rw[List.getD_eq_getElem?_getD,List.getElem?_eq_getElem h];rfl
 rw[hg] at e
 unfold mpt
 rw[List.drop_eq_getElem_cons h,List.take_succ_eq_append_getElem h,List.map_append,List.append_assoc]
 show _=_ ++ ([f l[a]] ++ _)
 rw[e];rfl
noncomputable def BX (g:Gph) (f:Nat→Nat) (S:List Nat) (v a:Nat):Nat→List Nat:=fun x=>if x=v then mpt f (g.args v) a else Cw g f S x
theorem Gg (g:Gph) (f:Nat→Nat) {S:List Nat} {v:Nat} (hv:v∉S):BX g f S v 0=Cw g f S:=by
 funext x
 unfold BX Cw
 by_cases e:x=v
 ·subst e;rw[if_pos rfl,if_neg hv];rfl
 rw[if_neg e]
theorem mapP_all (g:Gph) (f:Nat→Nat) {S:List Nat} {v:Nat}:BX g f S v (g.args v).length=Cw g f (S ++ [v]):=by
 funext x
 unfold BX Cw
 by_cases e:x=v
 ·subst e;rw[if_pos rfl,if_pos (by simp),Fp]
 rw[if_neg e]
 by_cases h:x∈S
 ·rw[if_pos h,if_pos (by simp [h])]
 rw[if_neg h,if_neg (by simp [h,e])]
theorem GJ (g:Gph) (f:Nat→Nat) {S:List Nat} {v a:Nat} (h:a<(g.args v).length):(fun x=>if x=v then (BX g f S v a v).set a (f ((g.args v).getD a 0)) else BX g f S v a x)=BX g f S v (a+1):=by
 funext x
 by_cases e:x=v
 ·subst e
  rw[if_pos rfl]
  unfold BX
  rw[if_pos rfl,if_pos rfl]
  exact mpt_set f h
 rw[if_neg e]
 unfold BX
 rw[if_neg e,if_neg e]
theorem F0 (g:Gph) (f:Nat→Nat) {S:List Nat} {v a:Nat} (h:a<(g.args v).length) (e:f ((g.args v).getD a 0)=(g.args v).getD a 0):BX g f S v a=BX g f S v (a+1):=by
 funext x
 unfold BX
 rw[E7 f h e]
def B6 (g:Gph) (f:Nat→Nat) (k a:Nat):Nat→List Nat:=fun x=>if x=k then mpt f (g.ctrl k) a else Cr g f k x
theorem ctrP_zero (g:Gph) (f:Nat→Nat) (k:Nat):B6 g f k 0=Cr g f k:=by
 funext x
 unfold B6 Cr
 by_cases e:x=k
 ·subst e;rw[if_pos rfl,if_neg (by omega)];rfl
 rw[if_neg e]
theorem ctrP_all (g:Gph) (f:Nat→Nat) (k:Nat):B6 g f k (g.ctrl k).length=Cr g f (k+1):=by
 funext x
 unfold B6 Cr
 by_cases e:x=k
 ·subst e;rw[if_pos rfl,if_pos (by omega),Fp]
 rw[if_neg e]
 by_cases h:x<k
 ·rw[if_pos h,if_pos (by omega)]
 rw[if_neg h,if_neg (by omega)]
theorem Gr (g:Gph) (f:Nat→Nat) {k a:Nat} (h:a<(g.ctrl k).length):(fun x=>if x=k then (B6 g f k a k).set a (f ((g.ctrl k).getD a 0)) else B6 g f k a x)=B6 g f k (a+1):=by
 funext x
 by_cases e:x=k
 ·subst e
  rw[if_pos rfl]
  unfold B6
  rw[if_pos rfl,if_pos rfl]
  exact mpt_set f h
 rw[if_neg e]
 unfold B6
 rw[if_neg e,if_neg e]
theorem F9 (g:Gph) (f:Nat→Nat) {k a:Nat} (h:a<(g.ctrl k).length) (e:f ((g.ctrl k).getD a 0)=(g.ctrl k).getD a 0):B6 g f k a=B6 g f k (a+1):=by
 funext x
 unfold B6
 rw[E7 f h e]
set_option maxHeartbeats 4000000
attribute [local irreducible] EC EL DL Ret thenQ blockQ Bi bodyQ onlyN execOp Sem.run World.cell? World.frozen? World.setCell World.alloc
theorem Fe {w:World} {B E:Nat} {L:Lay} {g:Gph} (h:GRep w B L g) (hE:GE E L g) {i k j:Nat} (hi:i<g.nv) (hk:k<(g.args i).length):
 Ret Tryz.prog 69 #[L.vp i,.int .i64 (k:Int),L.vp j] w fun v w'=>v= .tuple #[]∧GRep w' B L (g.setArg i k j)∧Below B w w'∧Only (fun j=>j<E) w w':=by
 obtain ⟨b,cap,hv,hob,hc,hf⟩:=h.argsE hi hk
 have h1:=h.vArgs hi
 rw[hv] at h1
 have hlt:=(h.slLt (τ:=.args i) rfl hi b hob).1
 have hle:b<E:=hE.sl (.args i) rfl hi b hob
 refine ret_of_EC Tryz.func69 rfl rfl (Ac (Ab Ad rfl (Ab (Au rfl) rfl (Ab (Al rfl (Ak rfl)) rfl (Ab (Ai rfl (Ag rfl) ‹_›) rfl ?_)))))
 refine Ab Ad rfl (Ab Ad rfl (Ab (x_index1 rfl rfl (An rfl) (by omega)) rfl (Bc (AU rfl rfl rfl (AH rfl) hc (hf _)) rfl (Af ?_))))
 refine BF rfl rfl ⟨rfl,?_,Dv hlt,(Only.refl _ w).set (L.vp j) hle⟩
 rw[Nat.zero_add]
 exact h.setArg hi hk hob
theorem Dw {w:World} {B E:Nat} {L:Lay} {g:Gph} (h:GRep w B L g) (hE:GE E L g) {b k j:Nat} (hb:b<g.nb) (hk:k<(g.ctrl b).length):
 Ret Tryz.prog 71 #[L.bp b,.int .i64 (k:Int),L.vp j] w fun v w'=>v= .tuple #[]∧GRep w' B L (g.setCtrl b k j)∧Below B w w'∧Only (fun j=>j<E) w w':=by
 obtain ⟨b1,cap,hv,hob,hc,hf⟩:=h.ctrlE hb hk
 have h1:=h.bCtrl hb
 rw[hv] at h1
 have hlt:=(h.slLt (τ:=.ctrl b) rfl hb b1 hob).1
 have hle:b1<E:=hE.sl (.ctrl b) rfl hb b1 hob
 refine ret_of_EC Tryz.func71 rfl rfl (Ac (Ab Ad rfl (Ab (Au rfl) rfl (Ab (Al rfl (Ak rfl)) rfl (Ab (Ai rfl (Ag rfl) ‹_›) rfl ?_)))))
 refine Ab Ad rfl (Ab Ad rfl (Ab (x_index1 rfl rfl (An rfl) (by omega)) rfl (Bc (AU rfl rfl rfl (AH rfl) hc (hf _)) rfl (Af ?_))))
 refine BF rfl rfl ⟨rfl,?_,Dv hlt,(Only.refl _ w).set (L.vp j) hle⟩
 rw[Nat.zero_add]
 exact h.setCtrl hb hk hob
section
variable {w : World} {B E fbx RB : Nat} {L : Lay} {g : Gph} {Q : Exit → Env → World → Prop} {t : Nat → Value} {ds : List Deferred} {rw : Nat → Option Nat}
theorem cseG (h0:GRep w B L g) (hE:GE E L g) (hER:E≤RB) (hn:g.nv≤48) (hnb:g.nb≤9) (hbv:∀k,k<g.nb→∀v∈g.bvals k,v<g.nv) (hperm:(preK g g.nb).Perm (List.range g.nv)) (ha:∀v,v<g.nv→(g.args v).length≤1000∧∀x∈g.args v,x<g.nv)
 (hct:∀k,k<g.nb→(g.ctrl k).length≤1000∧∀c∈g.ctrl k,c<g.nv) (hop:∀v,v<g.nv→g.op v≤15) (hfb:w.heap[fbx]? =some (.cells #[L.fp] 71 (0,0))) (hR:w.heap[RB]? =some (.cells (cellsOf (fun i=>ptO L (rw i)) (g.nv+1)) 97 (0,0)))
 (h:∀t w',GRep w' B L (g.mv (fR rw))→Below B w w'→Only (fun j=>j<E) w w'→Q .normal (Env.sets ⟨t,ds⟩ []) w'):
 EC Tryz.prog Tryz.f41.ntmps (dropC 20 BZ) Q (Env.sets ⟨t,ds⟩ [(1,.pointer (some ⟨fbx,0,none⟩)),(43,.slice (some ⟨RB,0,none⟩) (g.nv+1) (g.nv+1))]) w:=by
 obtain ⟨f,hf⟩:∃f,f=fR rw:=⟨_,rfl⟩
 rw[← hf] at h
 obtain ⟨fa,fc,hfs⟩:=h0.fblocksV
 have h1:=h0.fBlocks
 rw[hfs] at h1
 have h2:w.cell? ⟨fbx,0,none⟩=some L.fp:=Am hfb rfl
 have htot:(preK g g.nb).length=g.nv:=by rw[hperm.length_eq,List.length_range]
 have hnod:(preK g g.nb).Nodup:=hperm.nodup_iff.2 List.nodup_range
 have hRw:∀W,Only (fun j=>j<E) w W→W.heap[RB]? =some (.cells (cellsOf (fun i=>ptO L (rw i)) (g.nv+1)) 97 (0,0)):=fun W hO=>(hO.block RB (Bg hR) (by omega)).trans hR
 have hBw:B≤w.heap.size:=h0.baseLe
 have hgn:∀{W W':World},Gn W W'→Only (fun j=>j<E) w W→Below B w W→Only (fun j=>j<E) w W'∧Below B w W':=fun hG hO hb=>by
  have:=hO.size
  exact ⟨hO.bel this hG.below,hb.trans (hG.below.mono (by omega))⟩
 refine Ae (Ac (Ab (Ai rfl (Ag rfl) ‹_›) rfl ?_))
 refine Ab (Au rfl) rfl (Ab (Al rfl (Ak rfl)) rfl (Ab (Ai rfl (Ag rfl) ‹_›) rfl ?_))
 refine Ab (AN rfl (An rfl)) rfl (Ab Ad rfl (Af (Aa (Ao ?_))))
 refine EC_loop (fun m e w1=>∃k,k≤g.nb∧GRep w1 B L { g with args:=Cw g f (preK g k),ctrl:=Cr g f k }∧Below B w w1∧Only (fun j=>j<E) w w1∧AtD e ds [(1,.pointer (some ⟨fbx,0,none⟩)),(43,.slice (some ⟨RB,0,none⟩) (g.nv+1) (g.nv+1)),(525,.slice fa g.nb fc),(526,.int .i64 (g.nb:Int)),(527,.int .i64 (k:Int))]∧m=g.nb - k) g.nb
  ⟨0,Nat.zero_le _,h0.cong (fun v _=>if_neg (by simp [preK])) (fun k _=>if_neg (Nat.not_lt_zero _)),Below.refl _ _,Only.refl _ _,AT rfl ⟨rfl,rfl,rfl,rfl,rfl,trivial⟩,rfl⟩ ?_
 clear h1 h2 hfb
 rintro m e w1 ⟨k,hk,hg,hbl,hO,⟨t,rfl⟩,rfl⟩
 refine Ae (Ac (Ab (AX rfl rfl) rfl (Af (Aa (Ae ?_)))))
 refine AI rfl rfl (fun hlt=>?_) (fun hge=>?_)
 rotate_left
 ·have hkn:k=g.nb:=by omega
  rw[hkn] at hg
  refine AK (AB (AD (AA ?_)))
  refine h _ w1 ?_ hbl hO
  exact hg.cong (A:=fun v=>(g.args v).map f) (C:=fun b=>(g.ctrl b).map f) (fun v hv=>(if_pos (hperm.mem_iff.2 (List.mem_range.2 hv))).symm) fun b hb=>(if_pos hb).symm
 have hkn:k<g.nb:=by omega
 refine Aq (Aa ?_)
 obtain ⟨fb,fcc,e1,_,hbc,_⟩:=hg.fblocksE hkn
 rw[hfs] at e1
 injection e1 with e1 _ e3
 subst e1
 obtain ⟨va,vc,hvs⟩:=Row.len (hg.comp (.bvals k) hkn)
 obtain ⟨nk,hnk⟩:∃nk,nk=(g.bvals k).length:=⟨_,rfl⟩
 rw[show ({ g with args:=Cw g f (preK g k),ctrl:=Cr g f k }:Gph).bvals k=g.bvals k from rfl,← hnk] at hvs
 have hkl:nk≤1000:=by
  have h3:=preK_lt g (n:=g.nb) hkn (i:=nk - 1)
  rw[htot,List.length_append,List.length_take] at h3
  by_cases h4:nk=0
  ·omega
  have:=h3 (by omega);omega
 have h1:=hg.bVals hkn
 rw[hvs] at h1
 refine Ae (Ao (Ae (Ac (Ab (x_index1 rfl rfl (An rfl) (by omega)) rfl (Ab (Ai rfl (Ag rfl) ‹_›) rfl ?_)))))
 refine Ab Ah rfl (Af (Aa ?_))
 refine AW (fun e w2=>GRep w2 B L { g with args:=Cw g f (preK g (k+1)),ctrl:=Cr g f k }∧Below B w w2∧Only (fun j=>j<E) w w2∧AtD e ds [(1,.pointer (some ⟨fbx,0,none⟩)),(43,.slice (some ⟨RB,0,none⟩) (g.nv+1) (g.nv+1)),(525,.slice (some ⟨fb,0,none⟩) g.nb fc),(526,.int .i64 (g.nb:Int)),(527,.int .i64 (k:Int)),(51,L.bp k)]) ?_ ?_
 ·refine Ae (Ac (Ab Ad rfl (Ab (Au rfl) rfl (Ab (Al rfl (Ak rfl)) rfl (Ab (Ai rfl (Ag rfl) ‹_›) rfl ?_)))))
  refine Ab (AN rfl (An rfl)) rfl (Ab Ad rfl (Af (Aa (Ao ?_))))
  refine EC_loop (fun m e w2=>∃i,i≤nk∧GRep w2 B L { g with args:=Cw g f (preK g k ++ (g.bvals k).take i),ctrl:=Cr g f k }∧Below B w w2∧Only (fun j=>j<E) w w2∧AtD e ds [(1,.pointer (some ⟨fbx,0,none⟩)),(43,.slice (some ⟨RB,0,none⟩) (g.nv+1) (g.nv+1)),(525,.slice (some ⟨fb,0,none⟩) g.nb fc),(526,.int .i64 (g.nb:Int)),(527,.int .i64 (k:Int)),(51,L.bp k),(534,.slice va nk vc),(535,.int .i64 (nk:Int)),(536,.int .i64 (i:Int))]∧m=nk - i) nk
   ⟨0,Nat.zero_le _,by simpa using hg,hbl,hO,AT rfl ⟨rfl,rfl,rfl,rfl,rfl,rfl,rfl,rfl,rfl,trivial⟩,rfl⟩ ?_
  clear h1 hg hbl hO hbc
  rintro m e w2 ⟨i,hi,hg,hbl,hO,⟨t,rfl⟩,rfl⟩
  refine Ae (Ac (Ab (AX rfl rfl) rfl (Af (Aa (Ae ?_)))))
  refine AI rfl rfl (fun hlt=>?_) (fun hge=>?_)
  rotate_left
  ·have hin:i=nk:=by omega
   have e:preK g k ++ (g.bvals k).take i=preK g (k+1):=by rw[hin,hnk,List.take_length,Ck]
   rw[e] at hg
   refine AK (AB (AD (AA ?_)))
   exact AR ⟨hg,hbl,hO,AT rfl ⟨rfl,rfl,rfl,rfl,rfl,rfl,trivial⟩⟩
  have hin:i<nk:=by omega
  refine Aq (Aa ?_)
  obtain ⟨vb,vcc,e2,_,hvc,_⟩:=Row.elem (hg.comp (.bvals k) hkn) (k:=i) (by show i<(g.bvals k).length;omega)
  rw[show ({ g with args:=Cw g f (preK g k ++ (g.bvals k).take i),ctrl:=Cr g f k }:Gph).bvals k=g.bvals k from rfl] at e2 hvc
  rw[hvs] at e2
  injection e2 with e2 _ e4
  subst e2
  obtain ⟨v,hve⟩:∃v,v=(g.bvals k).getD i 0:=⟨_,rfl⟩
  rw[← hve] at hvc
  have hvn:v<g.nv:=by rw[hve];exact hbv k hkn _ (Bq (by omega))
  obtain ⟨S,hS⟩:∃S,S=preK g k ++ (g.bvals k).take i:=⟨_,rfl⟩
  have hnext:preK g k ++ (g.bvals k).take (i+1)=S ++ [v]:=by
   rw[List.take_add_one,← List.append_assoc,← hS]
   congr 1
   rw[hve,List.getD_eq_getElem?_getD,List.getElem?_eq_getElem (by omega)];rfl
  have hvS:v∉S:=by
   have h3:(S ++ [v]).Sublist (preK g g.nb):=by
    rw[← hnext]
    refine (List.Sublist.append_left (List.take_sublist _ _) _).trans ?_
    rw[← Ck]
    obtain ⟨d,hd⟩:∃d,g.nb=k+1+d:=⟨g.nb - (k+1),by omega⟩
    have e:List.range (k+1+d)=List.range (k+1) ++ (List.range d).map (k+1+ ·):=List.range_add ..
    show ((List.range (k+1)).flatMap g.bvals).Sublist ((List.range g.nb).flatMap g.bvals)
    rw[hd,e,List.flatMap_append]
    exact List.sublist_append_left _ _
   have h4:=h3.nodup hnod
   intro hm
   exact (List.nodup_append.1 h4).2.2 v hm v (.head _) rfl
  rw[← hS] at hg
  obtain ⟨na,hna⟩:∃na,na=(g.args v).length:=⟨_,rfl⟩
  have hnal:na≤1000:=by rw[hna];exact (ha v hvn).1
  have hg0:GRep w2 B L { g with args:=BX g f S v 0,ctrl:=Cr g f k }:=by rw[Gg g f hvS];exact hg
  obtain ⟨aa,ac,has⟩:=hg0.argsV hvn
  have hl0:(({ g with args:=BX g f S v 0,ctrl:=Cr g f k }:Gph).args v).length=na:=by
   show (BX g f S v 0 v).length=na
   unfold BX
   rw[if_pos rfl,mpt_len,hna]
  rw[hl0] at has
  have hva:=hg0.vArgs hvn
  rw[has] at hva
  refine Ae (Ao (Ae (Ac (Ab (x_index1 rfl rfl (An rfl) (by omega)) rfl (Ab (Ai rfl (Ag rfl) ‹_›) rfl ?_)))))
  refine Ab Ah rfl (Af (Aa (Ae (Ac (Ab Ad rfl (Ab (Au rfl) rfl (Ab (Al rfl (Ak rfl)) rfl (Ab (Ai rfl (Ag rfl) ‹_›) rfl ?_))))))))
  refine Ab (AN rfl (An rfl)) rfl (Ab Ad rfl (Af (Aa (Ao ?_))))
  refine EC_loop (fun m e w3=>∃a,a≤na∧GRep w3 B L { g with args:=BX g f S v a,ctrl:=Cr g f k }∧Below B w w3∧Only (fun j=>j<E) w w3∧AtD e ds [(1,.pointer (some ⟨fbx,0,none⟩)),(43,.slice (some ⟨RB,0,none⟩) (g.nv+1) (g.nv+1)),(525,.slice (some ⟨fb,0,none⟩) g.nb fc),(526,.int .i64 (g.nb:Int)),(527,.int .i64 (k:Int)),(51,L.bp k),(534,.slice (some ⟨vb,0,none⟩) nk vc),(535,.int .i64 (nk:Int)),(536,.int .i64 (i:Int)),(53,L.vp v),(543,.slice aa na ac),(544,.int .i64 (na:Int)),(545,.int .i64 (a:Int))]∧m=na - a) na
   ⟨0,Nat.zero_le _,hg0,hbl,hO,AT rfl ⟨rfl,rfl,rfl,rfl,rfl,rfl,rfl,rfl,rfl,rfl,rfl,rfl,rfl,trivial⟩,rfl⟩ ?_
  clear hg hg0 hbl hO hvc hva
  rintro m e w3 ⟨a,haa,hg,hbl,hO,⟨t,rfl⟩,rfl⟩
  refine Ae (Ac (Ab (AX rfl rfl) rfl (Af (Aa (Ae ?_)))))
  refine AI rfl rfl (fun hlt=>?_) (fun hge=>?_)
  rotate_left
  ·have han:a=na:=by omega
   rw[han,hna,mapP_all,← hnext] at hg
   refine AK (AB (AD (AA (Ap (Aa (Ac (Ab (x_inc rfl rfl (by omega)) rfl (Ab Ad rfl (Af ?_)))))))))
   exact Aw (nk - (i+1)) (by omega) ⟨i+1,by omega,hg,hbl,hO,AT rfl ⟨rfl,rfl,rfl,rfl,rfl,rfl,rfl,rfl,rfl,trivial⟩,rfl⟩
  have han:a<na:=by omega
  refine Aq (Aa ?_)
  have hlen:(({ g with args:=BX g f S v a,ctrl:=Cr g f k }:Gph).args v).length=na:=by
   show (BX g f S v a v).length=na
   unfold BX
   rw[if_pos rfl,mpt_len,hna]
  obtain ⟨y,hy⟩:∃y,y=(g.args v).getD a 0:=⟨_,rfl⟩
  have hyn:y<g.nv:=by rw[hy];exact (ha v hvn).2 _ (Bq (by omega))
  obtain ⟨ab,acc,e5,_,hac,_⟩:=hg.argsE (k:=a) hvn (by rw[hlen];exact han)
  have hgy:(({ g with args:=BX g f S v a,ctrl:=Cr g f k }:Gph).args v).getD a 0=y:=by
   show (BX g f S v a v).getD a 0=y
   unfold BX
   rw[if_pos rfl,mpt_get f (by omega),hy]
  rw[hgy] at hac
  rw[hlen,has] at e5
  injection e5 with e5 _ e6
  subst e5
  have hRc:w3.cell? ⟨RB,0+(y+1),none⟩=some (ptO L (rw (y+1))):=Am (hRw w3 hO) (by rw[Nat.zero_add];exact Bf _ (by omega))
  have hid:=hg.vID (i:=y) hyn
  refine Ae (Ao (Ae (Ac (Ab Ad rfl (Ab (x_index1 rfl rfl (An rfl) (by omega)) rfl (Ab (Ai rfl (Ag rfl) ‹_›) rfl ?_))))))
  refine Ab Ah rfl (Ab Ah rfl (Af (Aa (Ae (Ac (Ab Ad rfl (Ab Ad rfl (Ab (Au rfl) rfl (Ab (Al rfl (Ak rfl)) rfl (Ab (Ai rfl (Ag rfl) hid) rfl (Ab (Ba (i:=y+1) rfl rfl (by omega) (An rfl) (by omega)) rfl ?_)))))))))))
  refine Ab (Ai rfl (Ag rfl) hRc) rfl (Ab Ah rfl (Af (Aa ?_)))
  have hfy:f y=(rw (y+1)).getD y:=by rw[hf];rfl
  cases hrw:rw (y+1) with
  |none=>
   rw[hrw] at hfy
   refine Ae (Ac (Ab Ad rfl (Ab (CB (p:=none) rfl rfl (BT rfl)) rfl (Af (Aa (Bh rfl rfl (Aq (Ap (Aa (Ac (Ab (x_inc rfl rfl (by omega)) rfl ?_)))))))))))
   refine Ab Ad rfl (Af ?_)
   rw[F0 g f (by omega) (by rw[← hy];exact hfy)] at hg
   exact Aw (na - (a+1)) (by omega) ⟨a+1,by omega,hg,hbl,hO,AT rfl ⟨rfl,rfl,rfl,rfl,rfl,rfl,rfl,rfl,rfl,rfl,rfl,rfl,rfl,trivial⟩,rfl⟩
  |some z=>
   rw[hrw] at hfy
   have hfy:f y=z:=hfy
   refine Ae (Ac (Ab Ad rfl (Ab (CB (p:=some ⟨L.vb z,0,none⟩) rfl rfl (BT rfl)) rfl (Af (Aa (Bm rfl rfl (Ae (Ae (Ac (Ab Ad rfl (Ab (Au rfl) rfl ?_)))))))))))
   refine Ab (Fw rfl (hg.val (i:=y) hyn)) rfl (Ab (Ee rfl) rfl (Be (AG Tryz.func64 rfl rfl rfl rfl) rfl Du ?_))
   rintro _ w4 ⟨rfl,hG4⟩
   obtain ⟨hO4,hb4⟩:=hgn hG4 hO hbl
   have hg4:=hg.on hG4.below
   refine Ab (Bn (a:=0) (b:=1) rfl rfl) rfl ?_
   rw[show decide ((0:Int)=1)=false from rfl]
   refine Ab Ad rfl (AF rfl rfl (AF rfl rfl (AF rfl rfl (AF rfl rfl (AF rfl rfl (Ab (AM rfl) rfl (Af (Aa (Bh rfl rfl (Aq (Aa ?_)))))))))))
   refine Ac (Ab Ad rfl (Ab Ad rfl (Ab Ad rfl (Be (AG Tryz.func69 rfl rfl rfl rfl) rfl (Fe (j:=z) hg4 (hE.ac _ _) hvn (by rw[hlen];exact han)) ?_))))
   rintro _ w5 ⟨rfl,hg5,hb5,hO5⟩
   refine Af (Ap (Aa (Ac (Ab (x_inc rfl rfl (by omega)) rfl (Ab Ad rfl (Af ?_))))))
   have hg6:GRep w5 B L { g with args:=BX g f S v (a+1),ctrl:=Cr g f k }:=by
    rw[← GJ g f (by omega),← hy,hfy]
    exact hg5
   exact Aw (na - (a+1)) (by omega) ⟨a+1,by omega,hg6,hb4.trans hb5,hO4.trans hO5,AT rfl ⟨rfl,rfl,rfl,rfl,rfl,rfl,rfl,rfl,rfl,rfl,rfl,rfl,rfl,trivial⟩,rfl⟩
 clear h1 hg hbl hO hbc
 rintro e w2 ⟨hg,hbl,hO,⟨t,rfl⟩⟩
 obtain ⟨cn,hcn⟩:∃cn,cn=(g.ctrl k).length:=⟨_,rfl⟩
 have hcnl:cn≤1000:=by rw[hcn];exact (hct k hkn).1
 have hg0:GRep w2 B L { g with args:=Cw g f (preK g (k+1)),ctrl:=B6 g f k 0 }:=by rw[ctrP_zero];exact hg
 have hlen:∀a,(({ g with args:=Cw g f (preK g (k+1)),ctrl:=B6 g f k a }:Gph).ctrl k).length=cn:=fun a=>by
  show (B6 g f k a k).length=cn
  unfold B6
  rw[if_pos rfl,mpt_len,hcn]
 obtain ⟨ca,cc,hcs⟩:=hg0.ctrlV hkn
 rw[hlen] at hcs
 refine Ae (Ac (Ab Ad rfl (Be (AG Tryz.func70 rfl rfl rfl rfl) rfl (D3 hg0 (b:=k) hkn) ?_)))
 rintro _ wx ⟨rfl,ew⟩
 rw[ew,hcs]
 clear ew wx
 refine Ab (AN rfl (An rfl)) rfl (Ab Ad rfl (Af (Aa (Ao ?_))))
 refine EC_loop (fun m e w3=>∃a,a≤cn∧GRep w3 B L { g with args:=Cw g f (preK g (k+1)),ctrl:=B6 g f k a }∧Below B w w3∧Only (fun j=>j<E) w w3∧AtD e ds [(1,.pointer (some ⟨fbx,0,none⟩)),(43,.slice (some ⟨RB,0,none⟩) (g.nv+1) (g.nv+1)),(525,.slice (some ⟨fb,0,none⟩) g.nb fc),(526,.int .i64 (g.nb:Int)),(527,.int .i64 (k:Int)),(51,L.bp k),(617,.slice ca cn cc),(618,.int .i64 (cn:Int)),(619,.int .i64 (a:Int))]∧m=cn - a) cn
  ⟨0,Nat.zero_le _,hg0,hbl,hO,AT rfl ⟨rfl,rfl,rfl,rfl,rfl,rfl,rfl,rfl,rfl,trivial⟩,rfl⟩ ?_
 clear hg hg0 hbl hO
 rintro m e w3 ⟨a,haa,hg,hbl,hO,⟨t,rfl⟩,rfl⟩
 refine Ae (Ac (Ab (AX rfl rfl) rfl (Af (Aa (Ae ?_)))))
 refine AI rfl rfl (fun hlt=>?_) (fun hge=>?_)
 rotate_left
 ·have han:a=cn:=by omega
  rw[han,hcn,ctrP_all] at hg
  refine AK (AB (AD (AA (Ap (Aa (Ac (Ab (x_inc rfl rfl (by omega)) rfl (Ab Ad rfl (Af ?_)))))))))
  exact Aw (g.nb - (k+1)) (by omega) ⟨k+1,by omega,hg,hbl,hO,AT rfl ⟨rfl,rfl,rfl,rfl,rfl,trivial⟩,rfl⟩
 have han:a<cn:=by omega
 refine Aq (Aa ?_)
 obtain ⟨y,hy⟩:∃y,y=(g.ctrl k).getD a 0:=⟨_,rfl⟩
 have hyn:y<g.nv:=by rw[hy];exact (hct k hkn).2 _ (Bq (by omega))
 obtain ⟨ab,acc,e5,_,hac,_⟩:=hg.ctrlE (k:=a) hkn (by rw[hlen];exact han)
 have hgy:(({ g with args:=Cw g f (preK g (k+1)),ctrl:=B6 g f k a }:Gph).ctrl k).getD a 0=y:=by
  show (B6 g f k a k).getD a 0=y
  unfold B6
  rw[if_pos rfl,mpt_get f (by omega),hy]
 rw[hgy] at hac
 rw[hlen,hcs] at e5
 injection e5 with e5 _ e6
 subst e5
 have hRc:w3.cell? ⟨RB,0+(y+1),none⟩=some (ptO L (rw (y+1))):=Am (hRw w3 hO) (by rw[Nat.zero_add];exact Bf _ (by omega))
 have hid:=hg.vID (i:=y) hyn
 refine Ae (Ao (Ae (Ac (Ab Ad rfl (Ab (x_index1 rfl rfl (An rfl) (by omega)) rfl (Ab (Ai rfl (Ag rfl) ‹_›) rfl ?_))))))
 refine Ab Ah rfl (Ab Ah rfl (Af (Aa (Ae (Ac (Ab Ad rfl (Ab Ad rfl (Ab (Au rfl) rfl (Ab (Al rfl (Ak rfl)) rfl (Ab (Ai rfl (Ag rfl) hid) rfl (Ab (Ba (i:=y+1) rfl rfl (by omega) (An rfl) (by omega)) rfl ?_)))))))))))
 refine Ab (Ai rfl (Ag rfl) hRc) rfl (Ab Ah rfl (Af (Aa ?_)))
 have hfy:f y=(rw (y+1)).getD y:=by rw[hf];rfl
 cases hrw:rw (y+1) with
 |none=>
  rw[hrw] at hfy
  refine Ae (Ac (Ab Ad rfl (Ab (CB (p:=none) rfl rfl (BT rfl)) rfl (Af (Aa (Bh rfl rfl (Aq (Ap (Aa (Ac (Ab (x_inc rfl rfl (by omega)) rfl ?_)))))))))))
  refine Ab Ad rfl (Af ?_)
  rw[F9 g f (by omega) (by rw[← hy];exact hfy)] at hg
  exact Aw (cn - (a+1)) (by omega) ⟨a+1,by omega,hg,hbl,hO,AT rfl ⟨rfl,rfl,rfl,rfl,rfl,rfl,rfl,rfl,rfl,trivial⟩,rfl⟩
 |some z=>
  rw[hrw] at hfy
  have hfy:f y=z:=hfy
  have hoy:=hg.vOp (i:=y) hyn
  have hoy2:g.op y≤15:=hop y hyn
  refine Ae (Ac (Ab Ad rfl (Ab (CB (p:=some ⟨L.vb z,0,none⟩) rfl rfl (BT rfl)) rfl (Af (Aa (Bm rfl rfl (Ae (Ae (Ac (Ab Ad rfl (Ab (Au rfl) rfl ?_)))))))))))
  refine Ab (Al rfl (Ak rfl)) rfl (Ab (Ai rfl (Ag rfl) hoy) rfl (Ab (Bn rfl rfl) rfl (Af (Aa ?_))))
  refine AI rfl rfl (fun h17=>?_) (fun h17=>?_)
  ·exfalso
   have h17:g.op y=17:=h17
   omega
  refine Aq (Aa (Ac (Ab Ad rfl (Ab Ad rfl (Ab Ad rfl (Be (AG Tryz.func71 rfl rfl rfl rfl) rfl (Dw (j:=z) hg (hE.ac _ _) hkn (by rw[hlen];exact han)) ?_))))))
  rintro _ w5 ⟨rfl,hg5,hb5,hO5⟩
  refine Af (Ap (Aa (Ac (Ab (x_inc rfl rfl (by omega)) rfl (Ab Ad rfl (Af ?_))))))
  have hg6:GRep w5 B L { g with args:=Cw g f (preK g (k+1)),ctrl:=B6 g f k (a+1) }:=by
   rw[← Gr g f (by omega),← hy,hfy]
   exact hg5
  exact Aw (cn - (a+1)) (by omega) ⟨a+1,by omega,hg6,hbl.trans hb5,hO.trans hO5,AT rfl ⟨rfl,rfl,rfl,rfl,rfl,rfl,rfl,rfl,rfl,trivial⟩,rfl⟩
end
end Go.Proofs.YteepnepebilckaaGreatDoor
namespace Go.Proofs.YteepnepebilckaaGreatDoor
open Go Go.Eng Go.RowKit Go.Shelf
def FewG (g:Gph):Prop:=∀v,v<g.nv→((List.range g.nv).filter fun x=>g.op x == g.op v && g.aux x == g.aux v).length≤12
def Gph.ac (g:Gph) (m c:Value):Gph:= { g with am:=m,cl:=c }
def Ft (g:Gph) (s:MS):Prop:=∃arr P cls,s=⟨g.args,arr,cls,P,(P.length:Int)+1,0,false⟩∧Part0 g (fun i=>(preK g g.nb).getD i 0) arr P∧Nu arr g.nv P P.length 0 cls∧∀x,x=0∨g.nv<x→cls x=0
structure CseR (g:Gph) (fw:Prop) (A:Nat→List Nat) (arr:Nat→Nat) (cls:Nat→Int) (P:List (Nat×Nat)) (rw:Nat→Option Nat):Prop where
 pj:∃pn,PJ g { g with args:=A } arr cls P pn fw
 stab:∀p∈P,Do { g with args:=A } arr cls p
 hist:∃s0,Ft g s0∧∃pn i,Rc g.op s0 ⟨A,arr,cls,P,pn,i,false⟩∧¬ i<P.length
 rw:RwI g (fun y x=>cls (y+1)=cls (x+1)∧Dom g.succs (g.blk y) (g.blk x)∧(fw→g.blk y=g.blk x→y≤x)) rw
theorem LLs.on2 {w w':World} {base base':Nat} {v:Value} {us:List Value} {xss:List (List Int)} (h:LLs w base v us xss) (hb:base'≤base) (hk:∀k,base≤k→k<w.heap.size→v.ownBlock=some k∨(∃i,(us.getD i nilS).ownBlock=some k)→w'.heap[k]? =w.heap[k]?):LLs w' base' v us xss:=
 ⟨ownsRow_low (Ax h.row fun k e=>hk k (As h.row k e).1 (As h.row k e).2 (.inl e)) hb,h.len,fun i hi=>ownsRow_low (Ax (h.ints i hi) fun k e=>hk k (As (h.ints i hi) k e).1 (As (h.ints i hi) k e).2 (.inr ⟨i,e⟩)) hb,h.ne⟩
theorem preK_mem {g:Gph} (h:Frm g):∀k,k≤g.nb→(preK g k).Perm ((List.range g.nv).filter fun i=>decide (g.blk i<k))
 |0,_=>by
  have:((List.range g.nv).filter fun i=>decide (g.blk i<0))=[]:=List.filter_eq_nil_iff.2 fun x _=>by simp
  rw[this];exact List.Perm.refl _
 |k+1,hk=>by
  have ih:=preK_mem h k (by omega)
  rw[Ck,h.bvals k (by omega)]
  have h1:=List.filter_append_perm (fun i=>decide (g.blk i<k)) ((List.range g.nv).filter fun i=>decide (g.blk i<k+1))
  rw[List.filter_filter,List.filter_filter] at h1
  have e1:((List.range g.nv).filter fun i=>g.blk i == k)=(List.range g.nv).filter fun a=> !decide (g.blk a<k) && decide (g.blk a<k+1):=List.filter_congr fun x _=>by
   rw[Bool.eq_iff_iff]
   simp
   omega
  have e2:((List.range g.nv).filter fun i=>decide (g.blk i<k))=(List.range g.nv).filter fun a=>decide (g.blk a<k) && decide (g.blk a<k+1):=List.filter_congr fun x _=>by
   rw[Bool.eq_iff_iff]
   simp
   omega
  rw[e1]
  rw[e2] at ih
  exact (ih.append (List.Perm.refl _)).trans h1
theorem EI {g:Gph} (h:Frm g):(preK g g.nb).Perm (List.range g.nv):=by
 refine (preK_mem h g.nb (Nat.le_refl _)).trans (List.Perm.of_eq (List.filter_eq_self.2 fun x hx=>?_))
 exact decide_eq_true (h.blk x (List.mem_range.1 hx))
theorem apart_len {N:Nat}:∀(P:List (Nat×Nat)) (lo:Nat),P.Pairwise (fun a b=>a.1+a.2≤b.1)→(∀p∈P,lo≤p.1∧2≤p.2∧p.1+p.2≤N)→lo≤N→lo+2 * P.length≤N∧Phi P≤2 * ((N:Int) - lo)
 | [],lo,_,_,h=>⟨by simpa using h,by simp [Phi];omega⟩
 |p :: P,lo,ha,hl,h=>by
  have h1:=hl p (.head _)
  have h2:=List.pairwise_cons.1 ha
  have ih:=apart_len P (p.1+p.2) h2.2 (fun q hq=>⟨h2.1 q hq,(hl q (.tail _ hq)).2⟩) h1.2.2
  obtain ⟨a,b⟩:=ih
  unfold Phi at b ⊢
  rw[List.map_cons,List.sum_cons,List.length_cons]
  omega
theorem pj_start {g g0:Gph} {arr0 arr:Nat→Nat} {cls:Nat→Int} {P:List (Nat×Nat)} {fw:Prop} (he:g=g0) (hpi:PI g arr cls P ((P.length:Int)+1)) (h0:Part0 g arr0 arr P) (hfw:fw→FewG g):PJ g0 g arr cls P ((P.length:Int)+1) fw:=by
 subst he
 refine ⟨hpi,by omega,⟨rfl,fun _=>.inl rfl⟩,fun _ R hR x y hx hy hxy=>?_,fun hf p hp=>⟨?_,h0.asc p hp⟩⟩
 ·obtain ⟨i,hi,rfl⟩:=CX hpi.perm hx
  obtain ⟨j,hj,rfl⟩:=CX hpi.perm hy
  have hk:=hR.key _ _ hxy
  have key:∀i j,i<j→j<g.nv→Go.Proofs.YteepnepebilckaaGreatDoor.key g (arr i)=Go.Proofs.YteepnepebilckaaGreatDoor.key g (arr j)→cls (arr i+1)=cls (arr j+1):=fun i j hij hj e=>by
   obtain ⟨p,hp,h1,h2⟩:=h0.most i j hij hj e
   have a1:=hpi.cin p hp (i - p.1) (by omega)
   have a2:=hpi.cin p hp (j - p.1) (by omega)
   rw[show p.1+(i - p.1)=i by omega] at a1
   rw[show p.1+(j - p.1)=j by omega] at a2
   rw[a1,a2]
  rcases Nat.lt_trichotomy i j with h1|h1|h1
  ·exact key i j h1 hj hk
  ·rw[h1]
  exact (key j i h1 hi hk.symm).symm
 have hl:=h0.long p hp
 have h1:(clsD arr p.1 p.2).Nodup:=by
  refine List.nodup_iff_pairwise_ne.2 (List.pairwise_iff_getElem.2 fun i j hi hj hij e=>?_)
  have gt:∀i (h:i<(clsD arr p.1 p.2).length),(clsD arr p.1 p.2)[i]=arr (p.1+i):=fun i h=>by
   rw[← BU (arr:=arr) (o:=p.1) (n:=p.2) (j:=i) (by rwa [BB] at h),List.getD_eq_getElem?_getD,List.getElem?_eq_getElem h];rfl
  rw[gt,gt] at e
  rw[BB] at hi hj
  have:=Cj hpi.perm (by omega) (by omega) e
  omega
 have h2:=h1.length_le_of_subset (l₂:=(List.range g.nv).filter fun x=>g.op x == g.op (arr p.1) && g.aux x == g.aux (arr p.1)) fun x hx=>by
  obtain ⟨j,hj,rfl⟩:=List.mem_map.1 hx
  have hj:=List.mem_range.1 hj
  have hk:=key_op (h0.same p hp j hj)
  exact List.mem_filter.2 ⟨List.mem_range.2 (BR hpi.perm (by omega)),by simp [hk.1,hk.2.1]⟩
 rw[BB] at h2
 exact Nat.le_trans h2 (hfw hf _ (BR hpi.perm (by omega)))
set_option maxHeartbeats 4000000
attribute [local irreducible] EC EL DL Ret thenQ blockQ Bi bodyQ onlyN execOp Sem.run World.cell? World.frozen? World.setCell World.alloc
theorem cse_ret {w:World} {B:Nat} {L:Lay} {g:Gph} {T:Nat→Bool} {fw:Prop} (hg:GRep w B L g) (hB:0<B) (hG:GoodG T g) (ham:g.am= .map none) (hty:∀x y,g.op x=g.op y→g.ty x=g.ty y) (hent:L.entry=some ⟨L.bb 0,0,none⟩)
 (hopt:∀k,k<21→w.cell? ⟨0,k,none⟩=some (.bool (comm k))) (hfw:fw→FewG g):
 Ret Tryz.prog 41 #[L.fp] w fun v w'=>v= .tuple #[]∧∃A arr cls P rw r cv us,CseR g fw A arr cls P rw∧GRep w' B L ((({ g with args:=A }:Gph).mv (fR rw)).ac (.map (some r)) cv)∧LLs w' w.heap.size cv us (P.map fun p=>BL (clsL arr p))∧Below B w w':=by
 have hGA:=hG.toGoodA
 have hF:=hG.toFrm
 have hn:=hF.nv
 have hnb:=hF.nb
 have hnb1:=hF.one
 have hBw:=hg.baseLe
 have hfB:=hg.tags.fbB
 have hfl:=Br hg
 have hperm:=EI hF
 have hbv:∀k,k<g.nb→∀v∈g.bvals k,v<g.nv:=fun k hk v hv=>by
  rw[hF.bvals k hk] at hv
  exact List.mem_range.1 (List.mem_filter.1 hv).1
 have hop:∀i,i<g.nv→g.op i≤15:=fun i hi=>(hGA.ops i hi).2.1
 have hal:∀i,i<g.nv→(g.args i).length≤18:=fun i hi=>hGA.alen hi
 obtain ⟨E,hEd⟩:∃E,E=w.heap.size:=⟨_,rfl⟩
 have hE0:GE E L g:=by rw[hEd];exact hg.ge
 rw[← hEd] at hBw hfl
 refine ret_of_EC_W Tryz.func41 rfl rfl (cseA0 hg hn fun t w1 fbx abx A hf1 ha1 hA1 n1 n2 n3 hb1 hfb1 hab1 hAr1=>?_)
 rw[← hEd] at hf1 ha1 hA1
 have hz1:=hb1.size
 refine cseA1 (w0:=w) (E:=E) (hg.on hb1) ham hE0 hn hf1 ha1 hA1 ⟨n1,n2,n3⟩ hfb1 hab1 hAr1 fun t w2 r hr n4 n5 n6 hg2 hm2 hfb2 hab2 hAr2 hO2=>?_
 have hE2:=hE0.am (.map (some r))
 have hz2:=hO2.size
 have hGS0:GS w2 w2 L g.nv abx A r []:=⟨hab2,hAr2,.inl ⟨rfl,0,hm2⟩,Only.refl _ _⟩
 refine cseA2 (g:= { g with am:=.map (some r) }) hg2 rfl hE2 hn hnb hf1 ha1 hA1 hr ⟨n1,n2,n3,n4,n5,n6⟩ hfb2 hbv (by show (preK g g.nb).length=g.nv;rw[hperm.length_eq,List.length_range]) hGS0 fun t w3 hGS=>?_
 have hO3:=hGS.only
 have hz3:=hO3.size
 have hfbl2:=Bg hfb2
 have hg3:GRep w3 B L { g with am:=.map (some r) }:=hg2.keepE hE2 fun q hq=>hO3.block q (by omega) (by omega)
 have hfb3:=(hO3.block fbx hfbl2 (by omega)).trans hfb2
 refine cseA3 (g:= { g with am:=.map (some r) }) hg3 rfl hE2 hn hf1 ha1 hA1 ⟨n1,n2,n3⟩ hfb3 hGS hperm hF.blk hty hop fun t w4 arr P pv Eb h0 hAr4 hO4 e1 e2 e3 e4 hEb4 hrow4=>?_
 have hz4:=hO4.size
 have hfbl3:=Bg hfb3
 have habl3:=Bg hGS.a
 have hAl3:=Bg hGS.arr
 have hg4:GRep w4 B L { g with am:=.map (some r) }:=hg3.keepE hE2 fun q hq=>hO4.block q (by omega) (by omega)
 have hfb4:=(hO4.block fbx hfbl3 n2).trans hfb3
 have hab4:=(hO4.block abx habl3 n3).trans hGS.a
 refine cseB1 (E:=E) (g:= { g with am:=.map (some r) }) hg4 hn hfb4 fun t w5 vbx VE hvx hVE n7 hb5 hvb5 hVE5=>?_
 have hz5:=hb5.size
 have hpvl:∀k,pv.ownBlock=some k→Eb≤k∧k<w4.heap.size:=fun k e=>As hrow4 k e
 obtain ⟨b,hbd⟩:∃b:Bl,b=⟨E,Eb,A,fbx,abx,vbx,VE⟩:=⟨_,rfl⟩
 have hbE:b.E=E:=by rw[hbd]
 have hbEb:b.Eb=Eb:=by rw[hbd]
 have hbA:b.A=A:=by rw[hbd]
 have hbf:b.fbx=fbx:=by rw[hbd]
 have hba:b.abx=abx:=by rw[hbd]
 have hbv':b.vbx=vbx:=by rw[hbd]
 have hbV:b.VE=VE:=by rw[hbd]
 have hok:b.Ok:=⟨by omega,by omega,by omega,by omega⟩
 have hab4v:=hab4
 have hg5:GRep w5 B L { g with am:=.map (some r) }:=hg4.on hb5
 have hopt':∀{W:World},Below B w W→∀k,k<21→W.cell? ⟨0,k,none⟩=some (.bool (comm k)):=fun hb k hk=>(World.cell?_of_block (a:=⟨0,k,none⟩) (hb.block 0 hB)).trans (hopt k hk)
 have hB1:Below B w w1:=hb1.mono (by omega)
 have hB2:Below B w w2:=hB1.trans (hO2.below (by omega) fun j hj=>by omega)
 have hB3:Below B w w3:=hB2.trans (hO3.below (by omega) fun j hj=>by omega)
 have hB4:Below B w w4:=hB3.trans (hO4.below (by omega) fun j hj=>by omega)
 have hB5:Below B w w5:=hB4.trans (hb5.mono (by omega))
 have habl4:=Bg hab4
 have hAl4:=Bg hAr4
 obtain ⟨hpl,hph⟩:0+2 * P.length≤g.nv∧Phi P≤2 * ((g.nv:Int) - (0:Nat)):=apart_len P 0 h0.apart (fun p hp=>⟨Nat.zero_le _,h0.long p hp⟩) (Nat.zero_le g.nv)
 have hs5:St w5 B L b { g with am:=.map (some r) } arr (fun _=>0) pv P:=by
  refine ⟨hg5,?_,?_,?_,?_,?_,?_,?_,hopt' hB5⟩
  ·rw[hbA];exact (hb5.block A hAl4).trans hAr4
  ·rw[hbV];exact hVE5
  ·rw[hbf];exact (hb5.block fbx (Bg hfb4)).trans hfb4
  ·rw[hbv',hbV];exact hvb5
  ·rw[hba,hbA]
   have:w5.heap[abx]? =_:=(hb5.block abx habl4).trans hab4
   rw[show (preK { g with am:=.map (some r) } g.nb).length=g.nv from by show (preK g g.nb).length=g.nv;rw[hperm.length_eq,List.length_range]] at this
   exact this
  ·rw[hbEb,hbA];exact Ax hrow4 fun k e=>hb5.block k (hpvl k e).2
  rw[hbv',hbV]
  exact ⟨fun e=>by have:=hpvl _ e;omega,fun e=>by have:=hpvl _ e;omega⟩
 have hEb:GE b.E L { g with am:=.map (some r) }:=by rw[hbE];exact hE2
 rw[← hbf,← hbv',← hba,← hbV]
 refine cseB2 hs5 (fun _ _=>rfl) hEb hok hn hnb hbv hperm fun t w6 cls6 hs6 hz6 hc6 hO6=>?_
 have hzz6:=hO6.size
 have hel:(elems (fun i=>(preK g g.nb).getD i 0) g.nv).Perm (List.range g.nv):=by
  rw[elems_of (by rw[hperm.length_eq,List.length_range]) fun _ _=>rfl]
  exact hperm
 have hep:(elems arr g.nv).Perm (List.range g.nv):=h0.perm.trans hel
 refine cseB3 hs6 hz6 hEb hok hn hc6 hep h0 (by omega) fun t w7 cls7 mbx hs7 hz7 hNu7 hpi7 hm1 hm2 hO7=>?_
 have hzz7:=hO7.size
 have hj7:=pj_start (fw:=fw) rfl hpi7 h0 hfw
 have ga:GA { g with am:=.map (some r) }:=⟨hn,fun v hv=>⟨(hGA.ops v hv).1,hop v hv⟩,fun v hv hc=>?_,fun v hv x hx=>hGA.args_lt hv hx,fun v hv=>by have:=hal v hv;show (g.args v).length≤1000;omega⟩
 ·have hB67:Below B w w7:=(hB5.trans (hO6.below (by omega) fun j hj=>by omega)).trans (hO7.below (by omega) fun j hj=>by omega)
  have l1:=Bg hs7.vb
  have l2:=Bg hs7.ve
  refine cseMain hs7 hj7 ga hEb hB (by omega) hok ⟨by omega⟩ (by omega) (by omega) rfl fun t w8 gs arr8 cls8 pv8 P8 pn8 i8 hs8 hj8 hE8 hst8 hrc8 hi8 hPl8 hb8=>?_
  have hB8:Below B w w8:=hB67.trans hb8
  have hz8:=hb8.size
  obtain ⟨A8,hA8⟩:∃A8,A8=gs.args:=⟨_,rfl⟩
  have hge:=hj8.sw.eq
  rw[← hA8] at hge
  subst hge
  clear hA8
  have hne8:=hs8.ne
  have hlt8:∀i,i<g.nv→arr8 i<g.nv:=fun i hi=>BR hj8.pi.perm hi
  have hfb8:=Bg hs8.fb
  have hab8:=Bg hs8.ab
  have hAA8:=Bg hs8.ar
  refine cseE hs8 hE8 hok hn ⟨hnb1,hnb⟩ hlt8 hj8.pi.long hPl8 hent (fun x hx=>⟨hF.slen hx,fun s hs=>(hF.succs x hx s hs).2⟩) hF.preds hF.rch fun t w9 cv us tb RB T9 en ex hRB hs9 hL9 hcv9 hO9=>?_
  have hz9:=hO9.size
  have hn9:=hs9.ne
  have hab9:=(hO9.block b.abx hab8 (by omega)).trans hs8.ab
  refine cseF (g:= { { { g with am:=.map (some r) } with args:=A8 } with cl:=cv }) (Rel:=fun y x=>cls8 (y+1)=cls8 (x+1)∧Dom g.succs (g.blk y) (g.blk x)∧(fw→g.blk y=g.blk x→y≤x)) hs9 hn hnb hF.blk hPl8 hlt8 hj8.pi.long hj8.pi.apart (fun p hp D' hso i j hij hj hd=>?_) fun t w10 rw hI10 hR10 hO10=>?_
  ·have hcl:=BB arr8 p.1 p.2
   have hDl:D'.length=p.2:=by rw[hso.perm.length_eq,hcl]
   have hin:∀i,i<p.2→cls8 (D'.getD i 0+1)=cls8 (arr8 p.1+1):=fun i hi=>by
    have h1:D'.getD i 0∈clsD arr8 p.1 p.2:=hso.perm.mem_iff.1 (Bq (by omega))
    obtain ⟨q,hq,e⟩:=List.mem_map.1 h1
    rw[← e]
    exact hj8.pi.cin p hp q (List.mem_range.1 hq)
   refine ⟨by rw[hin i (by omega),hin j hj],hd,fun hf hbe=>?_⟩
   obtain ⟨f1,f2⟩:=hj8.few hf p hp
   rcases hso.stb (by omega) (fun a c hac hc=>by
    rw[hcl] at hc
    rw[BU (by omega),BU hc]
    exact f2 a c hac hc) i j hij (by omega) with h1|h1
   ·exfalso
    have h1:Dg ((en (g.blk (D'.getD i 0)+1):Nat):Int) ((en (g.blk (D'.getD j 0)+1):Nat):Int)<0:=h1
    rw[hbe] at h1
    unfold Dg at h1
    rw[if_neg (by omega),if_neg (by omega)] at h1
    omega
   exact h1
  have hz10:=hO10.size
  have hk10:=hs9.keep hO10
  refine Bj _ [(1,.pointer (some ⟨b.fbx,0,none⟩)),(43,.slice (some ⟨RB,0,none⟩) (g.nv+1) (g.nv+1))] rfl ⟨rfl,rfl,trivial⟩ fun t=>?_
  refine cseG (g:= { { { g with am:=.map (some r) } with args:=A8 } with cl:=cv }) (E:=b.E) hk10.1 hs9.ge hn9.2.1 hn hnb hbv hperm (fun v hv=>⟨(ga.sw hj8.sw).small v hv,(ga.sw hj8.sw).lt v hv⟩) (fun k hk=>?_) hop hk10.2.2.2.2 hR10 fun t w11 hg11 hb11 hO11=>?_
  ·rcases hG.ctrl k hk with ⟨_,h1⟩|⟨c,h1,_,h2,_⟩
   ·show (g.ctrl k).length≤1000∧∀c∈g.ctrl k,c<g.nv
    rw[h1]
    exact ⟨Nat.zero_le _,fun c hc=>by cases hc⟩
   show (g.ctrl k).length≤1000∧∀c∈g.ctrl k,c<g.nv
   rw[h1]
   exact ⟨by simp,fun c' hc=>by rw[List.mem_singleton.1 hc];exact h2⟩
  have hz11:=hO11.size
  have hfb10:=hk10.2.2.2.2
  have hfb11:=(hO11.block b.fbx (Bg hfb10) (by omega)).trans hfb10
  have hab10:=(hO10.block b.abx (by omega) (fun e=>by rcases e with e|e <;> omega)).trans hab9
  have hab11:=(hO11.block b.abx (by omega) (by omega)).trans hab10
  have hL11:LLs w11 w.heap.size cv us (P8.map fun p=>BL (clsL arr8 p)):=hL9.on2 (by omega) fun k h1 h2 h3=>by
   have h4:=hcv9 k h1 h3
   exact (hO11.block k (by omega) (by omega)).trans (hO10.block k h2 fun e=>by rcases e with e|e <;> omega)
  have hB11:Below B w w11:=((hB8.trans (hO9.below (by omega) fun j hj=>by omega)).trans (hO10.below (by omega) fun j hj=>by rcases hj with e|e <;> omega)).trans hb11
  refine Fh rfl (fun D hD=>?_) fun w' hb'=>⟨rfl,A8,arr8,cls8,P8,rw,r,cv,us,⟨⟨pn8,⟨hj8.pi.perm,hj8.pi.long,hj8.pi.apart,hj8.pi.cin,hj8.pi.cpos,hj8.pi.cne,hj8.pi.cout,hj8.pi.same⟩,hj8.pos,⟨rfl,hj8.sw.args⟩,fun hc R hR=>hj8.most hc R ⟨hR.key,hR.args⟩,hj8.few⟩,hst8,
   ⟨_,⟨arr,P,cls7,rfl,⟨h0.perm,h0.long,h0.apart,h0.same,h0.most,h0.asc,h0.top,h0.srt⟩,hNu7,hz7⟩,pn8,i8,hrc8,hi8⟩,fun x y hx e=>hI10 x y hx e⟩,hg11.on hb',hL11.on2 (Nat.le_refl _) fun k _ h2 _=>hb'.block k h2,hB11.trans (hb'.mono (by have:=hB11.size;omega))⟩
  have hD:D∈ [D49 RB (g.nv+1),D53 b.VE (g.nv+1),D48 b.fbx b.abx]:=hD
  simp only [List.mem_cons,List.not_mem_nil,or_false] at hD
  rcases hD with h|h|h <;> rw[h]
  ·exact (GF _).at _
  ·exact (Fr _).at _
  exact idle48 (hg11.comp .fn) hfb11 hab11
 have hc:comm (g.op v).toNat=true:=hc
 obtain ⟨k,hk⟩:∃k:Nat,g.op v=(k:Int):=⟨_,(Int.toNat_of_nonneg (hGA.ops v hv).1).symm⟩
 have h1:=(hGA.ops v hv).2.2
 rw[hk] at hc h1
 have h2:k=2∨k=4∨k=5∨k=6∨k=7∨k=11∨k=12:=by
  simp [comm] at hc
  omega
 show (g.args v).length=2
 have h3:manyI (k:Int) ((g.preds (g.blk v)).length:Nat)=2:=by rcases h2 with rfl|rfl|rfl|rfl|rfl|rfl|rfl <;> rfl
 omega
end Go.Proofs.YteepnepebilckaaGreatDoor
namespace Go.Proofs.YteepnepebilckaaGreatDoor
open Go Go.Eng
def Dq (f:Fn) (v:Vl):Prop:=(((v.op<0∨15<v.op)∨v.blk<0)∨(f.blks.length:Int)≤v.blk)∨(v.args.length:Int)≠manyI v.op ((predsOf f v.blk.toNat).length:Nat)
def Dh (v:Vl):Prop:=((v.op=0∧(v.aux<0∨3<v.aux))∨(1<v.op∧v.aux≠0))∨(v.op=13∧v.args.length=0)
def DG (f:Fn) (i k:Nat) (a:Int):Prop:=
 if (f.v i).op=13 then ¬ Rch f (f.v a.toNat).blk ((predsOf f (f.v i).blk.toNat).getD k 0)
 else ((f.v a.toNat).blk≠(f.v i).blk∧¬ Rch f (f.v a.toNat).blk (f.v i).blk.toNat)∨((f.v a.toNat).blk=(f.v i).blk∧a<i)
def EU (f:Fn) (i k:Nat):Prop:=
 (0≤(f.v i).args.getD k 0∧(f.v i).args.getD k 0<f.vals.length)∧DG f i k ((f.v i).args.getD k 0)
def DX (f:Fn) (i k:Nat):Prop:=(f.v i).op≠14→truthN f 48 ((f.v i).args.getD k 0).toNat=decide ((f.v i).op=15∧k=2)
def DM (f:Fn) (b:Nat):Prop:=(f.b b).kind≠0→¬ Rch f (f.v (f.b b).ctrl.toNat).blk b∧truthN f 48 (f.b b).ctrl.toNat=decide ((f.b b).kind=1)
structure GoodP (f:Fn):Prop where
 shp:ShapeP f
 fst:∀i,i<f.vals.length→¬ Dq f (f.v i)
 snd:∀i,i<f.vals.length→¬ Dh (f.v i)∧∀k,k<(f.v i).args.length→EU f i k
 tru:∀i,i<f.vals.length→∀k,k<(f.v i).args.length→DX f i k
 ctl:∀b,b<f.blks.length→DM f b
end Go.Proofs.YteepnepebilckaaGreatDoor
namespace Go.Proofs.YteepnepebilckaaGreatDoor
open Go Go.Eng
theorem flatMap_eq {α β:Type} {p q:α→List β}:∀{l:List α},(∀x∈l,p x=q x)→l.flatMap p=l.flatMap q
 | [],_=>rfl
 |a :: l,h=>by
  rw[List.flatMap_cons,List.flatMap_cons,h a (.head _),flatMap_eq fun x hx=>h x (.tail _ hx)]
theorem Dl (l:List Int) (k:Nat):(l.map Int.toNat).getD k 0=(l.getD k 0).toNat:=by
 rw[List.getD_eq_getElem?_getD,List.getD_eq_getElem?_getD,List.getElem?_map]
 cases l[k]? <;> rfl
theorem CR {l:List Int} {k:Nat} (hk:k<l.length):l.getD k 0∈l:=by
 rw[List.getD_eq_getElem?_getD,List.getElem?_eq_getElem hk];simp
theorem FU (l:List Nat) (k:Nat):(nats l).getD k 0=((l.getD k 0:Nat):Int):=by
 unfold nats
 rw[List.getD_eq_getElem?_getD,List.getD_eq_getElem?_getD,List.getElem?_map]
 cases l[k]? <;> rfl
section
variable {f : Fn}
theorem succs_nn (h0:∀b,b<f.blks.length→∀s∈(f.b b).succs,0≤s∧s<f.blks.length):∀b s,s∈(f.b b).succs→0≤s:=by
 intro b s hs
 by_cases hb:b<f.blks.length
 ·exact (h0 b hb s hs).1
 have:f.b b=default:=by
  unfold Fn.b
  rw[List.getD_eq_getElem?_getD,List.getElem?_eq_none (by omega)];rfl
 rw[this] at hs
 cases hs
theorem predsOf_eq (h0:∀b s,s∈(f.b b).succs→0≤s) (b:Nat):predsOf f b=predsL (toG f).succs f.blks.length b:=by
 unfold predsOf predsL
 refine flatMap_eq fun i _=>?_
 show _=(((f.b i).succs.map Int.toNat).filter fun s=>s == b).map fun _=>i
 rw[List.filter_map,List.map_map]
 have:(f.b i).succs.filter (fun s=>s == (b:Int))=(f.b i).succs.filter ((fun s=>s == b) ∘ Int.toNat):=by
  refine List.filter_congr fun s hs=>?_
  have:=h0 i s hs
  show (s == (b:Int))=(s.toNat == b)
  exact Bool.eq_iff_iff.2 (by rw[beq_iff_eq,beq_iff_eq];omega)
 rw[this]
 rfl
theorem rch_iff (h0:∀b s,s∈(f.b b).succs→0≤s) {wo i:Nat}:Rch f (wo:Int) i↔RchS (toG f).succs wo i:=by
 constructor
 ·intro h
  induction h with
  |entry h=>exact .entry fun e=>h (by omega)
  | @step b s _ hs hw ih=>
    have:=h0 b s hs
    exact .step ih (List.mem_map.2 ⟨s,hs,rfl⟩) fun e=>hw (by omega)
 intro h
 induction h with
 |entry h=>exact .entry fun e=>h (by omega)
 | @step b s _ hs hw ih=>
   obtain ⟨z,hz,rfl⟩:=List.mem_map.1 (show s∈(f.b b).succs.map Int.toNat from hs)
   have:=h0 b z hz
   exact .step ih hz fun e=>hw (by omega)
theorem rch_all (h0:∀b s,s∈(f.b b).succs→0≤s) (h1:1≤f.blks.length) (h2:∀b,b<f.blks.length→∀s∈(f.b b).succs,0≤s∧s<f.blks.length) {i:Nat}:
 Rch f (-1) i↔RchS (toG f).succs f.blks.length i:=by
 constructor
 ·intro h
  have key:i<f.blks.length∧RchS (toG f).succs f.blks.length i:=by
   induction h with
   |entry h=>exact ⟨h1,.entry (by omega)⟩
   | @step b s _ hs hw ih=>
     have:=h2 b ih.1 s hs
     exact ⟨by omega,.step ih.2 (List.mem_map.2 ⟨s,hs,rfl⟩) (by omega)⟩
  exact key.2
 intro h
 induction h with
 |entry h=>exact .entry (by decide)
 | @step b s _ hs hw ih=>
   obtain ⟨z,hz,rfl⟩:=List.mem_map.1 (show s∈(f.b b).succs.map Int.toNat from hs)
   have:=h0 b z hz
   exact .step ih hz fun e=>by omega
theorem rank_small {g:Gph} {r:Nat→Nat} (_hc:CInv g r):∃p:Nat→Nat,(∀v,v<g.nv→p v<g.nv)∧∀i j,i<g.nv→j<g.nv→r j<r i→p j<p i:=by
 refine ⟨fun v=>(List.range g.nv).countP fun u=>decide (r u<r v),fun v hv=>?_,fun i j hi hj hr=>?_⟩
 ·have h1:(List.range g.nv).countP (fun u=>decide (r u<r v))<(List.range g.nv).countP (fun _=>true):=
   countP_lt (fun _ _ _=>rfl) ⟨v,List.mem_range.2 hv,rfl,decide_eq_false (Nat.lt_irrefl _)⟩
  have h2:(List.range g.nv).countP (fun _=>true)≤(List.range g.nv).length:=List.countP_le_length
  rw[List.length_range] at h2
  exact Nat.lt_of_lt_of_le h1 h2
 exact countP_lt (fun x _ hx=>decide_eq_true (by have:=of_decide_eq_true hx;omega)) ⟨j,List.mem_range.2 hj,decide_eq_true hr,decide_eq_false (Nat.lt_irrefl _)⟩
theorem truthN_stay {g:Gph} (hop:∀v,v<g.nv→(f.v v).op=g.op v) (har:∀v,v<g.nv→((f.v v).args.getD 0 0).toNat=(g.args v).getD 0 0) {r:Nat→Nat} (hc:CInv g r) {p:Nat→Nat}
 (hp:∀i j,i<g.nv→j<g.nv→r j<r i→p j<p i):
 ∀n m v,v<g.nv→p v≤n→p v≤m→truthN f n v=truthN f m v:=by
 intro n
 induction n with
 |zero=>
  intro m v hv h1 h2
  by_cases ht:isT (f.v v).op
  ·rw[CN ht,CN ht]
  by_cases ho:(f.v v).op=14
  ·exfalso
   rw[hop v hv] at ho
   obtain ⟨j,hj,hr⟩:=hc.copy v hv ho
   have:=hp v j hv (hc.closed v hv j (by rw[hj];exact .head _)) hr
   omega
  rw[E6 ht,C0 ht ho]
 |succ n ih=>
  intro m v hv h1 h2
  by_cases ht:isT (f.v v).op
  ·rw[CN ht,CN ht]
  by_cases ho:(f.v v).op=14
  ·have ho':=ho
   rw[hop v hv] at ho'
   obtain ⟨j,hj,hr⟩:=hc.copy v hv ho'
   have hjn:=hc.closed v hv j (by rw[hj];exact .head _)
   have hlt:=hp v j hv hjn hr
   have hja:((f.v v).args.getD 0 0).toNat=j:=by rw[har v hv,hj];rfl
   obtain ⟨m',rfl⟩:∃m',m=m'+1:=⟨m - 1,by omega⟩
   rw[Dr ht ho,Dr ht ho,hja]
   exact ih m' j hjn (by omega) (by omega)
  rw[C0 ht ho,C0 ht ho]
theorem GoodP.succs (h:GoodP f):∀b,b<f.blks.length→∀s∈(f.b b).succs,0≤s∧s<f.blks.length:=fun b hb s hs=>by
 have:=(h.shp.blk b hb).succs s hs
 omega
theorem GoodP.nn (h:GoodP f):∀b s,s∈(f.b b).succs→0≤s:=succs_nn h.succs
theorem GoodP.kind (h:GoodP f) {b:Nat} (hb:b<f.blks.length):(0≤(f.b b).kind∧(f.b b).kind≤2∧((f.b b).succs.length:Int)=Ct (f.b b).kind)∧(-1≤(f.b b).likely∧(f.b b).likely≤1∧((f.b b).kind≠1→(f.b b).likely=0)):=by
 have h1:=(h.shp.blk b hb).one
 unfold DJ at h1
 refine ⟨⟨?_,?_,?_⟩,?_,?_,?_⟩
 ·refine Classical.byContradiction fun e=>h1 (.inl (.inl (.inl (.inl (.inl ?_)))));omega
 ·refine Classical.byContradiction fun e=>h1 (.inl (.inl (.inl (.inl (.inr ?_)))));omega
 ·refine Classical.byContradiction fun e=>h1 (.inl (.inl (.inl (.inr ?_))));exact e
 ·refine Classical.byContradiction fun e=>h1 (.inl (.inl (.inr ?_)));omega
 ·refine Classical.byContradiction fun e=>h1 (.inl (.inr ?_));omega
 intro hk
 refine Classical.byContradiction fun e=>h1 (.inr ⟨hk,e⟩)
theorem GoodP.ctl2 (h:GoodP f) {b:Nat} (hb:b<f.blks.length):((f.b b).kind=0→(f.b b).ctrl= -1)∧((f.b b).kind≠0→0≤(f.b b).ctrl∧(f.b b).ctrl<f.vals.length):=by
 have h1:=(h.shp.blk b hb).two
 unfold De at h1
 refine ⟨fun hk=>Classical.byContradiction fun e=>h1 (.inl ⟨hk,e⟩),fun hk=>⟨?_,?_⟩⟩
 ·refine Classical.byContradiction fun e=>h1 (.inr ⟨hk,.inl ?_⟩);omega
 refine Classical.byContradiction fun e=>h1 (.inr ⟨hk,.inr ?_⟩);omega
theorem GoodP.val (h:GoodP f) {i:Nat} (hi:i<f.vals.length):0≤(f.v i).op∧(f.v i).op≤15∧0≤(f.v i).blk∧(f.v i).blk<f.blks.length∧((f.v i).args.length:Int)=manyI (f.v i).op ((predsOf f (f.v i).blk.toNat).length:Nat):=by
 have h1:=h.fst i hi
 unfold Dq at h1
 refine ⟨?_,?_,?_,?_,?_⟩
 ·refine Classical.byContradiction fun e=>h1 (.inl (.inl (.inl (.inl ?_))));omega
 ·refine Classical.byContradiction fun e=>h1 (.inl (.inl (.inl (.inr ?_))));omega
 ·refine Classical.byContradiction fun e=>h1 (.inl (.inl (.inr ?_)));omega
 ·refine Classical.byContradiction fun e=>h1 (.inl (.inr ?_));omega
 exact Classical.byContradiction fun e=>h1 (.inr e)
theorem GoodP.args (h:GoodP f) {i:Nat} (hi:i<f.vals.length):∀a∈(f.v i).args,0≤a∧a<f.vals.length:=by
 intro a ha
 obtain ⟨k,hk,rfl⟩:=List.getElem_of_mem ha
 have:=((h.snd i hi).2 k hk).1
 rwa [List.getD_eq_getElem?_getD,List.getElem?_eq_getElem hk] at this
theorem GoodP.goodA (h:GoodP f):GoodA (toG f):=by
 have hnn:=h.nn
 have hpr:∀b,(toG f).preds b=predsL (toG f).succs f.blks.length b:=predsOf_eq hnn
 have hblk:∀i,i<f.vals.length→(((toG f).blk i:Nat):Int)=(f.v i).blk:=fun i hi=>by
  have:=h.val hi
  show (((f.v i).blk.toNat:Nat):Int)=_
  omega
 have hlen:∀i,((toG f).args i).length=(f.v i).args.length:=fun i=>List.length_map ..
 refine { toFrm:=⟨h.shp.one,h.shp.nb,h.shp.nv,fun i hi=>?_,fun b hb=>?_,fun b hb=>(h.kind hb).2,fun b hb s hs=>?_,fun b hb=>(rch_all hnn h.shp.one h.succs).1 (h.shp.rch b hb),fun b _=>hpr b,fun b hb=>?_⟩,ops:=fun i hi=>?_,aux:=fun i hi=>?_,args:=fun i hi k hk=>?_ }
 ·have:=h.val hi
  show (f.v i).blk.toNat<f.blks.length
  omega
 ·obtain ⟨h1,h2,h3⟩:=(h.kind hb).1
  refine ⟨h1,h2,?_⟩
  show (((f.b b).succs.map Int.toNat).length:Int)=_
  rw[List.length_map];exact h3
 ·obtain ⟨z,hz,rfl⟩:=List.mem_map.1 (show s∈(f.b b).succs.map Int.toNat from hs)
  have:=(h.shp.blk b hb).succs z hz
  show 1≤z.toNat∧z.toNat<f.blks.length
  omega
 ·show (List.range f.vals.length).filter _=_
  refine List.filter_congr fun i hi=>?_
  have h1:=hblk i (List.mem_range.1 hi)
  show ((f.v i).blk == (b:Int))=((toG f).blk i == b)
  exact Bool.eq_iff_iff.2 (by rw[beq_iff_eq,beq_iff_eq];omega)
 ·obtain ⟨h1,h2,_,_,h5⟩:=h.val hi
  refine ⟨h1,h2,?_⟩
  rw[hlen];exact h5
 ·have h1:=(h.snd i hi).1
  rw[hlen]
  unfold Dh at h1
  refine ⟨fun ho=>⟨?_,?_⟩,fun ho=>?_,fun ho=>?_⟩
  ·refine Classical.byContradiction fun e=>h1 (.inl (.inl ⟨ho,.inl ?_⟩))
   exact Int.not_le.1 e
  ·refine Classical.byContradiction fun e=>h1 (.inl (.inl ⟨ho,.inr ?_⟩))
   exact Int.not_le.1 e
  ·exact Classical.byContradiction fun e=>h1 (.inl (.inr ⟨ho,e⟩))
  refine Classical.byContradiction fun e=>h1 (.inr ⟨ho,?_⟩)
  omega
 rw[hlen] at hk
 obtain ⟨⟨h1,h2⟩,h3⟩:=(h.snd i hi).2 k hk
 have hg:((toG f).args i).getD k 0=((f.v i).args.getD k 0).toNat:=Dl _ _
 rw[hg]
 obtain ⟨a,ha⟩:∃a:Nat,(f.v i).args.getD k 0=(a:Int):=⟨_,(Int.toNat_of_nonneg h1).symm⟩
 rw[ha] at h2 h3 ⊢
 have han:a<f.vals.length:=by omega
 refine ⟨han,?_⟩
 unfold DG at h3
 unfold E0
 show if (f.v i).op=13 then Dom _ ((toG f).blk a) _ else ((toG f).blk a≠_∧Dom _ ((toG f).blk a) _)∨((toG f).blk a=_∧a<i)
 rw[show ((a:Int)).toNat=a from rfl,← hblk a han] at h3
 have hbi:=hblk i hi
 split
 ·rename_i ho
  rw[if_pos ho] at h3
  exact fun hr=>h3 ((rch_iff hnn).2 hr)
 rename_i ho
 rw[if_neg ho,← hbi] at h3
 rcases h3 with ⟨h4,h5⟩|⟨h4,h5⟩
 ·exact .inl ⟨fun e=>h4 (by rw[e]),fun hr=>h5 ((rch_iff hnn).2 hr)⟩
 exact .inr ⟨by omega,by omega⟩
theorem GoodP.good (h:GoodP f):GoodG (truthN f 48) (toG f):=by
 have hA:=h.goodA
 have hnn:=h.nn
 have hlen:∀i,((toG f).args i).length=(f.v i).args.length:=fun i=>List.length_map ..
 have hg:∀i k,((toG f).args i).getD k 0=((f.v i).args.getD k 0).toNat:=fun i k=>Dl _ _
 have hc:=hA.cinv
 obtain ⟨p,hp1,hp2⟩:=rank_small hc
 have hnv:(toG f).nv≤48:=hA.nv
 refine { toGoodA:=hA,tru:=fun i hi ho k hk=>?_,tr:=fun i hi=>?_,ctrl:=fun b hb=>?_ }
 ·rw[hg]
  exact h.tru i hi k (by rw[← hlen];exact hk) ho
 ·show _=if isT (f.v i).op then true else if (f.v i).op=14 then _ else false
  by_cases ht:isT (f.v i).op
  ·rw[CN ht,if_pos ht]
  by_cases ho:(f.v i).op=14
  ·rw[if_neg ht,if_pos ho,Dr ht ho,hg]
   obtain ⟨j,hj,hr⟩:=hc.copy i hi ho
   have hjn:=hc.closed i hi j (by rw[hj];exact .head _)
   have hja:((f.v i).args.getD 0 0).toNat=j:=by rw[← hg,hj];rfl
   have h1:=hp2 i j hi hjn hr
   have h2:=hp1 i hi
   rw[hja]
   exact truthN_stay (f:=f) (g:=toG f) (fun _ _=>rfl) (fun v _=>(hg v 0).symm) hc hp2 47 48 j hjn (by omega) (by omega)
  rw[C0 ht ho,if_neg ht,if_neg ho]
 have h1:=h.ctl2 hb
 by_cases hk:(f.b b).kind=0
 ·left
  refine ⟨hk,?_⟩
  show (if 0≤(f.b b).ctrl then [(f.b b).ctrl.toNat] else [])=[]
  rw[h1.1 hk];rfl
 right
 obtain ⟨h2,h3⟩:=h1.2 hk
 obtain ⟨h4,h5⟩:=h.ctl b hb hk
 refine ⟨(f.b b).ctrl.toNat,?_,hk,?_,?_,h5⟩
 ·show (if 0≤(f.b b).ctrl then [(f.b b).ctrl.toNat] else [])=_
  rw[if_pos h2]
 ·show (f.b b).ctrl.toNat<f.vals.length
  omega
 intro hr
 refine h4 ?_
 have:=(h.val (i:=(f.b b).ctrl.toNat) (by omega)).2.2.1
 have hr2:=(rch_iff hnn).2 hr
 have e:(((toG f).blk (f.b b).ctrl.toNat:Nat):Int)=(f.v (f.b b).ctrl.toNat).blk:=by
  show (((f.v (f.b b).ctrl.toNat).blk.toNat:Nat):Int)=_
  omega
 rwa [e] at hr2
theorem GoodP.wf (h:GoodP f):Wf f:=by
 have hg:=h.good
 refine ⟨h.shp.nb,h.shp.nv,h.shp.one,fun i hi=>?_,fun i hi=>⟨?_,h.args hi⟩,fun b hb=>⟨?_,h.succs b hb⟩,fun b hb=>?_,fun b hb=>?_⟩
 ·have:=h.val hi
  omega
 ·have:=hg.alen (i:=i) hi
  have e:((toG f).args i).length=(f.v i).args.length:=List.length_map ..
  omega
 ·have:=hg.slen (b:=b) hb
  have e:((toG f).succs b).length=(f.b b).succs.length:=List.length_map ..
  omega
 ·have h1:=h.ctl2 hb
  by_cases hk:(f.b b).kind=0
  ·have:=h1.1 hk;omega
  have:=h1.2 hk;omega
 have:=(h.kind hb).2
 omega
end
end Go.Proofs.YteepnepebilckaaGreatDoor
