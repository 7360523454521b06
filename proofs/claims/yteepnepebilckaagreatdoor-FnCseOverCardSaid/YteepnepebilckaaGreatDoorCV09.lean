/- The law FnCseOver returns true for every input in which the opcode table reads as laid, and its argument reads as it did, the table being tied to the text of the program. -/
import Derived.Test.YteepnepebilckaaGreatDoorCV08
namespace Go.Proofs.YteepnepebilckaaGreatDoor.LT
section
variable {V : Nat → Prop} {S : Nat → List Nat} {num par : Nat → Nat}
structure AL (V:Nat→Prop) (num par:Nat→Nat) (i:Nat) (sd a lab:Nat→Nat):Prop where
 unl:∀v,V v→num v≤i→a v=0
 lnk:∀v,V v→i<num v→V (a v)∧Anc par 1 (a v) v∧num (a v)<num v∧Anc par 1 (lab v) v∧num (a v)<num (lab v)∧∀u,Anc par 1 u v→num (a v)<num u→i<num u∧sd (lab v)≤sd u
 self:∀v,V v→num v≤i→lab v=v
theorem AL.congr {i:Nat} {sd sd' a lab:Nat→Nat} (h:AL V num par i sd a lab) (hd:Dfs V S 1 num par) (he:∀v,V v→i<num v→sd' v=sd v):AL V num par i sd' a lab:=by
 refine ⟨h.unl,fun v hv hi=>?_,h.self⟩
 obtain ⟨h1,h2,h3,h4,h5,h6⟩:=h.lnk v hv hi
 refine ⟨h1,h2,h3,h4,h5,fun u hu hlt=>?_⟩
 obtain ⟨k1,k2⟩:=h6 u hu hlt
 have hl:=(h6 _ h4 h5).1
 rw[he _ (hd.le hv h4).1 hl,he _ (hd.le hv hu).1 k1]
 exact ⟨k1,k2⟩
theorem AL.squeeze {i:Nat} {sd a lab:Nat→Nat} (h:AL V num par i sd a lab) (hd:Dfs V S 1 num par) {v:Nat} (hv:V v) (hi:i<num v) (hx:i<num (a v)):
 AL V num par i sd (upd a v (a (a v))) (upd lab v (if sd (lab (a v))<sd (lab v) then lab (a v) else lab v)):=by
 obtain ⟨h1,h2,h3,h4,h5,h6⟩:=h.lnk v hv hi
 obtain ⟨g1,g2,g3,g4,g5,g6⟩:=h.lnk _ h1 hx
 refine ⟨fun u hu hl=>?_,fun u hu hl=>?_,fun u hu hl=>?_⟩
 ·rw[upd_ne _ _ fun e=>by subst e;omega];exact h.unl u hu hl
 ·by_cases e:u=v
  ·subst e
   rw[upd_same,upd_same]
   refine ⟨g1,g2.trans h2,by omega,?_,?_,fun z hz hlt=>?_⟩
   ·split
    ·exact g4.trans h2
    exact h4
   ·split
    ·exact g5
    omega
   have key:i<num z∧(sd (lab (a u))≤sd z∨sd (lab u)≤sd z):=by
    rcases Nat.lt_or_ge (num (a u)) (num z) with k|k
    ·obtain ⟨k1,k2⟩:=h6 z hz k
     exact ⟨k1,.inr k2⟩
    obtain ⟨k1,k2⟩:=g6 z (hd.anc_of_le hv hz h2 k) hlt
    exact ⟨k1,.inl k2⟩
   refine ⟨key.1,?_⟩
   rcases key.2 with k|k <;> split <;> omega
  rw[upd_ne _ _ e,upd_ne _ _ e];exact h.lnk u hu hl
 rw[upd_ne _ _ fun e=>by subst e;omega];exact h.self u hu hl
theorem AL.label {i:Nat} {sd a lab:Nat→Nat} (h:AL V num par i sd a lab) {v:Nat} (hv:V v) (hi:i<num v) (hr:num (a v)≤i):
 Anc par 1 (lab v) v∧i<num (lab v)∧∀u,Anc par 1 u v→i<num u→sd (lab v)≤sd u:=by
 obtain ⟨h1,h2,h3,h4,h5,h6⟩:=h.lnk v hv hi
 exact ⟨h4,(h6 _ h4 h5).1,fun u hu hl=>(h6 u hu (by omega)).2⟩
def Chn (nx:Nat→Nat):Nat→List Nat→Prop
 |h,[]=>h=0
 |h,v :: L=>h=v∧h≠0∧Chn nx (nx v) L
theorem Chn.congr {nx nx':Nat→Nat}:∀{L:List Nat} {h:Nat},Chn nx h L→(∀v∈L,nx' v=nx v)→Chn nx' h L
 | [],_,h,_=>h
 |v :: L,_,h,he=>⟨h.1,h.2.1,by rw[he v (.head _)];exact h.2.2.congr fun u hu=>he u (.tail _ hu)⟩
structure LI (V:Nat→Prop) (S:Nat→List Nat) (num par:Nat→Nat) (i:Nat) (sd a lab bh bl idom:Nat→Nat):Prop where
 al:AL V num par i sd a lab
 sda:∀v,V v→i<num v→∃s,V s∧num s=sd v∧Anc par 1 s v∧s≠v
 clo:∀v w,V v→V w→i<num w→w∈S v→(num v<num w→sd w≤num v)∧(num w<num v→∀u,Anc par 1 u v→num w<num u→sd w≤sd u)
 bkt:∀p,V p→∃L,Chn bl (bh p) L∧∀v,v∈L↔(V v∧i<num v∧sd v=num p)
 idm:∀v,V v→i<num v→(∀u,Anc par 1 u v→sd v<num u→i<num u)→V (idom v)∧Ok3 1 num par sd v (idom v)
theorem Ok3.congr {sd sd':Nat→Nat} (hd:Dfs V S 1 num par) {i v d:Nat} (hv:V v) (hi:i<num v) (hc:∀u,Anc par 1 u v→sd v<num u→i<num u) (he:∀v,V v→i<num v→sd' v=sd v) (h:Ok3 1 num par sd v d):Ok3 1 num par sd' v d:=by
 unfold Ok3 at *
 rw[he v hv hi]
 rcases h with ⟨h1,h2⟩|⟨h1,h2,h3,h4⟩
 ·refine .inl ⟨h1,fun u hu hl=>?_⟩
  rw[he u (hd.le hv hu).1 (hc u hu hl)];exact h2 u hu hl
 have hd':=he d (hd.le hv h1).1 (hc d h1 h2)
 rw[hd']
 refine .inr ⟨h1,h2,h3,fun u hu hl=>?_⟩
 rw[he u (hd.le hv hu).1 (hc u hu hl)];exact h4 u hu hl
theorem LI.congr {i:Nat} {sd sd' a lab bh bl idom:Nat→Nat} (hd:Dfs V S 1 num par) (h:LI V S num par i sd a lab bh bl idom) (he:∀v,V v→i<num v→sd' v=sd v):LI V S num par i sd' a lab bh bl idom:=by
 refine ⟨h.al.congr hd he,fun v hv hi=>by rw[he v hv hi];exact h.sda v hv hi,fun v w hv hw hi hs=>?_,fun p hp=>?_,fun v hv hi hc=>?_⟩
 ·obtain ⟨h1,h2⟩:=h.clo v w hv hw hi hs
  rw[he w hw hi]
  exact ⟨h1,fun hl u hu hlt=>by rw[he u (hd.le hv hu).1 (by omega)];exact h2 hl u hu hlt⟩
 ·obtain ⟨L,h1,h2⟩:=h.bkt p hp
  refine ⟨L,h1,fun v=>?_⟩
  rw[h2]
  exact ⟨fun ⟨k1,k2,k3⟩=>⟨k1,k2,by rw[he v k1 k2];exact k3⟩,fun ⟨k1,k2,k3⟩=>⟨k1,k2,by rw[he v k1 k2] at k3;exact k3⟩⟩
 rw[he v hv hi] at hc
 obtain ⟨h1,h2⟩:=h.idm v hv hi hc
 exact ⟨h1,h2.congr hd hv hi hc he⟩
theorem LI.forest {i:Nat} {sd a a' lab lab' bh bl idom:Nat→Nat} (h:LI V S num par i sd a lab bh bl idom) (hl:AL V num par i sd a' lab'):LI V S num par i sd a' lab' bh bl idom:=⟨hl,h.sda,h.clo,h.bkt,h.idm⟩
structure LW (V:Nat→Prop) (S:Nat→List Nat) (num par:Nat→Nat) (i w:Nat) (D:Nat→Prop) (sd a lab bh bl idom:Nat→Nat):Prop extends LI V S num par i sd a lab bh bl idom where
 sdu:∀v,V v→num v≤i→v≠w→sd v=num v
 sdw:∃s,V s∧num s=sd w∧Anc par 1 s w
 don:∀v,D v→(num v<num w→sd w≤num v)∧(num w<num v→∀u,Anc par 1 u v→num w<num u→sd w≤sd u)
theorem LW.start {i w:Nat} {D:Nat→Prop} {sd a lab bh bl idom:Nat→Nat} (h:LI V S num par i sd a lab bh bl idom) (hw:V w) (hwi:num w=i) (hs:∀v,V v→num v≤i→sd v=num v) (hD:∀v,¬ D v):LW V S num par i w D sd a lab bh bl idom:=
 ⟨h,fun v hv hi _=>hs v hv hi,⟨w,hw,(hs w hw (by omega)).symm,.refl _⟩,fun v h=>absurd h (hD v)⟩
theorem LW.forest {i w:Nat} {D:Nat→Prop} {sd a a' lab lab' bh bl idom:Nat→Nat} (h:LW V S num par i w D sd a lab bh bl idom) (hl:AL V num par i sd a' lab'):LW V S num par i w D sd a' lab' bh bl idom:=⟨h.toLI.forest hl,h.sdu,h.sdw,h.don⟩
theorem LW.sdle {i w:Nat} {D:Nat→Prop} {sd a lab bh bl idom:Nat→Nat} (hd:Dfs V S 1 num par) (hw:V w) (hwi:num w=i) (h:LW V S num par i w D sd a lab bh bl idom) {v:Nat} (hv:V v):1≤sd v∧sd v≤num v:=by
 rcases Nat.lt_or_ge i (num v) with k|k
 ·obtain ⟨s,h1,h2,h3,_⟩:=h.sda v hv k
  have:=(hd.le hv h3).2.1
  have:=hd.pos s h1
  omega
 by_cases e:v=w
 ·subst e
  obtain ⟨s,h1,h2,h3⟩:=h.sdw
  have:=(hd.le hv h3).2.1
  have:=hd.pos s h1
  omega
 have:=h.sdu v hv k e
 have:=hd.pos v hv
 omega
theorem LW.way {i w:Nat} {D D':Nat→Prop} {sd a lab bh bl idom:Nat→Nat} (hd:Dfs V S 1 num par) (hw:V w) (hwi:num w=i) (h:LW V S num par i w D sd a lab bh bl idom) {v u:Nat} (hv:V v) (hs:w∈S v)
 (hu:(num v≤i∧u=v)∨(i<num v∧Anc par 1 u v∧i<num u∧∀z,Anc par 1 z v→i<num z→sd u≤sd z)) (hD:∀z,D' z→D z∨z=v):
 LW V S num par i w D' (upd sd w (if sd u<sd w then sd u else sd w)) a lab bh bl idom:=by
 have he:∀z x,V z→i<num z→upd sd w x z=sd z:=fun z x _ hz=>upd_ne _ _ fun e=>by subst e;omega
 have hle:(if sd u<sd w then sd u else sd w)≤sd w:=by split <;> omega
 refine ⟨h.toLI.congr hd fun z hz hi=>he z _ hz hi,fun z hz hi hne=>by rw[upd_ne _ _ hne];exact h.sdu z hz hi hne,?_,fun z hz=>?_⟩
 ·rw[upd_same]
  split
  ·rename_i hlt
   have hsw:=(h.sdle hd hw hwi hw).2
   rcases hu with ⟨h1,rfl⟩|⟨h1,h2,h3,_⟩
   ·by_cases e:u=w
    ·subst e;omega
    have hsu:=h.sdu u hv h1 e
    have hlt2:num u<num w:=by
     rcases Nat.lt_or_ge (num u) (num w) with k|k
     ·exact k
     exact absurd (hd.inj u w hv hw (by omega)) e
    exact ⟨u,hv,hsu.symm,hd.edge u w hv hw hs hlt2⟩
   have hun:=(hd.le hv h2).1
   obtain ⟨s,k1,k2,k3,_⟩:=h.sda u hun h3
   exact ⟨s,k1,k2,hd.mid' hv (k3.trans h2) hw (by omega) (by omega)⟩
  exact h.sdw
 rw[upd_same]
 rcases hD z hz with k|rfl
 ·obtain ⟨h1,h2⟩:=h.don z k
  refine ⟨fun hl=>Nat.le_trans hle (h1 hl),fun hl x hx hlt=>?_⟩
  rw[upd_ne _ _ fun e=>by subst e;omega]
  exact Nat.le_trans hle (h2 hl x hx hlt)
 refine ⟨fun hl=>?_,fun hl x hx hlt=>?_⟩
 ·rcases hu with ⟨h1,rfl⟩|⟨h1,_⟩
  ·have hne:u≠w:=fun e=>by subst e;omega
   have:=h.sdu u hv h1 hne
   split <;> omega
  omega
 rw[upd_ne _ _ fun e=>by subst e;omega]
 rcases hu with ⟨h1,rfl⟩|⟨h1,h2,h3,h4⟩
 ·omega
 have:=h4 x hx (by omega)
 split <;> omega
structure LB (V:Nat→Prop) (S:Nat→List Nat) (num par:Nat→Nat) (i w:Nat) (D:Nat→Prop) (sd a lab bh bl idom:Nat→Nat):Prop where
 al:AL V num par (i - 1) sd a lab
 sda:∀v,V v→i≤num v→∃s,V s∧num s=sd v∧Anc par 1 s v∧s≠v
 sdu:∀v,V v→num v<i→sd v=num v
 clo:∀v w,V v→V w→i≤num w→w∈S v→(num v<num w→sd w≤num v)∧(num w<num v→∀u,Anc par 1 u v→num w<num u→sd w≤sd u)
 bkt:∀p,V p→∃L,Chn bl (bh p) L∧∀v,v∈L↔(V v∧i≤num v∧sd v=num p)
 idm:∀v,V v→i≤num v→((i<num v∧∀u,Anc par 1 u v→sd v<num u→i<num u)∨D v)→V (idom v)∧Ok3 1 num par sd v (idom v)
theorem LW.link {i w s:Nat} {D D':Nat→Prop} {sd a lab bh bl idom:Nat→Nat} (hd:Dfs V S 1 num par) (h0:¬ V 0) (hw:V w) (hwi:num w=i) (hi:2≤i) (h:LW V S num par i w D sd a lab bh bl idom) (hall:∀v,V v→w∈S v→D v)
 (hp:w∈S (par w)) (hsV:V s) (hs:num s=sd w) (hD':∀v,¬ D' v):
 LB V S num par i w D' sd (upd a w (par w)) lab (upd bh s w) (upd bl w (bh s)) idom:=by
 have hw1:w≠1:=fun e=>by subst e;rw[hd.one] at hwi;omega
 have hpV:=hd.parV w hw hw1
 have hpl:=hd.parLt w hw hw1
 have hsp:sd w≤num (par w):=(h.don _ (hall _ hpV hp)).1 hpl
 have hww:∀u,Anc par 1 u w→num (par w)<num u→u=w:=fun u hu hlt=>by
  rcases hu.up with e|⟨_,k⟩
  ·exact e
  have:=(hd.le hpV k).2.1;omega
 have hnum:∀v,V v→i≤num v→v=w∨i<num v:=fun v hv hi=>by
  by_cases e:num v=i
  ·exact .inl (hd.inj v w hv hw (by omega))
  exact .inr (by omega)
 refine ⟨⟨fun v hv hl=>?_,fun v hv hl=>?_,fun v hv hl=>h.al.self v hv (by omega)⟩,fun v hv hl=>?_,fun v hv hl=>h.sdu v hv (by omega) fun e=>by subst e;omega,fun v x hv hx hl hsx=>?_,fun p hpp=>?_,fun v hv hl hc=>?_⟩
 ·rw[upd_ne _ _ fun e=>by subst e;omega];exact h.al.unl v hv (by omega)
 ·rcases hnum v hv (by omega) with rfl|k
  ·have hls:=h.al.self v hv (by omega)
   rw[upd_same,hls]
   exact ⟨hpV,.one hw1,hpl,.refl _,hpl,fun u hu hlt=>by rw[hww u hu hlt];exact ⟨by omega,Nat.le_refl _⟩⟩
  rw[upd_ne _ _ fun e=>by subst e;omega]
  obtain ⟨h1,h2,h3,h4,h5,h6⟩:=h.al.lnk v hv k
  exact ⟨h1,h2,h3,h4,h5,fun u hu hlt=>⟨by have:=(h6 u hu hlt).1;omega,(h6 u hu hlt).2⟩⟩
 ·rcases hnum v hv hl with rfl|k
  ·obtain ⟨s,h1,h2,h3⟩:=h.sdw
   exact ⟨s,h1,h2,h3,fun e=>by subst e;omega⟩
  exact h.sda v hv k
 ·rcases hnum x hx hl with rfl|k
  ·exact h.don v (hall v hv hsx)
  exact h.clo v x hv hx k hsx
 ·obtain ⟨L,h1,h2⟩:=h.bkt p hpp
  have hwL:w∉L:=fun k=>by have:=((h2 w).1 k).2.1;omega
  have h1':Chn (upd bl w (bh s)) (bh p) L:=h1.congr fun v hv=>upd_ne _ _ fun e=>hwL (e ▸ hv)
  by_cases e:p=s
  ·subst e
   refine ⟨w :: L,⟨upd_same ..,?_,by rw[upd_same];exact h1'⟩,fun v=>?_⟩
   ·rw[upd_same];exact fun e=>h0 (e ▸ hw)
   rw[List.mem_cons,h2]
   constructor
   ·rintro (rfl|⟨k1,k2,k3⟩)
    ·exact ⟨hw,by omega,hs.symm⟩
    exact ⟨k1,by omega,k3⟩
   rintro ⟨k1,k2,k3⟩
   rcases hnum v k1 k2 with k|k
   ·exact .inl k
   exact .inr ⟨k1,k,k3⟩
  refine ⟨L,by rw[upd_ne _ _ e];exact h1',fun v=>?_⟩
  rw[h2]
  constructor
  ·rintro ⟨k1,k2,k3⟩
   exact ⟨k1,by omega,k3⟩
  rintro ⟨k1,k2,k3⟩
  rcases hnum v k1 k2 with rfl|k
  ·exact absurd (hd.inj p s hpp hsV (by omega)) e
  exact ⟨k1,k,k3⟩
 rcases hc with ⟨h1,h2⟩|k
 ·exact h.idm v hv h1 h2
 exact absurd k (hD' v)
theorem LB.forest {i w:Nat} {D:Nat→Prop} {sd a a' lab lab' bh bl idom:Nat→Nat} (h:LB V S num par i w D sd a lab bh bl idom) (hl:AL V num par (i - 1) sd a' lab'):LB V S num par i w D sd a' lab' bh bl idom:=⟨hl,h.sda,h.sdu,h.clo,h.bkt,h.idm⟩
theorem LB.sdle {i w:Nat} {D:Nat→Prop} {sd a lab bh bl idom:Nat→Nat} (hd:Dfs V S 1 num par) (h:LB V S num par i w D sd a lab bh bl idom) {v:Nat} (hv:V v):1≤sd v∧sd v≤num v:=by
 rcases Nat.lt_or_ge (num v) i with k|k
 ·have:=h.sdu v hv k
  have:=hd.pos v hv
  omega
 obtain ⟨s,h1,h2,h3,_⟩:=h.sda v hv k
 have:=(hd.le hv h3).2.1
 have:=hd.pos s h1
 omega
theorem LB.item {i w:Nat} {D D':Nat→Prop} {sd a lab bh bl idom:Nat→Nat} (hd:Dfs V S 1 num par) (hw:V w) (hwi:num w=i) (hi:2≤i) (h:LB V S num par i w D sd a lab bh bl idom) {v u d:Nat} (hv:V v) (hvi:i≤num v) (hvp:sd v=num (par w))
 (hu:Anc par 1 u v∧i - 1<num u∧∀z,Anc par 1 z v→i - 1<num z→sd u≤sd z) (hd':d=if sd u<sd v then u else par w) (hD:∀z,D' z→D z∨z=v):
 LB V S num par i w D' sd a lab bh bl (upd idom v d)∧V u:=by
 have hw1:w≠1:=fun e=>by subst e;rw[hd.one] at hwi;omega
 have hpV:=hd.parV w hw hw1
 have hpl:=hd.parLt w hw hw1
 obtain ⟨u1,u2,u3⟩:=hu
 have huV:=(hd.le hv u1).1
 have hlow:∀z,Anc par 1 z v→sd v<num z→i - 1<num z:=fun z hz hlt=>by
  rcases Nat.lt_or_ge (num z) i with k|k
  ·have h1:=hd.mid' hv hz hw (by omega) (by omega)
   rcases h1.up with e|⟨_,k2⟩
   ·subst e;omega
   have:=(hd.le hpV k2).2.1;omega
  omega
 have hok:V d∧Ok3 1 num par sd v d:=by
  subst hd'
  split
  ·rename_i hlt
   exact ⟨huV,.inr ⟨u1,by omega,hlt,fun z hz hl=>u3 z hz (hlow z hz hl)⟩⟩
  rename_i hlt
  exact ⟨hpV,.inl ⟨hvp.symm,fun z hz hl=>by have:=u3 z hz (hlow z hz hl);omega⟩⟩
 refine ⟨⟨h.al,h.sda,h.sdu,h.clo,h.bkt,fun z hz hl hc=>?_⟩,huV⟩
 by_cases e:z=v
 ·subst e;rw[upd_same];exact hok
 rw[upd_ne _ _ e]
 refine h.idm z hz hl ?_
 rcases hc with k|k
 ·exact .inl k
 rcases hD z k with k|k
 ·exact .inr k
 exact absurd k e
theorem LB.done {i w:Nat} {D:Nat→Prop} {sd a lab bh bl idom:Nat→Nat} (hd:Dfs V S 1 num par) (hw:V w) (hwi:num w=i) (hi:2≤i) (h:LB V S num par i w D sd a lab bh bl idom) (hall:∀v,V v→i≤num v→sd v=num (par w)→D v):
 LI V S num par (i - 1) sd a lab bh bl idom:=by
 have hw1:w≠1:=fun e=>by subst e;rw[hd.one] at hwi;omega
 have hpV:=hd.parV w hw hw1
 have hpl:=hd.parLt w hw hw1
 refine ⟨h.al,fun v hv hl=>h.sda v hv (by omega),fun v x hv hx hl=>h.clo v x hv hx (by omega),fun p hp=>?_,fun v hv hl hc=>h.idm v hv (by omega) ?_⟩
 ·obtain ⟨L,h1,h2⟩:=h.bkt p hp
  refine ⟨L,h1,fun v=>?_⟩
  rw[h2]
  constructor <;> (rintro ⟨k1,k2,k3⟩;exact ⟨k1,by omega,k3⟩)
 by_cases e:Anc par 1 w v∧sd v<num w
 ·right
  obtain ⟨e1,e2⟩:=e
  refine hall v hv (by omega) ?_
  obtain ⟨s,k1,k2,k3,k4⟩:=h.sda v hv (by omega)
  have hpv:Anc par 1 (par w) v:=Anc.trans (.one hw1) e1
  rcases Nat.lt_or_ge (sd v) (num (par w)) with k|k
  ·have:=hc _ hpv k;omega
  have h1:=hd.anc_of_le hv k3 e1 (by omega)
  rcases h1.up with e|⟨_,k5⟩
  ·subst e;omega
  have:=(hd.le hpV k5).2.1;omega
 left
 have hsv:=(h.sdle hd hv).2
 have hne:v≠w:=fun e2=>e ⟨by rw[e2];exact .refl _,by
  obtain ⟨s,k1,k2,k3,k4⟩:=h.sda v hv (by omega)
  have:=(hd.le hv k3).2.2 k4
  rw[e2] at this k2 ⊢
  omega⟩
 refine ⟨?_,fun u hu hlt=>?_⟩
 ·rcases Nat.lt_or_ge i (num v) with k|k
  ·exact k
  exact absurd (hd.inj v w hv hw (by omega)) hne
 have h1:=hc u hu hlt
 rcases Nat.lt_or_ge i (num u) with k|k
 ·exact k
 have:u=w:=hd.inj u w (hd.le hv hu).1 hw (by omega)
 subst this
 exact absurd ⟨hu,hlt⟩ e
theorem LI.start {n:Nat} {sd a lab bh bl idom:Nat→Nat} (hn:∀v,V v→num v≤n) (h1:∀v,V v→a v=0) (h2:∀v,V v→lab v=v) (h3:∀v,V v→bh v=0):LI V S num par n sd a lab bh bl idom:=by
 refine ⟨⟨fun v hv _=>h1 v hv,fun v hv hl=>?_,fun v hv _=>h2 v hv⟩,fun v hv hl=>?_,fun v w _ hw hl=>?_,fun p hp=>⟨[],h3 p hp,fun v=>⟨fun h=>(by cases h),fun h=>?_⟩⟩,fun v hv hl=>?_⟩
 ·have:=hn v hv;omega
 ·have:=hn v hv;omega
 ·have:=hn w hw;omega
 ·have:=hn v h.1;omega
 have:=hn v hv;omega
theorem LI.semi {sd a lab bh bl idom:Nat→Nat} (hd:Dfs V S 1 num par) (h:LI V S num par 1 sd a lab bh bl idom):
 Semi V S 1 num par sd∧∀v,V v→v≠1→V (idom v)∧Ok3 1 num par sd v (idom v)∧∃s,V s∧num s=sd v∧Anc par 1 s v∧s≠v:=by
 refine ⟨⟨fun v w hv hw hne hs hlt=>(h.clo v w hv hw (hd.gt1 hw hne) hs).1 hlt,fun v w u hv hw hne hs hlt hu hl=>(h.clo v w hv hw (hd.gt1 hw hne) hs).2 hlt u hu hl⟩,fun v hv hne=>?_⟩
 have h1:=hd.gt1 hv hne
 obtain ⟨s,k1,k2,k3,k4⟩:=h.sda v hv h1
 obtain ⟨h2,h3⟩:=h.idm v hv h1 fun u _ hlt=>by have:=hd.pos s k1;omega
 exact ⟨h2,h3,s,k1,k2,k3,k4⟩
structure L4 (V:Nat→Prop) (num par sd:Nat→Nat) (i:Nat) (idom:Nat→Nat):Prop where
 done:∀v,V v→v≠1→num v<i→V (idom v)∧Dm V 1 num par sd (idom v) v
 left:∀v,V v→v≠1→i≤num v→V (idom v)∧Ok3 1 num par sd v (idom v)
theorem L4.next {sd idom:Nat→Nat} (hd:Dfs V S 1 num par) {i w s d:Nat} (hw:V w) (hw1:w≠1) (hwi:num w=i) (h:L4 V num par sd i idom) (hs:V s∧num s=sd w∧Anc par 1 s w∧s≠w)
 (he:d=if idom w=s then idom w else idom (idom w)):L4 V num par sd (i+1) (upd idom w d):=by
 obtain ⟨hi1,hi2⟩:=h.left w hw hw1 (by omega)
 have hk:V d∧Dm V 1 num par sd d w:=by
  subst he
  split
  ·rename_i e
   exact ⟨hi1,hi2.near hs.2.2.1 hs.2.1 hs.2.2.2 e⟩
  rename_i e
  have hlt:sd w<num (idom w)∧Anc par 1 (idom w) w∧idom w≠w:=by
   rcases hi2 with ⟨h3,_⟩|⟨h3,h4,h5,_⟩
   ·exact absurd (hd.inj _ s hi1 hs.1 (by omega)) e
   exact ⟨h4,h3,fun e=>by rw[e] at h5;omega⟩
  have hne:idom w≠1:=fun e=>by
   have:=hd.one
   have:=hd.pos s hs.1
   rw[e] at hlt
   omega
  obtain ⟨h6,h7⟩:=h.done _ hi1 hne (by have:=(hd.le hw hlt.2.1).2.2 hlt.2.2;omega)
  exact ⟨h6,(hi2.far hd hw hs.2.2.1 hs.2.1 e hi1 h7).2⟩
 refine ⟨fun v hv hne hl=>?_,fun v hv hne hl=>?_⟩
 ·by_cases e:v=w
  ·subst e;rw[upd_same];exact hk
  rw[upd_ne _ _ e]
  refine h.done v hv hne ?_
  rcases Nat.lt_or_ge (num v) i with k|k
  ·exact k
  exact absurd (hd.inj v w hv hw (by omega)) e
 rw[upd_ne _ _ fun e=>by subst e;omega]
 exact h.left v hv hne (by omega)
end
end Go.Proofs.YteepnepebilckaaGreatDoor.LT
namespace Go.Proofs.YteepnepebilckaaGreatDoor
open Go Go.Eng Go.RowKit
def i32n (F:Nat→Nat):Nat→Value:=fun j=>.int .i32 ((F j:Nat):Int)
structure Scr (w:World) (b m:Nat) (a0 a1 a2 a3 a4 a5 a6:Nat→Nat):Prop where
 ex:∃F,w.heap[b]? =some (.cells (cellsOf (i32n F) (7 * m)) 88 (0,0))∧∀i,i<m→
  F (0 * m+i)=a0 i∧F (1 * m+i)=a1 i∧F (2 * m+i)=a2 i∧F (3 * m+i)=a3 i∧F (4 * m+i)=a4 i∧F (5 * m+i)=a5 i∧F (6 * m+i)=a6 i
def seg (b m k:Nat):Value:=.slice (some ⟨b,k * m,none⟩) m (7 * m - k * m)
section
variable {w w' : World} {b m : Nat} {a0 a1 a2 a3 a4 a5 a6 : Nat → Nat}
theorem Scr.free (h:Scr w b m a0 a1 a2 a3 a4 a5 a6) {o:Nat}:w.frozen? ⟨b,o,none⟩=false:=by
 obtain ⟨F,h1,_⟩:=h.ex
 exact AQ h1
theorem Scr.stay (h:Scr w b m a0 a1 a2 a3 a4 a5 a6) (hk:w'.heap[b]? =w.heap[b]?):Scr w' b m a0 a1 a2 a3 a4 a5 a6:=by
 obtain ⟨F,h1,h2⟩:=h.ex
 exact ⟨F,hk.trans h1,h2⟩
theorem Scr.lt (h:Scr w b m a0 a1 a2 a3 a4 a5 a6):b<w.heap.size:=by
 obtain ⟨F,h1,_⟩:=h.ex
 exact (Array.getElem?_eq_some_iff.1 h1).1
theorem Scr.cell (h:Scr w b m a0 a1 a2 a3 a4 a5 a6) {i:Nat} (hi:i<m):
 w.cell? ⟨b,0 * m+i,none⟩=some (.int .i32 ((a0 i:Nat):Int))∧w.cell? ⟨b,1 * m+i,none⟩=some (.int .i32 ((a1 i:Nat):Int))∧w.cell? ⟨b,2 * m+i,none⟩=some (.int .i32 ((a2 i:Nat):Int))∧
 w.cell? ⟨b,3 * m+i,none⟩=some (.int .i32 ((a3 i:Nat):Int))∧w.cell? ⟨b,4 * m+i,none⟩=some (.int .i32 ((a4 i:Nat):Int))∧w.cell? ⟨b,5 * m+i,none⟩=some (.int .i32 ((a5 i:Nat):Int))∧
 w.cell? ⟨b,6 * m+i,none⟩=some (.int .i32 ((a6 i:Nat):Int)):=by
 obtain ⟨F,h1,h2⟩:=h.ex
 obtain ⟨e0,e1,e2,e3,e4,e5,e6⟩:=h2 i hi
 have key:∀j,j<7 * m→w.cell? ⟨b,j,none⟩=some (.int .i32 ((F j:Nat):Int)):=fun j hj=>Am h1 (Bf _ hj)
 refine ⟨?_,?_,?_,?_,?_,?_,?_⟩
 ·rw[key _ (by omega),e0]
 ·rw[key _ (by omega),e1]
 ·rw[key _ (by omega),e2]
 ·rw[key _ (by omega),e3]
 ·rw[key _ (by omega),e4]
 ·rw[key _ (by omega),e5]
 rw[key _ (by omega),e6]
theorem Scr.set (h:Scr w b m a0 a1 a2 a3 a4 a5 a6) {i:Nat} (hi:i<m) (v:Nat):
 Scr (w.setCell ⟨b,0 * m+i,none⟩ (.int .i32 (v:Int))) b m (LT.upd a0 i v) a1 a2 a3 a4 a5 a6∧
 Scr (w.setCell ⟨b,1 * m+i,none⟩ (.int .i32 (v:Int))) b m a0 (LT.upd a1 i v) a2 a3 a4 a5 a6∧
 Scr (w.setCell ⟨b,2 * m+i,none⟩ (.int .i32 (v:Int))) b m a0 a1 (LT.upd a2 i v) a3 a4 a5 a6∧
 Scr (w.setCell ⟨b,3 * m+i,none⟩ (.int .i32 (v:Int))) b m a0 a1 a2 (LT.upd a3 i v) a4 a5 a6∧
 Scr (w.setCell ⟨b,4 * m+i,none⟩ (.int .i32 (v:Int))) b m a0 a1 a2 a3 (LT.upd a4 i v) a5 a6∧
 Scr (w.setCell ⟨b,5 * m+i,none⟩ (.int .i32 (v:Int))) b m a0 a1 a2 a3 a4 (LT.upd a5 i v) a6∧
 Scr (w.setCell ⟨b,6 * m+i,none⟩ (.int .i32 (v:Int))) b m a0 a1 a2 a3 a4 a5 (LT.upd a6 i v):=by
 obtain ⟨F,h1,h2⟩:=h.ex
 have key:∀j,(w.setCell ⟨b,j,none⟩ (.int .i32 (v:Int))).heap[b]? =some (.cells (cellsOf (i32n (LT.upd F j v)) (7 * m)) 88 (0,0)):=fun j=>by
  have:=AC (o:=j) (u:=.int .i32 (v:Int)) h1
  rw[cellsOf_set] at this
  rw[this]
  congr 2
  refine BA fun x _=>?_
  show (if x=j then Value.int .i32 (v:Int) else i32n F x)= .int .i32 ((LT.upd F j v x:Nat):Int)
  unfold LT.upd i32n
  split <;> rfl
 have up:∀(a:Nat→Nat) (k x:Nat),F (k * m+x)=a x→LT.upd F (k * m+i) v (k * m+x)=LT.upd a i v x:=fun a k x e=>by
  unfold LT.upd
  by_cases e2:x=i
  ·rw[if_pos (by rw[e2]),if_pos e2]
  rw[if_neg (by omega),if_neg e2,e]
 have un:∀(a:Nat→Nat) (k l x:Nat),k * m+x≠l * m+i→F (k * m+x)=a x→LT.upd F (l * m+i) v (k * m+x)=a x:=fun a k l x hne e=>by
  unfold LT.upd;rw[if_neg hne,e]
 refine ⟨⟨_,key _,fun x hx=>?_⟩,⟨_,key _,fun x hx=>?_⟩,⟨_,key _,fun x hx=>?_⟩,⟨_,key _,fun x hx=>?_⟩,⟨_,key _,fun x hx=>?_⟩,⟨_,key _,fun x hx=>?_⟩,⟨_,key _,fun x hx=>?_⟩⟩ <;> obtain ⟨e0,e1,e2,e3,e4,e5,e6⟩:=h2 x hx
 ·exact ⟨up _ 0 x e0,un _ 1 0 x (by omega) e1,un _ 2 0 x (by omega) e2,un _ 3 0 x (by omega) e3,un _ 4 0 x (by omega) e4,un _ 5 0 x (by omega) e5,un _ 6 0 x (by omega) e6⟩
 ·exact ⟨un _ 0 1 x (by omega) e0,up _ 1 x e1,un _ 2 1 x (by omega) e2,un _ 3 1 x (by omega) e3,un _ 4 1 x (by omega) e4,un _ 5 1 x (by omega) e5,un _ 6 1 x (by omega) e6⟩
 ·exact ⟨un _ 0 2 x (by omega) e0,un _ 1 2 x (by omega) e1,up _ 2 x e2,un _ 3 2 x (by omega) e3,un _ 4 2 x (by omega) e4,un _ 5 2 x (by omega) e5,un _ 6 2 x (by omega) e6⟩
 ·exact ⟨un _ 0 3 x (by omega) e0,un _ 1 3 x (by omega) e1,un _ 2 3 x (by omega) e2,up _ 3 x e3,un _ 4 3 x (by omega) e4,un _ 5 3 x (by omega) e5,un _ 6 3 x (by omega) e6⟩
 ·exact ⟨un _ 0 4 x (by omega) e0,un _ 1 4 x (by omega) e1,un _ 2 4 x (by omega) e2,un _ 3 4 x (by omega) e3,up _ 4 x e4,un _ 5 4 x (by omega) e5,un _ 6 4 x (by omega) e6⟩
 ·exact ⟨un _ 0 5 x (by omega) e0,un _ 1 5 x (by omega) e1,un _ 2 5 x (by omega) e2,un _ 3 5 x (by omega) e3,un _ 4 5 x (by omega) e4,up _ 5 x e5,un _ 6 5 x (by omega) e6⟩
 exact ⟨un _ 0 6 x (by omega) e0,un _ 1 6 x (by omega) e1,un _ 2 6 x (by omega) e2,un _ 3 6 x (by omega) e3,un _ 4 6 x (by omega) e4,un _ 5 6 x (by omega) e5,up _ 6 x e6⟩
end
def VG (g:Gph) (v:Nat):Prop:=1≤v∧v≤g.nb
def SG (g:Gph) (v:Nat):List Nat:=(g.succs (v - 1)).map (· +1)
def Cn (num:Nat→Nat):Nat→Bool:=fun i=>decide (1≤num (i+1))
theorem EW {num:Nat→Nat} {n b k:Nat} (hb:b<n) (h0:num (b+1)=0) (hk:1≤k):cnt (Cn (LT.upd num (b+1) k)) n+1=cnt (Cn num) n:=by
 rw[← cnt_set (S:=Cn num) hb (by unfold Cn;rw[h0];rfl)]
 congr 1
 refine cnt_congr fun i _=>?_
 unfold Cn LT.upd
 by_cases e:i=b
 ·subst e;simp [hk]
 simp [e]
theorem cnt_none {num:Nat→Nat} (h:∀v,num v=0):∀n,cnt (Cn num) n=n
 |0=>rfl
 |n+1=>by
  show cnt (Cn num) n+_=_
  rw[cnt_none h n,if_neg (by unfold Cn;rw[h];decide)]
def DS (g:Gph) (cn:Nat) (num vert par:Nat→Nat) (stk:List (Nat×Nat)):Prop:=
 (cn=0∧stk=[(1,0)]∧∀v,num v=0)∨(1≤cn∧LT.DI (VG g) (SG g) (fun v u=>u∈SG g v) cn num vert par stk)
def ptrs (L:Lay) (stk:List (Nat×Nat)):List Value:=stk.map fun x=>L.bp (x.1 - 1)
theorem VG.ex {g:Gph} {v:Nat} (h:VG g v):∃b,v=b+1∧b<g.nb:=⟨v - 1,by have:=h.1;omega,by have:=h.1;have:=h.2;omega⟩
theorem DS.top {g:Gph} {cn:Nat} {num vert par:Nat→Nat} {A:List (Nat×Nat)} {w q:Nat} (hn:1≤g.nb) (h:DS g cn num vert par (A ++ [(w,q)])):VG g w:=by
 rcases h with ⟨_,h2,_⟩|⟨_,h2⟩
 ·have:A ++ [(w,q)]=[] ++ [(1,0)]:=h2
  have:=List.append_inj_right' this rfl
  have:w=1:=by simpa using congrArg (·.map (·.1)) this
  subst this;exact ⟨Nat.le_refl _,hn⟩
 exact (h2.push (w,q) (by simp)).1
theorem DS.visit {g:Gph} {cn:Nat} {num vert par:Nat→Nat} {A:List (Nat×Nat)} {w q:Nat} (hn:1≤g.nb) (h:DS g cn num vert par (A ++ [(w,q)])) (hw:num w=0):
 LT.DI (VG g) (SG g) (fun v u=>v≠w∧u∈SG g v) (cn+1) (LT.upd num w (cn+1)) (LT.upd vert (cn+1) w) par A:=by
 rcases h with ⟨h1,h2,h3⟩|⟨h1,h2⟩
 ·have h2:A ++ [(w,q)]=[] ++ [(1,0)]:=h2
  have hA:=List.append_inj_left' h2 rfl
  have:=List.append_inj_right' h2 rfl
  have:w=1:=by simpa using congrArg (·.map (·.1)) this
  subst this;subst hA;subst h1
  exact LT.DI.start ⟨Nat.le_refl _,hn⟩ hn h3 fun w h=>h.1 rfl
 exact (h2.visit hw h1).1
set_option maxHeartbeats 4000000
attribute [local irreducible] EC EL DL Ret thenQ blockQ Bi bodyQ onlyN execOp Sem.run World.cell? World.frozen? World.setCell World.alloc
theorem dfs_ret {w0 w:World} {B0:Nat} {L:Lay} {g:Gph} {b:Nat} {vx:Value} (hg0:GRep w0 B0 L g) (hb0:Below w0.heap.size w0 w) (hbb:w0.heap.size≤b) (hn:1≤g.nb∧g.nb≤9)
 (hsu:∀x,x<g.nb→(g.succs x).length≤2∧∀s∈g.succs x,s<g.nb) (hs:Scr w b (g.nb+1) (fun _=>0) (fun _=>0) (fun _=>0) (fun _=>0) (fun _=>0) (fun _=>0) (fun _=>0)):
 Ret Tryz.prog 126 #[vx,L.bp 0,seg b (g.nb+1) 0,seg b (g.nb+1) 1,seg b (g.nb+1) 2,seg b (g.nb+1) 3] w fun v w'=>
  ∃cn num vert lab par,v= .int .i32 ((cn:Nat):Int)∧cn≤g.nb∧1≤cn∧Scr w' b (g.nb+1) num vert lab par (fun _=>0) (fun _=>0) (fun _=>0)∧
   LT.DI (VG g) (SG g) (fun v u=>u∈SG g v) cn num vert par []∧(∀v,1≤num v→lab v=v)∧Only (fun j=>j=b) w w':=by
 refine ret_of_EC Tryz.func126 rfl rfl ?_
 obtain ⟨m,hm⟩:∃m,m=g.nb+1:=⟨_,rfl⟩
 rw[← hm] at hs ⊢
 obtain ⟨B,hBd⟩:∃B,B=w.heap.size:=⟨_,rfl⟩
 have hbl:=hs.lt
 have hw0:=hb0.size
 refine Ae (Ac (Ab Ah rfl (Af (Aa (Ae (Ac (Ab Ah rfl (Af (Aa (Ae (Ac ?_)))))))))))
 refine Ab (x_make0 (n:=256) Tryz.underlying75 CF rfl rfl (by omega) (by omega)) rfl (el_new (.cells (madeCells (Value.cells (.pointer none)) 256) 74) B (by omega) fun wa hN1 hO1 hZ1 hB1 hK1=>(Ab Ah rfl (Af (Aa ?_))))
 have hrow0:wa.ownsRow B 74 1 (.slice (some ⟨w.heap.size,0,none⟩) 0 256) 0 []:=⟨rfl,.inr ⟨w.heap.size,256,_,rfl,by omega,hN1,Nat.zero_le _,by unfold maxLen;omega,by simp [madeCells,Value.cells],by simp⟩⟩
 refine Ae (Ac ?_)
 have hBle:B≤wa.heap.size:=by omega
 refine Ab Ad rfl (Ab Ad rfl (Ab (Bo (v:=L.bp 0) rfl rfl Tryz.underlying75 (by kernel_rfl) (z:=.pointer none) rfl) rfl (el_new (.cells #[L.bp 0] 74) B (by omega) fun wb hN2 hO2 hZ2 hB2 hK2=>?_)))
 have hrow1:=Ax hrow0 (w':=wb) fun k e=>hO2 k (As hrow0 k e).2
 refine BD hrow1 (Am hN2 rfl) rfl (by omega) (by decide) (by omega) Tryz.underlying75 CF rfl rfl rfl rfl ?_
 intro v3 w3 hrow3 hgr3 hwh3
 refine Ab Ah rfl (Af (Aa ?_))
 have hO3:Only (fun j=>j=b) w w3:=(((Only.refl _ w).bel (by omega) hB1).bel (by omega) hB2).grow hgr3 fun j e=>by have:=(As hrow1 j e).1;omega
 have hs3:Scr w3 b m (fun _=>0) (fun _=>0) (fun _=>0) (fun _=>0) (fun _=>0) (fun _=>0) (fun _=>0):=hs.stay (by
  rw[hgr3.block b (by omega) (fun e=>by have:=(As hrow1 b e.symm).1;omega),hO2 b (by omega),hO1 b (by omega)])
 have hrow3:w3.ownsRow B 74 1 v3 (ptrs L [(1,0)]).length (ptrs L [(1,0)]):=hrow3
 have hlenp:∀stk:List (Nat×Nat),(ptrs L stk).length=stk.length:=fun stk=>List.length_map ..
 refine Ae (Ao ?_)
 refine EC_loop (fun n e wr=>∃cn num vert lab par stk v,At e [(2,seg b m 0),(3,seg b m 1),(4,seg b m 2),(5,seg b m 3),(13,.int .i32 ((cn:Nat):Int)),(14,v)]∧wr.ownsRow B 74 1 v (ptrs L stk).length (ptrs L stk)∧
  Scr wr b m num vert lab par (fun _=>0) (fun _=>0) (fun _=>0)∧Only (fun j=>j=b) w wr∧DS g cn num vert par stk∧(∀v,1≤num v→lab v=v)∧cn+cnt (Cn num) g.nb=g.nb∧n=3 * cnt (Cn num) g.nb+stk.length∧n≤28) (3 * g.nb+1)
  ⟨0,_,_,_,_,[(1,0)],v3,Ar rfl ⟨rfl,rfl,rfl,rfl,rfl,rfl,trivial⟩,hrow3,hs3,hO3,.inl ⟨rfl,rfl,fun _=>rfl⟩,fun v h=>by simp at h,by rw[cnt_none fun _=>rfl];omega,by rw[cnt_none fun _=>rfl];rfl,by omega⟩ ?_
 rintro n e wr ⟨cn,num,vert,lab,par,stk,v,⟨t,rfl⟩,hrow,hs,hO,hD,hlab,hcn,hn1,hn2⟩
 refine Ae ?_
 obtain ⟨va,vc,rfl⟩:=Bx hrow
 rw[hlenp] at hrow ⊢
 rcases List.eq_nil_or_concat stk with rfl|⟨stk,⟨u,q⟩,rfl⟩
 ·refine Ae (Ac (Ab Ad rfl (Ab (AN rfl (An rfl)) rfl (Ab (BE rfl rfl) rfl (Af (Aa ?_))))))
  refine AI rfl rfl (fun hp=>absurd (show (0:Int)<((0:Nat):Int) from hp) (by decide)) (fun _=>?_)
  refine AK (AB (AD (AA (Aa (Ae (Ac (Ab Ad rfl (Ab Ah rfl (Af (Aa (AE ?_)))))))))))
  rcases hD with ⟨_,h2,_⟩|⟨h1,h2⟩
  ·cases h2
  exact Az rfl rfl rfl ⟨cn,num,vert,lab,par,rfl,by omega,h1,hs,h2,hlab,hO⟩
 simp only [List.concat_eq_append] at hrow hD hn1 ⊢
 have hl:(stk ++ [(u,q)]).length=stk.length+1:=by rw[List.length_append];rfl
 obtain ⟨x,rfl,hx⟩:=(hD.top hn.1).ex
 have hgr:∀W,Only (fun j=>j=b) w W→GRep W B0 L g:=fun W h=>hg0.on (hb0.trans (h.below hw0 (fun j e=>e ▸ hbb)))
 have hid:∀W,Only (fun j=>j=b) w W→∀x,x<g.nb→W.cell? ⟨L.bb x,0+0,none⟩=some (.int .i32 ((x+1:Nat):Int)):=fun W h x hx=>(hgr W h).bID hx
 have hxm:x+1<m:=by omega
 have hpa:ptrs L (stk ++ [(x+1,q)])=ptrs L stk ++ [L.bp x]:=List.map_append ..
 obtain ⟨g6,c6,hva,hg6,hg6s,hg6c,hg6e⟩:=row_form (k:=stk.length) (by rw[hlenp];exact hrow) (by rw[hlenp];omega)
 rw[hlenp] at hva hg6c
 injection hva with hva1 hva2 hva3
 subst hva1
 subst hva3
 have hg6e:wr.cell? ⟨g6,0+stk.length,none⟩=some (L.bp x):=by
  rw[hg6e]
  congr 1
  simp [ptrs]
 have hrowp:wr.ownsRow B 74 1 (.slice (some ⟨g6,0,none⟩) stk.length vc) (ptrs L stk).length (ptrs L stk):=by
  have e1:(stk ++ [(x+1,q)]).length=(ptrs L stk ++ [L.bp x]).length:=by rw[hl,List.length_append,hlenp];rfl
  rw[hpa,e1] at hrow
  have h2:=row_pop hrow
  rwa [hlenp] at h2 ⊢
 have hcx:=hs.cell hxm
 have hidr:=hid wr hO x hx
 refine Ae (Ac (Ab Ad rfl (Ab (AN rfl (An rfl)) rfl (Ab (BE rfl rfl) rfl (Af (Aa ?_))))))
 refine AI rfl rfl (fun _=>?_) (fun hp=>absurd (show (0:Int)<(((stk ++ [(x+1,q)]).length:Nat):Int) from by omega) hp)
 refine Aq (Aa (Ao (Ae (Ac (Ab Ad rfl (Ab Ad rfl (Ab (AN rfl (An rfl)) rfl (Ab (CQ (c:=(stk.length:Int)) rfl rfl (by rw[hl,IntWalk.i64_in _ (by omega)];omega)) rfl ?_))))))))
 refine Ab (x_index1 (i:=stk.length) rfl rfl (An rfl) (by omega)) rfl (Ab (Ai rfl (Ag rfl) ‹_›) rfl ?_)
 refine Ab Ah rfl (Af (Aa (Ae (Ac (Ab Ad rfl (Ab Ad rfl (Ab (AN rfl (An rfl)) rfl (Ab (CQ (c:=(stk.length:Int)) rfl rfl (by rw[hl,IntWalk.i64_in _ (by omega)];omega)) rfl ?_))))))))
 refine Ab (x_sliceK (k:=stk.length) Tryz.underlying75 CF rfl rfl (by omega)) rfl (Ab Ah rfl (Af (Aa (Ae (Ae (Ac ?_))))))
 have hc0:=hcx.1
 refine Ab Ad rfl (Ab Ad rfl (Ab (Au rfl) rfl (Ab (Al rfl (Ak rfl)) rfl (Ab (Ai rfl (Ag rfl) ‹_›) rfl ?_))))
 refine Ab (x_index1 rfl rfl (An rfl) (by omega)) rfl (Ab (Ai rfl (Ag rfl) ‹_›) rfl ?_)
 refine Ab (Bw rfl rfl) rfl (Af (Aa ?_))
 by_cases hvis:num (x+1)=0
 ·refine Bh (congrArg Value.bool (decide_eq_false (fun h=>h (by rw[hvis];rfl)))) rfl ?_
  refine Aq (Aa (BV [(2,seg b m 0),(3,seg b m 1),(4,seg b m 2),(5,seg b m 3),(13,.int .i32 ((cn:Nat):Int)),(14,.slice (some ⟨g6,0,none⟩) stk.length vc),(15,L.bp x)] rfl ⟨rfl,rfl,rfl,rfl,rfl,rfl,rfl,trivial⟩ fun t=>?_))
  have hvisit:=hD.visit hn.1 hvis
  have hcnt:=EW (num:=num) (k:=cn+1) hx hvis (by omega)
  have hcm:cn+1<m:=by omega
  refine Ae (Ac (Ab Ad rfl (Ab (Cq (c:=((cn+1:Nat):Int)) rfl rfl (by rw[IntWalk.i32_in _ (by omega)];omega)) rfl ?_)))
  refine Ab Ah rfl (Af (Aa (Ae (Ac (Ab Ad rfl (Ab Ad rfl (Ab (Au rfl) rfl (Ab (Al rfl (Ak rfl)) rfl (Ab (Ai rfl (Ag rfl) ‹_›) rfl ?_)))))))))
  refine Ab Ad rfl (Ab (x_index1 rfl rfl (An rfl) (by omega)) rfl (Bc (AU rfl rfl rfl (AH rfl) hc0 hs.free) rfl (Af (Aa ?_))))
  have hs1:=(hs.set hxm (cn+1)).1
  have hO1:=hO.set (o:=0 * m+(x+1)) (.int .i32 ((cn+1:Nat):Int)) (rfl:b=b)
  have hrow1:=Ax hrowp (w':=wr.setCell ⟨b,0 * m+(x+1),none⟩ (.int .i32 ((cn+1:Nat):Int))) fun k e=>Below.heap_setCell _ _ _ _ (fun e2=>by have:=(As hrowp k e).1;have e2:k=b:=e2;omega)
  change EC _ _ _ _ _ (wr.setCell ⟨b,0 * m+(x+1),none⟩ (.int .i32 ((cn+1:Nat):Int)))
  generalize wr.setCell ⟨b,0 * m+(x+1),none⟩ (.int .i32 ((cn+1:Nat):Int))=w1 at hs1 hO1 hrow1 ⊢
  refine BV [(2,seg b m 0),(3,seg b m 1),(4,seg b m 2),(5,seg b m 3),(13,.int .i32 ((cn+1:Nat):Int)),(14,.slice (some ⟨g6,0,none⟩) stk.length vc),(15,L.bp x)] rfl ⟨rfl,rfl,rfl,rfl,rfl,rfl,rfl,trivial⟩ fun t=>?_
  have hid1:=hid w1 hO1 x hx
  have hc1:=(hs1.cell hcm).2.1
  refine Ae (Ac (Ab Ad rfl (Ab Ad rfl (Ab Ad rfl (Ab (Au rfl) rfl (Ab (Al rfl (Ak rfl)) rfl (Ab (Ai rfl (Ag rfl) ‹_›) rfl ?_)))))))
  refine Ab (x_index1 rfl rfl (An rfl) (by omega)) rfl (Bc (AU rfl rfl rfl (AH rfl) hc1 hs1.free) rfl (Af (Aa ?_)))
  have hs2:=(hs1.set hcm (x+1)).2.1
  have hO2:=hO1.set (o:=1 * m+(cn+1)) (.int .i32 ((x+1:Nat):Int)) (rfl:b=b)
  have hrow2:=Ax hrow1 (w':=w1.setCell ⟨b,1 * m+(cn+1),none⟩ (.int .i32 ((x+1:Nat):Int))) fun k e=>Below.heap_setCell _ _ _ _ (fun e2=>by have:=(As hrowp k e).1;have e2:k=b:=e2;omega)
  change EC _ _ _ _ _ (w1.setCell ⟨b,1 * m+(cn+1),none⟩ (.int .i32 ((x+1:Nat):Int)))
  generalize w1.setCell ⟨b,1 * m+(cn+1),none⟩ (.int .i32 ((x+1:Nat):Int))=w2 at hs2 hO2 hrow2 ⊢
  refine BV [(2,seg b m 0),(3,seg b m 1),(4,seg b m 2),(5,seg b m 3),(13,.int .i32 ((cn+1:Nat):Int)),(14,.slice (some ⟨g6,0,none⟩) stk.length vc),(15,L.bp x)] rfl ⟨rfl,rfl,rfl,rfl,rfl,rfl,rfl,trivial⟩ fun t=>?_
  have hid2:=hid w2 hO2 x hx
  have hc2:=(hs2.cell hxm).2.2.1
  refine Ae ?_
  have hcd:Cells [(⟨L.bb x,0+0,none⟩,.int .i32 ((x+1:Nat):Int))] w2.drew:=(Keep.drew w2).cells (.cons hid2 (.nil _))
  refine AY mixed _ [(0,false),(1,false),(2,false),(3,false),(4,false),(5,false),(6,false),(7,false),(8,false),(9,false),(10,true)] (by kernel_rfl) hcd ?_
  have hs2d:Scr w2.drew b m _ _ _ _ _ _ _:=hs2.stay rfl
  have hc2d:=(Keep.drew w2) _ _ hc2
  have hO2d:=hO2.drew
  have hrow2d:=Ax hrow2 (w':=w2.drew) fun _ _=>rfl
  generalize w2.drew=w2d at hcd hs2d hc2d hO2d hrow2d ⊢
  refine Aj rfl (fun _ _=>Ad) (Aj rfl (fun _ _=>Ad) (Aj rfl (fun _ _=>Au rfl) (Aj rfl (fun _ _=>Al rfl (Ak rfl)) (Aj rfl (fun _ hS=>Ai rfl (Ag rfl) (hS.get (by first|exact mm0|exact mm1|exact mm2|exact mm3|exact mm4|exact mm5|exact mm6|exact mm7))) ?_))))
  refine Aj rfl (fun _ _=>Ad) (Aj rfl (fun _ _=>Au rfl) (Aj rfl (fun _ _=>Al rfl (Ak rfl)) (Aj rfl (fun _ hS=>Ai rfl (Ag rfl) (hS.get (by first|exact mm0|exact mm1|exact mm2|exact mm3|exact mm4|exact mm5|exact mm6|exact mm7))) ?_)))
  refine Aj rfl (fun _ _=>x_index1 rfl rfl (An rfl) (by omega)) (BP rfl (AU rfl rfl rfl (AH rfl) hc2d hs2d.free) (.inl rfl) (AP (Aa (BV [(2,seg b m 0),(3,seg b m 1),(4,seg b m 2),(5,seg b m 3),(13,.int .i32 ((cn+1:Nat):Int)),(14,.slice (some ⟨g6,0,none⟩) stk.length vc),(15,L.bp x)] rfl ⟨rfl,rfl,rfl,rfl,rfl,rfl,rfl,trivial⟩ fun t=>?_))))
  have hs3:=(hs2d.set hxm (x+1)).2.2.1
  have hO3:=hO2d.set (o:=2 * m+(x+1)) (.int .i32 ((x+1:Nat):Int)) (rfl:b=b)
  have hrow3:=Ax hrow2d (w':=w2d.setCell ⟨b,2 * m+(x+1),none⟩ (.int .i32 ((x+1:Nat):Int))) fun k e=>Below.heap_setCell _ _ _ _ (fun e2=>by have:=(As hrowp k e).1;have e2:k=b:=e2;omega)
  change EC _ _ _ _ _ (w2d.setCell ⟨b,2 * m+(x+1),none⟩ (.int .i32 ((x+1:Nat):Int)))
  generalize w2d.setCell ⟨b,2 * m+(x+1),none⟩ (.int .i32 ((x+1:Nat):Int))=w3 at hs3 hO3 hrow3 ⊢
  obtain ⟨sa,sc,hsl⟩:=(hgr w3 hO3).succsV hx
  have hfs:=(hgr w3 hO3).bSuccs hx
  rw[hsl] at hfs
  refine Ae (Ac (Ab Ad rfl (Ab (Au rfl) rfl (Ab (Al rfl (Ak rfl)) rfl (Ab (Ai rfl (Ag rfl) ‹_›) rfl ?_)))))
  refine Ab (AN rfl (An rfl)) rfl (Ab Ad rfl (Af (Aa ?_)))
  have hlab3:∀v,1≤LT.upd num (x+1) (cn+1) v→LT.upd lab (x+1) (x+1) v=v:=fun v hv=>by
   unfold LT.upd at hv ⊢
   by_cases e:v=x+1
   ·rw[if_pos e];exact e.symm
   rw[if_neg e] at hv ⊢;exact hlab v hv
  have hvt:LT.upd vert (cn+1) (x+1) (cn+1)=x+1:=LT.upd_same ..
  obtain ⟨hsl2,hsn⟩:=hsu x hx
  have hSG:(SG g (x+1)).length=(g.succs x).length:=List.length_map ..
  generalize LT.upd num (x+1) (cn+1)=num3 at hs3 hvisit hcnt hlab3 ⊢
  generalize LT.upd vert (cn+1) (x+1)=vert3 at hs3 hvisit hvt ⊢
  generalize LT.upd lab (x+1) (x+1)=lab3 at hs3 hlab3 ⊢
  refine Ao ?_
  refine EC_loop (fun n2 e wi=>∃par stk' v' k,k≤(g.succs x).length∧At e [(2,seg b m 0),(3,seg b m 1),(4,seg b m 2),(5,seg b m 3),(13,.int .i32 ((cn+1:Nat):Int)),(14,v'),(15,L.bp x),(75,.slice sa (g.succs x).length sc),(76,.int .i64 ((g.succs x).length:Int)),(77,.int .i64 (k:Int))]∧
   wi.ownsRow B 74 1 v' (ptrs L stk').length (ptrs L stk')∧Scr wi b m num3 vert3 lab3 par (fun _=>0) (fun _=>0) (fun _=>0)∧Only (fun j=>j=b) w wi∧
   LT.DI (VG g) (SG g) (fun v u=>u∈SG g v∧(v=x+1→u∈(SG g (x+1)).take k)) (cn+1) num3 vert3 par stk'∧stk'.length≤stk.length+k∧n2=(g.succs x).length - k) (g.succs x).length
   ⟨par,stk,_,0,Nat.zero_le _,Ar rfl ⟨rfl,rfl,rfl,rfl,rfl,rfl,rfl,rfl,rfl,rfl,trivial⟩,hrow3,hs3,hO3,hvisit.mono fun v u h1 h2 ⟨h3,h4⟩=>⟨fun e=>by have:=h4 e;simp at this,h3⟩,Nat.le_refl _,rfl⟩ ?_
  rintro n2 e wi ⟨par,stk',v',k,hk,⟨t,rfl⟩,hrow,hs,hO,hDI,hlen2,rfl⟩
  refine Ae (Ac (Ab (AX rfl rfl) rfl (Af (Aa (Ae ?_)))))
  refine AI rfl rfl (fun hlk=>?_) (fun hge=>?_)
  rotate_left
  ·have hk:k=(g.succs x).length:=by omega
   subst hk
   refine AK (AB (AD (AA (Ap ?_))))
   refine Aw (3 * cnt (Cn num3) g.nb+stk'.length) (by omega) ⟨cn+1,_,_,_,_,stk',v',Ar rfl ⟨rfl,rfl,rfl,rfl,rfl,rfl,trivial⟩,hrow,hs,hO,.inr ⟨by omega,hDI.mono fun v u h1 h2 h3=>⟨h3,fun e=>?_⟩⟩,hlab3,by omega,rfl,by omega⟩
   rw[← hSG,List.take_length]
   exact e ▸ h3
  have hlk:k<(g.succs x).length:=by omega
  refine Aq (Aa (Ae (Ao ?_)))
  obtain ⟨eb,ec,hse,_,hce,_⟩:=(hgr wi hO).succsE hx hlk
  rw[hsl] at hse
  injection hse with e1 e2 e3
  subst e1
  have hy:(g.succs x).getD k 0<g.nb:=hsn _ (Bq hlk)
  have hyk:(SG g (x+1)).take (k+1)=(SG g (x+1)).take k ++ [(g.succs x).getD k 0+1]:=by
   have h1:k<(SG g (x+1)).length:=by rw[hSG];exact hlk
   rw[List.take_add_one,List.getElem?_eq_getElem h1]
   simp only [Option.toList_some]
   congr 2
   simp [SG,List.getD,hlk]
  have hySG:(g.succs x).getD k 0+1∈SG g (x+1):=List.mem_map.2 ⟨_,Bq hlk,rfl⟩
  generalize (g.succs x).getD k 0=y at hce hy hyk hySG
  have hce':CellsAt wi eb (0+k) [L.bp y]:=fun j u hj=>by
   cases j with
   |zero=>simp at hj;subst hj;exact hce
   |succ j=>simp at hj
  refine Ae (Ac (Ab (x_index1 (i:=k) rfl rfl (An rfl) hlk) rfl (Ab (A4 (cs:=[L.bp y]) rfl (A0 rfl) hce') rfl (Ab (A9 Dz) rfl (Bc (Bb rfl rfl (A7 rfl) rfl rfl) rfl (Af (Aa ?_)))))))
  have hBle:B≤wi.heap.size:=by have:=hO.size;omega
  refine ec_new (.cells #[L.bp y] 103) B (by omega) fun wj hN7 hO7 hZ7 hB7 hK7=>?_
  have hOj:=hO.bel (Nat.le_of_eq hBd.symm) hB7
  have hsj:=hs.stay (hO7 b (by have:=hO.size;omega))
  have hrowj:=Ax hrow (w':=wj) fun j e=>hO7 j (As hrow j e).2
  have hcj:wj.cell? ⟨wi.heap.size,0+0,none⟩=some (L.bp y):=Am hN7 rfl
  have hym:y+1<m:=by omega
  have hcy:=(hsj.cell hym).1
  have hidy:=hid wj hOj y hy
  refine Ae (Ac (Ab (Al rfl (Ak rfl)) rfl (Ab (Ai rfl (Ag rfl) ‹_›) rfl ?_)))
  refine Ab Ah rfl (Af (Aa (Ae (Ac (Ab Ad rfl (Ab Ad rfl (Ab (Au rfl) rfl (Ab (Al rfl (Ak rfl)) rfl (Ab (Ai rfl (Ag rfl) ‹_›) rfl ?_)))))))))
  refine Ab (x_index1 rfl rfl (An rfl) (by omega)) rfl (Ab (Ai rfl (Ag rfl) ‹_›) rfl ?_)
  refine Ab (Bn rfl rfl) rfl (Af (Aa ?_))
  by_cases hsy:num3 (y+1)=0
  ·refine Bm (congrArg Value.bool (decide_eq_true (by rw[hsy];rfl))) rfl ?_
   have hbj:B≤wj.heap.size:=by have:=hOj.size;omega
   refine Ae (Ac ?_)
   have hBle:B≤wj.heap.size:=hbj
   refine Ab Ad rfl (Ab Ad rfl (Ab (Bo (v:=L.bp y) rfl rfl Tryz.underlying75 (by kernel_rfl) (z:=.pointer none) rfl) rfl (el_new (.cells #[L.bp y] 74) B (by omega) fun wk hN8 hO8 hZ8 hB8 hK8=>?_)))
   have hOk:=hOj.bel (Nat.le_of_eq hBd.symm) hB8
   have hsk:=hsj.stay (hO8 b (by have:=hOj.size;omega))
   have hrowk:=Ax hrowj (w':=wk) fun j e=>hO8 j (As hrowj j e).2
   have hlowk:=As hrowk
   rw[hlenp] at hrowk
   refine BD hrowk (Am hN8 rfl) rfl (by omega) (by decide) (by omega) Tryz.underlying75 CF rfl rfl rfl rfl ?_
   intro v9 w9 hrow9 hgr9 _
   refine Ab Ah rfl (Af (Aa (BV [(2,seg b m 0),(3,seg b m 1),(4,seg b m 2),(5,seg b m 3),(13,.int .i32 ((cn+1:Nat):Int)),(14,v9),(15,L.bp x),(18,L.bp y),(75,.slice (some ⟨eb,0,none⟩) (g.succs x).length sc),(76,.int .i64 ((g.succs x).length:Int)),(77,.int .i64 (k:Int))] rfl ⟨rfl,rfl,rfl,rfl,rfl,rfl,rfl,rfl,rfl,rfl,rfl,trivial⟩ fun t=>?_)))
   have hO9:=hOk.grow hgr9 fun j e=>by have:=(hlowk j e).1;omega
   have hs9:=hsk.stay (hgr9.block b (by have:=hOk.size;omega) (fun e=>by have:=(hlowk b e.symm).1;omega))
   have hrow9:w9.ownsRow B 74 1 v9 (ptrs L (stk' ++ [(y+1,x+1)])).length (ptrs L (stk' ++ [(y+1,x+1)])):=by
    have e1:ptrs L (stk' ++ [(y+1,x+1)])=ptrs L stk' ++ [L.bp y]:=List.map_append ..
    rw[e1,List.length_append,hlenp];exact hrow9
   have hidx9:=hid w9 hO9 x hx
   have hidy9:=hid w9 hO9 y hy
   have hcd:Cells [(⟨L.bb x,0+0,none⟩,.int .i32 ((x+1:Nat):Int)),(⟨L.bb y,0+0,none⟩,.int .i32 ((y+1:Nat):Int))] w9.drew:=(Keep.drew w9).cells (.cons hidx9 (.cons hidy9 (.nil _)))
   refine AY mixed _ [(0,false),(1,false),(2,false),(3,false),(4,false),(5,false),(6,false),(7,false),(8,false),(9,false),(10,true)] (by kernel_rfl) hcd ?_
   have hsd:Scr w9.drew b m _ _ _ _ _ _ _:=hs9.stay rfl
   have hOd:=hO9.drew
   have hrowd:=Ax hrow9 (w':=w9.drew) fun _ _=>rfl
   generalize w9.drew=wd at hcd hsd hOd hrowd ⊢
   have hc3:=(hsd.cell hym).2.2.2.1
   refine Aj rfl (fun _ _=>Ad) (Aj rfl (fun _ _=>Ad) (Aj rfl (fun _ _=>Au rfl) (Aj rfl (fun _ _=>Al rfl (Ak rfl)) (Aj rfl (fun _ hS=>Ai rfl (Ag rfl) (hS.get (by first|exact mm0|exact mm1|exact mm2|exact mm3|exact mm4|exact mm5|exact mm6|exact mm7))) ?_))))
   refine Aj rfl (fun _ _=>Ad) (Aj rfl (fun _ _=>Au rfl) (Aj rfl (fun _ _=>Al rfl (Ak rfl)) (Aj rfl (fun _ hS=>Ai rfl (Ag rfl) (hS.get (by first|exact mm0|exact mm1|exact mm2|exact mm3|exact mm4|exact mm5|exact mm6|exact mm7))) ?_)))
   refine Aj rfl (fun _ _=>x_index1 rfl rfl (An rfl) (by omega)) (BP rfl (AU rfl rfl rfl (AH rfl) hc3 hsd.free) (.inl rfl) (AP (Ap (Aa (BV [(2,seg b m 0),(3,seg b m 1),(4,seg b m 2),(5,seg b m 3),(13,.int .i32 ((cn+1:Nat):Int)),(14,v9),(15,L.bp x),(75,.slice (some ⟨eb,0,none⟩) (g.succs x).length sc),(76,.int .i64 ((g.succs x).length:Int)),(77,.int .i64 (k:Int))] rfl ⟨rfl,rfl,rfl,rfl,rfl,rfl,rfl,rfl,rfl,rfl,trivial⟩ fun t=>?_)))))
   have hsf:=(hsd.set hym (x+1)).2.2.2.1
   have hOf:=hOd.set (o:=3 * m+(y+1)) (.int .i32 ((x+1:Nat):Int)) (rfl:b=b)
   have hrowf:=Ax hrowd (w':=wd.setCell ⟨b,3 * m+(y+1),none⟩ (.int .i32 ((x+1:Nat):Int))) fun k e=>Below.heap_setCell _ _ _ _ (fun e2=>by have:=(As hrowd k e).1;have e2:k=b:=e2;omega)
   change EC _ _ _ _ _ (wd.setCell ⟨b,3 * m+(y+1),none⟩ (.int .i32 ((x+1:Nat):Int)))
   generalize wd.setCell ⟨b,3 * m+(y+1),none⟩ (.int .i32 ((x+1:Nat):Int))=wf at hsf hOf hrowf ⊢
   refine Ac (Ab (x_inc rfl rfl (by omega)) rfl (Ab Ad rfl (Af ?_)))
   refine Aw ((g.succs x).length - (k+1)) (by omega) ⟨_,_,v9,k+1,by omega,Ar rfl ⟨rfl,rfl,rfl,rfl,rfl,rfl,rfl,rfl,rfl,rfl,trivial⟩,hrowf,hsf,hOf,
    hDI.pushed hvt (by omega) hsy ⟨by omega,by omega⟩ hySG fun v u h1 h2 ⟨h3,h4⟩=>?_,by rw[List.length_append];show stk'.length+1≤_;omega,rfl⟩
   by_cases e:v=x+1
   ·have h5:=h4 e
    rw[hyk] at h5
    rcases List.mem_append.1 h5 with h6|h6
    ·exact .inl ⟨h3,fun _=>h6⟩
    exact .inr ⟨e,by simpa using h6⟩
   exact .inl ⟨h3,fun h=>absurd h e⟩
  refine Bh (congrArg Value.bool (decide_eq_false (fun h=>hsy (by have h:((num3 (y+1):Nat):Int)=0:=h;omega)))) rfl (Aq (Ap (Aa (Ac (Ab (x_inc rfl rfl (by omega)) rfl (Ab Ad rfl (Af ?_)))))))
  refine Aw ((g.succs x).length - (k+1)) (by omega) ⟨_,_,v',k+1,by omega,Ar rfl ⟨rfl,rfl,rfl,rfl,rfl,rfl,rfl,rfl,rfl,rfl,trivial⟩,hrowj,hsj,hOj,hDI.mono fun v u h1 h2 ⟨h3,h4⟩=>⟨h3,fun e=>?_⟩,by omega,rfl⟩
  have h5:=h4 e
  rw[hyk] at h5
  rcases List.mem_append.1 h5 with h6|h6
  ·exact h6
  have:u=y+1:=by simpa using h6
  subst this
  exact absurd h2 hsy
 refine Bm (congrArg Value.bool (decide_eq_true (fun h=>hvis (by have h:((num (x+1):Nat):Int)=0:=h;omega)))) rfl (AK (AB (AA ?_)))
 refine Aw (3 * cnt (Cn num) g.nb+stk.length) (by omega) ⟨cn,num,vert,lab,par,stk,_,Ar rfl ⟨rfl,rfl,rfl,rfl,rfl,rfl,trivial⟩,hrowp,hs,hO,?_,hlab,hcn,rfl,by omega⟩
 rcases hD with ⟨_,_,h3⟩|⟨h1,h2⟩
 ·exact absurd (h3 _) hvis
 exact .inr ⟨h1,h2.pop (by omega)⟩
end Go.Proofs.YteepnepebilckaaGreatDoor
