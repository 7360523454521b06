/- The law FnCseOver returns true for every input in which the opcode table reads as laid, and its argument reads as it did, the table being tied to the text of the program. -/
import Derived.Test.YteepnepebilckaaGreatDoorCV02
namespace Go.Proofs.YteepnepebilckaaGreatDoor
open Go Go.Eng Go.RowKit
structure Gph where
 nv:Nat
 nb:Nat
 op:Nat→Int
 ty:Nat→Int
 aux:Nat→Int
 blk:Nat→Nat
 args:Nat→List Nat
 kind:Nat→Int
 likely:Nat→Int
 succs:Nat→List Nat
 preds:Nat→List Nat
 bvals:Nat→List Nat
 ctrl:Nat→List Nat
 am:Value:=.map none
 cl:Value:=.slice none 0 0
inductive Tag where
 |fn|fblocks|fvalues
 |blk (i:Nat)|val (i:Nat)
 |args (i:Nat)|succs (i:Nat)|preds (i:Nat)|bvals (i:Nat)|ctrl (i:Nat)
 |other
 deriving DecidableEq
structure Lay where
 fb:Nat
 vb:Nat→Nat
 bb:Nat→Nat
 entry:Option Addr
 tag:Nat→Tag
 sl:Tag→Value
def Lay.vp (L:Lay) (i:Nat):Value:=.pointer (some ⟨L.vb i,0,none⟩)
def Lay.bp (L:Lay) (i:Nat):Value:=.pointer (some ⟨L.bb i,0,none⟩)
def Row (w:World) (B:Nat) (el:TypeId) (v:Value) (xs:List Value):Prop:=w.ownsRow B el 1 v xs.length xs
def vcs (L:Lay) (g:Gph) (i:Nat):Array Value:=#[.int .i32 ((i:Int)+1),.int .i64 (g.op i),.int .i64 (g.ty i),.int .i64 (g.aux i),.pointer none,L.sl (.args i),L.bp (g.blk i)]
def bcs (L:Lay) (g:Gph) (i:Nat):Array Value:=#[.int .i32 ((i:Int)+1),.int .i64 (g.kind i),.int .i8 (g.likely i),L.sl (.succs i),L.sl (.preds i),L.sl (.bvals i),L.sl (.ctrl i),.pointer (some ⟨L.fb,0,none⟩)]
def Comp (w:World) (B:Nat) (L:Lay) (g:Gph):Tag→Prop
 |.fn=>w.heap[L.fb]? =some (.cells #[.pointer L.entry,L.sl .fblocks,L.sl .fvalues,g.am,.bool false,g.cl] 82 (0,0))
 |.fblocks=>Row w B 74 (L.sl .fblocks) ((List.range g.nb).map L.bp)
 |.fvalues=>Row w B 97 (L.sl .fvalues) ((List.range g.nv).map L.vp)
 |.blk i=>i<g.nb→w.heap[L.bb i]? =some (.cells (bcs L g i) 94 (0,0))
 |.val i=>i<g.nv→w.heap[L.vb i]? =some (.cells (vcs L g i) 101 (0,0))
 |.args i=>i<g.nv→Row w B 97 (L.sl (.args i)) ((g.args i).map L.vp)
 |.succs i=>i<g.nb→Row w B 103 (L.sl (.succs i)) ((g.succs i).map L.bp)
 |.preds i=>i<g.nb→Row w B 103 (L.sl (.preds i)) ((g.preds i).map L.bp)
 |.bvals i=>i<g.nb→Row w B 97 (L.sl (.bvals i)) ((g.bvals i).map L.vp)
 |.ctrl i=>i<g.nb→Row w B 97 (L.sl (.ctrl i)) ((g.ctrl i).map L.vp)
 |.other=>True
def Live (g:Gph):Tag→Prop
 |.fn|.fblocks|.fvalues=>True
 |.blk i|.succs i|.preds i|.bvals i|.ctrl i=>i<g.nb
 |.val i|.args i=>i<g.nv
 |.other=>False
def IsLst:Tag→Bool
 |.args _|.succs _|.preds _|.bvals _|.ctrl _|.fblocks|.fvalues=>true
 |_=>false
structure Tags (B:Nat) (L:Lay) (g:Gph):Prop where
 fb:L.tag L.fb= .fn
 bb:∀i,i<g.nb→L.tag (L.bb i)= .blk i
 vb:∀i,i<g.nv→L.tag (L.vb i)= .val i
 sl:∀τ,IsLst τ=true→Live g τ→∀k,(L.sl τ).ownBlock=some k→L.tag k=τ
 fbB:B≤L.fb
 bbB:∀i,i<g.nb→B≤L.bb i
 vbB:∀i,i<g.nv→B≤L.vb i
structure GRep (w:World) (B:Nat) (L:Lay) (g:Gph):Prop where
 comp:∀τ,Comp w B L g τ
 tags:Tags B L g
theorem Row.congr {w w':World} {B:Nat} {el:TypeId} {v:Value} {xs:List Value} (h:Row w B el v xs) (hk:∀k,v.ownBlock=some k→w'.heap[k]? =w.heap[k]?):Row w' B el v xs:=by
 refine ⟨h.1,?_⟩
 rcases h.2 with hn|⟨g,cap,cur,rfl,hb,hgg,rest⟩
 ·exact .inl hn
 exact .inr ⟨g,cap,cur,rfl,hb,by rw[hk g rfl];exact hgg,rest⟩
theorem Row.lt {w:World} {B:Nat} {el:TypeId} {v:Value} {xs:List Value} (h:Row w B el v xs):∀k,v.ownBlock=some k→B≤k∧k<w.heap.size:=World.ownsRow.lt h
theorem Row.form {w:World} {B:Nat} {el:TypeId} {v:Value} {xs:List Value} (h:Row w B el v xs):∃a cap,v= .slice a xs.length cap∧xs.length≤cap:=by
 rcases h.2 with ⟨rfl,hn⟩|⟨g,cap,cur,rfl,_,_,hle,_⟩
 ·exact ⟨none,0,by rw[hn],by omega⟩
 exact ⟨_,cap,rfl,hle⟩
theorem Row.get {w:World} {B:Nat} {el:TypeId} {v:Value} {xs:List Value} (h:Row w B el v xs) {i:Nat} (hi:i<xs.length):
 ∃b cap,v= .slice (some ⟨b,0,none⟩) xs.length cap∧v.ownBlock=some b∧B≤b∧b<w.heap.size∧(∀o,w.frozen? ⟨b,o,none⟩=false)∧∀j (hj:j<xs.length),w.cell? ⟨b,j,none⟩=some xs[j]:=by
 rcases h.2 with ⟨rfl,hn⟩|⟨g,cap,cur,rfl,hB,hg,hle,_,hcs,htake⟩
 ·omega
 refine ⟨g,cap,rfl,rfl,hB,(Array.getElem?_eq_some_iff.1 hg).1,fun o=>by simp [World.frozen?,hg],fun j hj=>?_⟩
 rw[cell_of_row w g j cur el (0,0) hg]
 have h1:(cur.toList.take (xs.length * 1))[j]? =some xs[j]:=by rw[htake];simp [hj]
 rw[List.getElem?_take] at h1
 split at h1
 ·simpa using h1
 cases h1
theorem Br {w:World} {B:Nat} {L:Lay} {g:Gph} (h:GRep w B L g):L.fb<w.heap.size:=by
 have:=h.comp .fn
 exact (Array.getElem?_eq_some_iff.1 this).1
theorem Comp.congr {w w':World} {B:Nat} {L:Lay} {g:Gph} (τ:Tag) (T:Tags B L g) (h:Comp w B L g τ) (hk:∀k,k<w.heap.size→L.tag k=τ→w'.heap[k]? =w.heap[k]?):Comp w' B L g τ:=by
 have lt:∀{k:Nat} {o:Obj},w.heap[k]? =some o→k<w.heap.size:=fun h=>(Array.getElem?_eq_some_iff.1 h).1
 cases τ with
 |fn=>
  have h':w.heap[L.fb]? =_:=h
  show w'.heap[L.fb]? =_
  rw[hk _ (lt h') T.fb];exact h
 |fblocks=>exact Row.congr (show Row _ _ _ _ _ from h) fun k hv=>hk k (Row.lt (show Row _ _ _ _ _ from h) k hv).2 (T.sl .fblocks rfl trivial k hv)
 |fvalues=>exact Row.congr (show Row _ _ _ _ _ from h) fun k hv=>hk k (Row.lt (show Row _ _ _ _ _ from h) k hv).2 (T.sl .fvalues rfl trivial k hv)
 |blk i=>
  intro hi
  have h':=h hi
  rw[hk _ (lt h') (T.bb i hi)];exact h'
 |val i=>
  intro hi
  have h':=h hi
  rw[hk _ (lt h') (T.vb i hi)];exact h'
 |args i=>exact fun hi=>Row.congr (h hi) fun k hv=>hk k (Row.lt (h hi) k hv).2 (T.sl (.args i) rfl hi k hv)
 |succs i=>exact fun hi=>Row.congr (h hi) fun k hv=>hk k (Row.lt (h hi) k hv).2 (T.sl (.succs i) rfl hi k hv)
 |preds i=>exact fun hi=>Row.congr (h hi) fun k hv=>hk k (Row.lt (h hi) k hv).2 (T.sl (.preds i) rfl hi k hv)
 |bvals i=>exact fun hi=>Row.congr (h hi) fun k hv=>hk k (Row.lt (h hi) k hv).2 (T.sl (.bvals i) rfl hi k hv)
 |ctrl i=>exact fun hi=>Row.congr (h hi) fun k hv=>hk k (Row.lt (h hi) k hv).2 (T.sl (.ctrl i) rfl hi k hv)
 |other=>trivial
theorem GRep.keep {w w':World} {B:Nat} {L:Lay} {g:Gph} (h:GRep w B L g) (hk:∀k,k<w.heap.size→w'.heap[k]? =w.heap[k]?):GRep w' B L g:=
 ⟨fun τ=>(h.comp τ).congr τ h.tags fun k hlt _=>hk k hlt,h.tags⟩
theorem GRep.alloc {w:World} {B:Nat} {L:Lay} {g:Gph} (h:GRep w B L g) (o:Obj):GRep (w.alloc o) B L g:=
 h.keep fun k hk=>Below.heap_alloc w o k hk
theorem GRep.drew {w:World} {B:Nat} {L:Lay} {g:Gph} (h:GRep w B L g):GRep w.drew B L g:=h.keep fun _ _=>rfl
section
variable {w : World} {B : Nat} {L : Lay} {g : Gph}
theorem GRep.val (h:GRep w B L g) {i:Nat} (hi:i<g.nv):w.heap[L.vb i]? =some (.cells (vcs L g i) 101 (0,0)):=h.comp (.val i) hi
theorem GRep.blk (h:GRep w B L g) {i:Nat} (hi:i<g.nb):w.heap[L.bb i]? =some (.cells (bcs L g i) 94 (0,0)):=h.comp (.blk i) hi
theorem Am {b o:Nat} {cs:Array Value} {T:TypeId} {v:Value} (h:w.heap[b]? =some (.cells cs T (0,0))) (hv:cs[o]? =some v):w.cell? ⟨b,o,none⟩=some v:=by
 rw[cell_of_row w b o cs T (0,0) h];exact hv
theorem AQ {b o:Nat} {cs:Array Value} {T:TypeId} (h:w.heap[b]? =some (.cells cs T (0,0))):w.frozen? ⟨b,o,none⟩=false:=by
 simp [World.frozen?,h]
theorem Fi {b:Nat} {cs:Array Value} {T:TypeId} (h:w.heap[b]? =some (.cells cs T (0,0))) (hs:cs.size≠0):C8 w b:=⟨cs,T,h,hs⟩
theorem GRep.vOp (h:GRep w B L g) {i:Nat} (hi:i<g.nv):w.cell? ⟨L.vb i,0+1,none⟩=some (.int .i64 (g.op i)):=Am (h.val hi) rfl
theorem GRep.vAux (h:GRep w B L g) {i:Nat} (hi:i<g.nv):w.cell? ⟨L.vb i,0+3,none⟩=some (.int .i64 (g.aux i)):=Am (h.val hi) rfl
theorem GRep.vID (h:GRep w B L g) {i:Nat} (hi:i<g.nv):w.cell? ⟨L.vb i,0+0,none⟩=some (.int .i32 ((i:Int)+1)):=Am (h.val hi) rfl
theorem GRep.vArgs (h:GRep w B L g) {i:Nat} (hi:i<g.nv):w.cell? ⟨L.vb i,0+5,none⟩=some (L.sl (.args i)):=Am (h.val hi) rfl
theorem GRep.vBlk (h:GRep w B L g) {i:Nat} (hi:i<g.nv):w.cell? ⟨L.vb i,0+6,none⟩=some (L.bp (g.blk i)):=Am (h.val hi) rfl
theorem GRep.bPlain (h:GRep w B L g) {i:Nat} (hi:i<g.nb):C8 w (L.bb i):=Fi (h.blk hi) (by simp [bcs])
theorem GRep.bID (h:GRep w B L g) {i:Nat} (hi:i<g.nb):w.cell? ⟨L.bb i,0+0,none⟩=some (.int .i32 ((i:Int)+1)):=Am (h.blk hi) rfl
theorem GRep.bKind (h:GRep w B L g) {i:Nat} (hi:i<g.nb):w.cell? ⟨L.bb i,0+1,none⟩=some (.int .i64 (g.kind i)):=Am (h.blk hi) rfl
theorem GRep.bLikely (h:GRep w B L g) {i:Nat} (hi:i<g.nb):w.cell? ⟨L.bb i,0+2,none⟩=some (.int .i8 (g.likely i)):=Am (h.blk hi) rfl
theorem GRep.bSuccs (h:GRep w B L g) {i:Nat} (hi:i<g.nb):w.cell? ⟨L.bb i,0+3,none⟩=some (L.sl (.succs i)):=Am (h.blk hi) rfl
theorem GRep.bPreds (h:GRep w B L g) {i:Nat} (hi:i<g.nb):w.cell? ⟨L.bb i,0+4,none⟩=some (L.sl (.preds i)):=Am (h.blk hi) rfl
theorem GRep.bVals (h:GRep w B L g) {i:Nat} (hi:i<g.nb):w.cell? ⟨L.bb i,0+5,none⟩=some (L.sl (.bvals i)):=Am (h.blk hi) rfl
theorem GRep.bCtrl (h:GRep w B L g) {i:Nat} (hi:i<g.nb):w.cell? ⟨L.bb i,0+6,none⟩=some (L.sl (.ctrl i)):=Am (h.blk hi) rfl
theorem GRep.fEntry (h:GRep w B L g):w.cell? ⟨L.fb,0+0,none⟩=some (.pointer L.entry):=Am (h.comp .fn) rfl
theorem GRep.fBlocks (h:GRep w B L g):w.cell? ⟨L.fb,0+1,none⟩=some (L.sl .fblocks):=Am (h.comp .fn) rfl
theorem GRep.fValues (h:GRep w B L g):w.cell? ⟨L.fb,0+2,none⟩=some (L.sl .fvalues):=Am (h.comp .fn) rfl
theorem Row.elem {el:TypeId} {v:Value} {ys:List Nat} {f:Nat→Value} (h:Row w B el v (ys.map f)) {k:Nat} (hk:k<ys.length):
 ∃b cap,v= .slice (some ⟨b,0,none⟩) ys.length cap∧v.ownBlock=some b∧w.cell? ⟨b,0+k,none⟩=some (f (ys.getD k 0))∧(∀o,w.frozen? ⟨b,o,none⟩=false):=by
 obtain ⟨b,cap,h1,h2,_,_,h5,h6⟩:=h.get (i:=k) (by simpa using hk)
 refine ⟨b,cap,by simpa using h1,h2,?_,h5⟩
 have:=h6 k (by simpa using hk)
 rw[Nat.zero_add,this]
 simp [List.getD,hk]
theorem Row.len {el:TypeId} {v:Value} {ys:List Nat} {f:Nat→Value} (h:Row w B el v (ys.map f)):∃a cap,v= .slice a ys.length cap:=by
 obtain ⟨a,cap,h1,_⟩:=h.form
 exact ⟨a,cap,by simpa using h1⟩
theorem Gi (h:GRep w B L g) {i j:Nat} (hi:i<g.nb) (hj:j<g.nb) (e:L.bb i=L.bb j):i=j:=by
 have h1:=h.tags.bb i hi
 rw[e,h.tags.bb j hj] at h1
 injection h1 with h1;exact h1.symm
end
section
variable {w : World} {B : Nat} {L : Lay} {g : Gph}
theorem AC {b o:Nat} {u:Value} {cs:Array Value} {T:TypeId} {fr:Nat×Nat} (h:w.heap[b]? =some (.cells cs T fr)):(w.setCell ⟨b,o,none⟩ u).heap[b]? =some (.cells (cs.setIfInBounds o u) T fr):=by
 simp only [World.setCell,Array.getElem?_modify,if_true]
 rw[h]
 rfl
theorem Bp (a:Addr) (u:Value):(w.setCell a u).heap.size=w.heap.size:=by simp [World.setCell]
theorem CG {τ0 τ:Tag} {b o:Nat} {u:Value} (h:GRep w B L g) (hb:L.tag b=τ0) (hne:τ≠τ0):Comp (w.setCell ⟨b,o,none⟩ u) B L g τ:=
 (h.comp τ).congr τ h.tags fun k _ hk=>Below.heap_setCell _ _ _ _ (fun e=>hne (by rw[← hk,← hb];exact congrArg L.tag e))
def Gph.setArg (g:Gph) (i k j:Nat):Gph:= { g with args:=fun x=>if x=i then (g.args i).set k j else g.args x }
def Gph.setCtrl (g:Gph) (i k j:Nat):Gph:= { g with ctrl:=fun x=>if x=i then (g.ctrl i).set k j else g.ctrl x }
theorem Tags.same {g':Gph} (T:Tags B L g) (h1:g'.nv=g.nv) (h2:g'.nb=g.nb):Tags B L g':=by
 refine ⟨T.fb,fun i hi=>T.bb i (by omega),fun i hi=>T.vb i (by omega),fun τ hq hl=>T.sl τ hq ?_,T.fbB,fun i hi=>T.bbB i (by omega),fun i hi=>T.vbB i (by omega)⟩
 cases τ <;> simp only [Live] at hl ⊢ <;> omega
theorem Row.set {el:TypeId} {v:Value} {xs:List Value} {b k:Nat} {u:Value} (h:Row w B el v xs) (hb:v.ownBlock=some b) (hk:k<xs.length):Row (w.setCell ⟨b,k,none⟩ u) B el v (xs.set k u):=by
 refine ⟨by simp,?_⟩
 rcases h.2 with ⟨rfl,hn⟩|⟨g,cap,cur,rfl,hB,hg,hle,hm,hcs,htake⟩
 ·simp [Value.ownBlock] at hb
 simp [Value.ownBlock] at hb
 subst hb
 refine .inr ⟨g,cap,cur.setIfInBounds k u,by simp,hB,AC hg,by simpa using hle,hm,by simpa using hcs,?_⟩
 rw[Array.toList_setIfInBounds]
 simp only [List.length_set]
 rw[Nat.mul_one] at htake ⊢
 rw[List.take_set,htake]
theorem GRep.setArg (h:GRep w B L g) {i k j b:Nat} (hi:i<g.nv) (hk:k<(g.args i).length) (hb:(L.sl (.args i)).ownBlock=some b):
 GRep (w.setCell ⟨b,k,none⟩ (L.vp j)) B L (g.setArg i k j):=by
 refine ⟨fun τ=>?_,h.tags.same rfl rfl⟩
 have htag:=h.tags.sl (.args i) rfl hi b hb
 by_cases e:τ= .args i
 ·subst e
  intro _
  have:=Row.set (u:=L.vp j) (h.comp (.args i) hi) hb (by simpa using hk)
  simpa [Gph.setArg,List.map_set] using this
 have:=CG (o:=k) (u:=L.vp j) h htag e
 cases τ <;> first
  |exact this
  |(rename_i x
    have hx:x≠i:=fun ex=>e (by rw[ex])
    simpa [Comp,Gph.setArg,vcs,bcs,hx] using this)
theorem GRep.setCtrl (h:GRep w B L g) {i k j b:Nat} (hi:i<g.nb) (hk:k<(g.ctrl i).length) (hb:(L.sl (.ctrl i)).ownBlock=some b):
 GRep (w.setCell ⟨b,k,none⟩ (L.vp j)) B L (g.setCtrl i k j):=by
 refine ⟨fun τ=>?_,h.tags.same rfl rfl⟩
 have htag:=h.tags.sl (.ctrl i) rfl hi b hb
 by_cases e:τ= .ctrl i
 ·subst e
  intro _
  have:=Row.set (u:=L.vp j) (h.comp (.ctrl i) hi) hb (by simpa using hk)
  simpa [Gph.setCtrl,List.map_set] using this
 have:=CG (o:=k) (u:=L.vp j) h htag e
 cases τ <;> first
  |exact this
  |(rename_i x
    have hx:x≠i:=fun ex=>e (by rw[ex])
    simpa [Comp,Gph.setCtrl,vcs,bcs,hx] using this)
def IsRow:Tag→Bool
 |.args _|.succs _|.preds _|.bvals _|.ctrl _=>true
 |_=>false
def elT:Tag→TypeId
 |.succs _|.preds _=>103
 |_=>97
def Gph.lst (g:Gph):Tag→List Nat
 |.args i=>g.args i|.succs i=>g.succs i|.preds i=>g.preds i|.bvals i=>g.bvals i|.ctrl i=>g.ctrl i
 |_=>[]
def Lay.pf (L:Lay):Tag→Nat→Value
 |.succs _|.preds _=>L.bp
 |_=>L.vp
def Lay.home (L:Lay):Tag→Nat×Nat
 |.args i=>(L.vb i,0+5)|.succs i=>(L.bb i,0+3)|.preds i=>(L.bb i,0+4)|.bvals i=>(L.bb i,0+5)|.ctrl i=>(L.bb i,0+6)
 |_=>(0,0)
def Gph.setL (g:Gph) (τ:Tag) (ys:List Nat):Gph:=
 match τ with
 |.args i=> { g with args:=fun x=>if x=i then ys else g.args x }
 |.succs i=> { g with succs:=fun x=>if x=i then ys else g.succs x }
 |.preds i=> { g with preds:=fun x=>if x=i then ys else g.preds x }
 |.bvals i=> { g with bvals:=fun x=>if x=i then ys else g.bvals x }
 |.ctrl i=> { g with ctrl:=fun x=>if x=i then ys else g.ctrl x }
 |_=>g
def Lay.setSl (L:Lay) (τ:Tag) (v:Value) (n:Nat):Lay:= { L with sl:=fun t=>if t=τ then v else L.sl t,tag:=fun k=>if k<n then L.tag k else τ }
theorem sl_setSl (τ t:Tag) (v:Value) (n:Nat):(L.setSl τ v n).sl t=if t=τ then v else L.sl t:=rfl
theorem vp_setSl (τ:Tag) (v:Value) (n:Nat):(L.setSl τ v n).vp=L.vp:=rfl
theorem bp_setSl (τ:Tag) (v:Value) (n:Nat):(L.setSl τ v n).bp=L.bp:=rfl
theorem vb_setSl (τ:Tag) (v:Value) (n:Nat):(L.setSl τ v n).vb=L.vb:=rfl
theorem bb_setSl (τ:Tag) (v:Value) (n:Nat):(L.setSl τ v n).bb=L.bb:=rfl
theorem fb_setSl (τ:Tag) (v:Value) (n:Nat):(L.setSl τ v n).fb=L.fb:=rfl
theorem entry_setSl (τ:Tag) (v:Value) (n:Nat):(L.setSl τ v n).entry=L.entry:=rfl
theorem GRep.row (h:GRep w B L g) {τ:Tag} (hτ:IsRow τ=true) (hl:Live g τ):Row w B (elT τ) (L.sl τ) ((g.lst τ).map (L.pf τ)):=by
 have:=h.comp τ
 cases τ <;> first|exact this hl|(simp [IsRow] at hτ;done)
theorem GRep.argsE (h:GRep w B L g) {i k:Nat} (hi:i<g.nv) (hk:k<(g.args i).length):
 ∃b cap,L.sl (.args i)= .slice (some ⟨b,0,none⟩) (g.args i).length cap∧(L.sl (.args i)).ownBlock=some b∧w.cell? ⟨b,0+k,none⟩=some (L.vp ((g.args i).getD k 0))∧(∀o,w.frozen? ⟨b,o,none⟩=false):=Row.elem (h.row (τ:=.args i) rfl hi) hk
theorem GRep.argsV (h:GRep w B L g) {i:Nat} (hi:i<g.nv):∃a cap,L.sl (.args i)= .slice a (g.args i).length cap:=Row.len (h.row (τ:=.args i) rfl hi)
theorem GRep.succsE (h:GRep w B L g) {i k:Nat} (hi:i<g.nb) (hk:k<(g.succs i).length):
 ∃b cap,L.sl (.succs i)= .slice (some ⟨b,0,none⟩) (g.succs i).length cap∧(L.sl (.succs i)).ownBlock=some b∧w.cell? ⟨b,0+k,none⟩=some (L.bp ((g.succs i).getD k 0))∧(∀o,w.frozen? ⟨b,o,none⟩=false):=Row.elem (h.row (τ:=.succs i) rfl hi) hk
theorem GRep.succsV (h:GRep w B L g) {i:Nat} (hi:i<g.nb):∃a cap,L.sl (.succs i)= .slice a (g.succs i).length cap:=Row.len (h.row (τ:=.succs i) rfl hi)
theorem GRep.predsE (h:GRep w B L g) {i k:Nat} (hi:i<g.nb) (hk:k<(g.preds i).length):
 ∃b cap,L.sl (.preds i)= .slice (some ⟨b,0,none⟩) (g.preds i).length cap∧(L.sl (.preds i)).ownBlock=some b∧w.cell? ⟨b,0+k,none⟩=some (L.bp ((g.preds i).getD k 0))∧(∀o,w.frozen? ⟨b,o,none⟩=false):=Row.elem (h.row (τ:=.preds i) rfl hi) hk
theorem GRep.predsV (h:GRep w B L g) {i:Nat} (hi:i<g.nb):∃a cap,L.sl (.preds i)= .slice a (g.preds i).length cap:=Row.len (h.row (τ:=.preds i) rfl hi)
theorem GRep.ctrlE (h:GRep w B L g) {i k:Nat} (hi:i<g.nb) (hk:k<(g.ctrl i).length):
 ∃b cap,L.sl (.ctrl i)= .slice (some ⟨b,0,none⟩) (g.ctrl i).length cap∧(L.sl (.ctrl i)).ownBlock=some b∧w.cell? ⟨b,0+k,none⟩=some (L.vp ((g.ctrl i).getD k 0))∧(∀o,w.frozen? ⟨b,o,none⟩=false):=Row.elem (h.row (τ:=.ctrl i) rfl hi) hk
theorem GRep.ctrlV (h:GRep w B L g) {i:Nat} (hi:i<g.nb):∃a cap,L.sl (.ctrl i)= .slice a (g.ctrl i).length cap:=Row.len (h.row (τ:=.ctrl i) rfl hi)
theorem GRep.fblocksE (h:GRep w B L g) {k:Nat} (hk:k<g.nb):∃b cap,L.sl .fblocks= .slice (some ⟨b,0,none⟩) g.nb cap∧(L.sl .fblocks).ownBlock=some b∧w.cell? ⟨b,0+k,none⟩=some (L.bp k)∧(∀o,w.frozen? ⟨b,o,none⟩=false):=by
 have:=Row.elem (show Row _ _ _ _ _ from h.comp .fblocks) (k:=k) (by simpa using hk)
 simpa [List.getD,hk] using this
theorem GRep.fblocksV (h:GRep w B L g):∃a cap,L.sl .fblocks= .slice a g.nb cap:=by
 simpa using Row.len (show Row _ _ _ _ _ from h.comp .fblocks)
theorem GRep.fvaluesE (h:GRep w B L g) {k:Nat} (hk:k<g.nv):∃b cap,L.sl .fvalues= .slice (some ⟨b,0,none⟩) g.nv cap∧(L.sl .fvalues).ownBlock=some b∧w.cell? ⟨b,0+k,none⟩=some (L.vp k)∧(∀o,w.frozen? ⟨b,o,none⟩=false):=by
 have:=Row.elem (show Row _ _ _ _ _ from h.comp .fvalues) (k:=k) (by simpa using hk)
 simpa [List.getD,hk] using this
theorem GRep.fvaluesV (h:GRep w B L g):∃a cap,L.sl .fvalues= .slice a g.nv cap:=by
 simpa using Row.len (show Row _ _ _ _ _ from h.comp .fvalues)
theorem GRep.blkLt (h:GRep w B L g) {i:Nat} (hi:i<g.nb):L.bb i<w.heap.size:=(Array.getElem?_eq_some_iff.1 (h.blk hi)).1
theorem GRep.valLt (h:GRep w B L g) {i:Nat} (hi:i<g.nv):L.vb i<w.heap.size:=(Array.getElem?_eq_some_iff.1 (h.val hi)).1
theorem GRep.slLt (h:GRep w B L g) {τ:Tag} (hτ:IsLst τ=true) (hl:Live g τ):∀k,(L.sl τ).ownBlock=some k→B≤k∧k<w.heap.size:=by
 intro k hk
 cases τ <;> first
  |exact Row.lt (show Row _ _ _ _ _ from h.comp .fblocks) k hk
  |exact Row.lt (show Row _ _ _ _ _ from h.comp .fvalues) k hk
  |exact (h.row rfl hl).lt k hk
  |(simp [IsLst] at hτ;done)
theorem E9 (T:Tags B L g) {τ:Tag} (hτ:IsRow τ=true) (hl:Live g τ):∃σ,L.tag (L.home τ).1=σ∧IsRow σ=false∧σ≠ .fn∧σ≠ .fblocks∧σ≠ .fvalues:=by
 cases τ <;> first
  |(simp [IsRow] at hτ;done)
  |exact ⟨_,T.vb _ hl,rfl,by simp,by simp,by simp⟩
  |exact ⟨_,T.bb _ hl,rfl,by simp,by simp,by simp⟩
theorem Gp (h:GRep w B L g) {τ:Tag} {v:Value} (hv:∀k,v.ownBlock=some k→(k<w.heap.size→L.tag k=τ)):Tags B (L.setSl τ v w.heap.size) g:=by
 refine ⟨?_,fun i hi=>?_,fun i hi=>?_,fun σ hq hσ k hk=>?_,h.tags.fbB,h.tags.bbB,h.tags.vbB⟩
 ·show (if L.fb<w.heap.size then L.tag L.fb else τ)=_
  rw[if_pos (Br h)];exact h.tags.fb
 ·show (if L.bb i<w.heap.size then L.tag (L.bb i) else τ)=_
  rw[if_pos (h.blkLt hi)];exact h.tags.bb i hi
 ·show (if L.vb i<w.heap.size then L.tag (L.vb i) else τ)=_
  rw[if_pos (h.valLt hi)];exact h.tags.vb i hi
 show (if k<w.heap.size then L.tag k else τ)=σ
 have hk':(if σ=τ then v else L.sl σ).ownBlock=some k:=hk
 by_cases e:σ=τ
 ·subst e
  rw[if_pos rfl] at hk'
  by_cases hlt:k<w.heap.size
  ·rw[if_pos hlt];exact hv k hk' hlt
  rw[if_neg hlt]
 rw[if_neg e] at hk'
 rw[if_pos (h.slLt hq hσ k hk').2]
 exact h.tags.sl σ hq hσ k hk'
theorem GRep.setL {w1:World} (h:GRep w B L g) {τ:Tag} (hτ:IsRow τ=true) (hl:Live g τ) {v:Value} {ys:List Nat} (hrow:Row w1 B (elT τ) v (ys.map (L.pf τ)))
 (hw:∀k,k<w.heap.size→(L.sl τ).ownBlock≠some k→w1.heap[k]? =w.heap[k]?) (hv:∀k,v.ownBlock=some k→(L.sl τ).ownBlock=some k∨w.heap.size≤k):
 GRep (w1.setCell ⟨(L.home τ).1,(L.home τ).2,none⟩ v) B (L.setSl τ v w.heap.size) (g.setL τ ys):=by
 have hLst:IsLst τ=true:=by cases τ <;> first|rfl|(simp [IsRow] at hτ;done)
 have hvt:∀k,v.ownBlock=some k→(k<w.heap.size→L.tag k=τ):=by
  intro k hk hlt
  rcases hv k hk with h1|h1
  ·exact h.tags.sl τ hLst hl k h1
  omega
 have T:=Gp h hvt
 have T':Tags B (L.setSl τ v w.heap.size) (g.setL τ ys):=T.same (by cases τ <;> rfl) (by cases τ <;> rfl)
 refine ⟨fun σ=>?_,T'⟩
 obtain ⟨σ0,ht0,hr0,hf1,hf2,hf3⟩:=E9 h.tags hτ hl
 have hhome:(L.home τ).1<w.heap.size:=by cases τ <;> first|exact h.valLt hl|exact h.blkLt hl|(simp [IsRow] at hτ;done)
 have hhome1:w1.heap[(L.home τ).1]? =w.heap[(L.home τ).1]? :=by
  refine hw _ hhome fun e=>?_
  have:=h.tags.sl τ hLst hl _ e
  rw[ht0] at this
  rw[this] at hr0
  rw[hτ] at hr0;cases hr0
 by_cases e:σ=τ
 ·subst e
  have hr2:Row (w1.setCell ⟨(L.home σ).1,(L.home σ).2,none⟩ v) B (elT σ) v (ys.map (L.pf σ)):=by
   refine hrow.congr fun k hk=>Below.heap_setCell _ _ _ _ fun ek=>?_
   rcases hv k hk with h1|h1
   ·have:=h.tags.sl σ hLst hl k h1
    rw[ek,ht0] at this
    rw[this,hτ] at hr0;cases hr0
   have:k=(L.home σ).1:=ek
   omega
  cases σ <;> first
   |(simp [IsRow] at hτ;done)
   |(intro _;simp only [elT,Lay.pf] at hr2;simpa [Gph.setL,sl_setSl,vp_setSl,bp_setSl,Comp] using hr2)
 have hkeep:∀k,k<w.heap.size→L.tag k=σ→σ≠σ0→(w1.setCell ⟨(L.home τ).1,(L.home τ).2,none⟩ v).heap[k]? =w.heap[k]? :=by
  intro k hk ht hne
  rw[Below.heap_setCell _ _ _ _ (fun ek=>hne (by rw[← ht,← ht0];exact congrArg L.tag ek))]
  refine hw k hk fun hk2=>?_
  exact e (by rw[← ht];exact h.tags.sl τ hLst hl k hk2)
 by_cases e0:σ=σ0
 ·-- the block in which the field lies
  subst e0
  cases τ <;> first
   |(simp [IsRow] at hτ;done)
   |(rename_i i
     have hs:σ= .val i:=ht0.symm.trans (h.tags.vb i hl)
     subst hs
     intro _
     have h1:=hhome1
     have h2:w.heap[L.vb i]? =_:=h.val hl
     have h3:w1.heap[L.vb i]? =_:=h1.trans h2
     have h4:=AC (o:=0+5) (u:=v) h3
     simpa [Gph.setL,Lay.setSl,Lay.home,vcs,Lay.bp] using h4)
   |(rename_i i
     have hs:σ= .blk i:=ht0.symm.trans (h.tags.bb i hl)
     subst hs
     intro _
     have h1:=hhome1
     have h2:w.heap[L.bb i]? =_:=h.blk hl
     have h3:w1.heap[L.bb i]? =_:=h1.trans h2
     first
      |(have h4:=AC (o:=0+3) (u:=v) h3
        have h5:(bcs L g i).setIfInBounds (0+3) v=bcs (L.setSl (.succs i) v w.heap.size) g i:=by simp [bcs,Lay.setSl]
        rw[h5] at h4
        exact h4)
      |(have h4:=AC (o:=0+4) (u:=v) h3
        have h5:(bcs L g i).setIfInBounds (0+4) v=bcs (L.setSl (.preds i) v w.heap.size) g i:=by simp [bcs,Lay.setSl]
        rw[h5] at h4
        exact h4)
      |(have h4:=AC (o:=0+5) (u:=v) h3
        have h5:(bcs L g i).setIfInBounds (0+5) v=bcs (L.setSl (.bvals i) v w.heap.size) g i:=by simp [bcs,Lay.setSl]
        rw[h5] at h4
        exact h4)
      |(have h4:=AC (o:=0+6) (u:=v) h3
        have h5:(bcs L g i).setIfInBounds (0+6) v=bcs (L.setSl (.ctrl i) v w.heap.size) g i:=by simp [bcs,Lay.setSl]
        rw[h5] at h4
        exact h4))
 have hc:Comp (w1.setCell ⟨(L.home τ).1,(L.home τ).2,none⟩ v) B L g σ:=(h.comp σ).congr σ h.tags fun k hk ht=>hkeep k hk ht e0
 cases τ <;> first
  |(simp [IsRow] at hτ;done)
  |(rename_i i
    have hs:σ0= .val i:=ht0.symm.trans (h.tags.vb i hl)
    subst hs
    cases σ <;> (try simp at e) <;> (try simp at e0) <;> first
     |exact hc
     |simpa [Comp,Gph.setL,sl_setSl,vp_setSl,bp_setSl,vb_setSl,bb_setSl,fb_setSl,entry_setSl,vcs,bcs,e,e0] using hc
     |simpa [Comp,Gph.setL,sl_setSl,vp_setSl,bp_setSl,vb_setSl,bb_setSl,fb_setSl,entry_setSl,vcs,bcs] using hc)
  |(rename_i i
    have hs:σ0= .blk i:=ht0.symm.trans (h.tags.bb i hl)
    subst hs
    cases σ <;> (try simp at e) <;> (try simp at e0) <;> first
     |exact hc
     |simpa [Comp,Gph.setL,sl_setSl,vp_setSl,bp_setSl,vb_setSl,bb_setSl,fb_setSl,entry_setSl,vcs,bcs,e,e0] using hc
     |simpa [Comp,Gph.setL,sl_setSl,vp_setSl,bp_setSl,vb_setSl,bb_setSl,fb_setSl,entry_setSl,vcs,bcs] using hc)
end
end Go.Proofs.YteepnepebilckaaGreatDoor
namespace Go.Proofs.YteepnepebilckaaGreatDoor
open Go Go.Eng Go.RowKit
section
variable {w : World} {B : Nat} {L : Lay} {g : Gph}
theorem GRep.baseLe' (h:GRep w B L g):B≤w.heap.size:=by
 have h1:=Br h
 have h2:=h.tags.fbB
 omega
def nilS:Value:=.slice none 0 0
theorem Row.nil (w:World) (B:Nat) (el:TypeId):Row w B el nilS []:=World.ownsRow_nil w B el 1
def Lay.addB (L:Lay) (nb n:Nat) (v:Value):Lay:=
 { L with bb:=fun i=>if i=nb then n else L.bb i
          tag:=fun k=>if k<n then L.tag k else if k=n then .blk nb else .fblocks
          sl:=fun τ=>if τ= .fblocks then v else if τ= .succs nb∨τ= .preds nb∨τ= .bvals nb∨τ= .ctrl nb then nilS else L.sl τ }
theorem GRep.addB {w1:World} {v:Value} (h:GRep w B L g) (h0:g.nv=0) (hs:∀i,g.succs i=[]) (hp:∀i,g.preds i=[]) (hv0:∀i,g.bvals i=[]) (hc:∀i,g.ctrl i=[])
 (hnew:w1.heap[w.heap.size]? =some (.cells #[.int .i32 ((g.nb:Int)+1),.int .i64 (g.kind g.nb),.int .i8 (g.likely g.nb),nilS,nilS,nilS,nilS,.pointer (some ⟨L.fb,0,none⟩)] 94 (0,0)))
 (hw:∀k,k<w.heap.size→(L.sl .fblocks).ownBlock≠some k→w1.heap[k]? =w.heap[k]?)
 (hrow:Row w1 B 74 v ((List.range g.nb).map L.bp ++ [.pointer (some ⟨w.heap.size,0,none⟩)]))
 (hv:∀k,v.ownBlock=some k→(L.sl .fblocks).ownBlock=some k∨w.heap.size<k):
 GRep (w1.setCell ⟨L.fb,0+1,none⟩ v) B (L.addB g.nb w.heap.size v) { g with nb:=g.nb+1 }:=by
 have hbb:∀i,i<g.nb→(L.addB g.nb w.heap.size v).bb i=L.bb i:=fun i hi=>if_neg (by omega)
 have hbn:(L.addB g.nb w.heap.size v).bb g.nb=w.heap.size:=if_pos rfl
 have hBs:B≤w.heap.size:=by have h1:=Br h;have h2:=h.tags.fbB;omega
 have keep:∀k,k<w.heap.size→L.tag k≠ .fblocks→k≠L.fb→(w1.setCell ⟨L.fb,0+1,none⟩ v).heap[k]? =w.heap[k]? :=by
  intro k hk ht hne
  rw[Below.heap_setCell _ _ _ _ hne]
  exact hw k hk fun e=>ht (h.tags.sl .fblocks rfl trivial k e)
 have htag:∀k,k<w.heap.size→(L.addB g.nb w.heap.size v).tag k=L.tag k:=fun k hk=>if_pos hk
 refine ⟨fun τ=>?_,?_⟩
 ·cases τ with
  |fn=>
   have h1:w.heap[L.fb]? =_:=h.comp .fn
   have h2:w1.heap[L.fb]? =_:=(hw L.fb (Br h) (fun e=>by have:=h.tags.sl .fblocks rfl trivial _ e;rw[h.tags.fb] at this;cases this)).trans h1
   exact AC (o:=0+1) (u:=v) h2
  |fblocks=>
   have hl:(List.range (g.nb+1)).map (L.addB g.nb w.heap.size v).bp=(List.range g.nb).map L.bp ++ [.pointer (some ⟨w.heap.size,0,none⟩)]:=by
    rw[List.range_succ,List.map_append]
    congr 1
    ·apply List.map_congr_left
     intro i hi
     show Value.pointer (some ⟨(L.addB g.nb w.heap.size v).bb i,0,none⟩)=_
     rw[hbb i (List.mem_range.1 hi)];rfl
    show [Value.pointer (some ⟨(L.addB g.nb w.heap.size v).bb g.nb,0,none⟩)]=_
    rw[hbn]
   show Row _ B _ v ((List.range (g.nb+1)).map (L.addB g.nb w.heap.size v).bp)
   rw[hl]
   refine hrow.congr fun k hk=>Below.heap_setCell _ _ _ _ fun e=>?_
   have e:k=L.fb:=e
   rcases hv k hk with h1|h1
   ·have:=h.tags.sl .fblocks rfl trivial k h1
    rw[e,h.tags.fb] at this;cases this
   have:=Br h;omega
  |fvalues=>
   have h1:Row w B 97 (L.sl .fvalues) ((List.range g.nv).map L.vp):=h.comp .fvalues
   refine Row.congr h1 fun k hk=>?_
   have ht:=h.tags.sl .fvalues rfl trivial k hk
   exact keep k (h1.lt k hk).2 (by rw[ht];simp) (fun e=>by rw[e,h.tags.fb] at ht;cases ht)
  |blk i=>
   intro hi
   by_cases e:i=g.nb
   ·subst e
    show (w1.setCell _ v).heap[(L.addB g.nb w.heap.size v).bb g.nb]? =_
    rw[hbn,Below.heap_setCell _ _ _ _ (by have:=Br h;show w.heap.size≠L.fb;omega),hnew]
    simp [bcs,Lay.addB]
   have hi':i<g.nb:=by have:i<g.nb+1:=hi;omega
   show (w1.setCell _ v).heap[(L.addB g.nb w.heap.size v).bb i]? =_
   have ht:=h.tags.bb i hi'
   rw[hbb i hi',keep _ (h.blkLt hi') (by rw[ht];simp) (fun e=>by rw[e,h.tags.fb] at ht;cases ht),h.blk hi']
   simp [bcs,Lay.addB,e]
  |val i=>intro hi;exact absurd hi (by show ¬ i<g.nv;omega)
  |args i=>intro hi;exact absurd hi (by show ¬ i<g.nv;omega)
  |succs i=>
   intro hi
   by_cases e:i=g.nb
   ·subst e
    simpa [Lay.addB,hs] using Row.nil _ B _
   have hi':i<g.nb:=by have:i<g.nb+1:=hi;omega
   have h1:=h.row (τ:=.succs i) rfl hi'
   have hsl:(L.addB g.nb w.heap.size v).sl (.succs i)=L.sl (.succs i):=by simp [Lay.addB,e]
   show Row _ B _ ((L.addB g.nb w.heap.size v).sl (.succs i)) ((g.succs i).map _)
   rw[hsl,hs i]
   have h2:(g.lst (.succs i))=[]:=hs i
   rw[h2] at h1
   refine Row.congr h1 fun k hk=>?_
   have ht:=h.tags.sl (.succs i) rfl hi' k hk
   exact keep k (h1.lt k hk).2 (by rw[ht];simp) (fun e=>by rw[e,h.tags.fb] at ht;cases ht)
  |preds i=>
   intro hi
   by_cases e:i=g.nb
   ·subst e
    simpa [Lay.addB,hp] using Row.nil _ B _
   have hi':i<g.nb:=by have:i<g.nb+1:=hi;omega
   have h1:=h.row (τ:=.preds i) rfl hi'
   have hsl:(L.addB g.nb w.heap.size v).sl (.preds i)=L.sl (.preds i):=by simp [Lay.addB,e]
   show Row _ B _ ((L.addB g.nb w.heap.size v).sl (.preds i)) ((g.preds i).map _)
   rw[hsl,hp i]
   have h2:(g.lst (.preds i))=[]:=hp i
   rw[h2] at h1
   refine Row.congr h1 fun k hk=>?_
   have ht:=h.tags.sl (.preds i) rfl hi' k hk
   exact keep k (h1.lt k hk).2 (by rw[ht];simp) (fun e=>by rw[e,h.tags.fb] at ht;cases ht)
  |bvals i=>
   intro hi
   by_cases e:i=g.nb
   ·subst e
    simpa [Lay.addB,hv0] using Row.nil _ B _
   have hi':i<g.nb:=by have:i<g.nb+1:=hi;omega
   have h1:=h.row (τ:=.bvals i) rfl hi'
   have hsl:(L.addB g.nb w.heap.size v).sl (.bvals i)=L.sl (.bvals i):=by simp [Lay.addB,e]
   show Row _ B _ ((L.addB g.nb w.heap.size v).sl (.bvals i)) ((g.bvals i).map _)
   rw[hsl,hv0 i]
   have h2:(g.lst (.bvals i))=[]:=hv0 i
   rw[h2] at h1
   refine Row.congr h1 fun k hk=>?_
   have ht:=h.tags.sl (.bvals i) rfl hi' k hk
   exact keep k (h1.lt k hk).2 (by rw[ht];simp) (fun e=>by rw[e,h.tags.fb] at ht;cases ht)
  |ctrl i=>
   intro hi
   by_cases e:i=g.nb
   ·subst e
    simpa [Lay.addB,hc] using Row.nil _ B _
   have hi':i<g.nb:=by have:i<g.nb+1:=hi;omega
   have h1:=h.row (τ:=.ctrl i) rfl hi'
   have hsl:(L.addB g.nb w.heap.size v).sl (.ctrl i)=L.sl (.ctrl i):=by simp [Lay.addB,e]
   show Row _ B _ ((L.addB g.nb w.heap.size v).sl (.ctrl i)) ((g.ctrl i).map _)
   rw[hsl,hc i]
   have h2:(g.lst (.ctrl i))=[]:=hc i
   rw[h2] at h1
   refine Row.congr h1 fun k hk=>?_
   have ht:=h.tags.sl (.ctrl i) rfl hi' k hk
   exact keep k (h1.lt k hk).2 (by rw[ht];simp) (fun e=>by rw[e,h.tags.fb] at ht;cases ht)
  |other=>trivial
 refine ⟨?_,fun i hi=>?_,fun i hi=>?_,fun σ hq hσ k hk=>?_,h.tags.fbB,fun i hi=>?_,fun i hi=>?_⟩
 ·show (L.addB g.nb w.heap.size v).tag L.fb=_
  rw[htag _ (Br h)];exact h.tags.fb
 ·by_cases e:i=g.nb
  ·subst e
   show (L.addB g.nb w.heap.size v).tag ((L.addB g.nb w.heap.size v).bb g.nb)=_
   rw[hbn]
   show (if w.heap.size<w.heap.size then _ else if w.heap.size=w.heap.size then Tag.blk g.nb else Tag.fblocks)=_
   rw[if_neg (Nat.lt_irrefl _),if_pos rfl]
  have hi':i<g.nb:=by have:i<g.nb+1:=hi;omega
  rw[hbb i hi',htag _ (h.blkLt hi')];exact h.tags.bb i hi'
 ·exact absurd hi (by show ¬ i<g.nv;omega)
 ·have hk1:(if σ= .fblocks then v else if σ= .succs g.nb∨σ= .preds g.nb∨σ= .bvals g.nb∨σ= .ctrl g.nb then nilS else L.sl σ).ownBlock=some k:=hk
  by_cases e:σ= .fblocks
  ·subst e
   rw[if_pos rfl] at hk1
   rcases hv k hk1 with h1|h1
   ·have hlt:=h.slLt (τ:=.fblocks) rfl trivial k h1
    rw[htag k hlt.2]
    exact h.tags.sl .fblocks rfl trivial k h1
   show (if k<w.heap.size then _ else if k=w.heap.size then _ else Tag.fblocks)=_
   rw[if_neg (by omega),if_neg (by omega)]
  rw[if_neg e] at hk1
  by_cases e2:σ= .succs g.nb∨σ= .preds g.nb∨σ= .bvals g.nb∨σ= .ctrl g.nb
  ·rw[if_pos e2] at hk1;cases hk1
  rw[if_neg e2] at hk1
  have hσ':Live g σ:=by
   cases σ <;> simp only [Live] at hσ ⊢ <;> first
    |(simp [IsLst] at hq;done)
    |omega
    |(rename_i i
      have:i≠g.nb:=by intro e3;apply e2;simp [e3]
      omega)
  rw[htag k (h.slLt hq hσ' k hk1).2]
  exact h.tags.sl σ hq hσ' k hk1
 ·by_cases e:i=g.nb
  ·subst e;rw[hbn];exact hBs
  have hi':i<g.nb:=by have:i<g.nb+1:=hi;omega
  rw[hbb i hi'];exact h.tags.bbB i hi'
 exact absurd hi (by show ¬ i<g.nv;omega)
def Lay.addV (L:Lay) (nv n:Nat) (v:Value):Lay:=
 { L with vb:=fun i=>if i=nv then n else L.vb i
          tag:=fun k=>if k<n then L.tag k else if k=n then .val nv else .fvalues
          sl:=fun τ=>if τ= .fvalues then v else if τ= .args nv then nilS else L.sl τ }
theorem GRep.addV {w1:World} {v:Value} (h:GRep w B L g) (ha:∀i,g.args i=[]) (hc:∀i,g.ctrl i=[]) (hbv:∀b,∀x∈g.bvals b,x<g.nv)
 (hnew:w1.heap[w.heap.size]? =some (.cells #[.int .i32 ((g.nv:Int)+1),.int .i64 (g.op g.nv),.int .i64 (g.ty g.nv),.int .i64 (g.aux g.nv),.pointer none,nilS,L.bp (g.blk g.nv)] 101 (0,0)))
 (hw:∀k,k<w.heap.size→(L.sl .fvalues).ownBlock≠some k→w1.heap[k]? =w.heap[k]?)
 (hrow:Row w1 B 97 v ((List.range g.nv).map L.vp ++ [.pointer (some ⟨w.heap.size,0,none⟩)]))
 (hv:∀k,v.ownBlock=some k→(L.sl .fvalues).ownBlock=some k∨w.heap.size<k):
 GRep (w1.setCell ⟨L.fb,0+2,none⟩ v) B (L.addV g.nv w.heap.size v) { g with nv:=g.nv+1 }:=by
 have hvb:∀i,i<g.nv→(L.addV g.nv w.heap.size v).vb i=L.vb i:=fun i hi=>if_neg (by omega)
 have hvn:(L.addV g.nv w.heap.size v).vb g.nv=w.heap.size:=if_pos rfl
 have hBs:B≤w.heap.size:=by have h1:=Br h;have h2:=h.tags.fbB;omega
 have keep:∀k,k<w.heap.size→L.tag k≠ .fvalues→k≠L.fb→(w1.setCell ⟨L.fb,0+2,none⟩ v).heap[k]? =w.heap[k]? :=by
  intro k hk ht hne
  rw[Below.heap_setCell _ _ _ _ hne]
  exact hw k hk fun e=>ht (h.tags.sl .fvalues rfl trivial k e)
 have htag:∀k,k<w.heap.size→(L.addV g.nv w.heap.size v).tag k=L.tag k:=fun k hk=>if_pos hk
 have hvp:∀i,i<g.nv→(L.addV g.nv w.heap.size v).vp i=L.vp i:=fun i hi=>by
  show Value.pointer (some ⟨(L.addV g.nv w.heap.size v).vb i,0,none⟩)=_
  rw[hvb i hi];rfl
 refine ⟨fun τ=>?_,?_⟩
 ·cases τ with
  |fn=>
   have h1:w.heap[L.fb]? =_:=h.comp .fn
   have h2:w1.heap[L.fb]? =_:=(hw L.fb (Br h) (fun e=>by have:=h.tags.sl .fvalues rfl trivial _ e;rw[h.tags.fb] at this;cases this)).trans h1
   exact AC (o:=0+2) (u:=v) h2
  |fvalues=>
   have hl:(List.range (g.nv+1)).map (L.addV g.nv w.heap.size v).vp=(List.range g.nv).map L.vp ++ [.pointer (some ⟨w.heap.size,0,none⟩)]:=by
    rw[List.range_succ,List.map_append]
    congr 1
    ·apply List.map_congr_left
     intro i hi
     exact hvp i (List.mem_range.1 hi)
    show [Value.pointer (some ⟨(L.addV g.nv w.heap.size v).vb g.nv,0,none⟩)]=_
    rw[hvn]
   show Row _ B _ v ((List.range (g.nv+1)).map (L.addV g.nv w.heap.size v).vp)
   rw[hl]
   refine hrow.congr fun k hk=>Below.heap_setCell _ _ _ _ fun e=>?_
   have e:k=L.fb:=e
   rcases hv k hk with h1|h1
   ·have:=h.tags.sl .fvalues rfl trivial k h1
    rw[e,h.tags.fb] at this;cases this
   have:=Br h;omega
  |fblocks=>
   have h1:Row w B 74 (L.sl .fblocks) ((List.range g.nb).map L.bp):=h.comp .fblocks
   refine Row.congr h1 fun k hk=>?_
   have ht:=h.tags.sl .fblocks rfl trivial k hk
   exact keep k (h1.lt k hk).2 (by rw[ht];simp) (fun e=>by rw[e,h.tags.fb] at ht;cases ht)
  |blk i=>
   intro hi
   have ht:=h.tags.bb i hi
   show (w1.setCell _ v).heap[L.bb i]? =_
   rw[keep _ (h.blkLt hi) (by rw[ht];simp) (fun e=>by rw[e,h.tags.fb] at ht;cases ht),h.blk hi]
   simp [bcs,Lay.addV]
  |val i=>
   intro hi
   by_cases e:i=g.nv
   ·subst e
    show (w1.setCell _ v).heap[(L.addV g.nv w.heap.size v).vb g.nv]? =_
    rw[hvn,Below.heap_setCell _ _ _ _ (by have:=Br h;show w.heap.size≠L.fb;omega),hnew]
    simp [vcs,Lay.addV,Lay.bp]
   have hi':i<g.nv:=by have:i<g.nv+1:=hi;omega
   show (w1.setCell _ v).heap[(L.addV g.nv w.heap.size v).vb i]? =_
   have ht:=h.tags.vb i hi'
   rw[hvb i hi',keep _ (h.valLt hi') (by rw[ht];simp) (fun e=>by rw[e,h.tags.fb] at ht;cases ht),h.val hi']
   simp [vcs,Lay.addV,e,Lay.bp]
  |args i=>
   intro hi
   by_cases e:i=g.nv
   ·subst e
    simpa [Lay.addV,ha] using Row.nil _ B _
   have hi':i<g.nv:=by have:i<g.nv+1:=hi;omega
   have h1:=h.row (τ:=.args i) rfl hi'
   have hsl:(L.addV g.nv w.heap.size v).sl (.args i)=L.sl (.args i):=by simp [Lay.addV,e]
   show Row _ B _ ((L.addV g.nv w.heap.size v).sl (.args i)) ((g.args i).map _)
   rw[hsl,ha i]
   have h2:(g.lst (.args i))=[]:=ha i
   rw[h2] at h1
   refine Row.congr h1 fun k hk=>?_
   have ht:=h.tags.sl (.args i) rfl hi' k hk
   exact keep k (h1.lt k hk).2 (by rw[ht];simp) (fun e=>by rw[e,h.tags.fb] at ht;cases ht)
  |succs i=>
   intro hi
   have h1:=h.row (τ:=.succs i) rfl hi
   refine Row.congr h1 fun k hk=>?_
   have ht:=h.tags.sl (.succs i) rfl hi k hk
   exact keep k (h1.lt k hk).2 (by rw[ht];simp) (fun e=>by rw[e,h.tags.fb] at ht;cases ht)
  |preds i=>
   intro hi
   have h1:=h.row (τ:=.preds i) rfl hi
   refine Row.congr h1 fun k hk=>?_
   have ht:=h.tags.sl (.preds i) rfl hi k hk
   exact keep k (h1.lt k hk).2 (by rw[ht];simp) (fun e=>by rw[e,h.tags.fb] at ht;cases ht)
  |bvals i=>
   intro hi
   have h1:=h.row (τ:=.bvals i) rfl hi
   have hl:(g.bvals i).map (L.addV g.nv w.heap.size v).vp=(g.bvals i).map L.vp:=List.map_congr_left fun x hx=>hvp x (hbv i x hx)
   show Row _ B _ (L.sl (.bvals i)) ((g.bvals i).map _)
   rw[hl]
   refine Row.congr h1 fun k hk=>?_
   have ht:=h.tags.sl (.bvals i) rfl hi k hk
   exact keep k (h1.lt k hk).2 (by rw[ht];simp) (fun e=>by rw[e,h.tags.fb] at ht;cases ht)
  |ctrl i=>
   intro hi
   have h1:=h.row (τ:=.ctrl i) rfl hi
   have h2:(g.lst (.ctrl i))=[]:=hc i
   show Row _ B _ (L.sl (.ctrl i)) ((g.ctrl i).map _)
   rw[hc i]
   rw[h2] at h1
   refine Row.congr h1 fun k hk=>?_
   have ht:=h.tags.sl (.ctrl i) rfl hi k hk
   exact keep k (h1.lt k hk).2 (by rw[ht];simp) (fun e=>by rw[e,h.tags.fb] at ht;cases ht)
  |other=>trivial
 refine ⟨?_,fun i hi=>?_,fun i hi=>?_,fun σ hq hσ k hk=>?_,h.tags.fbB,h.tags.bbB,fun i hi=>?_⟩
 ·show (L.addV g.nv w.heap.size v).tag L.fb=_
  rw[htag _ (Br h)];exact h.tags.fb
 ·show (L.addV g.nv w.heap.size v).tag (L.bb i)=_
  rw[htag _ (h.blkLt hi)];exact h.tags.bb i hi
 ·by_cases e:i=g.nv
  ·subst e
   rw[hvn]
   show (if w.heap.size<w.heap.size then _ else if w.heap.size=w.heap.size then Tag.val g.nv else Tag.fvalues)=_
   rw[if_neg (Nat.lt_irrefl _),if_pos rfl]
  have hi':i<g.nv:=by have:i<g.nv+1:=hi;omega
  rw[hvb i hi',htag _ (h.valLt hi')];exact h.tags.vb i hi'
 ·have hk1:(if σ= .fvalues then v else if σ= .args g.nv then nilS else L.sl σ).ownBlock=some k:=hk
  by_cases e:σ= .fvalues
  ·subst e
   rw[if_pos rfl] at hk1
   rcases hv k hk1 with h1|h1
   ·have hlt:=h.slLt (τ:=.fvalues) rfl trivial k h1
    rw[htag k hlt.2]
    exact h.tags.sl .fvalues rfl trivial k h1
   show (if k<w.heap.size then _ else if k=w.heap.size then _ else Tag.fvalues)=_
   rw[if_neg (by omega),if_neg (by omega)]
  rw[if_neg e] at hk1
  by_cases e2:σ= .args g.nv
  ·rw[if_pos e2] at hk1;cases hk1
  rw[if_neg e2] at hk1
  have hσ':Live g σ:=by
   cases σ <;> simp only [Live] at hσ ⊢ <;> first
    |omega
    |(rename_i i
      have:i≠g.nv:=by intro e3;apply e2;simp [e3]
      omega)
    |(simp [IsLst] at hq;done)
  rw[htag k (h.slLt hq hσ' k hk1).2]
  exact h.tags.sl σ hq hσ' k hk1
 by_cases e:i=g.nv
 ·subst e;rw[hvn];exact hBs
 have hi':i<g.nv:=by have:i<g.nv+1:=hi;omega
 rw[hvb i hi'];exact h.tags.vbB i hi'
theorem GRep.setEntry (h:GRep w B L g) (p:Option Addr):GRep (w.setCell ⟨L.fb,0+0,none⟩ (.pointer p)) B { L with entry:=p } g:=by
 refine ⟨fun τ=>?_,⟨h.tags.fb,h.tags.bb,h.tags.vb,h.tags.sl,h.tags.fbB,h.tags.bbB,h.tags.vbB⟩⟩
 by_cases e:τ= .fn
 ·subst e
  exact AC (o:=0+0) (u:=.pointer p) (show w.heap[L.fb]? =_ from h.comp .fn)
 have:=CG (o:=0+0) (u:=.pointer p) h h.tags.fb e
 cases τ <;> first
  |exact absurd rfl e
  |exact this
theorem CY {τ:Tag} (hτ:IsRow τ=true):IsLst τ=true:=by
 cases τ <;> first|rfl|(simp [IsRow] at hτ;done)
theorem GRep.own_bb (h:GRep w B L g) {τ:Tag} (hτ:IsRow τ=true) (hl:Live g τ) {i:Nat} (hi:i<g.nb):(L.sl τ).ownBlock≠some (L.bb i):=fun e=>by
 have:=h.tags.sl τ (CY hτ) hl _ e
 rw[h.tags.bb i hi] at this
 subst this;simp [IsRow] at hτ
theorem GRep.own_vb (h:GRep w B L g) {τ:Tag} (hτ:IsRow τ=true) (hl:Live g τ) {i:Nat} (hi:i<g.nv):(L.sl τ).ownBlock≠some (L.vb i):=fun e=>by
 have:=h.tags.sl τ (CY hτ) hl _ e
 rw[h.tags.vb i hi] at this
 subst this;simp [IsRow] at hτ
theorem GRep.own_fb (h:GRep w B L g) {τ:Tag} (hτ:IsRow τ=true) (hl:Live g τ):(L.sl τ).ownBlock≠some L.fb:=fun e=>by
 have:=h.tags.sl τ (CY hτ) hl _ e
 rw[h.tags.fb] at this
 subst this;simp [IsRow] at hτ
theorem GRep.own_sl (h:GRep w B L g) {τ σ:Tag} (hτ:IsRow τ=true) (hl:Live g τ) (hσ:IsLst σ=true) (hls:Live g σ) (hne:σ≠τ) {b:Nat} (hb:(L.sl σ).ownBlock=some b):(L.sl τ).ownBlock≠some b:=fun e=>by
 have h1:=h.tags.sl τ (CY hτ) hl _ e
 have h2:=h.tags.sl σ hσ hls _ hb
 exact hne (h2.symm.trans h1)
theorem GRep.app {W6 W7:World} {v7:Value} {x:Nat} (h:GRep w B L g) {τ:Tag} (hτ:IsRow τ=true) (hl:Live g τ)
 (hO:∀i,i<w.heap.size→W6.heap[i]? =w.heap[i]?) (hZ:W6.heap.size=w.heap.size+1) (hB6:Below B w W6)
 (hrow:W7.ownsRow B (elT τ) 1 v7 (((g.lst τ).map (L.pf τ)).length+1) ((g.lst τ).map (L.pf τ) ++ [L.pf τ x])) (hgr:W6.grownBy W7 (L.sl τ).ownBlock)
 (hwh:v7.ownBlock=(L.sl τ).ownBlock∨v7.ownBlock=some W6.heap.size):
 GRep (W7.setCell ⟨(L.home τ).1,(L.home τ).2,none⟩ v7) B (L.setSl τ v7 w.heap.size) (g.setL τ (g.lst τ ++ [x]))∧
 Below B w (W7.setCell ⟨(L.home τ).1,(L.home τ).2,none⟩ v7)∧
 (∀p v,w.cell? p=some v→(L.sl τ).ownBlock≠some p.block→W7.cell? p=some v)∧
 (∀o,W7.frozen? ⟨(L.home τ).1,o,none⟩=false):=by
 have hr:=h.row hτ hl
 have hlow:∀i,(L.sl τ).ownBlock=some i→i<w.heap.size:=fun i hi=>(hr.lt i hi).2
 have hBs:=h.baseLe'
 have hold:∀i,i<w.heap.size→(L.sl τ).ownBlock≠some i→W7.heap[i]? =w.heap[i]? :=fun i hi hne=>by
  rw[hgr.block i (by omega) (fun e=>hne e.symm),hO i hi]
 obtain ⟨σ0,ht0,hr0,_,_,_⟩:=E9 h.tags hτ hl
 have hhome:(L.home τ).1<w.heap.size:=by cases τ <;> first|exact h.valLt hl|exact h.blkLt hl|(simp [IsRow] at hτ;done)
 have hhB:B≤(L.home τ).1:=by cases τ <;> first|exact h.tags.vbB _ hl|exact h.tags.bbB _ hl|(simp [IsRow] at hτ;done)
 have hne0:(L.sl τ).ownBlock≠some (L.home τ).1:=by
  cases τ <;> first|exact h.own_vb hτ hl hl|exact h.own_bb hτ hl hl|(simp [IsRow] at hτ;done)
 refine ⟨GRep.setL (w1:=W7) h hτ hl (show Row W7 B (elT τ) v7 ((g.lst τ ++ [x]).map (L.pf τ)) from by simpa [Row] using hrow) hold (fun i hi=>?_),?_,fun p v hp hne=>?_,fun o=>?_⟩
 ·rcases hwh with h5|h5
  ·left;rw[← h5];exact hi
  right;rw[h5] at hi;have:W6.heap.size=i:=Option.some.inj hi;omega
 ·exact (hB6.grown hgr (by omega) (fun i hi=>(hr.lt i hi).1)).setCell hhB v7
 ·rw[World.cell?_of_block (w:=w) (hold p.block (World.block_lt_of_cell? w p hp) hne)];exact hp
 have h1:=hold _ hhome hne0
 have h2:∃cs T,w.heap[(L.home τ).1]? =some (.cells cs T (0,0)):=by
  cases τ <;> first|exact ⟨_,_,h.val hl⟩|exact ⟨_,_,h.blk hl⟩|(simp [IsRow] at hτ;done)
 obtain ⟨cs,T,h3⟩:=h2
 exact AQ (h1.trans h3)
end
end Go.Proofs.YteepnepebilckaaGreatDoor
namespace Go.Proofs.YteepnepebilckaaGreatDoor
open Go Go.Eng Go.RowKit
structure Vl where
 op:Int
 blk:Int
 args:List Int
 aux:Int
structure Bk where
 kind:Int
 ctrl:Int
 succs:List Int
 likely:Int
structure Fn where
 vals:List Vl
 blks:List Bk
instance:Inhabited Vl:=⟨⟨0,0,[],0⟩⟩
instance:Inhabited Bk:=⟨⟨0,-1,[],0⟩⟩
def Fn.v (f:Fn) (i:Nat):Vl:=f.vals.getD i default
def Fn.b (f:Fn) (i:Nat):Bk:=f.blks.getD i default
def IntsAt (w:World) (a:Option Addr) (l:List Int):Prop:=
 l=[]∨∃b o,a=some ⟨b,o,none⟩∧∀k,k<l.length→w.cell? ⟨b,o+k,none⟩=some (.int .i64 (l.getD k 0))
def IntsC (w:World) (a:Option Addr) (l:List Int) (c:Nat):Prop:=l.length≤c∧IntsAt w a l
theorem IntsC.get {w:World} {a:Option Addr} {l:List Int} {c:Nat} (h:IntsC w a l c) {k:Nat} (hk:k<l.length):∃b o,a=some ⟨b,o,none⟩∧w.cell? ⟨b,o+k,none⟩=some (.int .i64 (l.getD k 0)):=by
 rcases h.2 with rfl|⟨b,o,ha,hc⟩
 ·simp at hk
 exact ⟨b,o,ha,hc k hk⟩
def IntsV (w:World) (v:Value) (l:List Int):Prop:=∃a c,v= .slice a l.length c∧IntsC w a l c
def Quad (w:World) (b o:Nat) (x y:Int) (l:List Int) (z:Int):Prop:=
 ∃s,CellsAt w b o [.int .i64 x,.int .i64 y,s,.int .i64 z]∧IntsV w s l
def ValsV (w:World) (v:Value) (l:List Vl):Prop:=
 ∃a c,v= .slice a l.length c∧(l=[]∨∃b o,a=some ⟨b,o,none⟩∧∀k,k<l.length→Quad w b (o+k * 4) (l.getD k default).op (l.getD k default).blk (l.getD k default).args (l.getD k default).aux)
def BlksV (w:World) (v:Value) (l:List Bk):Prop:=
 ∃a c,v= .slice a l.length c∧(l=[]∨∃b o,a=some ⟨b,o,none⟩∧∀k,k<l.length→Quad w b (o+k * 4) (l.getD k default).kind (l.getD k default).ctrl (l.getD k default).succs (l.getD k default).likely)
def FnV (w:World) (v:Value) (f:Fn):Prop:=∃x y,v= .agg #[x,y]∧ValsV w x f.vals∧BlksV w y f.blks
theorem IntsV.keep {w w':World} {v:Value} {l:List Int} (h:IntsV w v l) (k:Keep w w'):IntsV w' v l:=by
 obtain ⟨a,c,hv,hlc,hl⟩:=h
 refine ⟨a,c,hv,hlc,?_⟩
 rcases hl with hl|⟨b,o,ha,hc⟩
 ·exact .inl hl
 exact .inr ⟨b,o,ha,fun i hi=>k _ _ (hc i hi)⟩
theorem _root_.Go.Eng.CellsAt.keep {w w':World} {b o:Nat} {cs:List Value} (h:CellsAt w b o cs) (k:Keep w w'):CellsAt w' b o cs:=fun j v hv=>k _ _ (h j v hv)
theorem Quad.keep {w w':World} {b o:Nat} {x y:Int} {l:List Int} {z:Int} (h:Quad w b o x y l z) (k:Keep w w'):Quad w' b o x y l z:=by
 obtain ⟨s,h1,h2⟩:=h
 exact ⟨s,h1.keep k,h2.keep k⟩
theorem ValsV.keep {w w':World} {v:Value} {l:List Vl} (h:ValsV w v l) (k:Keep w w'):ValsV w' v l:=by
 obtain ⟨a,c,hv,hl⟩:=h
 refine ⟨a,c,hv,?_⟩
 rcases hl with hl|⟨b,o,ha,hc⟩
 ·exact .inl hl
 exact .inr ⟨b,o,ha,fun i hi=>(hc i hi).keep k⟩
theorem BlksV.keep {w w':World} {v:Value} {l:List Bk} (h:BlksV w v l) (k:Keep w w'):BlksV w' v l:=by
 obtain ⟨a,c,hv,hl⟩:=h
 refine ⟨a,c,hv,?_⟩
 rcases hl with hl|⟨b,o,ha,hc⟩
 ·exact .inl hl
 exact .inr ⟨b,o,ha,fun i hi=>(hc i hi).keep k⟩
theorem FnV.keep {w w':World} {v:Value} {f:Fn} (h:FnV w v f) (k:Keep w w'):FnV w' v f:=by
 obtain ⟨x,y,hv,h1,h2⟩:=h
 exact ⟨x,y,hv,h1.keep k,h2.keep k⟩
theorem C1 {w:World} {o:Nat} {cs:Array Value} {T:TypeId} {v:Value} (hv:cs[o]? =some v):(w.alloc (.cells cs T)).cell? ⟨w.heap.size,o,none⟩=some v:=
 Am (heap_alloc_new w _) hv
def predsOf (f:Fn) (b:Nat):List Nat:=(List.range f.blks.length).flatMap fun i=>((f.b i).succs.filter fun s=>s == (b:Int)).map fun _=>i
def toG (f:Fn):Gph where
 nv:=f.vals.length
 nb:=f.blks.length
 op i:=(f.v i).op
 ty i:=if 10≤(f.v i).op∧(f.v i).op≤12 then 1 else 0
 aux i:=(f.v i).aux
 blk i:=(f.v i).blk.toNat
 args i:=(f.v i).args.map Int.toNat
 kind i:=(f.b i).kind
 likely i:=(f.b i).likely
 succs i:=(f.b i).succs.map Int.toNat
 preds b:=predsOf f b
 bvals b:=(List.range f.vals.length).filter fun i=>(f.v i).blk == (b:Int)
 ctrl i:=if 0≤(f.b i).ctrl then [(f.b i).ctrl.toNat] else []
structure Wf (f:Fn):Prop where
 nb:f.blks.length≤9
 nv:f.vals.length≤48
 one:1≤f.blks.length
 blk:∀i,i<f.vals.length→0≤(f.v i).blk∧(f.v i).blk<f.blks.length
 args:∀i,i<f.vals.length→(f.v i).args.length≤64∧∀a∈(f.v i).args,0≤a∧a<f.vals.length
 succs:∀i,i<f.blks.length→(f.b i).succs.length≤2∧∀s∈(f.b i).succs,0≤s∧s<f.blks.length
 ctrl:∀i,i<f.blks.length→ -1≤(f.b i).ctrl∧(f.b i).ctrl<f.vals.length
 likely:∀i,i<f.blks.length→ -1≤(f.b i).likely∧(f.b i).likely≤1
end Go.Proofs.YteepnepebilckaaGreatDoor
