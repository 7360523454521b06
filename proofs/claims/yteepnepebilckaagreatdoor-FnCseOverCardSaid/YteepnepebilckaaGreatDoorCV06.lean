/- The law FnCseOver returns true for every input in which the opcode table reads as laid, and its argument reads as it did, the table being tied to the text of the program. -/
import Derived.Test.YteepnepebilckaaGreatDoorCV05
namespace Go.Proofs.YteepnepebilckaaGreatDoor
open Go Go.Eng Go.RowKit
set_option maxHeartbeats 4000000
attribute [local irreducible] EC EL DL Ret thenQ blockQ Bi bodyQ onlyN execOp Sem.run World.cell? World.frozen? World.setCell World.alloc
def gB (f:Fn) (k:Nat):Gph:= { toG f with nv:=0,nb:=k,args:=fun _=>[],succs:=fun _=>[],preds:=fun _=>[],bvals:=fun _=>[],ctrl:=fun _=>[] }
def gV (f:Fn) (j:Nat):Gph:= { toG f with nv:=j,args:=fun _=>[],succs:=fun _=>[],preds:=fun _=>[],bvals:=fun b=>(List.range j).filter fun i=>(f.v i).blk == (b:Int),ctrl:=fun _=>[] }
def argsOf (f:Fn) (x:Nat):List Nat:=(f.v x).args.map Int.toNat
def succsOf (f:Fn) (x:Nat):List Nat:=(f.b x).succs.map Int.toNat
def Cu (f:Fn) (x:Nat):List Nat:=if 0≤(f.b x).ctrl then [(f.b x).ctrl.toNat] else []
def BJ (F:Nat→List Nat) (i k:Nat):Nat→List Nat:=fun x=>if x<i then F x else if x=i then (F i).take k else []
theorem EK (F:Nat→List Nat):BJ F 0 0=fun _=>[]:=by
 funext x;unfold BJ
 by_cases e:x=0 <;> simp [e]
theorem part_next (F:Nat→List Nat) (i:Nat):BJ F i (F i).length=BJ F (i+1) 0:=by
 funext x;unfold BJ
 by_cases h1:x<i
 ·rw[if_pos h1,if_pos (by omega)]
 rw[if_neg h1]
 by_cases h2:x=i
 ·subst h2;rw[if_pos rfl,if_pos (by omega)];simp
 rw[if_neg h2,if_neg (by omega)];split <;> simp
theorem EH (F:Nat→List Nat) (i k:Nat) (hk:k<(F i).length):(fun x=>if x=i then BJ F i k i ++ [(F i).getD k 0] else BJ F i k x)=BJ F i (k+1):=by
 funext x
 by_cases h:x=i
 ·subst h
  rw[if_pos rfl]
  unfold BJ
  rw[if_neg (Nat.lt_irrefl _),if_pos rfl,if_neg (Nat.lt_irrefl _),if_pos rfl,List.take_succ_eq_append_getElem hk,List.getD_eq_getElem?_getD,List.getElem?_eq_getElem hk]
  rfl
 rw[if_neg h]
 unfold BJ
 by_cases h1:x<i
 ·rw[if_pos h1,if_pos h1]
 rw[if_neg h1,if_neg h,if_neg h1,if_neg h]
def gA (f:Fn) (i k:Nat):Gph:= { toG f with args:=BJ (argsOf f) i k,succs:=fun _=>[],preds:=fun _=>[],ctrl:=fun _=>[] }
theorem G8 (f:Fn):gV f f.vals.length=gA f 0 0:=by
 unfold gV gA
 rw[EK]
 rfl
def predsTo (f:Fn) (i k b:Nat):List Nat:=((List.range i).flatMap fun x=>((f.b x).succs.filter fun s=>s == (b:Int)).map fun _=>x) ++ (((f.b i).succs.take k).filter fun s=>s == (b:Int)).map fun _=>i
theorem DK (f:Fn) (i:Nat):predsTo f i (f.b i).succs.length=predsTo f (i+1) 0:=by
 funext b
 simp [predsTo,List.range_succ]
theorem predsTo_len (f:Fn) (wf:Wf f) (i k b:Nat) (hi:i<f.blks.length):(predsTo f i k b).length≤2 * i+2:=by
 have h1:∀m,m≤i→((List.range m).flatMap fun x=>((f.b x).succs.filter fun s=>s == (b:Int)).map fun _=>x).length≤2 * m:=by
  intro m
  induction m with
  |zero=>intro _;simp
  |succ m ih=>
   intro hm
   rw[List.range_succ,List.flatMap_append,List.length_append]
   have h2:=ih (by omega)
   have h3:=(wf.succs m (by omega)).1
   have h4:(((f.b m).succs.filter fun s=>s == (b:Int)).map fun _=>m).length≤(f.b m).succs.length:=by
    rw[List.length_map];exact List.length_filter_le _ _
   simp only [List.flatMap_cons,List.flatMap_nil,List.append_nil]
   omega
 have h2:=h1 i (Nat.le_refl _)
 have h3:=(wf.succs i hi).1
 have h4:((((f.b i).succs.take k).filter fun s=>s == (b:Int)).map fun _=>i).length≤(f.b i).succs.length:=by
  rw[List.length_map]
  refine Nat.le_trans (List.length_filter_le _ _) ?_
  rw[List.length_take];omega
 unfold predsTo
 rw[List.length_append]
 omega
theorem predsTo_step (f:Fn) (i k:Nat) (hk:k<(f.b i).succs.length) (z:Nat) (hz:(f.b i).succs.getD k 0=(z:Int)):
 (fun x=>if x=z then predsTo f i k z ++ [i] else predsTo f i k x)=predsTo f i (k+1):=by
 funext x
 have h1:(f.b i).succs.take (k+1)=(f.b i).succs.take k ++ [(z:Int)]:=by
  rw[List.take_succ_eq_append_getElem hk,← hz,List.getD_eq_getElem?_getD,List.getElem?_eq_getElem hk];rfl
 unfold predsTo
 rw[h1,List.filter_append,List.map_append,← List.append_assoc]
 by_cases e:x=z
 ·subst e;simp
 have:(((z:Int)) == ((x:Nat):Int))=false:=by rw[beq_eq_false_iff_ne];omega
 rw[if_neg e]
 simp [this]
def gS (f:Fn) (i k:Nat):Gph:= { toG f with succs:=BJ (succsOf f) i k,preds:=predsTo f i k,ctrl:=fun x=>if x<i then Cu f x else [] }
theorem gS_zero (f:Fn):gA f f.vals.length 0=gS f 0 0:=by
 have h1:BJ (argsOf f) f.vals.length 0=fun i=>(f.v i).args.map Int.toNat:=by
  funext x;unfold BJ
  by_cases e:x<f.vals.length
  ·rw[if_pos e];rfl
  rw[if_neg e]
  have:f.v x=default:=by unfold Fn.v;rw[List.getD_eq_getElem?_getD,List.getElem?_eq_none (by omega)];rfl
  rw[this]
  by_cases e2:x=f.vals.length <;> simp [e2] <;> rfl
 have h2:predsTo f 0 0=fun _=>[]:=by funext b;simp [predsTo]
 unfold gA gS
 rw[h1,h2,EK]
 rfl
theorem gS_full (f:Fn):gS f f.blks.length 0=toG f:=by
 have hd:∀x,¬ x<f.blks.length→f.b x=default:=by
  intro x e;unfold Fn.b;rw[List.getD_eq_getElem?_getD,List.getElem?_eq_none (by omega)];rfl
 have h1:BJ (succsOf f) f.blks.length 0=fun i=>(f.b i).succs.map Int.toNat:=by
  funext x;unfold BJ
  by_cases e:x<f.blks.length
  ·rw[if_pos e];rfl
  rw[if_neg e,hd x e]
  by_cases e2:x=f.blks.length <;> simp [e2] <;> rfl
 have h2:predsTo f f.blks.length 0=predsOf f:=by funext b;simp [predsTo,predsOf]
 have h3:(fun x=>if x<f.blks.length then Cu f x else [])=fun i=>if 0≤(f.b i).ctrl then [(f.b i).ctrl.toNat] else []:=by
  funext x
  by_cases e:x<f.blks.length
  ·rw[if_pos e];rfl
  rw[if_neg e,hd x e];rfl
 unfold gS
 rw[h1,h2,h3]
 rfl
def Off (L:Lay) (g:Gph) (V:Nat):Prop:=(∀τ,IsRow τ=true→Live g τ→(L.sl τ).ownBlock≠some V)∧(∀i,i<g.nb→L.bb i≠V)∧(∀i,i<g.nv→L.vb i≠V)
theorem off_new {w:World} {B:Nat} {L:Lay} {g:Gph} (h:GRep w B L g):Off L g w.heap.size:=
 ⟨fun _ hτ hl e=>absurd (h.slLt (CY hτ) hl _ e).2 (Nat.lt_irrefl _),fun _ hi e=>absurd (h.blkLt hi) (by omega),fun _ hi e=>absurd (h.valLt hi) (by omega)⟩
theorem Gk {g:Gph} {τ σ:Tag} {ys:List Nat}:Live (g.setL τ ys) σ=Live g σ:=by cases τ <;> cases σ <;> rfl
theorem Off.app {L:Lay} {g:Gph} {V:Nat} (h:Off L g V) {τ:Tag} {v:Value} {n m:Nat} {ys:List Nat} (hv:v.ownBlock=(L.sl τ).ownBlock∨v.ownBlock=some m) (hm:V≠m) (hτ:IsRow τ=true) (hl:Live g τ):
 Off (L.setSl τ v n) (g.setL τ ys) V:=by
 refine ⟨fun σ hσ hls=>?_,fun i hi=>h.2.1 i (by cases τ <;> exact hi),fun i hi=>h.2.2 i (by cases τ <;> exact hi)⟩
 rw[Gk] at hls
 rw[sl_setSl]
 by_cases e:σ=τ
 ·rw[if_pos e]
  rcases hv with hv|hv
  ·rw[hv];exact h.1 τ hτ hl
  rw[hv];intro e;exact hm (Option.some.inj e).symm
 rw[if_neg e];exact h.1 σ hσ hls
theorem Off.home {L:Lay} {g:Gph} {V:Nat} (h:Off L g V) {τ:Tag} (hτ:IsRow τ=true) (hl:Live g τ):(L.home τ).1≠V:=by
 cases τ <;> first|exact h.2.2 _ hl|exact h.2.1 _ hl|(simp [IsRow] at hτ;done)
theorem Dd {w:World} {p q:Addr} {u v:Value} (h:w.cell? q=some v) (hne:p.block≠q.block):(w.setCell p u).cell? q=some v:=by
 rw[World.cell?_of_block (w:=w) (Below.heap_setCell _ _ _ _ (fun e=>hne e.symm))];exact h
theorem By {B:Nat} {w0 w:World} (h:Below B w0 w) (hB:w0.heap.size≤B):Keep w0 w:=Keep.of_below h hB
theorem build_ret {w:World} {x:Value} {f:Fn} (hx:FnV w x f) (wf:Wf f):
 Ret Tryz.prog 40 #[x] w fun v w'=>∃B L,w.heap.size≤B∧v= .pointer (some ⟨L.fb,0,none⟩)∧L.entry=some ⟨L.bb 0,0,none⟩∧GRep w' B L (toG f)∧Below w.heap.size w w':=by
 obtain ⟨xv,xb,rfl,hvals,hblks⟩:=hx
 have wnb:=wf.nb
 have wnv:=wf.nv
 refine ret_of_EC Tryz.func40 rfl rfl (Ae (Ac (Ab (Bv (v:=.agg #[xv,xb]) rfl) rfl (Ab Ah rfl (Af (Aa ?_))))))
 have hbox0:(w.alloc (.cells #[xv,xb] 62)).cell? ⟨w.heap.size,0+0,none⟩=some xv:=C1 rfl
 have hbox1:(w.alloc (.cells #[xv,xb] 62)).cell? ⟨w.heap.size,0+1,none⟩=some xb:=C1 rfl
 have hsz0:(w.alloc (.cells #[xv,xb] 62)).heap.size=w.heap.size+1:=BC _ _
 have hbel0:Below w.heap.size w (w.alloc (.cells #[xv,xb] 62)):=(Below.refl _ _).alloc (Nat.le_refl _) _
 have hvals:=hvals.keep (Keep.alloc w (.cells #[xv,xb] 62))
 have hblks:=hblks.keep (Keep.alloc w (.cells #[xv,xb] 62))
 have goalW:(w.alloc (.cells #[xv,xb].toList.toArray 62))=(w.alloc (.cells #[xv,xb] 62)):=rfl
 change EC _ _ _ _ _ (w.alloc (.cells #[xv,xb] 62))
 generalize hw0:w.alloc (.cells #[xv,xb] 62)=w0 at hbox0 hbox1 hsz0 hbel0 hvals hblks ⊢
 clear goalW hw0
 obtain ⟨B,hB⟩:∃B,B=w0.heap.size:=⟨_,rfl⟩
 refine Ae (Ac (Ab (A9 FV) rfl (Ab Ah rfl (Af (Aa ?_)))))
 have h0:GRep (w0.alloc (.cells #[.pointer none,nilS,nilS,.map none,.bool false,nilS] 82)) B
  ⟨w0.heap.size,fun _=>0,fun _=>0,none,fun k=>if k=w0.heap.size then .fn else .other,fun _=>nilS⟩ (gB f 0):=by
  refine ⟨fun τ=>?_,⟨if_pos rfl,fun i hi=>absurd hi (Nat.not_lt_zero _),fun i hi=>absurd hi (Nat.not_lt_zero _),fun σ _ _ k hk=>(by cases hk),(by show B≤w0.heap.size;omega),fun i hi=>absurd hi (Nat.not_lt_zero _),fun i hi=>absurd hi (Nat.not_lt_zero _)⟩⟩
  cases τ with
  |fn=>exact heap_alloc_new _ _
  |fblocks=>exact Row.nil _ _ _
  |fvalues=>exact Row.nil _ _ _
  |other=>trivial
  |_=>intro hi;exact absurd hi (Nat.not_lt_zero _)
 have hb0:Below B w0 (w0.alloc (.cells #[.pointer none,nilS,nilS,.map none,.bool false,nilS] 82)):=(Below.refl _ _).alloc (by omega) _
 generalize hL0:(⟨w0.heap.size,fun _=>0,fun _=>0,none,fun k=>if k=w0.heap.size then .fn else .other,fun _=>nilS⟩:Lay)=L0 at h0
 have hfb0:w0.heap.size=L0.fb:=by rw[← hL0]
 rw[hfb0]
 clear hL0
 generalize w0.alloc (.cells #[.pointer none,nilS,nilS,.map none,.bool false,nilS] 82)=w1 at h0 hb0 ⊢
 obtain ⟨ab,cb,rfl,hbl⟩:=hblks
 obtain ⟨av,cv,rfl,hvl⟩:=hvals
 refine AW (fun e w2=>∃L,At e [(1,.pointer (some ⟨w.heap.size,0,none⟩)),(3,.pointer (some ⟨L.fb,0,none⟩))]∧GRep w2 B L (gB f f.blks.length)∧Below B w0 w2) ?_ ?_
 ·have g1:w1.cell? ⟨w.heap.size,0+1,none⟩=some (.slice ab f.blks.length cb):=By hb0 (by omega) _ _ hbox1
  refine Ae (Ac (Ab (Al rfl (Ak rfl)) rfl (Ab (Ai rfl (Ag rfl) ‹_›) rfl ?_)))
  refine Ab (AN rfl (An rfl)) rfl (Ab Ad rfl (Af (Aa (Ao ?_))))
  refine EC_loop (fun n e wr=>∃(k:Nat) (L:Lay),k≤f.blks.length∧At e [(1,.pointer (some ⟨w.heap.size,0,none⟩)),(3,.pointer (some ⟨L.fb,0,none⟩)),(21,.slice ab f.blks.length cb),(22,.int .i64 (f.blks.length:Int)),(23,.int .i64 (k:Int))]∧GRep wr B L (gB f k)∧Below B w0 wr∧n=f.blks.length - k) f.blks.length
   ⟨0,L0,Nat.zero_le _,Ar rfl ⟨rfl,rfl,rfl,rfl,rfl,trivial⟩,h0,hb0,rfl⟩ ?_
  rintro n e wr ⟨k,L,hk,⟨t,rfl⟩,h,hb,rfl⟩
  refine Ae (Ac (Ab (AX rfl rfl) rfl (Af (Aa (Ae ?_)))))
  refine AI rfl rfl (fun hlt=>?_) (fun hge=>?_)
  rotate_left
  ·have hk:k=f.blks.length:=by omega
   subst hk
   refine AK (AB (AD (AA ?_)))
   exact AR ⟨L,Ar rfl ⟨rfl,rfl,trivial⟩,h,hb⟩
  have hlt:k<f.blks.length:=by omega
  obtain ⟨b,o,rfl,hq⟩:=hbl.resolve_left (fun e=>by rw[e] at hlt;simp at hlt)
  obtain ⟨s,hcells,⟨sa,sc,rfl,hints⟩⟩:=(hq k hlt).keep (By hb (by omega))
  have hBr:B≤wr.heap.size:=by have h1:=Br h;have h2:=h.tags.fbB;omega
  refine Aq (Aa (Ae (Ao (Ae (Ac (Ab Ad rfl (Ab (A5 (n:=4) rfl rfl (An rfl) hlt) rfl (Ab (A4 rfl (A0 rfl) hcells) rfl (Ab (A9 DP) rfl (Ab Ah rfl (Bc (Bb rfl rfl (A7 rfl) rfl rfl) rfl ?_)))))))))))
  refine Af (Aa ?_)
  have hl0:(wr.alloc (.cells #[.int .i64 (f.b k).kind,.int .i64 (f.b k).ctrl,.slice sa (f.b k).succs.length sc,.int .i64 (f.b k).likely] 84)).cell? ⟨wr.heap.size,0+0,none⟩=some (.int .i64 (f.b k).kind):=C1 rfl
  have hl3:(wr.alloc (.cells #[.int .i64 (f.b k).kind,.int .i64 (f.b k).ctrl,.slice sa (f.b k).succs.length sc,.int .i64 (f.b k).likely] 84)).cell? ⟨wr.heap.size,0+3,none⟩=some (.int .i64 (f.b k).likely):=C1 rfl
  have hW:=h.alloc (.cells #[.int .i64 (f.b k).kind,.int .i64 (f.b k).ctrl,.slice sa (f.b k).succs.length sc,.int .i64 (f.b k).likely] 84)
  have hbW:=hb.trans ((Below.refl B wr).alloc hBr (.cells #[.int .i64 (f.b k).kind,.int .i64 (f.b k).ctrl,.slice sa (f.b k).succs.length sc,.int .i64 (f.b k).likely] 84))
  change EC _ _ _ _ _ (wr.alloc (.cells #[.int .i64 (f.b k).kind,.int .i64 (f.b k).ctrl,.slice sa (f.b k).succs.length sc,.int .i64 (f.b k).likely] 84))
  generalize wr.alloc (.cells #[.int .i64 (f.b k).kind,.int .i64 (f.b k).ctrl,.slice sa (f.b k).succs.length sc,.int .i64 (f.b k).likely] 84)=W at hl0 hl3 hW hbW ⊢
  have hlk:=wf.likely k hlt
  have hD:=hW.drew
  have hbD:=hbW.drew
  have hBW:=hD.baseLe'
  generalize hWd:W.drew=Wd at hD hbD hBW
  have hl0:Wd.cell? ⟨wr.heap.size,0+0,none⟩=some (.int .i64 (f.b k).kind):=by rw[← hWd];exact Keep.drew W _ _ hl0
  have hl3:Wd.cell? ⟨wr.heap.size,0+3,none⟩=some (.int .i64 (f.b k).likely):=by rw[← hWd];exact Keep.drew W _ _ hl3
  have hf1:=hD.fBlocks
  have hc0:Cells [(⟨L.fb,0+1,none⟩,L.sl .fblocks),(⟨wr.heap.size,0+0,none⟩,.int .i64 (f.b k).kind),(⟨wr.heap.size,0+3,none⟩,.int .i64 (f.b k).likely)] Wd:=
   .cons hf1 (.cons hl0 (.cons hl3 (.nil _)))
  refine AY mixed (Cells [(⟨L.fb,0+1,none⟩,L.sl .fblocks),(⟨wr.heap.size,0+0,none⟩,.int .i64 (f.b k).kind),(⟨wr.heap.size,0+3,none⟩,.int .i64 (f.b k).likely)]) [(0,false),(1,false),(2,false),(3,false),(4,false),(5,false),(6,false),(7,false),(8,false),(9,false),(10,false),(11,false),(12,false),(13,false),(14,false),(15,true),(16,true),(17,true),(18,false),(19,false),(20,true)] (by kernel_rfl) (by rw[hWd];exact hc0) ?_
  rw[hWd]
  refine Aj rfl (fun _ _=>Ad) (Aj rfl (fun _ _=>Ad) (Aj rfl (fun _ _=>Au rfl) (Aj rfl (fun _ _=>Al rfl (Ak rfl)) (Aj rfl (fun _ hS=>Ai rfl (Ag rfl) (hS.get (by first|exact mm0|exact mm1|exact mm2|exact mm3|exact mm4|exact mm5|exact mm6|exact mm7))) ?_))))
  refine Aj rfl (fun _ _=>Ad) (Aj rfl (fun _ _=>x_inc rfl rfl (by omega)) (Aj rfl (fun _ _=>Ce (m:=(k:Int)+1) rfl (by kernel_rfl) (B2 rfl) (by rw[IntWalk.i32_in _ (by omega)];omega)) ?_))
  refine Aj rfl (fun _ _=>Al rfl (Ak rfl)) (Aj rfl (fun _ hS=>Ai rfl (Ag rfl) (hS.get (by first|exact mm0|exact mm1|exact mm2|exact mm3|exact mm4|exact mm5|exact mm6|exact mm7))) ?_)
  refine Aj rfl (fun _ _=>Al rfl (Ak rfl)) (Aj rfl (fun _ hS=>Ai rfl (Ag rfl) (hS.get (by first|exact mm0|exact mm1|exact mm2|exact mm3|exact mm4|exact mm5|exact mm6|exact mm7))) ?_)
  refine Aj rfl (fun _ _=>Ce (m:=(f.b k).likely) rfl (by kernel_rfl) (B2 rfl) (IntWalk.i8_in _ (by omega))) (Aj rfl (fun _ _=>Ad) (Aj rfl (fun _ _=>FK rfl rfl rfl rfl) (BK rfl (Bv rfl) (.inr (hc0.alloc _)) ?_)))
  have hA:(Wd.alloc (.cells #[.int .i32 ((k:Int)+1),.int .i64 (f.b k).kind,.int .i8 (f.b k).likely,nilS,nilS,nilS,nilS,.pointer (some ⟨L.fb,0,none⟩)] 94)).heap[Wd.heap.size]? =some (.cells #[.int .i32 ((k:Int)+1),.int .i64 (f.b k).kind,.int .i8 (f.b k).likely,nilS,nilS,nilS,nilS,.pointer (some ⟨L.fb,0,none⟩)] 94 (0,0)):=heap_alloc_new _ _
  have hAold:∀i,i<Wd.heap.size→(Wd.alloc (.cells #[.int .i32 ((k:Int)+1),.int .i64 (f.b k).kind,.int .i8 (f.b k).likely,nilS,nilS,nilS,nilS,.pointer (some ⟨L.fb,0,none⟩)] 94)).heap[i]? =Wd.heap[i]? :=fun i hi=>Below.heap_alloc _ _ _ hi
  have hAs:=BC Wd (.cells #[.int .i32 ((k:Int)+1),.int .i64 (f.b k).kind,.int .i8 (f.b k).likely,nilS,nilS,nilS,nilS,.pointer (some ⟨L.fb,0,none⟩)] 94)
  have hAb:=(Below.refl B Wd).alloc hBW (.cells #[.int .i32 ((k:Int)+1),.int .i64 (f.b k).kind,.int .i8 (f.b k).likely,nilS,nilS,nilS,nilS,.pointer (some ⟨L.fb,0,none⟩)] 94)
  have hcA:=hc0.alloc (.cells #[.int .i32 ((k:Int)+1),.int .i64 (f.b k).kind,.int .i8 (f.b k).likely,nilS,nilS,nilS,nilS,.pointer (some ⟨L.fb,0,none⟩)] 94)
  change DL _ _ _ _ _ _ (Wd.alloc (.cells #[.int .i32 ((k:Int)+1),.int .i64 (f.b k).kind,.int .i8 (f.b k).likely,nilS,nilS,nilS,nilS,.pointer (some ⟨L.fb,0,none⟩)] 94))
  generalize Wd.alloc (.cells #[.int .i32 ((k:Int)+1),.int .i64 (f.b k).kind,.int .i8 (f.b k).likely,nilS,nilS,nilS,nilS,.pointer (some ⟨L.fb,0,none⟩)] 94)=W2 at hA hAold hAs hAb hcA ⊢
  refine BK rfl (Bo rfl rfl Tryz.underlying75 (by kernel_rfl) (z:=.pointer none) rfl) (.inr (hcA.alloc _)) ?_
  have hC:(W2.alloc (.cells #[.pointer (some ⟨Wd.heap.size,0,none⟩)] 74)).cell? ⟨W2.heap.size,0,none⟩=some (.pointer (some ⟨Wd.heap.size,0,none⟩)):=C1 rfl
  have hCold:∀i,i<W2.heap.size→(W2.alloc (.cells #[.pointer (some ⟨Wd.heap.size,0,none⟩)] 74)).heap[i]? =W2.heap[i]? :=fun i hi=>Below.heap_alloc _ _ _ hi
  have hCs:=BC W2 (.cells #[.pointer (some ⟨Wd.heap.size,0,none⟩)] 74)
  have hCb:=(Below.refl B W2).alloc (by omega) (.cells #[.pointer (some ⟨Wd.heap.size,0,none⟩)] 74)
  have hcC:=hcA.alloc (.cells #[.pointer (some ⟨Wd.heap.size,0,none⟩)] 74)
  change DL _ _ _ _ _ _ (W2.alloc (.cells #[.pointer (some ⟨Wd.heap.size,0,none⟩)] 74))
  generalize W2.alloc (.cells #[.pointer (some ⟨Wd.heap.size,0,none⟩)] 74)=W3 at hC hCold hCs hCb hcC ⊢
  have hr0:Row Wd B 74 (L.sl .fblocks) ((List.range k).map L.bp):=hD.comp .fblocks
  have hr3:Row W3 B 74 (L.sl .fblocks) ((List.range k).map L.bp):=hr0.congr fun i hi=>by
   have:=(hr0.lt i hi).2
   rw[hCold i (by omega),hAold i this]
  have htagF:∀i,(L.sl .fblocks).ownBlock=some i→L.tag i= .fblocks:=hD.tags.sl .fblocks rfl trivial
  refine Cd hr3 hC rfl (by simp;omega) (by decide) (by omega) rfl Tryz.underlying75 CF rfl rfl rfl ?_
  intro v' W4 hrow4 hgr4 hwh
  have hne1:(L.sl .fblocks).ownBlock≠some L.fb:=fun e=>by
   have:=htagF _ e
   rw[hD.tags.fb] at this;cases this
  have hold:(L.sl .fblocks).ownBlock≠some wr.heap.size:=fun e=>by
   have:=(h.slLt (τ:=.fblocks) rfl trivial _ e).2
   omega
  have hc4:Cells [(⟨L.fb,0+1,none⟩,L.sl .fblocks),(⟨wr.heap.size,0+0,none⟩,.int .i64 (f.b k).kind),(⟨wr.heap.size,0+3,none⟩,.int .i64 (f.b k).likely)] W4:=
   hcC.grown hgr4 (by
    intro x hx
    simp only [List.mem_cons,List.not_mem_nil,or_false] at hx
    rcases hx with rfl|rfl|rfl
    ·exact fun e=>hne1 e.symm
    ·exact fun e=>hold e.symm
    exact fun e=>hold e.symm)
  refine ⟨.inr hc4,?_⟩
  refine Aj rfl (fun _ _=>Au rfl) (Aj rfl (fun _ _=>Al rfl (Ak rfl)) ?_)
  refine BP rfl (AU rfl rfl (Bd hrow4) (AH rfl) (hc4.get (.head _)) ?_) (.inl rfl) ?_
  ·have h4:W4.heap[L.fb]? =Wd.heap[L.fb]? :=by
    have:=Br hD
    rw[hgr4.block L.fb (by omega) (fun e=>hne1 e.symm),hCold _ (by omega),hAold _ this]
   exact AQ (h4.trans (hD.comp .fn))
  refine AP (Ap (Aa ?_))
  have hlow:∀i,(L.sl .fblocks).ownBlock=some i→i<Wd.heap.size:=fun i hi=>(hr0.lt i hi).2
  have hnext:=hD.addB (w1:=W4) (v:=v') rfl (fun _=>rfl) (fun _=>rfl) (fun _=>rfl) (fun _=>rfl)
   (by rw[hgr4.block _ (by omega) (fun e=>by have:=hlow _ e.symm;omega),hCold _ (by omega)];exact hA)
   (fun i hi hne=>by rw[hgr4.block i (by omega) (fun e=>hne e.symm),hCold i (by omega),hAold i hi])
   (show Row W4 B _ v' ((List.range k).map L.bp ++ [.pointer (some ⟨Wd.heap.size,0,none⟩)]) from by simpa [Row] using hrow4)
   (fun i hi=>by
     rcases hwh with h5|h5
     ·left;rw[← h5];exact hi
     right;rw[h5] at hi;have:W3.heap.size=i:=Option.some.inj hi;omega)
  have hbN:=(((hbD.trans hAb).trans hCb).grown hgr4 (by omega) (fun i hi=>(hr0.lt i hi).1)).setCell (p:=⟨L.fb,0+1,none⟩) hD.tags.fbB v'
  refine Ac (Ab (x_inc rfl rfl (by omega)) rfl (Ab Ad rfl (Af ?_)))
  exact Aw (f.blks.length - (k+1)) (by omega) ⟨k+1,L.addB k Wd.heap.size v',by omega,Ar rfl ⟨rfl,rfl,rfl,rfl,rfl,trivial⟩,hnext,hbN,rfl⟩
 rintro e w2 ⟨L,⟨t,rfl⟩,h,hb⟩
 refine AW (fun e w2=>∃L,At e [(1,.pointer (some ⟨w.heap.size,0,none⟩)),(3,.pointer (some ⟨L.fb,0,none⟩))]∧GRep w2 B L (gV f f.vals.length)∧Below B w0 w2) ?_ ?_
 ·have g1:w2.cell? ⟨w.heap.size,0+0,none⟩=some (.slice av f.vals.length cv):=By hb (by omega) _ _ hbox0
  refine Ae (Ac (Ab (Al rfl (Ak rfl)) rfl (Ab (Ai rfl (Ag rfl) ‹_›) rfl ?_)))
  refine Ab (AN rfl (An rfl)) rfl (Ab Ad rfl (Af (Aa (Ao ?_))))
  refine EC_loop (fun n e wr=>∃(k:Nat) (L:Lay),k≤f.vals.length∧At e [(1,.pointer (some ⟨w.heap.size,0,none⟩)),(3,.pointer (some ⟨L.fb,0,none⟩)),(50,.slice av f.vals.length cv),(51,.int .i64 (f.vals.length:Int)),(52,.int .i64 (k:Int))]∧GRep wr B L (gV f k)∧Below B w0 wr∧n=f.vals.length - k) f.vals.length
   ⟨0,L,Nat.zero_le _,Ar rfl ⟨rfl,rfl,rfl,rfl,rfl,trivial⟩,h,hb,rfl⟩ ?_
  rintro n e wr ⟨k,L,hk,⟨t,rfl⟩,h,hb,rfl⟩
  refine Ae (Ac (Ab (AX rfl rfl) rfl (Af (Aa (Ae ?_)))))
  refine AI rfl rfl (fun hlt=>?_) (fun hge=>?_)
  rotate_left
  ·have hk:k=f.vals.length:=by omega
   subst hk
   refine AK (AB (AD (AA ?_)))
   exact AR ⟨L,Ar rfl ⟨rfl,rfl,trivial⟩,h,hb⟩
  have hlt:k<f.vals.length:=by omega
  obtain ⟨b,o,rfl,hq⟩:=hvl.resolve_left (fun e=>by rw[e] at hlt;simp at hlt)
  obtain ⟨s,hcells,⟨sa,sc,rfl,hints⟩⟩:=(hq k hlt).keep (By hb (by omega))
  have hBr:B≤wr.heap.size:=h.baseLe'
  refine Aq (Aa (Ae (Ao (Ae (Ac (Ab Ad rfl (Ab (A5 (n:=4) rfl rfl (An rfl) hlt) rfl (Ab (A4 rfl (A0 rfl) hcells) rfl (Ab (A9 D0) rfl (Ab Ah rfl (Bc (Bb rfl rfl (A7 rfl) rfl rfl) rfl ?_)))))))))))
  refine Af (Aa (ec_new (.cells #[.int .i64 (f.v k).op,.int .i64 (f.v k).blk,.slice sa (f.v k).args.length sc,.int .i64 (f.v k).aux] 83) B (by omega) fun W hN1 hO1 hZ1 hB1 hK1=>?_))
  have hl0:W.cell? ⟨wr.heap.size,0+0,none⟩=some (.int .i64 (f.v k).op):=Am hN1 rfl
  have hl1:W.cell? ⟨wr.heap.size,0+1,none⟩=some (.int .i64 (f.v k).blk):=Am hN1 rfl
  have hl3:W.cell? ⟨wr.heap.size,0+3,none⟩=some (.int .i64 (f.v k).aux):=Am hN1 rfl
  have hW:=h.keep hO1
  refine Ae (Ac (Ab Ah rfl (Af (Aa ?_))))
  refine AW (fun e w3=>w3=W∧At e [(1,.pointer (some ⟨w.heap.size,0,none⟩)),(3,.pointer (some ⟨L.fb,0,none⟩)),(50,.slice (some ⟨b,o,none⟩) f.vals.length cv),(51,.int .i64 (f.vals.length:Int)),(52,.int .i64 (k:Int)),(6,.int .i64 (k:Int)),(7,.pointer (some ⟨wr.heap.size,0,none⟩)),(8,.int .i64 ((toG f).ty k))]) ?_ ?_
  ·refine Ae (Ac (Ab (Al rfl (Ak rfl)) rfl (Ab (Ai rfl (Ag rfl) ‹_›) rfl ?_)))
   refine Ab Ah rfl (Af (Aa (Ae (Ac (Ab Ad rfl (Ab (C7 rfl rfl) rfl (Ab Ad rfl ?_)))))))
   by_cases h10:10≤(f.v k).op
   ·refine Av (congrArg some (decide_eq_true h10)) rfl Ad rfl (Av (congrArg some (decide_eq_true h10)) rfl (C7 rfl rfl) rfl (Ab (AV (congrArg Value.bool (decide_eq_true h10))) rfl (Af (Aa ?_))))
    refine AI rfl rfl (fun h12=>?_) (fun h12=>?_)
    ·refine Ac (Ab Ah rfl (Af ?_))
     refine AR ⟨rfl,Ar rfl ⟨rfl,rfl,rfl,rfl,rfl,rfl,rfl,?_,trivial⟩⟩
     show Value.int .i64 1= .int .i64 (if 10≤(f.v k).op∧(f.v k).op≤12 then 1 else 0)
     rw[if_pos ⟨h10,h12⟩]
    refine Aq ?_
    refine AR ⟨rfl,Ar rfl ⟨rfl,rfl,rfl,rfl,rfl,rfl,rfl,?_,trivial⟩⟩
    show Value.int .i64 0= .int .i64 (if 10≤(f.v k).op∧(f.v k).op≤12 then 1 else 0)
    rw[if_neg (fun h=>h12 h.2)]
   refine AF (congrArg some (decide_eq_false h10)) rfl (AF (congrArg some (decide_eq_false h10)) rfl (Ab (AM (congrArg Value.bool (decide_eq_false h10))) rfl (Af (Aa (Bh rfl rfl (Aq ?_))))))
   refine AR ⟨rfl,Ar rfl ⟨rfl,rfl,rfl,rfl,rfl,rfl,rfl,?_,trivial⟩⟩
   show Value.int .i64 0= .int .i64 (if 10≤(f.v k).op∧(f.v k).op≤12 then 1 else 0)
   rw[if_neg (fun h=>h10 h.1)]
  rintro e w4 ⟨rfl,⟨t,rfl⟩⟩
  obtain ⟨hb0,hb1⟩:=wf.blk k hlt
  have hbz:(f.v k).blk=(((f.v k).blk.toNat:Nat):Int):=by omega
  have hbl:(f.v k).blk.toNat<f.blks.length:=by omega
  have hD:=hW.drew
  have hbD:=(hb.trans hB1).drew
  have hl0:=Keep.drew w4 _ _ hl0
  have hl1:=Keep.drew w4 _ _ hl1
  have hl3:=Keep.drew w4 _ _ hl3
  obtain ⟨ba,bc,hfbl,_,hfe,_⟩:=hD.fblocksE (k:=(f.v k).blk.toNat) hbl
  have hf1:=hD.fBlocks
  rw[hfbl] at hf1
  have hBW:=hD.baseLe'
  have hdz:w4.drew.heap.size=w4.heap.size:=rfl
  refine Ae ?_
  refine AY mixed (Cells [(⟨L.fb,0+1,none⟩,.slice (some ⟨ba,0,none⟩) f.blks.length bc),(⟨wr.heap.size,0+0,none⟩,.int .i64 (f.v k).op),(⟨wr.heap.size,0+1,none⟩,.int .i64 (f.v k).blk),(⟨wr.heap.size,0+3,none⟩,.int .i64 (f.v k).aux),(⟨ba,0+(f.v k).blk.toNat,none⟩,L.bp (f.v k).blk.toNat)]) [(0,false),(1,false),(2,false),(3,false),(4,false),(5,false),(6,false),(7,false),(8,false),(9,false),(10,false),(11,false),(12,false),(13,false),(14,false),(15,false),(16,false),(17,true),(18,false)] (by kernel_rfl)
   (.cons hf1 (.cons hl0 (.cons hl1 (.cons hl3 (.cons hfe (.nil _)))))) ?_
  generalize w4.drew=Wd at hD hbD hl0 hl1 hl3 hf1 hfe hBW hdz ⊢
  have hc0:Cells [(⟨L.fb,0+1,none⟩,.slice (some ⟨ba,0,none⟩) f.blks.length bc),(⟨wr.heap.size,0+0,none⟩,.int .i64 (f.v k).op),(⟨wr.heap.size,0+1,none⟩,.int .i64 (f.v k).blk),(⟨wr.heap.size,0+3,none⟩,.int .i64 (f.v k).aux),(⟨ba,0+(f.v k).blk.toNat,none⟩,L.bp (f.v k).blk.toNat)] Wd:=.cons hf1 (.cons hl0 (.cons hl1 (.cons hl3 (.cons hfe (.nil _)))))
  refine Aj rfl (fun _ _=>Ad) (Aj rfl (fun _ _=>x_inc rfl rfl (by omega)) (Aj rfl (fun _ _=>Ce (m:=(k:Int)+1) rfl (by kernel_rfl) (B2 rfl) (by rw[IntWalk.i32_in _ (by omega)];omega)) ?_))
  refine Aj rfl (fun _ _=>Al rfl (Ak rfl)) (Aj rfl (fun _ hS=>Ai rfl (Ag rfl) (hS.get (by first|exact mm0|exact mm1|exact mm2|exact mm3|exact mm4|exact mm5|exact mm6|exact mm7))) ?_)
  refine Aj rfl (fun _ _=>Ad) (Aj rfl (fun _ _=>Al rfl (Ak rfl)) (Aj rfl (fun _ hS=>Ai rfl (Ag rfl) (hS.get (by first|exact mm0|exact mm1|exact mm2|exact mm3|exact mm4|exact mm5|exact mm6|exact mm7))) ?_))
  refine Aj rfl (fun _ _=>Ad) (Aj rfl (fun _ _=>Au rfl) (Aj rfl (fun _ _=>Al rfl (Ak rfl)) (Aj rfl (fun _ hS=>Ai rfl (Ag rfl) (hS.get (by first|exact mm0|exact mm1|exact mm2|exact mm3|exact mm4|exact mm5|exact mm6|exact mm7))) ?_)))
  refine Aj rfl (fun _ _=>Al rfl (Ak rfl)) (Aj rfl (fun _ hS=>Ai rfl (Ag rfl) (hS.get (by first|exact mm0|exact mm1|exact mm2|exact mm3|exact mm4|exact mm5|exact mm6|exact mm7))) ?_)
  refine Aj rfl (fun _ _=>Ba rfl rfl hbz (An rfl) hbl) (Aj rfl (fun _ hS=>Ai rfl (Ag rfl) (hS.get (by first|exact mm0|exact mm1|exact mm2|exact mm3|exact mm4|exact mm5|exact mm6|exact mm7))) ?_)
  refine Aj rfl (fun _ _=>FG rfl rfl rfl rfl rfl) (BK rfl (Bv rfl) (.inr (hc0.alloc _)) (Aj rfl (fun _ _=>Ah) (AP (Aa (ec_new (.cells #[.int .i32 ((k:Int)+1),.int .i64 (f.v k).op,.int .i64 ((toG f).ty k),.int .i64 (f.v k).aux,.pointer none,nilS,L.bp (f.v k).blk.toNat] 101) B (by omega) fun W2 hN2 hO2 hZ2 hB2 hK2=>?_)))))
  have hD2:=hD.keep hO2
  have hf3:=hD2.fValues
  refine Ae (Ac (Ab Ad rfl (Ab Ad rfl (Ab (Au rfl) rfl (Ab (Al rfl (Ak rfl)) rfl (Ab (Ai rfl (Ag rfl) ‹_›) rfl ?_))))))
  refine Ab Ad rfl (Ab (Bo rfl rfl Tryz.underlying78 (by kernel_rfl) (z:=.pointer none) rfl) rfl (el_new (.cells #[.pointer (some ⟨Wd.heap.size,0,none⟩)] 97) B (by omega) fun W3 hN3 hO3 hZ3 hB3 hK3=>?_))
  have hr0:Row Wd B 97 (L.sl .fvalues) ((List.range k).map L.vp):=hD.comp .fvalues
  have hlow:∀i,(L.sl .fvalues).ownBlock=some i→i<Wd.heap.size:=fun i hi=>(hr0.lt i hi).2
  have hr3:Row W3 B 97 (L.sl .fvalues) ((List.range k).map L.vp):=hr0.congr fun i hi=>by
   have:=hlow i hi
   rw[hO3 i (by omega),hO2 i this]
  have htagF:∀i,(L.sl .fvalues).ownBlock=some i→L.tag i= .fvalues:=hD.tags.sl .fvalues rfl trivial
  have hne1:(L.sl .fvalues).ownBlock≠some L.fb:=fun e=>by
   have:=htagF _ e
   rw[hD.tags.fb] at this;cases this
  refine BD hr3 (Am hN3 rfl) rfl (by simp;omega) (by decide) (by omega) Tryz.underlying78 CH rfl rfl rfl rfl ?_
  intro v' W4 hrow4 hgr4 hwh
  have hfblt:=Br hD
  have h4:W4.heap[L.fb]? =Wd.heap[L.fb]? :=by
   rw[hgr4.block L.fb (by omega) (fun e=>hne1 e.symm),hO3 _ (by omega),hO2 _ hfblt]
  have hcell4:W4.cell? ⟨L.fb,0+2,none⟩=some (L.sl .fvalues):=Am (h4.trans (hD.comp .fn)) rfl
  refine Ab (Au rfl) rfl (Ab (Al rfl (Ak rfl)) rfl (Bc (AU rfl rfl (Bd hrow4) (AH rfl) hcell4 (AQ (h4.trans (hD.comp .fn)))) rfl (Af (Aa ?_))))
  have hbv0:∀b,∀x∈(gV f k).bvals b,x<(gV f k).nv:=fun b x hx=>List.mem_range.1 (List.mem_filter.1 hx).1
  have hnext:GRep (W4.setCell ⟨L.fb,0+2,none⟩ v') B (L.addV k Wd.heap.size v') { gV f k with nv:=k+1 }:=hD.addV (w1:=W4) (v:=v') (fun _=>rfl) (fun _=>rfl) hbv0
   (by rw[hgr4.block _ (by omega) (fun e=>by have:=hlow _ e.symm;omega),hO3 _ (by omega)];exact hN2)
   (fun i hi hne=>by rw[hgr4.block i (by omega) (fun e=>hne e.symm),hO3 i (by omega),hO2 i hi])
   (show Row W4 B _ v' ((List.range k).map L.vp ++ [.pointer (some ⟨Wd.heap.size,0,none⟩)]) from by simpa [Row] using hrow4)
   (fun i hi=>by
     rcases hwh with h5|h5
     ·left;rw[← h5];exact hi
     right;rw[h5] at hi;have:W3.heap.size=i:=Option.some.inj hi;omega)
  have hbN:=(((hbD.trans hB2).trans hB3).grown hgr4 (by omega) (fun i hi=>(hr0.lt i hi).1)).setCell (p:=⟨L.fb,0+2,none⟩) hD.tags.fbB v'
  have hvn:Wd.heap.size=(L.addV k Wd.heap.size v').vb k:=(if_pos rfl:(if k=k then Wd.heap.size else L.vb k)=_).symm
  have hfbn:(L.addV k Wd.heap.size v').fb=L.fb:=rfl
  rw[hvn]
  generalize L.addV k Wd.heap.size v'=L1 at hnext hvn hfbn ⊢
  change EC _ _ _ _ _ (W4.setCell ⟨L.fb,0+2,none⟩ v')
  generalize hW5:W4.setCell ⟨L.fb,0+2,none⟩ v'=W5 at hnext hbN ⊢
  have hE:=hnext.drew
  have hbE:=hbN.drew
  have hkE:k<({ gV f k with nv:=k+1 }:Gph).nv:=Nat.lt_succ_self k
  have f1:=hE.vBlk hkE
  have hbE':(f.v k).blk.toNat<({ gV f k with nv:=k+1 }:Gph).nb:=hbl
  have f2:=hE.bVals hbE'
  have hBE:=hE.baseLe'
  refine AY mixed (Cells [(⟨L1.vb k,0+6,none⟩,L1.bp (f.v k).blk.toNat),(⟨L1.bb (f.v k).blk.toNat,0+5,none⟩,L1.sl (.bvals (f.v k).blk.toNat))]) [(0,false),(1,false),(2,false),(3,false),(4,false),(5,false),(6,false),(7,false),(8,false),(9,false),(10,false),(11,false),(12,true),(13,true),(14,false),(15,false),(16,true)] (by kernel_rfl)
   (.cons f1 (.cons f2 (.nil _))) ?_
  generalize W5.drew=We at hE hbE f1 f2 hBE ⊢
  have hc5:Cells [(⟨L1.vb k,0+6,none⟩,L1.bp (f.v k).blk.toNat),(⟨L1.bb (f.v k).blk.toNat,0+5,none⟩,L1.sl (.bvals (f.v k).blk.toNat))] We:=.cons f1 (.cons f2 (.nil _))
  refine Aj rfl (fun _ _=>Ad) (Aj rfl (fun _ _=>Au rfl) (Aj rfl (fun _ _=>Al rfl (Ak rfl)) (Aj rfl (fun _ hS=>Ai rfl (Ag rfl) (hS.get (by first|exact mm0|exact mm1|exact mm2|exact mm3|exact mm4|exact mm5|exact mm6|exact mm7))) ?_)))
  refine Aj rfl (fun _ _=>Ad) (Aj rfl (fun _ _=>Au rfl) (Aj rfl (fun _ _=>Al rfl (Ak rfl)) (Aj rfl (fun _ hS=>Ai rfl (Ag rfl) (hS.get (by first|exact mm0|exact mm1|exact mm2|exact mm3|exact mm4|exact mm5|exact mm6|exact mm7))) ?_)))
  refine Aj rfl (fun _ _=>Au rfl) (Aj rfl (fun _ _=>Al rfl (Ak rfl)) (Aj rfl (fun _ hS=>Ai rfl (Ag rfl) (hS.get (by first|exact mm0|exact mm1|exact mm2|exact mm3|exact mm4|exact mm5|exact mm6|exact mm7))) ?_))
  refine Aj rfl (fun _ _=>Ad) (BK rfl (Bo rfl rfl Tryz.underlying78 (by kernel_rfl) (z:=.pointer none) rfl) (.inr (hc5.alloc _)) ?_)
  have hc6:=hc5.alloc (.cells #[L1.vp k] 97)
  change DL _ _ _ _ _ _ (We.alloc (.cells #[L1.vp k] 97))
  have hN6:=heap_alloc_new We (.cells #[L1.vp k] 97)
  have hO6:∀i,i<We.heap.size→(We.alloc (.cells #[L1.vp k] 97)).heap[i]? =We.heap[i]? :=fun i hi=>Below.heap_alloc _ _ _ hi
  have hZ6:=BC We (.cells #[L1.vp k] 97)
  have hB6:=(Below.refl B We).alloc (by omega) (.cells #[L1.vp k] 97)
  generalize We.alloc (.cells #[L1.vp k] 97)=W6 at hc6 hN6 hO6 hZ6 hB6 ⊢
  have hr5:=hE.row (τ:=.bvals (f.v k).blk.toNat) rfl hbE'
  have hlow5:∀i,(L1.sl (.bvals (f.v k).blk.toNat)).ownBlock=some i→i<We.heap.size:=fun i hi=>(hr5.lt i hi).2
  have hr6:Row W6 B 97 (L1.sl (.bvals (f.v k).blk.toNat)) (((gV f k).bvals (f.v k).blk.toNat).map L1.vp):=Row.congr hr5 fun i hi=>hO6 i (hlow5 i hi)
  have htag5:∀i,(L1.sl (.bvals (f.v k).blk.toNat)).ownBlock=some i→L1.tag i= .bvals (f.v k).blk.toNat:=hE.tags.sl (.bvals (f.v k).blk.toNat) rfl hbE'
  have hneb:(L1.sl (.bvals (f.v k).blk.toNat)).ownBlock≠some (L1.bb (f.v k).blk.toNat):=fun e=>by
   have:=htag5 _ e
   rw[hE.tags.bb _ hbE'] at this;cases this
  have hnev:(L1.sl (.bvals (f.v k).blk.toNat)).ownBlock≠some (L1.vb k):=fun e=>by
   have:=htag5 _ e
   rw[hE.tags.vb _ hkE] at this;cases this
  have hlen5:(((gV f k).bvals (f.v k).blk.toNat).map L1.vp).length≤k:=by
   rw[List.length_map]
   exact Nat.le_trans (List.length_filter_le _ _) (by simp)
  refine Cd hr6 (Am hN6 rfl) rfl (by omega) (by decide) (by omega) rfl Tryz.underlying78 CH rfl rfl rfl ?_
  intro v7 W7 hrow7 hgr7 hwh7
  have hc7:Cells [(⟨L1.vb k,0+6,none⟩,L1.bp (f.v k).blk.toNat),(⟨L1.bb (f.v k).blk.toNat,0+5,none⟩,L1.sl (.bvals (f.v k).blk.toNat))] W7:=hc6.grown hgr7 (by
   intro x hx
   simp only [List.mem_cons,List.not_mem_nil,or_false] at hx
   rcases hx with rfl|rfl
   ·exact fun e=>hnev e.symm
   exact fun e=>hneb e.symm)
  refine ⟨.inr hc7,?_⟩
  refine Aj rfl (fun _ _=>Au rfl) (Aj rfl (fun _ _=>Al rfl (Ak rfl)) ?_)
  have hblt:=hE.blkLt hbE'
  have h7:W7.heap[L1.bb (f.v k).blk.toNat]? =We.heap[L1.bb (f.v k).blk.toNat]? :=by
   rw[hgr7.block _ (by omega) (fun e=>hneb e.symm),hO6 _ hblt]
  refine BP rfl (AU rfl rfl (Bd hrow7) (AH rfl) (hc7.get (.tail _ (.head _))) (AQ (h7.trans (hE.blk hbE')))) (.inl rfl) (AP (Ap (Aa ?_)))
  have hnext7:=GRep.setL (τ:=.bvals (f.v k).blk.toNat) (w1:=W7) (v:=v7) (ys:=(gV f k).bvals (f.v k).blk.toNat ++ [k]) hE rfl hbE'
   (show Row W7 B 97 v7 (((gV f k).bvals (f.v k).blk.toNat ++ [k]).map L1.vp) from by simpa [Row] using hrow7)
   (fun i hi hne=>by rw[hgr7.block i (by omega) (fun e=>hne e.symm),hO6 i hi])
   (fun i hi=>by
     rcases hwh7 with h5|h5
     ·left;rw[← h5];exact hi
     right;rw[h5] at hi;have:W6.heap.size=i:=Option.some.inj hi;omega)
  have hgeq:(({ gV f k with nv:=k+1 }:Gph).setL (.bvals (f.v k).blk.toNat) ((gV f k).bvals (f.v k).blk.toNat ++ [k]))=gV f (k+1):=by
   have hfun:(fun x=>if x=(f.v k).blk.toNat then (gV f k).bvals (f.v k).blk.toNat ++ [k] else (gV f k).bvals x)=(gV f (k+1)).bvals:=by
    funext x
    show (if x=(f.v k).blk.toNat then (List.range k).filter (fun i=>(f.v i).blk == (((f.v k).blk.toNat:Nat):Int)) ++ [k] else (List.range k).filter fun i=>(f.v i).blk == (x:Int))=(List.range (k+1)).filter fun i=>(f.v i).blk == (x:Int)
    rw[List.range_succ,List.filter_append]
    by_cases e:x=(f.v k).blk.toNat
    ·rw[if_pos e,e,← hbz]
     simp
    rw[if_neg e]
    have:((f.v k).blk == (x:Int))=false:=by
     rw[beq_eq_false_iff_ne]
     omega
    simp [this]
   show ({ gV f k with nv:=k+1,bvals:=_ }:Gph)=_
   rw[hfun]
   rfl
  rw[hgeq] at hnext7
  have hb7:=((hbE.trans hB6).grown hgr7 (by omega) (fun i hi=>(hr5.lt i hi).1)).setCell (p:=⟨L1.bb (f.v k).blk.toNat,0+5,none⟩) (hE.tags.bbB _ hbE') v7
  refine Ac (Ab (x_inc rfl rfl (by omega)) rfl (Ab Ad rfl (Af ?_)))
  refine Aw (f.vals.length - (k+1)) (by omega) ⟨k+1,L1.setSl (.bvals (f.v k).blk.toNat) v7 We.heap.size,by omega,Ar rfl ⟨rfl,?_,rfl,rfl,rfl,trivial⟩,hnext7,hb7,rfl⟩
  show Value.pointer (some ⟨L.fb,0,none⟩)= .pointer (some ⟨L1.fb,0,none⟩)
  rw[hfbn]
 rintro e w2 ⟨L,⟨t,rfl⟩,h,hb⟩
 rw[G8] at h
 refine AW (fun e w2=>∃L,At e [(1,.pointer (some ⟨w.heap.size,0,none⟩)),(3,.pointer (some ⟨L.fb,0,none⟩))]∧GRep w2 B L (gA f f.vals.length 0)∧Below B w0 w2) ?_ ?_
 ·have g1:w2.cell? ⟨w.heap.size,0+0,none⟩=some (.slice av f.vals.length cv):=By hb (by omega) _ _ hbox0
  refine Ae (Ac (Ab (Al rfl (Ak rfl)) rfl (Ab (Ai rfl (Ag rfl) ‹_›) rfl ?_)))
  refine Ab (AN rfl (An rfl)) rfl (Ab Ad rfl (Af (Aa (Ao ?_))))
  refine EC_loop (fun n e wr=>∃(i:Nat) (L:Lay),i≤f.vals.length∧At e [(1,.pointer (some ⟨w.heap.size,0,none⟩)),(3,.pointer (some ⟨L.fb,0,none⟩)),(111,.slice av f.vals.length cv),(112,.int .i64 (f.vals.length:Int)),(113,.int .i64 (i:Int))]∧GRep wr B L (gA f i 0)∧Below B w0 wr∧n=f.vals.length - i) f.vals.length
   ⟨0,L,Nat.zero_le _,Ar rfl ⟨rfl,rfl,rfl,rfl,rfl,trivial⟩,h,hb,rfl⟩ ?_
  rintro n e wr ⟨i,L,hi,⟨t,rfl⟩,h,hb,rfl⟩
  refine Ae (Ac (Ab (AX rfl rfl) rfl (Af (Aa (Ae ?_)))))
  refine AI rfl rfl (fun hlt=>?_) (fun hge=>?_)
  rotate_left
  ·have hi:i=f.vals.length:=by omega
   subst hi
   refine AK (AB (AD (AA ?_)))
   exact AR ⟨L,Ar rfl ⟨rfl,rfl,trivial⟩,h,hb⟩
  have hlt:i<f.vals.length:=by omega
  obtain ⟨b,o,rfl,hq⟩:=hvl.resolve_left (fun e=>by rw[e] at hlt;simp at hlt)
  obtain ⟨s,hcells0,⟨sa,sc,rfl,hints⟩⟩:=hq i hlt
  have hcells:=hcells0.keep (By hb (by omega))
  have hBr:B≤wr.heap.size:=h.baseLe'
  refine Aq (Aa (Ae (Ao (Ae (Ac (Ab Ad rfl (Ab (A5 (n:=4) rfl rfl (An rfl) hlt) rfl (Ab (A4 rfl (A0 rfl) hcells) rfl (Ab (A9 D0) rfl (Ab Ah rfl (Bc (Bb rfl rfl (A7 rfl) rfl rfl) rfl ?_)))))))))))
  refine Af (Aa (ec_new (.cells #[.int .i64 (f.v i).op,.int .i64 (f.v i).blk,.slice sa (f.v i).args.length sc,.int .i64 (f.v i).aux] 83) B (by omega) fun W hN1 hO1 hZ1 hB1 hK1=>?_))
  have hl2:W.cell? ⟨wr.heap.size,0+2,none⟩=some (.slice sa (f.v i).args.length sc):=Am hN1 rfl
  have hW:=h.keep hO1
  obtain ⟨hal,ham⟩:=wf.args i hlt
  refine Ae (Ac (Ab (Al rfl (Ak rfl)) rfl (Ab (Ai rfl (Ag rfl) ‹_›) rfl ?_)))
  refine Ab (AN rfl (An rfl)) rfl (Ab Ad rfl (Af (Aa (Ao ?_))))
  refine EC_loop (fun n e wi=>∃(k:Nat) (L:Lay),k≤(f.v i).args.length∧At e [(1,.pointer (some ⟨w.heap.size,0,none⟩)),(3,.pointer (some ⟨L.fb,0,none⟩)),(111,.slice (some ⟨b,o,none⟩) f.vals.length cv),(112,.int .i64 (f.vals.length:Int)),(113,.int .i64 (i:Int)),(11,.int .i64 (i:Int)),(119,.slice sa (f.v i).args.length sc),(120,.int .i64 ((f.v i).args.length:Int)),(121,.int .i64 (k:Int))]∧GRep wi B L (gA f i k)∧Below B w0 wi∧n=(f.v i).args.length - k) (f.v i).args.length
   ⟨0,L,Nat.zero_le _,Ar rfl ⟨rfl,rfl,rfl,rfl,rfl,rfl,rfl,rfl,rfl,trivial⟩,hW,hb.trans hB1,rfl⟩ ?_
  rintro n e wi ⟨k,L,hk,⟨t,rfl⟩,h,hb,rfl⟩
  refine Ae (Ac (Ab (AX rfl rfl) rfl (Af (Aa (Ae ?_)))))
  refine AI rfl rfl (fun hlk=>?_) (fun hge=>?_)
  rotate_left
  ·have hk:k=(f.v i).args.length:=by omega
   subst hk
   refine AK (AB (AD (AA (Ap (Aa (Ac (Ab (x_inc rfl rfl (by omega)) rfl (Ab Ad rfl (Af ?_)))))))))
   have hgn:gA f i (f.v i).args.length=gA f (i+1) 0:=by
    have:=part_next (argsOf f) i
    rw[show (argsOf f i).length=(f.v i).args.length by simp [argsOf]] at this
    unfold gA
    rw[this]
   rw[hgn] at h
   exact Aw (f.vals.length - (i+1)) (by omega) ⟨i+1,L,by omega,Ar rfl ⟨rfl,rfl,rfl,rfl,rfl,trivial⟩,h,hb,rfl⟩
  have hlk:k<(f.v i).args.length:=by omega
  obtain ⟨_,_,e3,hintI⟩:IntsV wi (.slice sa (f.v i).args.length sc) (f.v i).args:=IntsV.keep ⟨sa,sc,rfl,hints⟩ (By hb (by omega))
  obtain ⟨bi,oi,rfl,hai⟩:=hintI.get hlk
  injection e3 with e4 e5 e6
  subst e4
  have hmem:(f.v i).args.getD k 0∈(f.v i).args:=by rw[List.getD_eq_getElem?_getD,List.getElem?_eq_getElem hlk];simp
  obtain ⟨ha0,ha1⟩:=ham _ hmem
  have hgetD:(argsOf f i).getD k 0=((f.v i).args.getD k 0).toNat:=by
   unfold argsOf
   rw[List.getD_eq_getElem?_getD,List.getElem?_map,List.getD_eq_getElem?_getD,List.getElem?_eq_getElem hlk];rfl
  have hlen:(argsOf f i).length=(f.v i).args.length:=by simp [argsOf]
  generalize hz:(f.v i).args.getD k 0=z at hai ha0 ha1 hgetD
  have hzz:z=((z.toNat:Nat):Int):=by omega
  have hzl:z.toNat<f.vals.length:=by omega
  refine Aq (Aa (Ae (Ao (Ae (Ac (Ab (x_index1 rfl rfl (An rfl) (by omega)) rfl (Ab (Ai rfl (Ag rfl) ‹_›) rfl ?_)))))))
  refine Ab Ah rfl (Af (Aa ?_))
  have hD:=h.drew
  have hbD:=hb.drew
  obtain ⟨bf,cf,hfv,_,hei,_⟩:=hD.fvaluesE (k:=i) hlt
  obtain ⟨bf',cf',hfv',_,hez,_⟩:=hD.fvaluesE (k:=z.toNat) hzl
  rw[hfv] at hfv'
  injection hfv' with e7 e8 e9
  injection e7 with e7
  injection e7 with e7
  subst e7
  have hf3:=hD.fValues
  rw[hfv] at hf3
  have hva:=hD.vArgs (i:=i) hlt
  have hBD:=hD.baseLe'
  refine AY mixed (Cells [(⟨L.fb,0+2,none⟩,.slice (some ⟨bf,0,none⟩) f.vals.length cf),(⟨bf,0+i,none⟩,L.vp i),(⟨bf,0+z.toNat,none⟩,L.vp z.toNat),(⟨L.vb i,0+5,none⟩,L.sl (.args i))]) [(0,false),(1,false),(2,false),(3,false),(4,false),(5,false),(6,false),(7,false),(8,false),(9,false),(10,false),(11,false),(12,false),(13,false),(14,false),(15,false),(16,false),(17,false),(18,false),(19,false),(20,false),(21,false),(22,false),(23,false),(24,true),(25,true),(26,false),(27,false),(28,true)] (by kernel_rfl)
   (.cons hf3 (.cons hei (.cons hez (.cons hva (.nil _))))) ?_
  generalize wi.drew=Wd at hD hbD hf3 hei hez hva hBD ⊢
  have hc0:Cells [(⟨L.fb,0+2,none⟩,.slice (some ⟨bf,0,none⟩) f.vals.length cf),(⟨bf,0+i,none⟩,L.vp i),(⟨bf,0+z.toNat,none⟩,L.vp z.toNat),(⟨L.vb i,0+5,none⟩,L.sl (.args i))] Wd:=.cons hf3 (.cons hei (.cons hez (.cons hva (.nil _))))
  refine Aj rfl (fun _ _=>Ad) (Aj rfl (fun _ _=>Au rfl) (Aj rfl (fun _ _=>Al rfl (Ak rfl)) (Aj rfl (fun _ hS=>Ai rfl (Ag rfl) (hS.get (by first|exact mm0|exact mm1|exact mm2|exact mm3|exact mm4|exact mm5|exact mm6|exact mm7))) ?_)))
  refine Aj rfl (fun _ _=>Ad) (Aj rfl (fun _ _=>x_index1 rfl rfl (An rfl) (by omega)) (Aj rfl (fun _ hS=>Ai rfl (Ag rfl) (hS.get (by first|exact mm0|exact mm1|exact mm2|exact mm3|exact mm4|exact mm5|exact mm6|exact mm7))) ?_))
  refine Aj rfl (fun _ _=>Ad) (Aj rfl (fun _ _=>Au rfl) (Aj rfl (fun _ _=>Al rfl (Ak rfl)) (Aj rfl (fun _ hS=>Ai rfl (Ag rfl) (hS.get (by first|exact mm0|exact mm1|exact mm2|exact mm3|exact mm4|exact mm5|exact mm6|exact mm7))) ?_)))
  refine Aj rfl (fun _ _=>Ad) (Aj rfl (fun _ _=>x_index1 rfl rfl (An rfl) (by omega)) (Aj rfl (fun _ hS=>Ai rfl (Ag rfl) (hS.get (by first|exact mm0|exact mm1|exact mm2|exact mm3|exact mm4|exact mm5|exact mm6|exact mm7))) ?_))
  refine Aj rfl (fun _ _=>Au rfl) (Aj rfl (fun _ _=>Al rfl (Ak rfl)) (Aj rfl (fun _ hS=>Ai rfl (Ag rfl) (hS.get (by first|exact mm0|exact mm1|exact mm2|exact mm3|exact mm4|exact mm5|exact mm6|exact mm7))) ?_))
  refine Aj rfl (fun _ _=>Ad) (Aj rfl (fun _ _=>Au rfl) (Aj rfl (fun _ _=>Al rfl (Ak rfl)) (Aj rfl (fun _ hS=>Ai rfl (Ag rfl) (hS.get (by first|exact mm0|exact mm1|exact mm2|exact mm3|exact mm4|exact mm5|exact mm6|exact mm7))) ?_)))
  refine Aj rfl (fun _ _=>Ad) (Aj rfl (fun _ _=>Ba rfl rfl hzz (An rfl) hzl) (Aj rfl (fun _ hS=>Ai rfl (Ag rfl) (hS.get (by first|exact mm0|exact mm1|exact mm2|exact mm3|exact mm4|exact mm5|exact mm6|exact mm7))) ?_))
  refine BK rfl (Bo rfl rfl Tryz.underlying78 (by kernel_rfl) (z:=.pointer none) rfl) (.inr (hc0.alloc _)) ?_
  have hc6:=hc0.alloc (.cells #[L.vp z.toNat] 97)
  change DL _ _ _ _ _ _ (Wd.alloc (.cells #[L.vp z.toNat] 97))
  have hN6:=heap_alloc_new Wd (.cells #[L.vp z.toNat] 97)
  have hO6:∀zz,zz<Wd.heap.size→(Wd.alloc (.cells #[L.vp z.toNat] 97)).heap[zz]? =Wd.heap[zz]? :=fun _ hi=>Below.heap_alloc _ _ _ hi
  have hZ6:=BC Wd (.cells #[L.vp z.toNat] 97)
  have hB6:=(Below.refl B Wd).alloc (by omega) (.cells #[L.vp z.toNat] 97)
  generalize Wd.alloc (.cells #[L.vp z.toNat] 97)=W6 at hc6 hN6 hO6 hZ6 hB6 ⊢
  have hr5:=hD.row (τ:=.args i) rfl hlt
  have hr6:Row W6 B (elT (.args i)) (L.sl (.args i)) (((gA f i k).lst (.args i)).map (L.pf (.args i))):=Row.congr hr5 fun j hj=>hO6 j (hr5.lt j hj).2
  have hlst:(gA f i k).lst (.args i)=(argsOf f i).take k:=by
   show BJ (argsOf f) i k i=_
   unfold BJ
   rw[if_neg (Nat.lt_irrefl _),if_pos rfl]
  have hll:(((gA f i k).lst (.args i)).map (L.pf (.args i))).length≤64:=by
   rw[List.length_map,hlst,List.length_take];omega
  refine Cd hr6 (Am hN6 rfl) rfl (by omega) (by decide) (by omega) rfl Tryz.underlying78 CH rfl rfl rfl ?_
  intro v7 W7 hrow7 hgr7 hwh7
  obtain ⟨hG,hBG,hkeep,hfree⟩:=GRep.app (x:=z.toNat) hD (τ:=.args i) rfl hlt hO6 hZ6 hB6 hrow7 hgr7 hwh7
  have hnf:=hD.own_sl (τ:=.args i) (σ:=.fvalues) rfl hlt rfl trivial (by simp) (b:=bf) (by rw[hfv];rfl)
  have hc7:Cells [(⟨L.fb,0+2,none⟩,.slice (some ⟨bf,0,none⟩) f.vals.length cf),(⟨bf,0+i,none⟩,L.vp i),(⟨bf,0+z.toNat,none⟩,L.vp z.toNat),(⟨L.vb i,0+5,none⟩,L.sl (.args i))] W7:=
   .cons (hkeep _ _ hf3 (hD.own_fb (τ:=.args i) rfl hlt)) (.cons (hkeep _ _ hei hnf) (.cons (hkeep _ _ hez hnf) (.cons (hkeep _ _ hva (hD.own_vb (τ:=.args i) rfl hlt hlt)) (.nil _))))
  refine ⟨.inr hc7,?_⟩
  refine Aj rfl (fun _ _=>Au rfl) (Aj rfl (fun _ _=>Al rfl (Ak rfl)) (BP rfl (AU rfl rfl (Bd hrow7) (AH rfl) (hc7.get (.tail _ (.tail _ (.tail _ (.head _))))) (hfree _)) (.inl rfl) (AP (Ap (Aa ?_)))))
  have hgeq:(gA f i k).setL (.args i) ((gA f i k).lst (.args i) ++ [z.toNat])=gA f i (k+1):=by
   have:=EH (argsOf f) i k (by omega)
   rw[hgetD] at this
   show ({ toG f with args:=_,succs:=_,preds:=_,ctrl:=_ }:Gph)=_
   unfold gA
   rw[← this]
   rfl
  rw[hgeq] at hG
  refine Ac (Ab (x_inc rfl rfl (by omega)) rfl (Ab Ad rfl (Af ?_)))
  exact Aw ((f.v i).args.length - (k+1)) (by omega) ⟨k+1,L.setSl (.args i) v7 Wd.heap.size,by omega,Ar rfl ⟨rfl,rfl,rfl,rfl,rfl,rfl,rfl,rfl,rfl,trivial⟩,hG,hbD.trans hBG,rfl⟩
 rintro e w2 ⟨L,⟨t,rfl⟩,h,hb⟩
 rw[gS_zero] at h
 refine AW (fun e w2=>∃L,At e [(1,.pointer (some ⟨w.heap.size,0,none⟩)),(3,.pointer (some ⟨L.fb,0,none⟩))]∧GRep w2 B L (gS f f.blks.length 0)∧Below B w0 w2) ?_ ?_
 ·have g1:w2.cell? ⟨w.heap.size,0+1,none⟩=some (.slice ab f.blks.length cb):=By hb (by omega) _ _ hbox1
  refine Ae (Ac (Ab (Al rfl (Ak rfl)) rfl (Ab (Ai rfl (Ag rfl) ‹_›) rfl ?_)))
  refine Ab (AN rfl (An rfl)) rfl (Ab Ad rfl (Af (Aa (Ao ?_))))
  refine EC_loop (fun n e wr=>∃(i:Nat) (L:Lay),i≤f.blks.length∧At e [(1,.pointer (some ⟨w.heap.size,0,none⟩)),(3,.pointer (some ⟨L.fb,0,none⟩)),(156,.slice ab f.blks.length cb),(157,.int .i64 (f.blks.length:Int)),(158,.int .i64 (i:Int))]∧GRep wr B L (gS f i 0)∧Below B w0 wr∧n=f.blks.length - i) f.blks.length
   ⟨0,L,Nat.zero_le _,Ar rfl ⟨rfl,rfl,rfl,rfl,rfl,trivial⟩,h,hb,rfl⟩ ?_
  rintro n e wr ⟨i,L,hi,⟨t,rfl⟩,h,hb,rfl⟩
  refine Ae (Ac (Ab (AX rfl rfl) rfl (Af (Aa (Ae ?_)))))
  refine AI rfl rfl (fun hlt=>?_) (fun hge=>?_)
  rotate_left
  ·have hi:i=f.blks.length:=by omega
   subst hi
   refine AK (AB (AD (AA ?_)))
   exact AR ⟨L,Ar rfl ⟨rfl,rfl,trivial⟩,h,hb⟩
  have hlt:i<f.blks.length:=by omega
  obtain ⟨b,o,rfl,hq⟩:=hbl.resolve_left (fun e=>by rw[e] at hlt;simp at hlt)
  obtain ⟨s,hcells0,⟨sa,sc,rfl,hints⟩⟩:=hq i hlt
  have hcells:=hcells0.keep (By hb (by omega))
  have hBr:B≤wr.heap.size:=h.baseLe'
  refine Aq (Aa (Ae (Ao (Ae (Ac (Ab Ad rfl (Ab (A5 (n:=4) rfl rfl (An rfl) hlt) rfl (Ab (A4 rfl (A0 rfl) hcells) rfl (Ab (A9 DP) rfl (Ab Ah rfl (Bc (Bb rfl rfl (A7 rfl) rfl rfl) rfl ?_)))))))))))
  refine Af (Aa (ec_new (.cells #[.int .i64 (f.b i).kind,.int .i64 (f.b i).ctrl,.slice sa (f.b i).succs.length sc,.int .i64 (f.b i).likely] 84) B (by omega) fun W hN1 hO1 hZ1 hB1 hK1=>?_))
  have hl2:W.cell? ⟨wr.heap.size,0+2,none⟩=some (.slice sa (f.b i).succs.length sc):=Am hN1 rfl
  have hl1':W.cell? ⟨wr.heap.size,0+1,none⟩=some (.int .i64 (f.b i).ctrl):=Am hN1 rfl
  obtain ⟨V,hV⟩:∃V,V=wr.heap.size:=⟨_,rfl⟩
  rw[← hV] at hl1' hl2 ⊢
  have hW:=h.keep hO1
  obtain ⟨hal,ham⟩:=wf.succs i hlt
  have hoffW:Off L (gS f i 0) V:=by rw[hV];exact off_new h
  have hbW:=hb.trans hB1
  refine AW (fun e wx=>∃L,At e [(1,.pointer (some ⟨w.heap.size,0,none⟩)),(3,.pointer (some ⟨L.fb,0,none⟩)),(15,.int .i64 (i:Int)),(16,.pointer (some ⟨V,0,none⟩)),(156,.slice (some ⟨b,o,none⟩) f.blks.length cb),(157,.int .i64 (f.blks.length:Int)),(158,.int .i64 (i:Int))]∧GRep wx B L (gS f i (f.b i).succs.length)∧Below B w0 wx∧wx.cell? ⟨V,0+1,none⟩=some (.int .i64 (f.b i).ctrl)) ?_ ?_
  ·refine Ae (Ac (Ab (Al rfl (Ak rfl)) rfl (Ab (Ai rfl (Ag rfl) ‹_›) rfl ?_)))
   refine Ab (AN rfl (An rfl)) rfl (Ab Ad rfl (Af (Aa (Ao ?_))))
   refine EC_loop (fun n e wi=>∃(k:Nat) (L:Lay),k≤(f.b i).succs.length∧At e [(1,.pointer (some ⟨w.heap.size,0,none⟩)),(3,.pointer (some ⟨L.fb,0,none⟩)),(15,.int .i64 (i:Int)),(16,.pointer (some ⟨V,0,none⟩)),(156,.slice (some ⟨b,o,none⟩) f.blks.length cb),(157,.int .i64 (f.blks.length:Int)),(158,.int .i64 (i:Int)),(164,.slice sa (f.b i).succs.length sc),(165,.int .i64 ((f.b i).succs.length:Int)),(166,.int .i64 (k:Int))]∧GRep wi B L (gS f i k)∧Below B w0 wi∧wi.cell? ⟨V,0+1,none⟩=some (.int .i64 (f.b i).ctrl)∧Off L (gS f i k) V∧n=(f.b i).succs.length - k) (f.b i).succs.length
    ⟨0,L,Nat.zero_le _,Ar rfl ⟨rfl,rfl,rfl,rfl,rfl,rfl,rfl,rfl,rfl,rfl,trivial⟩,hW,hbW,hl1',hoffW,rfl⟩ ?_
   rintro n e wi ⟨k,L,hk,⟨t,rfl⟩,h,hb,hcV,hoff,rfl⟩
   refine Ae (Ac (Ab (AX rfl rfl) rfl (Af (Aa (Ae ?_)))))
   refine AI rfl rfl (fun hlk=>?_) (fun hge=>?_)
   rotate_left
   ·have hk:k=(f.b i).succs.length:=by omega
    subst hk
    refine AK (AB (AD (AA ?_)))
    exact AR ⟨L,Ar rfl ⟨rfl,rfl,rfl,rfl,rfl,rfl,rfl,trivial⟩,h,hb,hcV⟩
   have hlk:k<(f.b i).succs.length:=by omega
   obtain ⟨_,_,e3,hintI⟩:IntsV wi (.slice sa (f.b i).succs.length sc) (f.b i).succs:=IntsV.keep ⟨sa,sc,rfl,hints⟩ (By hb (by omega))
   obtain ⟨bi,oi,rfl,hai⟩:=hintI.get hlk
   injection e3 with e4 e5 e6
   subst e4
   have hmem:(f.b i).succs.getD k 0∈(f.b i).succs:=by rw[List.getD_eq_getElem?_getD,List.getElem?_eq_getElem hlk];simp
   obtain ⟨ha0,ha1⟩:=ham _ hmem
   have hgetD:(succsOf f i).getD k 0=((f.b i).succs.getD k 0).toNat:=by
    unfold succsOf
    rw[List.getD_eq_getElem?_getD,List.getElem?_map,List.getD_eq_getElem?_getD,List.getElem?_eq_getElem hlk];rfl
   have hlen:(succsOf f i).length=(f.b i).succs.length:=by simp [succsOf]
   have hstep2:=predsTo_step f i k hlk
   have hstep1:=EH (succsOf f) i k (by omega)
   generalize hz:(f.b i).succs.getD k 0=z at hai ha0 ha1 hgetD hstep2
   rw[hgetD] at hstep1
   have hzz:z=((z.toNat:Nat):Int):=by omega
   have hstep2:=hstep2 z.toNat hzz
   have hzl:z.toNat<f.blks.length:=by omega
   refine Aq (Aa (Ae (Ao (Ae (Ac (Ab (x_index1 rfl rfl (An rfl) (by omega)) rfl (Ab (Ai rfl (Ag rfl) ‹_›) rfl ?_)))))))
   refine Ab Ah rfl (Af (Aa (Ae ?_)))
   have hD:=h.drew
   have hbD:=hb.drew
   obtain ⟨bf,cf,hfv,_,hei,_⟩:=hD.fblocksE (k:=i) hlt
   obtain ⟨bf',cf',hfv',_,hez,_⟩:=hD.fblocksE (k:=z.toNat) hzl
   rw[hfv] at hfv'
   injection hfv' with e7 e8 e9
   injection e7 with e7
   injection e7 with e7
   subst e7
   have hf3:=hD.fBlocks
   rw[hfv] at hf3
   have hva:wi.drew.cell? ⟨L.bb i,0+3,none⟩=some (L.sl (.succs i)):=Am (hD.blk (show i<(gS f i k).nb from hlt)) rfl
   have hBD:=hD.baseLe'
   have hcV:=Keep.drew wi _ _ hcV
   have hVs:V<wi.drew.heap.size:=World.block_lt_of_cell? _ _ hcV
   refine AY mixed (Cells [(⟨L.fb,0+1,none⟩,.slice (some ⟨bf,0,none⟩) f.blks.length cf),(⟨bf,0+i,none⟩,L.bp i),(⟨bf,0+z.toNat,none⟩,L.bp z.toNat),(⟨L.bb i,0+3,none⟩,L.sl (.succs i))]) [(0,false),(1,false),(2,false),(3,false),(4,false),(5,false),(6,false),(7,false),(8,false),(9,false),(10,false),(11,false),(12,false),(13,false),(14,false),(15,false),(16,false),(17,false),(18,false),(19,false),(20,false),(21,false),(22,false),(23,false),(24,false),(25,true),(26,true),(27,false),(28,false),(29,true)] (by kernel_rfl)
    (.cons hf3 (.cons hei (.cons hez (.cons hva (.nil _))))) ?_
   generalize wi.drew=Wd at hD hbD hf3 hei hez hva hBD hcV hVs ⊢
   have hc0:Cells [(⟨L.fb,0+1,none⟩,.slice (some ⟨bf,0,none⟩) f.blks.length cf),(⟨bf,0+i,none⟩,L.bp i),(⟨bf,0+z.toNat,none⟩,L.bp z.toNat),(⟨L.bb i,0+3,none⟩,L.sl (.succs i))] Wd:=.cons hf3 (.cons hei (.cons hez (.cons hva (.nil _))))
   refine Aj rfl (fun _ _=>Ad) (Aj rfl (fun _ _=>Au rfl) (Aj rfl (fun _ _=>Al rfl (Ak rfl)) (Aj rfl (fun _ hS=>Ai rfl (Ag rfl) (hS.get (by first|exact mm0|exact mm1|exact mm2|exact mm3|exact mm4|exact mm5|exact mm6|exact mm7))) ?_)))
   refine Aj rfl (fun _ _=>Ad) (Aj rfl (fun _ _=>x_index1 rfl rfl (An rfl) (by omega)) (Aj rfl (fun _ hS=>Ai rfl (Ag rfl) (hS.get (by first|exact mm0|exact mm1|exact mm2|exact mm3|exact mm4|exact mm5|exact mm6|exact mm7))) ?_))
   refine Aj rfl (fun _ _=>Ad) (Aj rfl (fun _ _=>Au rfl) (Aj rfl (fun _ _=>Al rfl (Ak rfl)) (Aj rfl (fun _ hS=>Ai rfl (Ag rfl) (hS.get (by first|exact mm0|exact mm1|exact mm2|exact mm3|exact mm4|exact mm5|exact mm6|exact mm7))) ?_)))
   refine Aj rfl (fun _ _=>Ad) (Aj rfl (fun _ _=>x_index1 rfl rfl (An rfl) (by omega)) (Aj rfl (fun _ hS=>Ai rfl (Ag rfl) (hS.get (by first|exact mm0|exact mm1|exact mm2|exact mm3|exact mm4|exact mm5|exact mm6|exact mm7))) ?_))
   refine Aj rfl (fun _ _=>Au rfl) (Aj rfl (fun _ _=>Al rfl (Ak rfl)) (Aj rfl (fun _ hS=>Ai rfl (Ag rfl) (hS.get (by first|exact mm0|exact mm1|exact mm2|exact mm3|exact mm4|exact mm5|exact mm6|exact mm7))) ?_))
   refine Aj rfl (fun _ _=>Ad) (Aj rfl (fun _ _=>Au rfl) (Aj rfl (fun _ _=>Al rfl (Ak rfl)) (Aj rfl (fun _ hS=>Ai rfl (Ag rfl) (hS.get (by first|exact mm0|exact mm1|exact mm2|exact mm3|exact mm4|exact mm5|exact mm6|exact mm7))) ?_)))
   refine Aj rfl (fun _ _=>Ad) (Aj rfl (fun _ _=>Ba rfl rfl hzz (An rfl) hzl) (Aj rfl (fun _ hS=>Ai rfl (Ag rfl) (hS.get (by first|exact mm0|exact mm1|exact mm2|exact mm3|exact mm4|exact mm5|exact mm6|exact mm7))) ?_))
   refine Aj rfl (fun _ _=>Fd rfl) (BK rfl (E1 rfl) (.inr (hc0.alloc _)) ?_)
   have hc6:=hc0.alloc (.cells #[L.bp z.toNat] 103)
   refine dl_new (.cells #[L.bp z.toNat] 103) B (by omega) fun W6 hN6 hO6 hZ6 hB6 hK6=>?_
   have hr5:=hD.row (τ:=.succs i) rfl (show i<(gS f i k).nb from hlt)
   have hr6:Row W6 B (elT (.succs i)) (L.sl (.succs i)) (((gS f i k).lst (.succs i)).map (L.pf (.succs i))):=Row.congr hr5 fun j hj=>hO6 j (hr5.lt j hj).2
   have hll:(((gS f i k).lst (.succs i)).map (L.pf (.succs i))).length≤64:=by
    rw[List.length_map,show (gS f i k).lst (.succs i)=(succsOf f i).take k from by show BJ (succsOf f) i k i=_;unfold BJ;rw[if_neg (Nat.lt_irrefl _),if_pos rfl],List.length_take];omega
   refine Cd hr6 (Am hN6 rfl) rfl (by omega) (by decide) (by omega) rfl Tryz.underlying92 Fj rfl rfl rfl ?_
   intro v7 W7 hrow7 hgr7 hwh7
   obtain ⟨hG,hBG,hkeep,hfree⟩:=GRep.app (x:=z.toNat) hD (τ:=.succs i) rfl (show i<(gS f i k).nb from hlt) hO6 hZ6 hB6 hrow7 hgr7 hwh7
   have hnf:=hD.own_sl (τ:=.succs i) (σ:=.fblocks) rfl (show i<(gS f i k).nb from hlt) rfl trivial (by simp) (b:=bf) (by rw[hfv];rfl)
   have hc7:Cells [(⟨L.fb,0+1,none⟩,.slice (some ⟨bf,0,none⟩) f.blks.length cf),(⟨bf,0+i,none⟩,L.bp i),(⟨bf,0+z.toNat,none⟩,L.bp z.toNat),(⟨L.bb i,0+3,none⟩,L.sl (.succs i))] W7:=
    .cons (hkeep _ _ hf3 (hD.own_fb (τ:=.succs i) rfl hlt)) (.cons (hkeep _ _ hei hnf) (.cons (hkeep _ _ hez hnf) (.cons (hkeep _ _ hva (hD.own_bb (τ:=.succs i) rfl hlt hlt)) (.nil _))))
   refine ⟨.inr hc7,?_⟩
   refine Aj rfl (fun _ _=>Au rfl) (Aj rfl (fun _ _=>Al rfl (Ak rfl)) (BP rfl (AU rfl rfl (Bd hrow7) (AH rfl) (hc7.get (.tail _ (.tail _ (.tail _ (.head _))))) (hfree _)) (.inl rfl) (AP (Aa ?_))))
   have hcV':(W7.setCell ⟨(L.home (.succs i)).1,(L.home (.succs i)).2,none⟩ v7).cell? ⟨V,0+1,none⟩=some (.int .i64 (f.b i).ctrl):=
    Dd (hkeep _ _ hcV (hoff.1 _ rfl hlt)) (hoff.home (τ:=.succs i) rfl hlt)
   have hoff':=hoff.app (τ:=.succs i) (n:=Wd.heap.size) (ys:=(gS f i k).lst (.succs i) ++ [z.toNat]) hwh7 (by omega) rfl hlt
   have hgeq:(gS f i k).setL (.succs i) ((gS f i k).lst (.succs i) ++ [z.toNat])= { gS f i k with succs:=BJ (succsOf f) i (k+1) }:=by
    show ({ gS f i k with succs:=_ }:Gph)=_
    rw[← hstep1]
    rfl
   rw[hgeq] at hG hoff'
   have hb8:=hbD.trans hBG
   change EC _ _ _ _ _ (W7.setCell ⟨(L.home (.succs i)).1,(L.home (.succs i)).2,none⟩ v7)
   generalize hL8:L.setSl (.succs i) v7 Wd.heap.size=L8 at hG hoff'
   have hfb8:L8.fb=L.fb:=by rw[← hL8];rfl
   rw[← hfb8]
   generalize W7.setCell ⟨(L.home (.succs i)).1,(L.home (.succs i)).2,none⟩ v7=W8 at hG hb8 hcV' ⊢
   have hoff8:=hoff'
   have hD:=hG.drew
   have hbD:=hb8.drew
   obtain ⟨bf,cf,hfv,_,hei,_⟩:=hD.fblocksE (k:=i) hlt
   obtain ⟨bf',cf',hfv',_,hez,_⟩:=hD.fblocksE (k:=z.toNat) hzl
   rw[hfv] at hfv'
   injection hfv' with e7 e8 e9
   injection e7 with e7
   injection e7 with e7
   subst e7
   have hf3:=hD.fBlocks
   rw[hfv] at hf3
   have hva:W8.drew.cell? ⟨L8.bb z.toNat,0+4,none⟩=some (L8.sl (.preds z.toNat)):=Am (hD.blk (show z.toNat<(({ gS f i k with succs:=BJ (succsOf f) i (k+1) }:Gph)).nb from hzl)) rfl
   have hBD:=hD.baseLe'
   have hcV:=Keep.drew W8 _ _ hcV'
   have hVs:V<W8.drew.heap.size:=World.block_lt_of_cell? _ _ hcV
   refine AY mixed (Cells [(⟨L8.fb,0+1,none⟩,.slice (some ⟨bf,0,none⟩) f.blks.length cf),(⟨bf,0+i,none⟩,L8.bp i),(⟨bf,0+z.toNat,none⟩,L8.bp z.toNat),(⟨L8.bb z.toNat,0+4,none⟩,L8.sl (.preds z.toNat))]) [(0,false),(1,false),(2,false),(3,false),(4,false),(5,false),(6,false),(7,false),(8,false),(9,false),(10,false),(11,false),(12,false),(13,false),(14,false),(15,false),(16,false),(17,false),(18,false),(19,false),(20,false),(21,false),(22,false),(23,false),(24,false),(25,true),(26,true),(27,false),(28,false),(29,true)] (by kernel_rfl)
    (.cons hf3 (.cons hei (.cons hez (.cons hva (.nil _))))) ?_
   generalize W8.drew=Wd at hD hbD hf3 hei hez hva hBD hcV hVs ⊢
   have hc0:Cells [(⟨L8.fb,0+1,none⟩,.slice (some ⟨bf,0,none⟩) f.blks.length cf),(⟨bf,0+i,none⟩,L8.bp i),(⟨bf,0+z.toNat,none⟩,L8.bp z.toNat),(⟨L8.bb z.toNat,0+4,none⟩,L8.sl (.preds z.toNat))] Wd:=.cons hf3 (.cons hei (.cons hez (.cons hva (.nil _))))
   refine Aj rfl (fun _ _=>Ad) (Aj rfl (fun _ _=>Au rfl) (Aj rfl (fun _ _=>Al rfl (Ak rfl)) (Aj rfl (fun _ hS=>Ai rfl (Ag rfl) (hS.get (by first|exact mm0|exact mm1|exact mm2|exact mm3|exact mm4|exact mm5|exact mm6|exact mm7))) ?_)))
   refine Aj rfl (fun _ _=>Ad) (Aj rfl (fun _ _=>Ba rfl rfl hzz (An rfl) hzl) (Aj rfl (fun _ hS=>Ai rfl (Ag rfl) (hS.get (by first|exact mm0|exact mm1|exact mm2|exact mm3|exact mm4|exact mm5|exact mm6|exact mm7))) ?_))
   refine Aj rfl (fun _ _=>Ad) (Aj rfl (fun _ _=>Au rfl) (Aj rfl (fun _ _=>Al rfl (Ak rfl)) (Aj rfl (fun _ hS=>Ai rfl (Ag rfl) (hS.get (by first|exact mm0|exact mm1|exact mm2|exact mm3|exact mm4|exact mm5|exact mm6|exact mm7))) ?_)))
   refine Aj rfl (fun _ _=>Ad) ?_
   try refine Aj rfl (fun _ _=>Ba rfl rfl hzz (An rfl) hzl) ?_
   refine Aj rfl (fun _ hS=>Ai rfl (Ag rfl) (hS.get (by first|exact mm0|exact mm1|exact mm2|exact mm3|exact mm4|exact mm5|exact mm6|exact mm7))) ?_
   refine Aj rfl (fun _ _=>Au rfl) (Aj rfl (fun _ _=>Al rfl (Ak rfl)) (Aj rfl (fun _ hS=>Ai rfl (Ag rfl) (hS.get (by first|exact mm0|exact mm1|exact mm2|exact mm3|exact mm4|exact mm5|exact mm6|exact mm7))) ?_))
   refine Aj rfl (fun _ _=>Ad) (Aj rfl (fun _ _=>Au rfl) (Aj rfl (fun _ _=>Al rfl (Ak rfl)) (Aj rfl (fun _ hS=>Ai rfl (Ag rfl) (hS.get (by first|exact mm0|exact mm1|exact mm2|exact mm3|exact mm4|exact mm5|exact mm6|exact mm7))) ?_)))
   refine Aj rfl (fun _ _=>Ad) (Aj rfl (fun _ _=>x_index1 rfl rfl (An rfl) (by omega)) (Aj rfl (fun _ hS=>Ai rfl (Ag rfl) (hS.get (by first|exact mm0|exact mm1|exact mm2|exact mm3|exact mm4|exact mm5|exact mm6|exact mm7))) ?_))
   refine Aj rfl (fun _ _=>Fd rfl) (BK rfl (E1 rfl) (.inr (hc0.alloc _)) ?_)
   have hc6:=hc0.alloc (.cells #[L8.bp i] 103)
   refine dl_new (.cells #[L8.bp i] 103) B (by omega) fun W6 hN6 hO6 hZ6 hB6 hK6=>?_
   have hr5:=hD.row (τ:=.preds z.toNat) rfl (show z.toNat<(({ gS f i k with succs:=BJ (succsOf f) i (k+1) }:Gph)).nb from hzl)
   have hr6:Row W6 B (elT (.preds z.toNat)) (L8.sl (.preds z.toNat)) (((({ gS f i k with succs:=BJ (succsOf f) i (k+1) }:Gph)).lst (.preds z.toNat)).map (L8.pf (.preds z.toNat))):=Row.congr hr5 fun j hj=>hO6 j (hr5.lt j hj).2
   have hll:(((({ gS f i k with succs:=BJ (succsOf f) i (k+1) }:Gph)).lst (.preds z.toNat)).map (L8.pf (.preds z.toNat))).length≤64:=by
    rw[List.length_map];have h9:=predsTo_len f wf i k z.toNat hlt;show (predsTo f i k z.toNat).length≤64;omega
   refine Cd hr6 (Am hN6 rfl) rfl (by omega) (by decide) (by omega) rfl Tryz.underlying92 Fj rfl rfl rfl ?_
   intro v7 W7 hrow7 hgr7 hwh7
   obtain ⟨hG,hBG,hkeep,hfree⟩:=GRep.app (x:=i) hD (τ:=.preds z.toNat) rfl (show z.toNat<(({ gS f i k with succs:=BJ (succsOf f) i (k+1) }:Gph)).nb from hzl) hO6 hZ6 hB6 hrow7 hgr7 hwh7
   have hnf:=hD.own_sl (τ:=.preds z.toNat) (σ:=.fblocks) rfl (show z.toNat<(({ gS f i k with succs:=BJ (succsOf f) i (k+1) }:Gph)).nb from hzl) rfl trivial (by simp) (b:=bf) (by rw[hfv];rfl)
   have hc7:Cells [(⟨L8.fb,0+1,none⟩,.slice (some ⟨bf,0,none⟩) f.blks.length cf),(⟨bf,0+i,none⟩,L8.bp i),(⟨bf,0+z.toNat,none⟩,L8.bp z.toNat),(⟨L8.bb z.toNat,0+4,none⟩,L8.sl (.preds z.toNat))] W7:=
    .cons (hkeep _ _ hf3 (hD.own_fb (τ:=.preds z.toNat) rfl hzl)) (.cons (hkeep _ _ hei hnf) (.cons (hkeep _ _ hez hnf) (.cons (hkeep _ _ hva (hD.own_bb (τ:=.preds z.toNat) rfl hzl hzl)) (.nil _))))
   refine ⟨.inr hc7,?_⟩
   refine Aj rfl (fun _ _=>Au rfl) (Aj rfl (fun _ _=>Al rfl (Ak rfl)) (BP rfl (AU rfl rfl (Bd hrow7) (AH rfl) (hc7.get (.tail _ (.tail _ (.tail _ (.head _))))) (hfree _)) (.inl rfl) (AP (Ap (Aa ?_)))))
   have hcV9:(W7.setCell ⟨(L8.home (.preds z.toNat)).1,(L8.home (.preds z.toNat)).2,none⟩ v7).cell? ⟨V,0+1,none⟩=some (.int .i64 (f.b i).ctrl):=
    Dd (hkeep _ _ hcV (hoff8.1 _ rfl hzl)) (hoff8.home (τ:=.preds z.toNat) rfl hzl)
   have hoff9:=hoff8.app (τ:=.preds z.toNat) (n:=Wd.heap.size) (ys:=(({ gS f i k with succs:=BJ (succsOf f) i (k+1) }:Gph)).lst (.preds z.toNat) ++ [i]) hwh7 (by omega) rfl hzl
   have hgeq2:({ gS f i k with succs:=BJ (succsOf f) i (k+1) }:Gph).setL (.preds z.toNat) (({ gS f i k with succs:=BJ (succsOf f) i (k+1) }:Gph).lst (.preds z.toNat) ++ [i])=gS f i (k+1):=by
    show ({ gS f i k with succs:=_,preds:=_ }:Gph)=_
    unfold gS
    rw[← hstep2]
    rfl
   rw[hgeq2] at hG hoff9
   refine Ac (Ab (x_inc rfl rfl (by omega)) rfl (Ab Ad rfl (Af ?_)))
   exact Aw ((f.b i).succs.length - (k+1)) (by omega) ⟨k+1,L8.setSl (.preds z.toNat) v7 Wd.heap.size,by omega,Ar rfl ⟨rfl,rfl,rfl,rfl,rfl,rfl,rfl,rfl,rfl,rfl,trivial⟩,hG,hbD.trans hBG,hcV9,hoff9,rfl⟩
  rintro e wx ⟨L,⟨t,rfl⟩,h,hb,hcV⟩
  have hg1:gS f i (f.b i).succs.length= { gS f (i+1) 0 with ctrl:=fun x=>if x<i then Cu f x else [] }:=by
   have h1:=part_next (succsOf f) i
   rw[show (succsOf f i).length=(f.b i).succs.length by simp [succsOf]] at h1
   unfold gS
   rw[h1,DK]
  obtain ⟨hc1,hc2⟩:=wf.ctrl i hlt
  refine Ae (Ac (Ab (Al rfl (Ak rfl)) rfl (Ab (Ai rfl (Ag rfl) ‹_›) rfl ?_)))
  refine Ab (CJ rfl rfl) rfl (Af (Aa ?_))
  refine AI rfl rfl (fun hpos=>?_) (fun hneg=>?_)
  rotate_left
  ·have hneg:¬ 0≤(f.b i).ctrl:=hneg
   have hgeq:gS f i (f.b i).succs.length=gS f (i+1) 0:=by
    rw[hg1]
    have:(fun x=>if x<i then Cu f x else [])=fun x=>if x<i+1 then Cu f x else []:=by
     funext x
     by_cases e2:x<i
     ·rw[if_pos e2,if_pos (by omega)]
     rw[if_neg e2]
     by_cases e:x=i
     ·subst e;rw[if_pos (Nat.lt_succ_self _)];unfold Cu;rw[if_neg hneg]
     rw[if_neg (by omega)]
    rw[this]
    rfl
   rw[hgeq] at h
   refine Aq (Ap (Aa (Ac (Ab (x_inc rfl rfl (by omega)) rfl (Ab Ad rfl (Af ?_))))))
   exact Aw (f.blks.length - (i+1)) (by omega) ⟨i+1,L,by omega,Ar rfl ⟨rfl,rfl,rfl,rfl,rfl,trivial⟩,h,hb,rfl⟩
  have hpos:0≤(f.b i).ctrl:=hpos
  have hzz:(f.b i).ctrl=(((f.b i).ctrl.toNat:Nat):Int):=by omega
  have hzl:(f.b i).ctrl.toNat<f.vals.length:=by omega
  have hD:=h.drew
  have hbD:=hb.drew
  obtain ⟨bf,cf,hfb,_,hei,_⟩:=hD.fblocksE (k:=i) hlt
  obtain ⟨bv,cv',hfv,_,hez,_⟩:=hD.fvaluesE (k:=(f.b i).ctrl.toNat) hzl
  have hf1:=hD.fBlocks
  rw[hfb] at hf1
  have hf2:=hD.fValues
  rw[hfv] at hf2
  have hcl:=hD.bCtrl (i:=i) hlt
  have hcV:=Keep.drew wx _ _ hcV
  have hBD:=hD.baseLe'
  have hfr:∀o,wx.drew.frozen? ⟨L.bb i,o,none⟩=false:=fun o=>AQ (hD.blk hlt)
  refine AY mixed (Cells [(⟨L.fb,0+1,none⟩,.slice (some ⟨bf,0,none⟩) f.blks.length cf),(⟨bf,0+i,none⟩,L.bp i),(⟨L.fb,0+2,none⟩,.slice (some ⟨bv,0,none⟩) f.vals.length cv'),(⟨bv,0+(f.b i).ctrl.toNat,none⟩,L.vp (f.b i).ctrl.toNat),(⟨V,0+1,none⟩,.int .i64 (f.b i).ctrl),(⟨L.bb i,0+6,none⟩,L.sl (.ctrl i))]) [(0,false),(1,false),(2,false),(3,false),(4,false),(5,false),(6,false),(7,false),(8,false),(9,false),(10,false),(11,false),(12,false),(13,false),(14,false),(15,true),(16,false),(17,false),(18,true)] (by kernel_rfl)
   (.cons hf1 (.cons hei (.cons hf2 (.cons hez (.cons hcV (.cons hcl (.nil _))))))) ?_
  generalize wx.drew=Wd at hD hbD hf1 hei hf2 hez hcV hcl hBD hfr ⊢
  have hc0:Cells [(⟨L.fb,0+1,none⟩,.slice (some ⟨bf,0,none⟩) f.blks.length cf),(⟨bf,0+i,none⟩,L.bp i),(⟨L.fb,0+2,none⟩,.slice (some ⟨bv,0,none⟩) f.vals.length cv'),(⟨bv,0+(f.b i).ctrl.toNat,none⟩,L.vp (f.b i).ctrl.toNat),(⟨V,0+1,none⟩,.int .i64 (f.b i).ctrl),(⟨L.bb i,0+6,none⟩,L.sl (.ctrl i))] Wd:=.cons hf1 (.cons hei (.cons hf2 (.cons hez (.cons hcV (.cons hcl (.nil _))))))
  refine Aj rfl (fun _ _=>Ad) (Aj rfl (fun _ _=>Au rfl) (Aj rfl (fun _ _=>Al rfl (Ak rfl)) (Aj rfl (fun _ hS=>Ai rfl (Ag rfl) (hS.get (by first|exact mm0|exact mm1|exact mm2|exact mm3|exact mm4|exact mm5|exact mm6|exact mm7))) ?_)))
  refine Aj rfl (fun _ _=>Ad) (Aj rfl (fun _ _=>x_index1 rfl rfl (An rfl) (by omega)) (Aj rfl (fun _ hS=>Ai rfl (Ag rfl) (hS.get (by first|exact mm0|exact mm1|exact mm2|exact mm3|exact mm4|exact mm5|exact mm6|exact mm7))) ?_))
  refine Aj rfl (fun _ _=>Ad) (Aj rfl (fun _ _=>Au rfl) (Aj rfl (fun _ _=>Al rfl (Ak rfl)) (Aj rfl (fun _ hS=>Ai rfl (Ag rfl) (hS.get (by first|exact mm0|exact mm1|exact mm2|exact mm3|exact mm4|exact mm5|exact mm6|exact mm7))) ?_)))
  refine Aj rfl (fun _ _=>Al rfl (Ak rfl)) (Aj rfl (fun _ hS=>Ai rfl (Ag rfl) (hS.get (by first|exact mm0|exact mm1|exact mm2|exact mm3|exact mm4|exact mm5|exact mm6|exact mm7))) ?_)
  refine Aj rfl (fun _ _=>Ba rfl rfl hzz (An rfl) hzl) (Aj rfl (fun _ hS=>Ai rfl (Ag rfl) (hS.get (by first|exact mm0|exact mm1|exact mm2|exact mm3|exact mm4|exact mm5|exact mm6|exact mm7))) ?_)
  refine BK rfl (Bo rfl rfl Tryz.underlying78 (by kernel_rfl) (z:=.pointer none) rfl) (.inr (hc0.alloc _)) ?_
  have hc6:=hc0.alloc (.cells #[L.vp (f.b i).ctrl.toNat] 97)
  refine dl_new (.cells #[L.vp (f.b i).ctrl.toNat] 97) B (by omega) fun W6 hN6 hO6 hZ6 hB6 hK6=>(Aj rfl (fun _ _=>Au rfl) (Aj rfl (fun _ _=>Al rfl (Ak rfl)) ?_))
  refine BP rfl (AU rfl rfl rfl (AH rfl) (hK6 _ _ hcl) ?_) (.inl rfl) ?_
  ·exact AQ ((hO6 _ (hD.blkLt hlt)).trans (hD.blk hlt))
  refine AP (Ap (Aa ?_))
  have hG:=GRep.setL (τ:=.ctrl i) (w1:=W6) (v:=.slice (some ⟨Wd.heap.size,0,none⟩) 1 1) (ys:=[(f.b i).ctrl.toNat]) hD rfl hlt
   ⟨rfl,.inr ⟨Wd.heap.size,1,#[L.vp (f.b i).ctrl.toNat],rfl,hBD,hN6,Nat.le_refl _,by decide,rfl,rfl⟩⟩
   (fun j hj _=>hO6 j hj) (fun j hj=>.inr (Nat.le_of_eq (Option.some.inj hj)))
  have hbG:=(hbD.trans hB6).setCell (p:=⟨L.bb i,0+6,none⟩) (hD.tags.bbB _ hlt) (.slice (some ⟨Wd.heap.size,0,none⟩) 1 1)
  have hgeq:(gS f i (f.b i).succs.length).setL (.ctrl i) [(f.b i).ctrl.toNat]=gS f (i+1) 0:=by
   rw[hg1]
   show ({ gS f (i+1) 0 with ctrl:=fun x=>if x=i then [(f.b i).ctrl.toNat] else if x<i then Cu f x else [] }:Gph)=_
   have:(fun x=>if x=i then [(f.b i).ctrl.toNat] else if x<i then Cu f x else [])=fun x=>if x<i+1 then Cu f x else []:=by
    funext x
    by_cases e:x=i
    ·subst e;rw[if_pos rfl,if_pos (Nat.lt_succ_self _)];unfold Cu;rw[if_pos hpos]
    rw[if_neg e]
    by_cases e2:x<i
    ·rw[if_pos e2,if_pos (by omega)]
    rw[if_neg e2,if_neg (by omega)]
   rw[this]
   rfl
  rw[hgeq] at hG
  refine Ac (Ab (x_inc rfl rfl (by omega)) rfl (Ab Ad rfl (Af ?_)))
  exact Aw (f.blks.length - (i+1)) (by omega) ⟨i+1,L.setSl (.ctrl i) (.slice (some ⟨Wd.heap.size,0,none⟩) 1 1) Wd.heap.size,by omega,Ar rfl ⟨rfl,rfl,rfl,rfl,rfl,trivial⟩,hG,hbG,rfl⟩
 rintro e w2 ⟨L,⟨t,rfl⟩,h,hb⟩
 rw[gS_full] at h
 have hn1:=wf.one
 obtain ⟨bf,cf,hfv,hof,hei,_⟩:=h.fblocksE (k:=0) (show 0<f.blks.length from hn1)
 have hf1:=h.fBlocks
 rw[hfv] at hf1
 have hen:=h.fEntry
 have hfr:∀o,w2.frozen? ⟨L.fb,o,none⟩=false:=fun o=>AQ (h.comp .fn)
 have hnb:(toG f).nb=f.blks.length:=rfl
 rw[hnb] at hf1
 refine Ae (Ae (Ac (Ab Ad rfl (Ab (Au rfl) rfl (Ab (Al rfl (Ak rfl)) rfl (Ab (Ai rfl (Ag rfl) ‹_›) rfl ?_))))))
 refine Ab (AN rfl (An rfl)) rfl (Ab (BE rfl rfl) rfl (Af (Aa ?_)))
 refine AI rfl rfl (fun _=>?_) (fun hz=>absurd (show (0:Int)<(f.blks.length:Int) from by omega) hz)
 refine Ac (Ab Ad rfl (Ab Ad rfl (Ab (Au rfl) rfl (Ab (Al rfl (Ak rfl)) rfl (Ab (Ai rfl (Ag rfl) ‹_›) rfl ?_)))))
 refine Ab (x_index0 rfl rfl (An rfl) (by omega)) rfl (Ab (Ai rfl (Ag rfl) ‹_›) rfl ?_)
 refine Ab (Au rfl) rfl (Ab (Al rfl (Ak rfl)) rfl (Bc (AU rfl rfl rfl (AH rfl) hen (hfr _)) rfl (Af (Aa ?_))))
 have hG:=h.setEntry (some ⟨L.bb 0,0,none⟩)
 have hbG:=hb.setCell (p:=⟨L.fb,0+0,none⟩) h.tags.fbB (.pointer (some ⟨L.bb 0,0,none⟩))
 refine Ae (Ac (Ab Ad rfl (Ab Ah rfl (Af (Aa (AE ?_))))))
 exact Az rfl rfl rfl ⟨B,{ L with entry:=some ⟨L.bb 0,0,none⟩ },by omega,rfl,rfl,hG,hbel0.trans (hbG.mono (by omega))⟩
end Go.Proofs.YteepnepebilckaaGreatDoor
