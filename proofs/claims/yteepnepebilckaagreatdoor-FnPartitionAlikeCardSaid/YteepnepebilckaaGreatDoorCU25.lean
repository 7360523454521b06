/- The law FnPartitionAlike returns true for every input in which the opcode table reads as laid, and its argument reads as it did, the table being tied to the text of the program. -/
import Derived.Test.YteepnepebilckaaGreatDoorCU24
namespace Go.Proofs.YteepnepebilckaaGreatDoor
open Go Go.Eng Go.RowKit Go.Shelf
def Gph.wa (g:Gph) (A:Nat→List Nat):Gph:= { g with args:=A }
theorem SwO.mem {g0 g:Gph} (s:SwO g0 g) (v:Nat):(g.args v).length=(g0.args v).length∧∀x,x∈g.args v→x∈g0.args v:=by
 rcases s.args v with h1|⟨_,a,b,h1,h2⟩
 ·rw[h1];exact ⟨rfl,fun _ h=>h⟩
 rw[h1,h2]
 exact ⟨rfl,fun x hx=>by simp at hx ⊢;rcases hx with h|h;exact .inr h;exact .inl h⟩
section
variable {g : Gph} {fw : Prop} {A : Nat → List Nat} {arr : Nat → Nat} {cls : Nat → Int} {P : List (Nat × Nat)} {rw : Nat → Option Nat}
theorem CseR.sw (h:CseR g fw A arr cls P rw):SwO g (g.wa A):=by
 obtain ⟨_,h1⟩:=h.pj
 exact h1.sw
end
def Tabl (w:World):Prop:=∀k,k<21→w.cell? ⟨0,k,none⟩=some (.bool (comm k))
theorem Tabl.pos {w:World} (h:Tabl w):0<w.heap.size:=by
 have h1:=h 0 (by decide)
 refine Classical.byContradiction fun h2=>?_
 have h3:w.heap[0]? =none:=Array.getElem?_eq_none (by omega)
 simp [World.cell?,h3] at h1
theorem Tabl.keep {w w':World} (h:Tabl w) (k:Keep w w'):Tabl w':=fun j hj=>k _ _ (h j hj)
theorem toG_ty (f:Fn):∀x y,(toG f).op x=(toG f).op y→(toG f).ty x=(toG f).ty y:=fun x y e=>by
 show (if 10≤(f.v x).op∧(f.v x).op≤12 then (1:Int) else 0)=if 10≤(f.v y).op∧(f.v y).op≤12 then 1 else 0
 rw[show (f.v x).op=(f.v y).op from e]
set_option maxHeartbeats 4000000
attribute [local irreducible] EC EL DL Ret thenQ blockQ Bd bodyQ onlyN execOp Sem.run World.cell? World.frozen? World.setCell World.alloc
theorem ssaPart_ret {w:World} {x:Value} {f:Fn} {fw:Prop} (hx:FnV w x f) (hP:GoodP f) (ht:Tabl w) (hfw:fw→FewG (toG f)):
 Ret Tryz.prog 28 #[x] w fun v w'=>(∃A arr cls P rw us,CseR (toG f) fw A arr cls P rw∧LLs w' w.heap.size v us (P.map fun p=>BC (clsL arr p)))∧Below w.heap.size w w':=by
 obtain ⟨xv,xb,rfl,hvals,hblks⟩:=hx
 refine ret_of_EC Tryz.func28 rfl rfl ?_
 obtain ⟨B,hBd⟩:∃B,B=w.heap.size:=⟨_,rfl⟩
 refine Ae (Ac (Ab (Bw (v:=.agg #[xv,xb]) rfl) rfl (el_new (.cells #[xv,xb] 62) B (by omega) fun wb hN1 hO1 hZ1 hB1 hK1=>(Ab Ah rfl (Af (Aa ?_))))))
 have hK:Keep w wb:=hK1
 have hx':FnV wb (.agg #[xv,xb]) f:=⟨xv,xb,rfl,hvals.keep hK,hblks.keep hK⟩
 refine Ae (Ac (Ab (A5 (cs:=[xv,xb]) rfl (A3 rfl) (Bh hN1)) rfl (Be (AJ Tryz.func40 rfl rfl rfl rfl) rfl (build_ret hx' hP.wf) ?_)))
 rintro v1 w1 ⟨B1,L,hB1',rfl,hent,hg1,hbl1⟩
 refine Ab Ah rfl (Af (Aa ?_))
 have htp:=ht.pos
 have ht1:Tabl w1:=(ht.keep hK).keep (Keep.of_below hbl1 (Nat.le_refl _))
 refine Ae (Ac (Ab Ad rfl (Be (AJ Tryz.func41 rfl rfl rfl rfl) rfl (cse_ret hg1 (by omega) hP.good rfl (toG_ty f) hent ht1 hfw) ?_)))
 rintro v2 w2 ⟨rfl,A,arr,cls,P,rw,r,cv,us,hR,hg2,hL,hbl2⟩
 refine Af (Aa ?_)
 have hcl:w2.cell? ⟨L.fb,0+5,none⟩=some cv:=Am (hg2.comp .fn) rfl
 have hz1:=hbl1.size
 refine Ae (Ac (Ab Ad rfl (Ab (Ay rfl) rfl (Ab (Ak rfl (Al rfl)) rfl (Ab (Ai rfl (Ag rfl) ‹_›) rfl ?_)))))
 refine Ab Ah rfl (Af (Aa (AF ?_)))
 refine Aw rfl rfl rfl ⟨⟨A,arr,cls,P,rw,us,hR,hL.on2 (by omega) fun _ _ _ _=>rfl⟩,?_⟩
 rw[← hBd]
 exact hB1.trans ((hbl1.trans (hbl2.mono (by omega))).mono (by omega))
theorem implPart_ret {w:World} {x:Value} {f:Fn} {fw:Prop} (hx:FnV w x f) (hP:GoodP f) (ht:Tabl w) (hfw:fw→FewG (toG f)):
 Ret Tryz.prog 11 #[x] w fun v w'=>(∃A arr cls P rw us,CseR (toG f) fw A arr cls P rw∧LLs w' w.heap.size v us (P.map fun p=>BC (clsL arr p)))∧Below w.heap.size w w':=by
 obtain ⟨xv,xb,rfl,hvals,hblks⟩:=hx
 refine ret_of_EC Tryz.func11 rfl rfl ?_
 obtain ⟨B,hBd⟩:∃B,B=w.heap.size:=⟨_,rfl⟩
 refine Ae (Ac (Ab (Bw (v:=.agg #[xv,xb]) rfl) rfl (el_new (.cells #[xv,xb] 25) B (by omega) fun wb hN1 hO1 hZ1 hB1 hK1=>(Ab Ah rfl (Af (Aa ?_))))))
 have hK:Keep w wb:=hK1
 have hx':FnV wb (.agg #[xv,xb]) f:=⟨xv,xb,rfl,hvals.keep hK,hblks.keep hK⟩
 refine Ae (Ac (Ab (A5 (cs:=[xv,xb]) rfl (A3 rfl) (Bh hN1)) rfl (Be (AJ Tryz.func29 rfl rfl rfl rfl) rfl (impl_conv_ret hx' hP.wf) ?_)))
 rintro v1 w1 ⟨hv1,hbl1⟩
 refine Be (AJ Tryz.func28 rfl rfl rfl rfl) rfl (ssaPart_ret hv1.at hP ((ht.keep hK).keep (Keep.of_below hbl1 (Nat.le_refl _))) hfw) ?_
 rintro v2 w2 ⟨⟨A,arr,cls,P,rw,us,hR,hL⟩,hbl2⟩
 have hz1:=hbl1.size
 refine Ab Ah rfl (Af (Aa (AF ?_)))
 refine Aw rfl rfl rfl ⟨⟨A,arr,cls,P,rw,us,hR,hL.on2 (by omega) fun _ _ _ _=>rfl⟩,?_⟩
 rw[← hBd]
 exact hB1.trans ((hbl1.trans (hbl2.mono (by omega))).mono (by omega))
end Go.Proofs.YteepnepebilckaaGreatDoor
