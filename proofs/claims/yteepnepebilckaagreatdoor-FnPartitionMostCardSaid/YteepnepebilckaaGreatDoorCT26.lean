/- For every input in which the opcode table reads as laid the law FnPartitionMost returns true, and its argument reads as it did, the table being tied to the text of the program. -/
import Derived.Test.YteepnepebilckaaGreatDoorCT25
namespace Go.Proofs.YteepnepebilckaaGreatDoor
open Go Go.Eng Go.RowKit Go.Shelf
theorem Du : Bw Tryz.prog 78 #[.slice none 0 0] := by unfold Bw; kernel_rfl
theorem D2 : Bw Tryz.prog 110 #[.slice none 0 0] := by unfold Bw; kernel_rfl
def D48 (fbx abx : Nat) : Deferred := ⟨.fn (.func 48) #[.pointer (some ⟨fbx, 0, none⟩), .pointer (some ⟨abx, 0, none⟩)], #[]⟩
def planA : PT := .rd 0 (.rd 1 (.rd 2 (.rd 3 (.rd 4 (.fork 5 (.fork 6 (.wr false 7 (.wr false 8 .nil)) 7 (.wr false 6 (.wr false 8 .nil))) 7 (.wr false 5 (.wr false 6 (.wr false 8 .nil))))))))
theorem Ff {w : World} (v : Value) : Ret Tryz.prog 49 #[.agg #[], v] w fun _ w' => Below w.heap.size w w' := by
 refine ret_of_EC (l := [.agg #[], v]) Tryz.func49 rfl rfl (Ac (Ab (Bu (v := .agg #[]) rfl) rfl (Af ?_)))
 exact BB rfl rfl ((Below.refl _ w).alloc (Nat.le_refl _) _)
set_option maxHeartbeats 4000000
attribute [local irreducible] EC EL DL Ret thenQ blockQ Bf bodyQ onlyN execOp Sem.run World.cell? World.frozen? World.setCell World.alloc
theorem idle48 {w : World} {fbx abx n m b0 : Nat} {p : Option Addr} {cs : Array Value} (hfn : w.heap[b0]? = some (.cells cs 82 (0, 0))) (hf : w.heap[fbx]? = some (.cells #[.pointer (some ⟨b0, 0, none⟩)] 71 (0, 0)))
 (ha : w.heap[abx]? = some (.cells #[.slice p n m] 78 (0, 0))) : Ec Tryz.prog w (D48 fbx abx) := by
 refine ⟨_, _, 48, #[.pointer (some ⟨fbx, 0, none⟩), .pointer (some ⟨abx, 0, none⟩)], rfl, fun w => ?_, fun u w1 hb => callsD_of_EC (l := [.pointer (some ⟨fbx, 0, none⟩), .pointer (some ⟨abx, 0, none⟩)]) Tryz.func48 rfl rfl ?_⟩
 ·have hn' : ¬ Tryz.f48.name = "runtime.NumGoroutine" := by decide
  have hb' : ¬ Tryz.f48.body = none := by simp [Tryz.f48]
  simp [D48, invoke, callFunc, Tryz.func48, hb', hn']
 have hfn1 := (hb.block _ (Array.getElem?_eq_some_iff.1 hfn).1).trans hfn
 have hf1 := (hb.block _ (Array.getElem?_eq_some_iff.1 hf).1).trans hf
 have ha1 := (hb.block _ (Array.getElem?_eq_some_iff.1 ha).1).trans ha
 have hfc : w1.drew.cell? ⟨fbx, 0, none⟩ = some (.pointer (some ⟨b0, 0, none⟩)) := Keep.drew w1 _ _ (Am hf1 rfl)
 have hac : w1.drew.cell? ⟨abx, 0, none⟩ = some (.slice p n m) := Keep.drew w1 _ _ (Am ha1 rfl)
 have hbd : Below w1.heap.size w1 w1.drew := ⟨rfl, rfl, rfl, Nat.le_refl _, fun _ _ => rfl⟩
 have hfn2 : w1.drew.heap[b0]? = some (.cells cs 82 (0, 0)) := hfn1
 refine AZ mixed (fun w' => w' = w1.drew) [(0, false), (1, false), (2, false), (3, false), (4, false), (5, true)] (by kernel_rfl) rfl ?_
 generalize w1.drew = W at *
 refine Aj rfl (fun _ hS => Ai rfl (Ag rfl) (by cases hS; with_reducible assumption)) ?_
 refine Aj rfl (fun _ _ => Ax rfl) (Aj rfl (fun _ hS => by cases hS; exact BY rfl hfn2) ?_)
 refine Aj rfl (fun _ hS => BX rfl) (Aj rfl (fun _ hS => Ai rfl (Ag rfl) (by cases hS; with_reducible assumption)) ?_)
 refine BL rfl (AH Tryz.func49 rfl rfl rfl rfl) (Ff _) ?_
 intro v w2 hb2
 refine ⟨.inl rfl, ?_⟩
 refine AR ?_
 exact BB rfl rfl (hbd.trans (hb2.mono hbd.size))
theorem cseA0 {w : World} {B : Nat} {L : Lay} {g : Gph} {Q : Exit → Env → World → Prop} (hg : GRep w B L g) (hn : g.nv ≤ 48)
 (h : ∀ t w' fbx abx A, w.heap.size ≤ fbx → w.heap.size ≤ abx → w.heap.size ≤ A → fbx ≠ abx → fbx ≠ A → abx ≠ A → Below w.heap.size w w' → w'.heap[fbx]? = some (.cells #[L.fp] 71 (0, 0)) →
   w'.heap[abx]? = some (.cells #[.slice (some ⟨A, 0, none⟩) (g.nv + 1) (g.nv + 1)] 78 (0, 0)) → w'.heap[A]? = some (.cells (cellsOf (fun _ => .pointer none) (g.nv + 1)) 97 (0, 0)) →
   EC Tryz.prog Tryz.f41.ntmps (dropC 2 BW) Q (Env.sets ⟨t, []⟩ [(1, .pointer (some ⟨fbx, 0, none⟩)), (2, .pointer (some ⟨abx, 0, none⟩))]) w') :
 EC Tryz.prog Tryz.f41.ntmps (dropC 0 BW) Q ⟨env0 [L.fp] 0, []⟩ w := by
 refine Ae (Ac (Ab (Bu (v := L.fp) rfl) rfl ?_))
 obtain ⟨fbx, hfbx⟩ : ∃ fbx, fbx = w.heap.size := ⟨_, rfl⟩
 refine el_new0 (.cells #[L.fp] 71) fun wa hN1 hO1 hZ1 hB1 hK1 => ?_
 rw [← hfbx] at hN1 h ⊢
 refine Af (Aa ?_)
 have hga := hg.on hB1
 have hfba := Bq hg
 refine AX (fun e w' => ∃ abx A, fbx ≤ abx ∧ fbx ≤ A ∧ fbx ≠ abx ∧ fbx ≠ A ∧ abx ≠ A ∧ Below wa.heap.size wa w' ∧
  w'.heap[abx]? = some (.cells #[.slice (some ⟨A, 0, none⟩) (g.nv + 1) (g.nv + 1)] 78 (0, 0)) ∧ w'.heap[A]? = some (.cells (cellsOf (fun _ => .pointer none) (g.nv + 1)) 97 (0, 0)) ∧
  At e [(1, .pointer (some ⟨fbx, 0, none⟩)), (2, .pointer (some ⟨abx, 0, none⟩))]) ?_ ?_
 ·refine Dp mixed (fun w' => Below wa.heap.size wa w') planA (by kernel_rfl) ⟨rfl, rfl, rfl, Nat.le_refl _, fun _ _ => rfl⟩ ?_
  have hfc : ∀ W, Below wa.heap.size wa W → W.cell? ⟨fbx, 0, none⟩ = some L.fp := fun W hb => Am ((hb.block fbx (by omega)).trans hN1) rfl
  have hgW : ∀ W, Below wa.heap.size wa W → GRep W B L g := fun W hb => hga.on hb
  have hbd : Below wa.heap.size wa wa.drew := ⟨rfl, rfl, rfl, Nat.le_refl _, fun _ _ => rfl⟩
  generalize wa.drew = W0 at hbd ⊢
  refine Bv rfl (fun _ hS => Ai rfl (Ag rfl) (hfc _ hS)) (Bv rfl (fun _ _ => Ax rfl) (Bv rfl (fun _ hS => BY rfl ((hgW _ hS).comp .fn)) (Bv rfl (fun _ _ => BX rfl) (Bv rfl (fun _ hS => Ai rfl (Ag rfl) (hfc _ hS)) ?_))))
  refine De ?_ ?_
  ·refine CR rfl (AH Tryz.func47 rfl rfl rfl rfl) (NumValues_ret (hgW _ hbd) hn) ?_
   rintro _ wx ⟨rfl, ew⟩
   rw [ew]
   clear ew wx
   refine ⟨.inr hbd, ?_⟩
   refine De ?_ ?_
   ·refine CR rfl (AH Tryz.func46 rfl rfl rfl rfl) (CK (n := g.nv + 1) (by omega)) ?_
    rintro _ W1 ⟨A, rfl, hAg, hAc, hAb⟩
    have hszd := hbd.size
    have hbA := hbd.trans (hAb.mono hszd)
    refine ⟨.inr hbA, ?_⟩
    refine CG rfl (Bb Du) ?_
    obtain ⟨abx, habx⟩ : ∃ abx, abx = W1.heap.size := ⟨_, rfl⟩
    have hszb := hbA.size
    have hbB := hbA.trans ((Below.refl W1.heap.size W1).alloc (Nat.le_refl _) (.cells #[.slice none 0 0] 78) |>.mono hszb)
    have hNb := heap_alloc_new W1 (.cells #[.slice none 0 0] 78)
    have hOb : ∀ zz, zz < W1.heap.size → (W1.alloc (.cells #[.slice none 0 0] 78)).heap[zz]? = W1.heap[zz]? := fun _ hi => Below.heap_alloc _ _ _ hi
    have hZb := Bx W1 (.cells #[.slice none 0 0] 78)
    rw [← habx] at hNb ⊢
    refine ⟨.inr hbB, ?_⟩
    generalize W1.alloc (.cells #[.slice none 0 0] 78) = W2 at hbB hNb hOb hZb ⊢
    have hA2 : W2.heap[A]? = some (.cells (cellsOf (fun _ => .pointer none) (g.nv + 1)) 97 (0, 0)) := (hOb A (Array.getElem?_eq_some_iff.1 hAc).1).trans hAc
    have hAl := (Array.getElem?_eq_some_iff.1 hAc).1
    refine Cv rfl (AV (v := .slice (some ⟨A, 0, none⟩) (g.nv + 1) (g.nv + 1)) rfl rfl rfl (AM rfl) (old := .slice none 0 0) (Am hNb rfl) (AT hNb)) ?_
    have hSa := AE (o := 0) (u := .slice (some ⟨A, 0, none⟩) (g.nv + 1) (g.nv + 1)) hNb
    have hSA : abx ≠ A → (W2.setCell ⟨abx, 0, none⟩ (.slice (some ⟨A, 0, none⟩) (g.nv + 1) (g.nv + 1))).heap[A]? = some (.cells (cellsOf (fun _ => .pointer none) (g.nv + 1)) 97 (0, 0)) := fun hh => (Below.heap_setCell _ _ _ _ (fun e => hh e.symm)).trans hA2
    have hbS := hbB.setCell (p := ⟨abx, 0, none⟩) (show wa.heap.size ≤ abx by omega) (.slice (some ⟨A, 0, none⟩) (g.nv + 1) (g.nv + 1))
    refine ⟨.inr hbS, ?_⟩
    refine CE ?_
    exact AU ⟨abx, A, by omega, by omega, by omega, by omega, by omega, hbS, hSa, hSA (by omega), Ar rfl ⟨rfl, rfl, trivial⟩⟩
   refine CG rfl (Bb Du) ?_
   obtain ⟨abx, habx⟩ : ∃ abx, abx = W0.heap.size := ⟨_, rfl⟩
   have hszb := hbd.size
   have hbB := hbd.trans ((Below.refl W0.heap.size W0).alloc (Nat.le_refl _) (.cells #[.slice none 0 0] 78) |>.mono hszb)
   have hNb := heap_alloc_new W0 (.cells #[.slice none 0 0] 78)
   have hOb : ∀ zz, zz < W0.heap.size → (W0.alloc (.cells #[.slice none 0 0] 78)).heap[zz]? = W0.heap[zz]? := fun _ hi => Below.heap_alloc _ _ _ hi
   have hZb := Bx W0 (.cells #[.slice none 0 0] 78)
   rw [← habx] at hNb ⊢
   refine ⟨.inr hbB, ?_⟩
   generalize W0.alloc (.cells #[.slice none 0 0] 78) = W1 at hbB hNb hOb hZb ⊢
   have hbl := (Array.getElem?_eq_some_iff.1 hNb).1
   refine CR rfl (AH Tryz.func46 rfl rfl rfl rfl) (CK (n := g.nv + 1) (by omega)) ?_
   rintro _ W2 ⟨A, rfl, hAg, hAc, hAb⟩
   have hszd := hbB.size
   have hbA := hbB.trans (hAb.mono hszd)
   refine ⟨.inr hbA, ?_⟩
   have hA2 := hAc
   replace hNb := (hAb.block abx hbl).trans hNb
   replace hbB := hbA
   refine Cv rfl (AV (v := .slice (some ⟨A, 0, none⟩) (g.nv + 1) (g.nv + 1)) rfl rfl rfl (AM rfl) (old := .slice none 0 0) (Am hNb rfl) (AT hNb)) ?_
   have hSa := AE (o := 0) (u := .slice (some ⟨A, 0, none⟩) (g.nv + 1) (g.nv + 1)) hNb
   have hSA : abx ≠ A → (W2.setCell ⟨abx, 0, none⟩ (.slice (some ⟨A, 0, none⟩) (g.nv + 1) (g.nv + 1))).heap[A]? = some (.cells (cellsOf (fun _ => .pointer none) (g.nv + 1)) 97 (0, 0)) := fun hh => (Below.heap_setCell _ _ _ _ (fun e => hh e.symm)).trans hA2
   have hbS := hbB.setCell (p := ⟨abx, 0, none⟩) (show wa.heap.size ≤ abx by omega) (.slice (some ⟨A, 0, none⟩) (g.nv + 1) (g.nv + 1))
   refine ⟨.inr hbS, ?_⟩
   refine CE ?_
   exact AU ⟨abx, A, by omega, by omega, by omega, by omega, by omega, hbS, hSa, hSA (by omega), Ar rfl ⟨rfl, rfl, trivial⟩⟩
  refine CG rfl (Bb Du) ?_
  obtain ⟨abx, habx⟩ : ∃ abx, abx = W0.heap.size := ⟨_, rfl⟩
  have hszb := hbd.size
  have hbB := hbd.trans ((Below.refl W0.heap.size W0).alloc (Nat.le_refl _) (.cells #[.slice none 0 0] 78) |>.mono hszb)
  have hNb := heap_alloc_new W0 (.cells #[.slice none 0 0] 78)
  have hOb : ∀ zz, zz < W0.heap.size → (W0.alloc (.cells #[.slice none 0 0] 78)).heap[zz]? = W0.heap[zz]? := fun _ hi => Below.heap_alloc _ _ _ hi
  have hZb := Bx W0 (.cells #[.slice none 0 0] 78)
  rw [← habx] at hNb ⊢
  refine ⟨.inr hbB, ?_⟩
  generalize W0.alloc (.cells #[.slice none 0 0] 78) = W1 at hbB hNb hOb hZb ⊢
  have hbl := (Array.getElem?_eq_some_iff.1 hNb).1
  have hbd0 := hbd
  replace hbd := hbB
  refine CR rfl (AH Tryz.func47 rfl rfl rfl rfl) (NumValues_ret (hgW _ hbd) hn) ?_
  rintro _ wx ⟨rfl, ew⟩
  rw [ew]
  clear ew wx
  refine ⟨.inr hbd, ?_⟩
  refine CR rfl (AH Tryz.func46 rfl rfl rfl rfl) (CK (n := g.nv + 1) (by omega)) ?_
  rintro _ W2 ⟨A, rfl, hAg, hAc, hAb⟩
  have hszd := hbB.size
  have hbA := hbB.trans (hAb.mono hszd)
  refine ⟨.inr hbA, ?_⟩
  have hA2 := hAc
  replace hNb := (hAb.block abx hbl).trans hNb
  replace hbB := hbA
  refine Cv rfl (AV (v := .slice (some ⟨A, 0, none⟩) (g.nv + 1) (g.nv + 1)) rfl rfl rfl (AM rfl) (old := .slice none 0 0) (Am hNb rfl) (AT hNb)) ?_
  have hSa := AE (o := 0) (u := .slice (some ⟨A, 0, none⟩) (g.nv + 1) (g.nv + 1)) hNb
  have hSA : abx ≠ A → (W2.setCell ⟨abx, 0, none⟩ (.slice (some ⟨A, 0, none⟩) (g.nv + 1) (g.nv + 1))).heap[A]? = some (.cells (cellsOf (fun _ => .pointer none) (g.nv + 1)) 97 (0, 0)) := fun hh => (Below.heap_setCell _ _ _ _ (fun e => hh e.symm)).trans hA2
  have hbS := hbB.setCell (p := ⟨abx, 0, none⟩) (show wa.heap.size ≤ abx by omega) (.slice (some ⟨A, 0, none⟩) (g.nv + 1) (g.nv + 1))
  refine ⟨.inr hbS, ?_⟩
  refine CE ?_
  exact AU ⟨abx, A, by omega, by omega, by omega, by omega, by omega, hbS, hSa, hSA (by omega), Ar rfl ⟨rfl, rfl, trivial⟩⟩
 rintro e w' ⟨abx, A, h1, h2, h3, h4, h5, hb, h6, h7, ⟨t, rfl⟩⟩
 exact h t w' fbx abx A (Nat.le_refl _) h1 h2 h3 h4 h5 (by rw [hfbx]; exact hB1.trans (hb.mono (by omega))) ((hb.block fbx (by omega)).trans hN1) h6 h7
theorem cseA1 {w0 w : World} {B fbx abx A E : Nat} {L : Lay} {g : Gph} {Q : Exit → Env → World → Prop} {t : Nat → Value} (hg : GRep w B L g) (ham : g.am = .map none) (hE : GE E L g) (hn : g.nv ≤ 48) (hfE : E ≤ fbx) (haE : E ≤ abx) (hAE : E ≤ A) (hne : fbx ≠ abx ∧ fbx ≠ A ∧ abx ≠ A)
 (hfb : w.heap[fbx]? = some (.cells #[L.fp] 71 (0, 0))) (hab : w.heap[abx]? = some (.cells #[.slice (some ⟨A, 0, none⟩) (g.nv + 1) (g.nv + 1)] 78 (0, 0)))
 (hA : w.heap[A]? = some (.cells (cellsOf (fun _ => .pointer none) (g.nv + 1)) 97 (0, 0)))
 (h : ∀ t w' r, E ≤ r → r ≠ fbx → r ≠ abx → r ≠ A → GRep w' B L { g with am := .map (some r) } → w'.heap[r]? = some (.map #[] 0) → w'.heap[fbx]? = some (.cells #[L.fp] 71 (0, 0)) →
   w'.heap[abx]? = some (.cells #[.slice (some ⟨A, 0, none⟩) 0 (g.nv + 1)] 78 (0, 0)) → w'.heap[A]? = some (.cells (cellsOf (fun _ => .pointer none) (g.nv + 1)) 97 (0, 0)) → Only (fun j => j = abx ∨ j = L.fb) w w' →
   EC Tryz.prog Tryz.f41.ntmps (dropC 5 BW) Q (Env.sets ⟨t, [D48 fbx abx]⟩ [(1, .pointer (some ⟨fbx, 0, none⟩)), (2, .pointer (some ⟨abx, 0, none⟩))]) w') :
 EC Tryz.prog Tryz.f41.ntmps (dropC 2 BW) Q (Env.sets ⟨t, []⟩ [(1, .pointer (some ⟨fbx, 0, none⟩)), (2, .pointer (some ⟨abx, 0, none⟩))]) w := by
 have hfl := hE.fb
 have hAl := (Array.getElem?_eq_some_iff.1 hA).1
 have hfbl := (Array.getElem?_eq_some_iff.1 hfb).1
 have hal := (Array.getElem?_eq_some_iff.1 hab).1
 refine Ae (Ac (Ab (Et rfl rfl) rfl (EL_d (Gs rfl) rfl (Af (Aa (Be [D48 fbx abx] [(1, .pointer (some ⟨fbx, 0, none⟩)), (2, .pointer (some ⟨abx, 0, none⟩))] rfl ⟨rfl, rfl, trivial⟩ fun t => (Ae (Ac ?_))))))))
 have h1 : w.cell? ⟨abx, 0, none⟩ = some (.slice (some ⟨A, 0, none⟩) (g.nv + 1) (g.nv + 1)) := Am hab rfl
 refine Ab (Ai rfl (Ag rfl) ‹_›) rfl ?_
 refine Ab (x_sliceK (k := 0) Tryz.underlying78 CF rfl rfl (by omega)) rfl (Bd (AV (v := .slice (some ⟨A, 0, none⟩) 0 (g.nv + 1)) rfl rfl rfl (AM rfl) h1 (AT hab)) rfl (Af (Aa ?_)))
 change EC _ _ _ _ _ (w.setCell ⟨abx, 0, none⟩ (.slice (some ⟨A, 0, none⟩) 0 (g.nv + 1)))
 have hab1 := AE (o := 0) (u := .slice (some ⟨A, 0, none⟩) 0 (g.nv + 1)) hab
 have hO1 : Only (fun j => j = abx ∨ j = L.fb) w (w.setCell ⟨abx, 0, none⟩ (.slice (some ⟨A, 0, none⟩) 0 (g.nv + 1))) := (Only.refl _ _).set _ (.inl rfl)
 have hoth : ∀ q, q ≠ abx → (w.setCell ⟨abx, 0, none⟩ (.slice (some ⟨A, 0, none⟩) 0 (g.nv + 1))).heap[q]? = w.heap[q]? := fun q hq => Below.heap_setCell _ _ _ _ hq
 generalize w.setCell ⟨abx, 0, none⟩ (.slice (some ⟨A, 0, none⟩) 0 (g.nv + 1)) = w1 at hab1 hO1 hoth ⊢
 have hg1 := hg.keepE hE fun q hq => hoth q (by omega)
 have hfb1 := (hoth fbx hne.1).trans hfb
 have hA1 := (hoth A (fun e => hne.2.2 e.symm)).trans hA
 have hfc1 : w1.cell? ⟨fbx, 0, none⟩ = some L.fp := Am hfb1 rfl
 have ham1 : w1.cell? ⟨L.fb, 0 + 3, none⟩ = some (.map none) := Am (hg1.comp .fn) (by rw [ham]; rfl)
 clear h1 hoth
 refine Ae (Ae (Ac (Ab (Ai rfl (Ag rfl) ‹_›) rfl ?_)))
 refine Ab (Ax rfl) rfl (Ab (Ak rfl (Al rfl)) rfl (Ab (Ai rfl (Ag rfl) ‹_›) rfl ?_))
 refine Ab (GH rfl rfl) rfl (Af (Aa (Ba rfl rfl (Ac (Ab (Ai rfl (Ag rfl) ‹_›) rfl ?_)))))
 refine Ab FK rfl ?_
 obtain ⟨r, hr⟩ : ∃ r, r = w1.heap.size := ⟨_, rfl⟩
 have hs1 := hO1.size
 refine el_new0 (.map #[] 0) fun w2 hN2 hO2 hZ2 hB2 hK2 => ?_
 rw [← hr] at hN2 ⊢
 have hg2 := hg1.on hB2
 refine Ab (Ax rfl) rfl (Ab (Ak rfl (Al rfl)) rfl ?_)
 have ham2 : w2.cell? ⟨L.fb, 0 + 3, none⟩ = some (.map none) := Am (hg2.comp .fn) (by rw [ham]; rfl)
 refine Bd (AV (v := .map (some r)) rfl rfl rfl (AM rfl) ham2 (AT (hg2.comp .fn))) rfl (Af (Aa ?_))
 change EC _ _ _ _ _ (w2.setCell ⟨L.fb, 0 + 3, none⟩ (.map (some r)))
 have hg3 := hg2.setAm (.map (some r))
 have hO3 := (hO1.bel hs1 hB2).set (s := L.fb) (o := 0 + 3) (.map (some r)) (.inr rfl)
 have hoth : ∀ q, q ≠ L.fb → (w2.setCell ⟨L.fb, 0 + 3, none⟩ (.map (some r))).heap[q]? = w2.heap[q]? := fun q hq => Below.heap_setCell _ _ _ _ hq
 generalize w2.setCell ⟨L.fb, 0 + 3, none⟩ (.map (some r)) = w3 at hg3 hO3 hoth ⊢
 refine Be [D48 fbx abx] [(1, .pointer (some ⟨fbx, 0, none⟩)), (2, .pointer (some ⟨abx, 0, none⟩))] rfl ⟨rfl, rfl, trivial⟩ fun t => ?_
 exact h t w3 r (by omega) (by omega) (by omega) (by omega) hg3 ((hoth r (by omega)).trans hN2) ((hoth fbx (by omega)).trans ((hO2 fbx (by omega)).trans hfb1)) ((hoth abx (by omega)).trans ((hO2 abx (by omega)).trans hab1)) ((hoth A (by omega)).trans ((hO2 A (by omega)).trans hA1)) hO3
end Go.Proofs.YteepnepebilckaaGreatDoor
namespace Go.Proofs.YteepnepebilckaaGreatDoor
open Go Go.Eng Go.RowKit Go.Shelf
theorem Fx {P : Program} {ops : Array Oper} {N : Nat} {Q : Env → World → Prop} {e : Env} {w : World} {rest : List Oper} {d : Nat} {x y : Operand} {t el : TypeId} {ty : TypeId} {pos : String} {af : Array Edge} {zv : Value} {bytes A n M q : Nat} {R : Nat → Value} {u : Value}
 (ht : P.underlying t = some (.slice el)) (hi : (P.info? el).map (fun i => (i.zero, i.size, i.bytes)) = some (some zv, 1, bytes)) (hx : e.ev x = .slice (some ⟨A, 0, none⟩) n M) (hg : w.heap[A]? = some (.cells (cellsOf R M) el (0, 0)))
 (hy : e.ev y = .slice (some ⟨q, 0, none⟩) 1 1) (hu : w.cell? ⟨q, 0, none⟩ = some u) (h1 : u.oneCell' = true) (hn : n < M)
 (hk : okO N ⟨some d, .call { callee := .builtin .append, args := #[x, y], argTypes := #[t, t] }, ty, pos, af, none⟩ = true)
 (h : ∀ w', w'.heap[A]? = some (.cells (cellsOf (fun i => if i = n then u else R i) M) el (0, 0)) → Only (fun j => j = A) w w' → EL P ops N Q rest (e.set d (.slice (some ⟨A, 0, none⟩) (n + 1) M)) w') :
 EL P ops N Q (⟨some d, .call { callee := .builtin .append, args := #[x, y], argTypes := #[t, t] }, ty, pos, af, none⟩ :: rest) e w := by
 obtain ⟨w', hr, h2, h3⟩ := x_appRoom (d := some d) (ty := ty) (pos := pos) (af := af) (g := none) ht hi hx hg hy hu h1 hn
 exact Ab hr hk (h w' h2 h3)
structure GS (w0 w : World) (L : Lay) (nv abx A r : Nat) (pre : List Nat) : Prop where
 a : w.heap[abx]? = some (.cells #[.slice (some ⟨A, 0, none⟩) pre.length (nv + 1)] 78 (0, 0))
 arr : w.heap[A]? = some (.cells (cellsOf (fun j => if j < pre.length then L.vp (pre.getD j 0) else .pointer none) (nv + 1)) 97 (0, 0))
 m : (pre = [] ∧ ∃ c, w.heap[r]? = some (.map #[] c)) ∨ (pre ≠ [] ∧ ∃ b c, w.heap[r]? = some (.map #[⟨.pointer none, .int .i32 1, b⟩] c))
 only : Only (fun j => j = abx ∨ j = A ∨ j = r) w0 w
def preK (g : Gph) (k : Nat) : List Nat := (List.range k).flatMap g.bvals
theorem Cf (g : Gph) (k : Nat) : preK g (k + 1) = preK g k ++ g.bvals k := by
 unfold preK
 rw [List.range_succ, List.flatMap_append]; simp
theorem preK_lt (g : Gph) {k n : Nat} (hk : k < n) {i : Nat} (hi : i < (g.bvals k).length) : (preK g k ++ (g.bvals k).take i).length < (preK g n).length := by
 have h1 : ∀ m, k + 1 + m ≤ n → (preK g (k + 1)).length ≤ (preK g (k + 1 + m)).length := fun m => by
  induction m with
  | zero => intro _; exact Nat.le_refl _
  | succ m ih =>
    intro hm
    have h2 := ih (by omega)
    rw [show k + 1 + (m + 1) = (k + 1 + m) + 1 from rfl, Cf g (k + 1 + m), List.length_append]
    omega
 have h2 := h1 (n - (k + 1)) (by omega)
 rw [show k + 1 + (n - (k + 1)) = n by omega] at h2
 rw [Cf, List.length_append] at h2
 rw [List.length_append, List.length_take]
 omega
set_option maxHeartbeats 4000000
attribute [local irreducible] EC EL DL Ret thenQ blockQ Bf bodyQ onlyN execOp Sem.run World.cell? World.frozen? World.setCell World.alloc
theorem cseA2 {w : World} {B fbx abx A r E : Nat} {L : Lay} {g : Gph} {Q : Exit → Env → World → Prop} {t : Nat → Value} (hg : GRep w B L g) (ham : g.am = .map (some r)) (hE : GE E L g) (hn : g.nv ≤ 48) (hnb : g.nb ≤ 9) (hfE : E ≤ fbx) (haE : E ≤ abx) (hAE : E ≤ A) (hrE : E ≤ r)
 (hne : fbx ≠ abx ∧ fbx ≠ A ∧ abx ≠ A ∧ r ≠ fbx ∧ r ≠ abx ∧ r ≠ A) (hfb : w.heap[fbx]? = some (.cells #[L.fp] 71 (0, 0))) (hbv : ∀ b, b < g.nb → ∀ v ∈ g.bvals b, v < g.nv) (htot : (preK g g.nb).length = g.nv)
 (h0 : GS w w L g.nv abx A r [])
 (h : ∀ t w', GS w w' L g.nv abx A r (preK g g.nb) → EC Tryz.prog Tryz.f41.ntmps (dropC 6 BW) Q (Env.sets ⟨t, [D48 fbx abx]⟩ [(1, .pointer (some ⟨fbx, 0, none⟩)), (2, .pointer (some ⟨abx, 0, none⟩))]) w') :
 EC Tryz.prog Tryz.f41.ntmps (dropC 5 BW) Q (Env.sets ⟨t, [D48 fbx abx]⟩ [(1, .pointer (some ⟨fbx, 0, none⟩)), (2, .pointer (some ⟨abx, 0, none⟩))]) w := by
 have hfl := hE.fb
 have hfbl := (Array.getElem?_eq_some_iff.1 hfb).1
 have hgW : ∀ {W pre}, GS w W L g.nv abx A r pre → GRep W B L g := fun hG => hg.keepE hE fun q hq => hG.only.block q (by have := Bq hg; have h2 := (Array.getElem?_eq_some_iff.1 h0.a).1; omega) (by omega)
 have hfW : ∀ {W pre}, GS w W L g.nv abx A r pre → W.cell? ⟨fbx, 0, none⟩ = some L.fp := fun hG => Am ((hG.only.block fbx hfbl (by omega)).trans hfb) rfl
 obtain ⟨fa, fc, hfs⟩ := hg.fblocksV
 have h1 := hg.fBlocks
 rw [hfs] at h1
 have h2 := hfW h0
 refine Ae (Ae (Ac (Ab (Ai rfl (Ag rfl) ‹_›) rfl ?_)))
 refine Ab (Ax rfl) rfl (Ab (Ak rfl (Al rfl)) rfl (Ab (Ai rfl (Ag rfl) ‹_›) rfl ?_))
 refine Ab (AP rfl (An rfl)) rfl (Ab Ad rfl (Af (Aa (Ao ?_))))
 refine EC_loop (fun m e w1 => ∃ k, k ≤ g.nb ∧ GS w w1 L g.nv abx A r (preK g k) ∧ AtD e [D48 fbx abx] [(1, .pointer (some ⟨fbx, 0, none⟩)), (2, .pointer (some ⟨abx, 0, none⟩)), (82, .slice fa g.nb fc), (83, .int .i64 (g.nb : Int)), (84, .int .i64 (k : Int))] ∧ m = g.nb - k) g.nb
  ⟨0, Nat.zero_le _, h0, AS rfl ⟨rfl, rfl, rfl, rfl, rfl, trivial⟩, rfl⟩ ?_
 clear h1 h2
 rintro m e w1 ⟨k, hk, hG, ⟨t, rfl⟩, rfl⟩
 refine Ae (Ac (Ab (AW rfl rfl) rfl (Af (Aa (Ae ?_)))))
 refine AG rfl rfl (fun hlt => ?_) (fun hge => ?_)
 rotate_left
 ·have hkn : k = g.nb := by omega
  rw [hkn] at hG
  refine AI (AB (AC (AA (Aa (Be [D48 fbx abx] [(1, .pointer (some ⟨fbx, 0, none⟩)), (2, .pointer (some ⟨abx, 0, none⟩))] rfl ⟨rfl, rfl, trivial⟩ fun t => ?_)))))
  exact h t w1 hG
 have hkn : k < g.nb := by omega
 refine Aq (Aa ?_)
 have hg1 := hgW hG
 have hfb1 := hfW hG
 obtain ⟨fb, fcc, e1, _, hbc, _⟩ := hg1.fblocksE hkn
 rw [hfs] at e1
 injection e1 with e1 _ e3
 subst e1
 obtain ⟨va, vc, hvs⟩ := Row.len (hg1.comp (.bvals k) hkn)
 obtain ⟨nk, hnk⟩ : ∃ nk, nk = (g.bvals k).length := ⟨_, rfl⟩
 rw [← hnk] at hvs
 have hkl : nk ≤ 1000 := by
  have h3 := preK_lt g (n := g.nb) hkn (i := nk - 1)
  rw [htot] at h3
  rw [List.length_append, List.length_take] at h3
  by_cases h4 : nk = 0
  ·omega
  have := h3 (by omega); omega
 have h1 := hg1.bVals hkn
 rw [hvs] at h1
 refine Ae (Ao (Ae (Ac (Ab (x_index1 rfl rfl (An rfl) (by omega)) rfl (Ab (Ai rfl (Ag rfl) ‹_›) rfl ?_)))))
 refine Ab Ah rfl (Af (Aa (Ae (Ac (Ab Ad rfl (Ab (Ax rfl) rfl (Ab (Ak rfl (Al rfl)) rfl (Ab (Ai rfl (Ag rfl) ‹_›) rfl ?_))))))))
 refine Ab (AP rfl (An rfl)) rfl (Ab Ad rfl (Af (Aa (Ao ?_))))
 refine EC_loop (fun m e w2 => ∃ i, i ≤ nk ∧ GS w w2 L g.nv abx A r (preK g k ++ (g.bvals k).take i) ∧ AtD e [D48 fbx abx] [(1, .pointer (some ⟨fbx, 0, none⟩)), (2, .pointer (some ⟨abx, 0, none⟩)), (82, .slice (some ⟨fb, 0, none⟩) g.nb fc), (83, .int .i64 (g.nb : Int)), (84, .int .i64 (k : Int)),
  (91, .slice va nk vc), (92, .int .i64 (nk : Int)), (93, .int .i64 (i : Int))] ∧ m = nk - i) nk
  ⟨0, Nat.zero_le _, by simpa using hG, AS rfl ⟨rfl, rfl, rfl, rfl, rfl, rfl, rfl, rfl, trivial⟩, rfl⟩ ?_
 clear h1 hG hg1 hfb1 hbc
 rintro m e w2 ⟨i, hi, hG, ⟨t, rfl⟩, rfl⟩
 refine Ae (Ac (Ab (AW rfl rfl) rfl (Af (Aa (Ae ?_)))))
 refine AG rfl rfl (fun hlt => ?_) (fun hge => ?_)
 rotate_left
 ·have hin : i = nk := by omega
  have e : preK g k ++ (g.bvals k).take i = preK g (k + 1) := by rw [hin, hnk, List.take_length, Cf]
  rw [e] at hG
  refine AI (AB (AC (AA (Ap (Aa (Ac (Ab (x_inc rfl rfl (by omega)) rfl (Ab Ad rfl (Af ?_)))))))))
  exact Av (g.nb - (k + 1)) (by omega) ⟨k + 1, by omega, hG, AS rfl ⟨rfl, rfl, rfl, rfl, rfl, trivial⟩, rfl⟩
 have hin : i < nk := by omega
 refine Aq (Aa ?_)
 have hg2 := hgW hG
 obtain ⟨vb, vcc, e2, _, hvc, _⟩ := Row.elem (hg2.comp (.bvals k) hkn) (k := i) (by omega)
 rw [hvs] at e2
 injection e2 with e2 _ e4
 subst e2
 obtain ⟨v, hve⟩ : ∃ v, v = (g.bvals k).getD i 0 := ⟨_, rfl⟩
 rw [← hve] at hvc
 have hvn : v < g.nv := by rw [hve]; exact hbv k hkn _ (Bt (by omega))
 have hplt : (preK g k ++ (g.bvals k).take i).length < g.nv := by rw [← htot]; exact preK_lt g hkn (by omega)
 have hnext : preK g k ++ (g.bvals k).take (i + 1) = (preK g k ++ (g.bvals k).take i) ++ [v] := by
  rw [List.take_add_one, List.append_assoc]
  congr 2
  rw [hve, List.getD_eq_getElem?_getD, List.getElem?_eq_getElem (by omega)]; rfl
 obtain ⟨pre, hpre⟩ : ∃ pre, pre = preK g k ++ (g.bvals k).take i := ⟨_, rfl⟩
 rw [← hpre] at hG hplt hnext
 have hty := hg2.vTy hvn
 refine Ae (Ao (Ae (Ac (Ab (x_index1 rfl rfl (An rfl) (by omega)) rfl (Ab (Ai rfl (Ag rfl) ‹_›) rfl ?_)))))
 refine Ab Ah rfl (Af (Aa (Ae (Ae (Ac (Ab Ad rfl (Ab (Ax rfl) rfl (Ab (Ak rfl (Al rfl)) rfl (Ab (Ai rfl (Ag rfl) ‹_›) rfl ?_)))))))))
 refine Bg (AH Tryz.func50 rfl rfl rfl rfl) rfl (EG _) ?_
 rintro _ wx ⟨rfl, ew⟩
 rw [ew]
 clear ew wx
 refine Af (Aa (A6 rfl rfl (Aq (Aa ?_))))
 refine Be [D48 fbx abx] [(1, .pointer (some ⟨fbx, 0, none⟩)), (2, .pointer (some ⟨abx, 0, none⟩)), (82, .slice (some ⟨fb, 0, none⟩) g.nb fc), (83, .int .i64 (g.nb : Int)), (84, .int .i64 (k : Int)),
  (91, .slice (some ⟨vb, 0, none⟩) nk vc), (92, .int .i64 (nk : Int)), (93, .int .i64 (i : Int)), (6, L.vp v)] rfl ⟨rfl, rfl, rfl, rfl, rfl, rfl, rfl, rfl, rfl, trivial⟩ fun t => ?_
 clear hty hvc
 refine AX (fun e w3 => ∃ b c, w3.heap[r]? = some (.map #[⟨.pointer none, .int .i32 1, b⟩] c) ∧ Only (fun j => j = r) w2 w3 ∧ AtD e [D48 fbx abx] [(1, .pointer (some ⟨fbx, 0, none⟩)), (2, .pointer (some ⟨abx, 0, none⟩)), (82, .slice (some ⟨fb, 0, none⟩) g.nb fc), (83, .int .i64 (g.nb : Int)), (84, .int .i64 (k : Int)),
  (91, .slice (some ⟨vb, 0, none⟩) nk vc), (92, .int .i64 (nk : Int)), (93, .int .i64 (i : Int)), (6, L.vp v)]) ?_ ?_
 ·refine Ae ?_
  have hfbw : w2.drew.cell? ⟨fbx, 0, none⟩ = some L.fp := Keep.drew w2 _ _ (hfW hG)
  have hamw : w2.drew.cell? ⟨L.fb, 0 + 3, none⟩ = some (.map (some r)) := Keep.drew w2 _ _ (Am (hg2.comp .fn) (by rw [ham]; rfl))
  have hnlw : w2.drew.cell? ⟨L.vb v, 0 + 4, none⟩ = some (.pointer none) := Keep.drew w2 _ _ (hg2.vNil hvn)
  have hOw : Only (fun j => j = r) w2 w2.drew := (Only.refl _ _).drew
  have hmw : (pre = [] ∧ ∃ c, w2.drew.heap[r]? = some (.map #[] c)) ∨ (pre ≠ [] ∧ ∃ b c, w2.drew.heap[r]? = some (.map #[⟨.pointer none, .int .i32 1, b⟩] c)) := hG.m
  refine AZ mixed (fun w' => w' = w2.drew) [(0, false), (1, false), (2, false), (3, false), (4, false), (5, false), (6, false), (7, false), (8, false), (9, false)] (by kernel_rfl) rfl ?_
  generalize w2.drew = W at *
  rcases hmw with ⟨_, c, hm⟩ | ⟨_, b, c, hm⟩
  ·refine Aj rfl (fun _ hS => Ai rfl (Ag rfl) (by cases hS; with_reducible assumption)) ?_
   refine Aj rfl (fun _ _ => Ax rfl) (Aj rfl (fun _ _ => Ak rfl (Al rfl)) (Aj rfl (fun _ hS => Ai rfl (Ag rfl) (by cases hS; with_reducible assumption)) ?_))
   refine Aj rfl (fun _ _ => Ad) (Aj rfl (fun _ _ => Ax rfl) (Aj rfl (fun _ _ => Ak rfl (Al rfl)) (Aj rfl (fun _ hS => Ai rfl (Ag rfl) (by cases hS; with_reducible assumption)) ?_)))
   refine Aj rfl (fun _ hS => by cases hS; exact FS rfl rfl hm) ?_
   refine Aj rfl (fun _ _ => Bi rfl rfl) (AR (Aa (Ba rfl rfl ?_)))
   have hfbw2 : W.drew.cell? ⟨fbx, 0, none⟩ = some L.fp := Keep.drew W _ _ hfbw
   have hamw2 : W.drew.cell? ⟨L.fb, 0 + 3, none⟩ = some (.map (some r)) := Keep.drew W _ _ hamw
   have hnlw2 : W.drew.cell? ⟨L.vb v, 0 + 4, none⟩ = some (.pointer none) := Keep.drew W _ _ hnlw
   have hOw2 : Only (fun j => j = r) w2 W.drew := hOw.drew
   have hm2 : W.drew.heap[r]? = some (.map #[] c) := hm
   clear hfbw hamw hnlw hOw hm
   refine AZ mixed (fun w' => w' = W.drew) [(0, false), (1, false), (2, false), (3, false), (4, false), (5, false), (6, false), (7, false), (8, false), (9, false), (10, false), (11, false), (12, false), (13, false), (14, false), (15, true)] (by kernel_rfl) rfl ?_
   generalize W.drew = V at *
   refine Aj rfl (fun _ hS => Ai rfl (Ag rfl) (by cases hS; with_reducible assumption)) ?_
   refine Aj rfl (fun _ _ => Ax rfl) (Aj rfl (fun _ _ => Ak rfl (Al rfl)) (Aj rfl (fun _ hS => Ai rfl (Ag rfl) (by cases hS; with_reducible assumption)) ?_))
   refine Aj rfl (fun _ _ => Ad) (Aj rfl (fun _ _ => Ax rfl) (Aj rfl (fun _ _ => Ak rfl (Al rfl)) (Aj rfl (fun _ hS => Ai rfl (Ag rfl) (by cases hS; with_reducible assumption)) ?_)))
   refine Aj rfl (fun _ hS => Ai rfl (Ag rfl) (by cases hS; with_reducible assumption)) ?_
   refine Aj rfl (fun _ _ => Ax rfl) (Aj rfl (fun _ _ => Ak rfl (Al rfl)) (Aj rfl (fun _ hS => Ai rfl (Ag rfl) (by cases hS; with_reducible assumption)) ?_))
   refine Aj rfl (fun _ hS => by cases hS; exact F4 rfl hm2) ?_
   refine Aj rfl (fun _ _ => C0 (m := 0) rfl (by kernel_rfl) (CO rfl) (by simp [IntKind.wrap, IntKind.bits, IntKind.signed])) ?_
   refine Aj rfl (fun _ _ => Cl (c := 1) rfl rfl (by simp [IntKind.wrap, IntKind.bits, IntKind.signed])) ?_
   refine Cb rfl (Gw (x := .tmp 115) (y := .tmp 119) (z := .tmp 126) rfl rfl rfl hm2) (.inl rfl) (AR ?_)
   have hrl := (Array.getElem?_eq_some_iff.1 hm2).1
   refine AU ⟨c, c + 1, ?_, hOw2.trans ⟨rfl, rfl, rfl, ?_, fun j hj hjr => ?_⟩, AS rfl ⟨rfl, rfl, rfl, rfl, rfl, rfl, rfl, rfl, rfl, trivial⟩⟩
   ·show (V.heap.setIfInBounds r _)[r]? = _
    rw [Array.getElem?_setIfInBounds_self_of_lt hrl]
   ·show _ ≤ (V.heap.setIfInBounds r _).size
    rw [Array.size_setIfInBounds]; exact Nat.le_refl _
   show (V.heap.setIfInBounds r _)[j]? = _
   rw [Array.getElem?_setIfInBounds_ne (fun e => hjr e.symm)]
  refine Aj rfl (fun _ hS => Ai rfl (Ag rfl) (by cases hS; with_reducible assumption)) ?_
  refine Aj rfl (fun _ _ => Ax rfl) (Aj rfl (fun _ _ => Ak rfl (Al rfl)) (Aj rfl (fun _ hS => Ai rfl (Ag rfl) (by cases hS; with_reducible assumption)) ?_))
  refine Aj rfl (fun _ _ => Ad) (Aj rfl (fun _ _ => Ax rfl) (Aj rfl (fun _ _ => Ak rfl (Al rfl)) (Aj rfl (fun _ hS => Ai rfl (Ag rfl) (by cases hS; with_reducible assumption)) ?_)))
  refine Aj rfl (fun _ hS => by cases hS; exact FX rfl rfl hm) ?_
  refine Aj rfl (fun _ _ => Bi rfl rfl) (AR (Aa (A6 rfl rfl (Aq ?_))))
  exact AU ⟨b, c, hm, hOw, AS rfl ⟨rfl, rfl, rfl, rfl, rfl, rfl, rfl, rfl, rfl, trivial⟩⟩
 rintro e w3 ⟨b, c, hm3, hO3, ⟨t, rfl⟩⟩
 have hs3 := hO3.size
 have hal := (Array.getElem?_eq_some_iff.1 hG.a).1
 have hAl := (Array.getElem?_eq_some_iff.1 hG.arr).1
 have hrl : r < w2.heap.size := by
  rcases hG.m with ⟨_, c, hm⟩ | ⟨_, b, c, hm⟩
  ·exact (Array.getElem?_eq_some_iff.1 hm).1
  exact (Array.getElem?_eq_some_iff.1 hm).1
 have ha3 := (hO3.block abx hal (by omega)).trans hG.a
 have hA3 := (hO3.block A hAl (by omega)).trans hG.arr
 have hsw := hG.only.size
 have h1 : w3.cell? ⟨abx, 0, none⟩ = some (.slice (some ⟨A, 0, none⟩) pre.length (g.nv + 1)) := Am ha3 rfl
 refine Ac (Ab (Ai rfl (Ag rfl) ‹_›) rfl ?_)
 refine Ab Ad rfl (Ab (Bo (v := L.vp v) rfl rfl Tryz.underlying78 (by kernel_rfl) (z := .pointer none) rfl) rfl (el_new0 (.cells #[L.vp v] 97) fun w5 hN5 hO5 hZ5 hB5 hK5 => ?_))
 have hA5 := (hO5 A (by omega)).trans hA3
 have ha5 := (hO5 abx (by omega)).trans ha3
 have hm5 := (hO5 r (by omega)).trans hm3
 refine Fx Tryz.underlying78 CF rfl hA5 rfl (Am hN5 rfl) rfl (by omega) rfl ?_
 intro w6 hA6 hO6
 have ha6 := (hO6.block abx (by omega) (by omega)).trans ha5
 have hm6 := (hO6.block r (by omega) (by omega)).trans hm5
 refine Bd (AV (v := .slice (some ⟨A, 0, none⟩) (pre.length + 1) (g.nv + 1)) rfl rfl rfl (AM rfl) (old := .slice (some ⟨A, 0, none⟩) pre.length (g.nv + 1)) (Am ha6 rfl) (AT ha6)) rfl (Af (Ap (Aa ?_)))
 change EC _ _ _ _ _ (w6.setCell ⟨abx, 0, none⟩ (.slice (some ⟨A, 0, none⟩) (pre.length + 1) (g.nv + 1)))
 have ha7 := AE (o := 0) (u := .slice (some ⟨A, 0, none⟩) (pre.length + 1) (g.nv + 1)) ha6
 have hO7 : Only (fun j => j = abx ∨ j = A ∨ j = r) w (w6.setCell ⟨abx, 0, none⟩ (.slice (some ⟨A, 0, none⟩) (pre.length + 1) (g.nv + 1))) := (((((hG.only.trans (hO3.mono fun j h => .inr (.inr h))).bel (by omega) hB5)).trans (hO6.mono fun j h => .inr (.inl h)))).set _ (.inl rfl)
 have hoth : ∀ q, q ≠ abx → (w6.setCell ⟨abx, 0, none⟩ (.slice (some ⟨A, 0, none⟩) (pre.length + 1) (g.nv + 1))).heap[q]? = w6.heap[q]? := fun q hq => Below.heap_setCell _ _ _ _ hq
 generalize w6.setCell ⟨abx, 0, none⟩ (.slice (some ⟨A, 0, none⟩) (pre.length + 1) (g.nv + 1)) = w7 at ha7 hO7 hoth ⊢
 have hG7 : GS w w7 L g.nv abx A r (pre ++ [v]) := by
  refine ⟨by rw [List.length_append]; exact ha7, (hoth A (by omega)).trans (hA6.trans ?_), .inr ⟨by simp, b, c, (hoth r (by omega)).trans hm6⟩, hO7⟩
  congr 2
  refine Bz fun j _ => ?_
  rw [List.length_append, List.length_singleton]
  by_cases hj : j = pre.length
  ·subst hj
   rw [if_pos rfl, if_pos (by omega)]
   simp [List.getD_eq_getElem?_getD]
  rw [if_neg hj]
  by_cases hj2 : j < pre.length
  ·rw [if_pos hj2, if_pos (by omega)]
   simp [List.getD_eq_getElem?_getD, List.getElem?_append_left hj2]
  rw [if_neg hj2, if_neg (by omega)]
 rw [← hnext] at hG7
 refine Ac (Ab (x_inc rfl rfl (by omega)) rfl (Ab Ad rfl (Af ?_)))
 exact Av (nk - (i + 1)) (by omega) ⟨i + 1, by omega, hG7, AS rfl ⟨rfl, rfl, rfl, rfl, rfl, rfl, rfl, rfl, trivial⟩, rfl⟩
end Go.Proofs.YteepnepebilckaaGreatDoor
