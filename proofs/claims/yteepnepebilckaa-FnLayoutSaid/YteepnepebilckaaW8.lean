/- Walks: PhiElim, CopyElim. -/
import Derived.Test.YteepnepebilckaaW6
import Derived.Test.YteepnepebilckaaW7
namespace Go.Proofs.Yteepnepebilckaa
open Go Go.Eng Go.RowKit
set_option maxHeartbeats 4000000
attribute [local irreducible] EC EL DL Ret thenQ blockQ loopQ bodyQ onlyN execOp Sem.run World.cell? World.frozen? World.setCell World.alloc

theorem toF_v {g : Gph} {i : Nat} (hi : i < g.nv) : (toF g).v i = gv g i := by
  show ((List.range g.nv).map (gv g)).getD i default = _
  rw [List.getD_eq_getElem?_getD, List.getElem?_map, List.getElem?_range hi]; rfl
theorem toF_b {g : Gph} {i : Nat} (hi : i < g.nb) : (toF g).b i = gb g i := by
  show ((List.range g.nb).map (gb g)).getD i default = _
  rw [List.getD_eq_getElem?_getD, List.getElem?_map, List.getElem?_range hi]; rfl
theorem toF_nv (g : Gph) : (toF g).vals.length = g.nv := by simp [toF]
theorem toF_nb (g : Gph) : (toF g).blks.length = g.nb := by simp [toF]

theorem wf_toF {g : Gph} (ok : GOk g) (h1 : 1 ≤ g.nb) : Wf (toF g) := by
  have h2 := toF_nv g
  have h3 := toF_nb g
  refine ⟨by rw [h3]; exact ok.nb, by rw [h2]; exact ok.nv, by rw [h3]; exact h1, fun i hi => ?_, fun i hi => ?_, fun i hi => ?_, fun i hi => ?_, fun i hi => ?_⟩
  · rw [h2] at hi; rw [toF_v hi, h3]
    have := ok.blk i hi
    exact ⟨by show (0 : Int) ≤ (g.blk i : Int); omega, by show (g.blk i : Int) < _; omega⟩
  · rw [h2] at hi; rw [toF_v hi, h2]
    obtain ⟨ha, hb⟩ := ok.args i hi
    refine ⟨by simpa [gv, nats] using ha, fun a ha => ?_⟩
    obtain ⟨x, hx, rfl⟩ := List.mem_map.1 (show a ∈ (g.args i).map _ from ha)
    have := hb x hx
    omega
  · rw [h3] at hi; rw [toF_b hi, h3]
    obtain ⟨ha, hb⟩ := ok.succs i hi
    refine ⟨by simpa [gb, nats] using ha, fun a ha => ?_⟩
    obtain ⟨x, hx, rfl⟩ := List.mem_map.1 (show a ∈ (g.succs i).map _ from ha)
    have := hb x hx
    omega
  · rw [h3] at hi; rw [toF_b hi, h2]
    have h4 := ok.ctrl i hi
    show -1 ≤ ctl (g.ctrl i) ∧ ctl (g.ctrl i) < _
    cases hc : g.ctrl i with
    | nil => exact ⟨by decide, by show (-1 : Int) < _; omega⟩
    | cons c l =>
      have := h4 c (by rw [hc]; simp)
      exact ⟨by show (-1 : Int) ≤ (c : Int); omega, by show (c : Int) < _; omega⟩
  · rw [h3] at hi; rw [toF_b hi]
    exact ok.likely i hi

/-- What the pass over phis makes of a graph. -/
structure PhiOf (g g' : Gph) : Prop where
  steps : Steps g g'
  fine : ∀ v, v < g'.nv → Fine g' v
  red : (∀ v, v < g.nv → g.op v ≠ 13) → Red g g'

/-- ssapasses.PhiElim. -/
theorem ssaPhi_ret {w : World} {x : Value} {f : Fn} (hx : FnV w x f) (wf : Wf f) {r : Nat → Nat} {Inv : Gph → Prop} (p : PInv r Inv) (hI : Inv (toG f)) (hok : ∀ g, Inv g → GOk g) :
    Ret Try.prog 26 #[x] w fun v w' => (∃ g', PhiOf (toG f) g' ∧ Inv g' ∧ Own w.heap.size w' v (toF g')) ∧ Below w.heap.size w w' := by
  obtain ⟨xv, xb, rfl, hvals, hblks⟩ := hx
  refine ret_of_EC Try.func26 rfl rfl ?_
  obtain ⟨B, hBd⟩ : ∃ B, B = w.heap.size := ⟨_, rfl⟩
  refine EC_seq ?_
  refine EC_region ?_
  refine EL_v (x_box (v := .agg #[xv, xb]) rfl) rfl ?_
  change EL _ _ _ _ _ _ (w.alloc (.cells #[xv, xb] 58))
  have hN1 := heap_alloc_new w (.cells #[xv, xb] 58)
  have hO1 : ∀ zz, zz < w.heap.size → (w.alloc (.cells #[xv, xb] 58)).heap[zz]? = w.heap[zz]? := fun _ hi => Below.heap_alloc _ _ _ hi
  have hZ1 := size_alloc w (.cells #[xv, xb] 58)
  have hB1 := (Below.refl B w).alloc (by omega) (.cells #[xv, xb] 58)
  have hK1 := Keep.alloc w (.cells #[xv, xb] 58)
  generalize w.alloc (.cells #[xv, xb] 58) = wa at hN1 hO1 hZ1 hB1 hK1 ⊢
  refine EL_v (x_alloc zero_fn_a) rfl ?_
  change EL _ _ _ _ _ _ (wa.alloc (.cells #[nilS, nilS] 58))
  have hN2 := heap_alloc_new wa (.cells #[nilS, nilS] 58)
  have hO2 : ∀ zz, zz < wa.heap.size → (wa.alloc (.cells #[nilS, nilS] 58)).heap[zz]? = wa.heap[zz]? := fun _ hi => Below.heap_alloc _ _ _ hi
  have hZ2 := size_alloc wa (.cells #[nilS, nilS] 58)
  have hB2 := (Below.refl B wa).alloc (by omega) (.cells #[nilS, nilS] 58)
  have hK2 := Keep.alloc wa (.cells #[nilS, nilS] 58)
  generalize wa.alloc (.cells #[nilS, nilS] 58) = wb at hN2 hO2 hZ2 hB2 hK2 ⊢
  refine EL_nil ?_
  refine thenQ_normal ?_
  have hK : Keep w wb := hK1.trans hK2
  have hx' : FnV wb (.agg #[xv, xb]) f := ⟨xv, xb, rfl, hvals.keep hK, hblks.keep hK⟩
  have hbx : wb.heap[w.heap.size]? = some (.cells #[xv, xb] 58 (0, 0)) := (hO2 _ (by omega)).trans hN1
  refine EC_seq ?_
  refine EC_region ?_
  refine EL_v (x_loadS (cs := [xv, xb]) rfl (tab_agg rfl) (cellsAt_block hbx)) rfl ?_
  refine EL_c (x_call Try.func35 rfl rfl rfl rfl) rfl (build_ret hx' wf) ?_
  rintro v1 w1 ⟨B1, L, hB1', rfl, _, hg1, hbl1⟩
  refine EL_v x_assign rfl ?_
  refine EL_nil ?_
  refine thenQ_normal ?_
  refine EC_seq ?_
  refine EC_region ?_
  refine EL_v x_move rfl ?_
  refine EL_c (x_call Try.func36 rfl rfl rfl rfl) rfl (phielim_ret p hg1 hI) ?_
  rintro v2 w2 ⟨g', L', hg2, _, _, hfb, hst, hfine, hbl2, hred⟩
  refine EL_nil ?_
  refine thenQ_normal ?_
  have hI' : Inv g' := p.steps hI hst
  have hfp : (Value.pointer (some ⟨L.fb, 0, none⟩)) = L'.fp := by unfold Lay.fp; rw [hfb]
  rw [hfp]
  refine EC_seq ?_
  refine EC_region ?_
  refine EL_v x_move rfl ?_
  refine EL_c (x_call Try.func37 rfl rfl rfl rfl) rfl (data_ret hg2 (hok g' hI')) ?_
  rintro v3 w3 ⟨hv3, hbl3⟩
  have hb13 : Below wb.heap.size wb w3 := (hbl1.trans (hbl2.mono (by omega))).trans (hbl3.mono (by have := hbl1.size; have := hbl2.size; omega))
  have hC3 : w3.heap[wa.heap.size]? = some (.cells #[nilS, nilS] 58 (0, 0)) := (hb13.block _ (by omega)).trans hN2
  obtain ⟨yv, yb, rfl, hvals3, hblks3⟩ := hv3.at
  obtain ⟨pa, pc, rfl, _⟩ := hvals3
  obtain ⟨qa, qc, rfl, _⟩ := hblks3
  refine EL_s (x_storeS rfl rfl hC3 (tab_sizeN rfl) rfl rfl) rfl ?_
  refine EL_nil ?_
  refine thenQ_normal ?_
  have hgC := setRow_heap w3 _ _ #[.slice pa (toF g').vals.length pc, .slice qa (toF g').blks.length qc] _ _ hC3
  have hsz2 : wa.heap.size < w2.heap.size := by have := hbl1.size; have := hbl2.size; omega
  have hOwn : Own w.heap.size (w3.setRow wa.heap.size #[.slice pa (toF g').vals.length pc, .slice qa (toF g').blks.length qc]) (.agg #[.slice pa (toF g').vals.length pc, .slice qa (toF g').blks.length qc]) (toF g') := fun w'' hw hs =>
    hv3 w'' (fun k h1 h2 => (hw k (by omega) (by simpa [World.setRow] using h2)).trans (setRow_other _ _ _ _ (by omega))) (by simpa [World.setRow] using hs)
  have hbF : Below w.heap.size w (w3.setRow wa.heap.size #[.slice pa (toF g').vals.length pc, .slice qa (toF g').blks.length qc]) :=
    below_setRow' ((show Below w.heap.size w wb from by rw [← hBd]; exact hB1.trans hB2).trans (hb13.mono (by omega))) (by omega) _
  refine EC_ret ?_
  exact post_cell rfl rfl rfl rfl (run_loadVar_cells (cs := [.slice pa (toF g').vals.length pc, .slice qa (toF g').blks.length qc]) (tab_agg rfl) (cellsAt_block hgC)) ⟨⟨g', ⟨hst, hfine, hred⟩, hI', hOwn⟩, hbF⟩
/-- What the pass over copies makes of a graph. -/
structure CopyOf (g g' : Gph) : Prop where
  ex : ∃ g1 c2, PhiOf g g1 ∧ (∀ b, b < g1.nb → c2 b = (g1.ctrl b).map (fixC g1)) ∧ g' = { g1 with ctrl := c2 }

/-- ssapasses.CopyElim. -/
theorem ssaCopy_ret {w : World} {x : Value} {f : Fn} (hx : FnV w x f) (wf : Wf f) {r : Nat → Nat} {Inv : Gph → Prop} (p : PInv r Inv) (hI : Inv (toG f)) (hok : ∀ g, Inv g → GOk g) :
    Ret Try.prog 29 #[x] w fun v w' => (∃ g', CopyOf (toG f) g' ∧ GOk g' ∧ g'.nb = f.blks.length ∧ Own w.heap.size w' v (toF g')) ∧ Below w.heap.size w w' := by
  obtain ⟨xv, xb, rfl, hvals, hblks⟩ := hx
  refine ret_of_EC Try.func29 rfl rfl ?_
  obtain ⟨B, hBd⟩ : ∃ B, B = w.heap.size := ⟨_, rfl⟩
  have hctrl : ∀ b, b < (toG f).nb → ((toG f).ctrl b).length < 4294967296 ∧ ∀ c ∈ (toG f).ctrl b, c < (toG f).nv := fun b hb => by
    refine ⟨?_, (hok _ hI).ctrl b hb⟩
    show (if 0 ≤ (f.b b).ctrl then [(f.b b).ctrl.toNat] else []).length < _
    split <;> simp
  refine EC_seq ?_
  refine EC_region ?_
  refine EL_v (x_box (v := .agg #[xv, xb]) rfl) rfl ?_
  change EL _ _ _ _ _ _ (w.alloc (.cells #[xv, xb] 58))
  have hN1 := heap_alloc_new w (.cells #[xv, xb] 58)
  have hO1 : ∀ zz, zz < w.heap.size → (w.alloc (.cells #[xv, xb] 58)).heap[zz]? = w.heap[zz]? := fun _ hi => Below.heap_alloc _ _ _ hi
  have hZ1 := size_alloc w (.cells #[xv, xb] 58)
  have hB1 := (Below.refl B w).alloc (by omega) (.cells #[xv, xb] 58)
  have hK1 := Keep.alloc w (.cells #[xv, xb] 58)
  generalize w.alloc (.cells #[xv, xb] 58) = wa at hN1 hO1 hZ1 hB1 hK1 ⊢
  refine EL_v (x_alloc zero_fn_a) rfl ?_
  change EL _ _ _ _ _ _ (wa.alloc (.cells #[nilS, nilS] 58))
  have hN2 := heap_alloc_new wa (.cells #[nilS, nilS] 58)
  have hO2 : ∀ zz, zz < wa.heap.size → (wa.alloc (.cells #[nilS, nilS] 58)).heap[zz]? = wa.heap[zz]? := fun _ hi => Below.heap_alloc _ _ _ hi
  have hZ2 := size_alloc wa (.cells #[nilS, nilS] 58)
  have hB2 := (Below.refl B wa).alloc (by omega) (.cells #[nilS, nilS] 58)
  have hK2 := Keep.alloc wa (.cells #[nilS, nilS] 58)
  generalize wa.alloc (.cells #[nilS, nilS] 58) = wb at hN2 hO2 hZ2 hB2 hK2 ⊢
  refine EL_nil ?_
  refine thenQ_normal ?_
  have hK : Keep w wb := hK1.trans hK2
  have hx' : FnV wb (.agg #[xv, xb]) f := ⟨xv, xb, rfl, hvals.keep hK, hblks.keep hK⟩
  have hbx : wb.heap[w.heap.size]? = some (.cells #[xv, xb] 58 (0, 0)) := (hO2 _ (by omega)).trans hN1
  refine EC_seq ?_
  refine EC_region ?_
  refine EL_v (x_loadS (cs := [xv, xb]) rfl (tab_agg rfl) (cellsAt_block hbx)) rfl ?_
  refine EL_c (x_call Try.func35 rfl rfl rfl rfl) rfl (build_ret hx' wf) ?_
  rintro v1 w1 ⟨B1, L, hB1', rfl, _, hg1, hbl1⟩
  refine EL_v x_assign rfl ?_
  refine EL_nil ?_
  refine thenQ_normal ?_
  refine EC_seq ?_
  refine EC_region ?_
  refine EL_v x_move rfl ?_
  refine EL_c (x_call Try.func39 rfl rfl rfl rfl) rfl (copyelim_ret p hg1 hI hctrl) ?_
  rintro v2 w2 ⟨g1, c2, L', hg2, _, _, hfb, hst, hfine, hfix, hbl2, hred⟩
  refine EL_nil ?_
  refine thenQ_normal ?_
  have hI' : Inv g1 := p.steps hI hst
  have hsame := hst.same
  have hok1 := hok g1 hI'
  have hok2 : GOk { g1 with ctrl := c2 } := ⟨hok1.nb, hok1.nv, hok1.blk, hok1.args, hok1.succs, fun i hi a ha => by
    have hi : i < g1.nb := hi
    have ha : a ∈ c2 i := ha
    rw [hfix i hi] at ha
    obtain ⟨c, hc, rfl⟩ := List.mem_map.1 ha
    have hcv := hok1.ctrl i hi c hc
    show fixC g1 c < g1.nv
    unfold fixC
    split
    · rename_i h14
      obtain ⟨j, hj, _⟩ := (p.cinv g1 hI').copy c hcv h14
      have := (hok1.args c hcv).2 j (by rw [hj]; simp)
      rw [hj]; exact this
    · exact hcv, hok1.likely⟩
  generalize hg' : ({ g1 with ctrl := c2 } : Gph) = g' at hg2 hok2
  have hfp : (Value.pointer (some ⟨L.fb, 0, none⟩)) = L'.fp := by unfold Lay.fp; rw [hfb]
  rw [hfp]
  refine EC_seq ?_
  refine EC_region ?_
  refine EL_v x_move rfl ?_
  refine EL_c (x_call Try.func37 rfl rfl rfl rfl) rfl (data_ret hg2 hok2) ?_
  rintro v3 w3 ⟨hv3, hbl3⟩
  have hb13 : Below wb.heap.size wb w3 := (hbl1.trans (hbl2.mono (by omega))).trans (hbl3.mono (by have := hbl1.size; have := hbl2.size; omega))
  have hC3 : w3.heap[wa.heap.size]? = some (.cells #[nilS, nilS] 58 (0, 0)) := (hb13.block _ (by omega)).trans hN2
  obtain ⟨yv, yb, rfl, hvals3, hblks3⟩ := hv3.at
  obtain ⟨pa, pc, rfl, _⟩ := hvals3
  obtain ⟨qa, qc, rfl, _⟩ := hblks3
  refine EL_s (x_storeS rfl rfl hC3 (tab_sizeN rfl) rfl rfl) rfl ?_
  refine EL_nil ?_
  refine thenQ_normal ?_
  have hgC := setRow_heap w3 _ _ #[.slice pa (toF g').vals.length pc, .slice qa (toF g').blks.length qc] _ _ hC3
  have hsz2 : wa.heap.size < w2.heap.size := by have := hbl1.size; have := hbl2.size; omega
  have hOwn : Own w.heap.size (w3.setRow wa.heap.size #[.slice pa (toF g').vals.length pc, .slice qa (toF g').blks.length qc]) (.agg #[.slice pa (toF g').vals.length pc, .slice qa (toF g').blks.length qc]) (toF g') := fun w'' hw hs =>
    hv3 w'' (fun k h1 h2 => (hw k (by omega) (by simpa [World.setRow] using h2)).trans (setRow_other _ _ _ _ (by omega))) (by simpa [World.setRow] using hs)
  have hbF : Below w.heap.size w (w3.setRow wa.heap.size #[.slice pa (toF g').vals.length pc, .slice qa (toF g').blks.length qc]) :=
    below_setRow' ((show Below w.heap.size w wb from by rw [← hBd]; exact hB1.trans hB2).trans (hb13.mono (by omega))) (by omega) _
  refine EC_ret ?_
  exact post_cell rfl rfl rfl rfl (run_loadVar_cells (cs := [.slice pa (toF g').vals.length pc, .slice qa (toF g').blks.length qc]) (tab_agg rfl) (cellsAt_block hgC)) ⟨⟨g', ⟨g1, c2, ⟨hst, hfine, hred⟩, hfix, hg'.symm⟩, hok2, by rw [← hg']; exact hsame.2.1, hOwn⟩, hbF⟩

theorem nb_phi {g g' : Gph} (h : PhiOf g g') : g'.nb = g.nb := h.steps.same.2.1

/-- impl.PhiElim. -/
theorem implPhi_ret {w : World} {x : Value} {f : Fn} (hx : FnV w x f) (wf : Wf f) {r : Nat → Nat} {Inv : Gph → Prop} (p : PInv r Inv) (hI : Inv (toG f)) (hok : ∀ g, Inv g → GOk g) :
    Ret Try.prog 14 #[x] w fun v w' => (∃ g', PhiOf (toG f) g' ∧ FnV w' v (toF g')) ∧ Below w.heap.size w w' := by
  obtain ⟨xv, xb, rfl, hvals, hblks⟩ := hx
  refine ret_of_EC Try.func14 rfl rfl ?_
  obtain ⟨B, hBd⟩ : ∃ B, B = w.heap.size := ⟨_, rfl⟩
  refine EC_seq ?_
  refine EC_region ?_
  refine EL_v (x_box (v := .agg #[xv, xb]) rfl) rfl ?_
  change EL _ _ _ _ _ _ (w.alloc (.cells #[xv, xb] 25))
  have hN1 := heap_alloc_new w (.cells #[xv, xb] 25)
  have hO1 : ∀ zz, zz < w.heap.size → (w.alloc (.cells #[xv, xb] 25)).heap[zz]? = w.heap[zz]? := fun _ hi => Below.heap_alloc _ _ _ hi
  have hZ1 := size_alloc w (.cells #[xv, xb] 25)
  have hB1 := (Below.refl B w).alloc (by omega) (.cells #[xv, xb] 25)
  have hK1 := Keep.alloc w (.cells #[xv, xb] 25)
  generalize w.alloc (.cells #[xv, xb] 25) = wa at hN1 hO1 hZ1 hB1 hK1 ⊢
  refine EL_v (x_alloc zero_fn_i) rfl ?_
  change EL _ _ _ _ _ _ (wa.alloc (.cells #[nilS, nilS] 25))
  have hN2 := heap_alloc_new wa (.cells #[nilS, nilS] 25)
  have hO2 : ∀ zz, zz < wa.heap.size → (wa.alloc (.cells #[nilS, nilS] 25)).heap[zz]? = wa.heap[zz]? := fun _ hi => Below.heap_alloc _ _ _ hi
  have hZ2 := size_alloc wa (.cells #[nilS, nilS] 25)
  have hB2 := (Below.refl B wa).alloc (by omega) (.cells #[nilS, nilS] 25)
  have hK2 := Keep.alloc wa (.cells #[nilS, nilS] 25)
  generalize wa.alloc (.cells #[nilS, nilS] 25) = wb at hN2 hO2 hZ2 hB2 hK2 ⊢
  refine EL_nil ?_
  refine thenQ_normal ?_
  have hK : Keep w wb := hK1.trans hK2
  have hx' : FnV wb (.agg #[xv, xb]) f := ⟨xv, xb, rfl, hvals.keep hK, hblks.keep hK⟩
  have hbx : wb.heap[w.heap.size]? = some (.cells #[xv, xb] 25 (0, 0)) := (hO2 _ (by omega)).trans hN1
  refine EC_seq ?_
  refine EC_region ?_
  refine EL_v (x_loadS (cs := [xv, xb]) rfl (tab_agg rfl) (cellsAt_block hbx)) rfl ?_
  refine EL_c (x_call Try.func27 rfl rfl rfl rfl) rfl (impl_conv_ret hx' wf) ?_
  rintro v1 w1 ⟨hv1, hbl1⟩
  refine EL_c (x_call Try.func26 rfl rfl rfl rfl) rfl (ssaPhi_ret hv1.at wf p hI hok) ?_
  rintro v2 w2 ⟨⟨g', hk, hI', hv2⟩, hbl2⟩
  have wf' : Wf (toF g') := wf_toF (hok g' hI') (by rw [nb_phi hk]; exact wf.one)
  refine EL_c (x_call Try.func25 rfl rfl rfl rfl) rfl (impl_back_ret hv2.at wf') ?_
  rintro v3 w3 ⟨hv3, hbl3⟩
  have hb13 : Below wb.heap.size wb w3 := (hbl1.trans (hbl2.mono (by have := hbl1.size; omega))).trans (hbl3.mono (by have := hbl1.size; have := hbl2.size; omega))
  have hC3 : w3.heap[wa.heap.size]? = some (.cells #[nilS, nilS] 25 (0, 0)) := (hb13.block _ (by omega)).trans hN2
  obtain ⟨yv, yb, rfl, hvals3, hblks3⟩ := hv3.at
  obtain ⟨pa, pc, rfl, _⟩ := hvals3
  obtain ⟨qa, qc, rfl, _⟩ := hblks3
  refine EL_s (x_storeS rfl rfl hC3 (tab_sizeN rfl) rfl rfl) rfl ?_
  refine EL_nil ?_
  refine thenQ_normal ?_
  have hgC := setRow_heap w3 _ _ #[.slice pa (toF g').vals.length pc, .slice qa (toF g').blks.length qc] _ _ hC3
  have hsz2 : wa.heap.size < w2.heap.size := by have := hbl1.size; have := hbl2.size; omega
  have hOwn : Own w.heap.size (w3.setRow wa.heap.size #[.slice pa (toF g').vals.length pc, .slice qa (toF g').blks.length qc]) (.agg #[.slice pa (toF g').vals.length pc, .slice qa (toF g').blks.length qc]) (toF g') := fun w'' hw hs =>
    hv3 w'' (fun k h1 h2 => (hw k (by omega) (by simpa [World.setRow] using h2)).trans (setRow_other _ _ _ _ (by omega))) (by simpa [World.setRow] using hs)
  have hbF : Below w.heap.size w (w3.setRow wa.heap.size #[.slice pa (toF g').vals.length pc, .slice qa (toF g').blks.length qc]) :=
    below_setRow' ((show Below w.heap.size w wb from by rw [← hBd]; exact hB1.trans hB2).trans (hb13.mono (by omega))) (by omega) _
  refine EC_ret ?_
  exact post_cell rfl rfl rfl rfl (run_loadVar_cells (cs := [.slice pa (toF g').vals.length pc, .slice qa (toF g').blks.length qc]) (tab_agg rfl) (cellsAt_block hgC)) ⟨⟨g', hk, hOwn.at⟩, hbF⟩

/-- impl.CopyElim. -/
theorem implCopy_ret {w : World} {x : Value} {f : Fn} (hx : FnV w x f) (wf : Wf f) {r : Nat → Nat} {Inv : Gph → Prop} (p : PInv r Inv) (hI : Inv (toG f)) (hok : ∀ g, Inv g → GOk g) :
    Ret Try.prog 16 #[x] w fun v w' => (∃ g', CopyOf (toG f) g' ∧ FnV w' v (toF g')) ∧ Below w.heap.size w w' := by
  obtain ⟨xv, xb, rfl, hvals, hblks⟩ := hx
  refine ret_of_EC Try.func16 rfl rfl ?_
  obtain ⟨B, hBd⟩ : ∃ B, B = w.heap.size := ⟨_, rfl⟩
  refine EC_seq ?_
  refine EC_region ?_
  refine EL_v (x_box (v := .agg #[xv, xb]) rfl) rfl ?_
  change EL _ _ _ _ _ _ (w.alloc (.cells #[xv, xb] 25))
  have hN1 := heap_alloc_new w (.cells #[xv, xb] 25)
  have hO1 : ∀ zz, zz < w.heap.size → (w.alloc (.cells #[xv, xb] 25)).heap[zz]? = w.heap[zz]? := fun _ hi => Below.heap_alloc _ _ _ hi
  have hZ1 := size_alloc w (.cells #[xv, xb] 25)
  have hB1 := (Below.refl B w).alloc (by omega) (.cells #[xv, xb] 25)
  have hK1 := Keep.alloc w (.cells #[xv, xb] 25)
  generalize w.alloc (.cells #[xv, xb] 25) = wa at hN1 hO1 hZ1 hB1 hK1 ⊢
  refine EL_v (x_alloc zero_fn_i) rfl ?_
  change EL _ _ _ _ _ _ (wa.alloc (.cells #[nilS, nilS] 25))
  have hN2 := heap_alloc_new wa (.cells #[nilS, nilS] 25)
  have hO2 : ∀ zz, zz < wa.heap.size → (wa.alloc (.cells #[nilS, nilS] 25)).heap[zz]? = wa.heap[zz]? := fun _ hi => Below.heap_alloc _ _ _ hi
  have hZ2 := size_alloc wa (.cells #[nilS, nilS] 25)
  have hB2 := (Below.refl B wa).alloc (by omega) (.cells #[nilS, nilS] 25)
  have hK2 := Keep.alloc wa (.cells #[nilS, nilS] 25)
  generalize wa.alloc (.cells #[nilS, nilS] 25) = wb at hN2 hO2 hZ2 hB2 hK2 ⊢
  refine EL_nil ?_
  refine thenQ_normal ?_
  have hK : Keep w wb := hK1.trans hK2
  have hx' : FnV wb (.agg #[xv, xb]) f := ⟨xv, xb, rfl, hvals.keep hK, hblks.keep hK⟩
  have hbx : wb.heap[w.heap.size]? = some (.cells #[xv, xb] 25 (0, 0)) := (hO2 _ (by omega)).trans hN1
  refine EC_seq ?_
  refine EC_region ?_
  refine EL_v (x_loadS (cs := [xv, xb]) rfl (tab_agg rfl) (cellsAt_block hbx)) rfl ?_
  refine EL_c (x_call Try.func27 rfl rfl rfl rfl) rfl (impl_conv_ret hx' wf) ?_
  rintro v1 w1 ⟨hv1, hbl1⟩
  refine EL_c (x_call Try.func29 rfl rfl rfl rfl) rfl (ssaCopy_ret hv1.at wf p hI hok) ?_
  rintro v2 w2 ⟨⟨g', hk, hok', hnb', hv2⟩, hbl2⟩
  have wf' : Wf (toF g') := wf_toF hok' (by rw [hnb']; exact wf.one)
  refine EL_c (x_call Try.func25 rfl rfl rfl rfl) rfl (impl_back_ret hv2.at wf') ?_
  rintro v3 w3 ⟨hv3, hbl3⟩
  have hb13 : Below wb.heap.size wb w3 := (hbl1.trans (hbl2.mono (by have := hbl1.size; omega))).trans (hbl3.mono (by have := hbl1.size; have := hbl2.size; omega))
  have hC3 : w3.heap[wa.heap.size]? = some (.cells #[nilS, nilS] 25 (0, 0)) := (hb13.block _ (by omega)).trans hN2
  obtain ⟨yv, yb, rfl, hvals3, hblks3⟩ := hv3.at
  obtain ⟨pa, pc, rfl, _⟩ := hvals3
  obtain ⟨qa, qc, rfl, _⟩ := hblks3
  refine EL_s (x_storeS rfl rfl hC3 (tab_sizeN rfl) rfl rfl) rfl ?_
  refine EL_nil ?_
  refine thenQ_normal ?_
  have hgC := setRow_heap w3 _ _ #[.slice pa (toF g').vals.length pc, .slice qa (toF g').blks.length qc] _ _ hC3
  have hsz2 : wa.heap.size < w2.heap.size := by have := hbl1.size; have := hbl2.size; omega
  have hOwn : Own w.heap.size (w3.setRow wa.heap.size #[.slice pa (toF g').vals.length pc, .slice qa (toF g').blks.length qc]) (.agg #[.slice pa (toF g').vals.length pc, .slice qa (toF g').blks.length qc]) (toF g') := fun w'' hw hs =>
    hv3 w'' (fun k h1 h2 => (hw k (by omega) (by simpa [World.setRow] using h2)).trans (setRow_other _ _ _ _ (by omega))) (by simpa [World.setRow] using hs)
  have hbF : Below w.heap.size w (w3.setRow wa.heap.size #[.slice pa (toF g').vals.length pc, .slice qa (toF g').blks.length qc]) :=
    below_setRow' ((show Below w.heap.size w wb from by rw [← hBd]; exact hB1.trans hB2).trans (hb13.mono (by omega))) (by omega) _
  refine EC_ret ?_
  exact post_cell rfl rfl rfl rfl (run_loadVar_cells (cs := [.slice pa (toF g').vals.length pc, .slice qa (toF g').blks.length qc]) (tab_agg rfl) (cellsAt_block hgC)) ⟨⟨g', hk, hOwn.at⟩, hbF⟩
end Go.Proofs.Yteepnepebilckaa
