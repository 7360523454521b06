/- The law FnElimTwice. -/
import Derived.Test.YteepnepebilckaaL4
import Derived.Test.YteepnepebilckaaE7
namespace Go.Proofs.Yteepnepebilckaa
open Go Go.Eng Go.RowKit

theorem steps_fine {g g' : Gph} (s : Steps g g') (hf : ∀ v, v < g.nv → Fine g v) : g' = g := by
  induction s with
  | refl => rfl
  | @step g1 g2 _ s ih =>
    subst ih
    exfalso
    cases s with
    | @red i k c d h1 h2 h3 h4 h5 =>
      have := (hf i h1).1 c (by rw [← h3]; exact getD_mem h2)
      exact this h4
    | @phi i x h1 h2 h3 h4 h5 => exact (hf i h1).2 h2 ⟨x, h3, h4, h5⟩

/-- The second pass leaves all as it is. -/
structure TwiceP (g h : Fn) : Prop where
  nv : h.vals.length = g.vals.length
  alen : ∀ i, i < g.vals.length → (g.v i).args.length ≤ 64
  val : ∀ i, i < g.vals.length → (h.v i).op = (g.v i).op ∧ (h.v i).args = (g.v i).args
theorem twiceP {T : Nat → Bool} {g g2 : Gph} (hg : GoodG T g) (hf : ∀ v, v < g.nv → Fine g v) (hof : CopyOf (toG (toF g)) g2) : TwiceP (toF g) (toF g2) := by
  obtain ⟨g1, c2, hp, hc, rfl⟩ := hof.ex
  have hl := like_toF hg
  have hf2 : ∀ v, v < (toG (toF g)).nv → Fine (toG (toF g)) v := fun v hv => by
    rw [hl.nv] at hv
    obtain ⟨e1, _, _, e4⟩ := hl.val v hv
    obtain ⟨k1, k2⟩ := hf v hv
    refine ⟨fun a ha => ?_, fun ho hn => ?_⟩
    · rw [e4] at ha
      rw [(hl.val a (hg.args_lt hv ha)).1]
      exact k1 a ha
    · rw [e1] at ho
      unfold Needless at hn k2
      rw [e4] at hn
      exact k2 ho hn
  have he := steps_fine hp.steps hf2
  subst he
  have hnv2 : ({ toG (toF g) with ctrl := c2 } : Gph).nv = g.nv := hl.nv
  refine ⟨by rw [toF_nv, toF_nv]; exact hl.nv, fun i hi => ?_, fun i hi => ?_⟩
  · rw [toF_nv] at hi
    rw [toF_v hi]
    show (nats (g.args i)).length ≤ 64
    rw [show (nats (g.args i)).length = (g.args i).length from List.length_map ..]
    have := hg.alen hi; omega
  · rw [toF_nv] at hi
    obtain ⟨e1, _, _, e4⟩ := hl.val i hi
    rw [toF_v (g := { toG (toF g) with ctrl := c2 }) (by rw [hnv2]; exact hi)]
    rw [toF_v hi]
    refine ⟨e1, ?_⟩
    show nats ((toG (toF g)).args i) = nats (g.args i)
    rw [e4]
set_option maxHeartbeats 4000000
attribute [local irreducible] EC EL DL Ret thenQ blockQ loopQ bodyQ onlyN execOp Sem.run World.cell? World.frozen? World.setCell World.alloc

theorem FnElimTwice_ret {w : World} {x : Value} {f : Fn} (hx : FnV w x f) :
    Ret Try.prog 9 #[x] w fun v w' => v = .bool true ∧ Below w.heap.size w w' := by
  obtain ⟨xv, xb, rfl, hvals, hblks⟩ := hx
  refine ret_of_EC Try.func9 rfl rfl ?_
  have hx0 : FnV w (.agg #[xv, xb]) f := ⟨xv, xb, rfl, hvals, hblks⟩
  obtain ⟨ab, cb, rfl, hbl⟩ := hblks
  obtain ⟨av, cv, rfl, hvl⟩ := hvals
  obtain ⟨B, hBd⟩ : ∃ B, B = w.heap.size := ⟨_, rfl⟩
  refine EC_seq ?_
  refine EC_region ?_
  refine EL_v (x_box (v := .agg #[.slice av f.vals.length cv, .slice ab f.blks.length cb]) rfl) rfl ?_
  change EL _ _ _ _ _ _ (w.alloc (.cells #[.slice av f.vals.length cv, .slice ab f.blks.length cb] 25))
  have hN1 := heap_alloc_new w (.cells #[.slice av f.vals.length cv, .slice ab f.blks.length cb] 25)
  have hO1 : ∀ zz, zz < w.heap.size → (w.alloc (.cells #[.slice av f.vals.length cv, .slice ab f.blks.length cb] 25)).heap[zz]? = w.heap[zz]? := fun _ hi => Below.heap_alloc _ _ _ hi
  have hZ1 := size_alloc w (.cells #[.slice av f.vals.length cv, .slice ab f.blks.length cb] 25)
  have hB1 := (Below.refl B w).alloc (by omega) (.cells #[.slice av f.vals.length cv, .slice ab f.blks.length cb] 25)
  have hK1 := Keep.alloc w (.cells #[.slice av f.vals.length cv, .slice ab f.blks.length cb] 25)
  generalize w.alloc (.cells #[.slice av f.vals.length cv, .slice ab f.blks.length cb] 25) = wa at hN1 hO1 hZ1 hB1 hK1 ⊢
  refine EL_v x_assign rfl ?_
  refine EL_nil ?_
  refine thenQ_normal ?_
  obtain ⟨b1, hb1⟩ : ∃ b1, b1 = w.heap.size := ⟨_, rfl⟩
  rw [← hb1] at hN1 ⊢
  have hbw : Below b1 w wa := by rw [hb1, ← hBd]; exact hB1
  refine EC_seq ?_
  refine EC_seq ?_
  refine EC_region ?_
  refine EL_v (x_loadS (cs := [.slice av f.vals.length cv, .slice ab f.blks.length cb]) rfl (tab_agg rfl) (cellsAt_block hN1)) rfl ?_
  refine EL_c (x_call Try.func11 rfl rfl rfl rfl) rfl (fits1_ret (hx0.keep hK1)) ?_
  rintro _ w1 ⟨sb, rfl, hfit, hbs⟩
  refine EL_v (x_not rfl) rfl ?_
  refine EL_nil ?_
  refine thenQ_normal ?_
  have hb1w : Below b1 w w1 := hbw.trans (hbs.mono (by omega))
  cases sb with
  | false =>
    refine EC_yes rfl rfl ?_
    refine EC_seq ?_
    refine EC_region ?_
    refine EL_v x_assign rfl ?_
    refine EL_nil ?_
    refine thenQ_normal ?_
    refine EC_ret ?_
    refine thenQ_ret ?_
    exact post_tmp rfl rfl rfl ⟨rfl, hb1w⟩
  | true =>
  refine EC_no rfl rfl ?_
  refine EC_skip ?_
  refine thenQ_normal ?_
  obtain ⟨hf1, hf2⟩ := hfit rfl
  have hbx1 : w1.heap[b1]? = some (.cells #[.slice av f.vals.length cv, .slice ab f.blks.length cb] 25 (0, 0)) := (hbs.block b1 (by omega)).trans hN1
  have hsz1 := hbs.size
  have hKe1 : Keep w w1 := hK1.trans (Keep.of_below hbs (Nat.le_refl _))
  refine EC_seq ?_
  refine EC_seq ?_
  refine EC_region ?_
  refine EL_v (x_loadS (cs := [.slice av f.vals.length cv, .slice ab f.blks.length cb]) rfl (tab_agg rfl) (cellsAt_block hbx1)) rfl ?_
  refine EL_c (x_call Try.func13 rfl rfl rfl rfl) rfl (laws_conv_ret (hx0.keep hKe1) hf1 hf2) ?_
  rintro vc w2 ⟨hvc, hbl2⟩
  refine EL_c (x_call Try.func12 rfl rfl rfl rfl) rfl (Good_ret hvc) ?_
  rintro _ w3 ⟨gb, rfl, hgood, hbl3⟩
  refine EL_v (x_not rfl) rfl ?_
  refine EL_nil ?_
  refine thenQ_normal ?_
  have hsz2 := hbl2.size
  have hsz3 := hbl3.size
  have hb3w : Below b1 w w3 := (hb1w.trans (hbl2.mono (by omega))).trans (hbl3.mono (by omega))
  cases gb with
  | false =>
    refine EC_yes rfl rfl ?_
    refine EC_seq ?_
    refine EC_region ?_
    refine EL_v x_assign rfl ?_
    refine EL_nil ?_
    refine thenQ_normal ?_
    refine EC_ret ?_
    refine thenQ_ret ?_
    exact post_tmp rfl rfl rfl ⟨rfl, hb3w⟩
  | true =>
  refine EC_no rfl rfl ?_
  refine EC_skip ?_
  refine thenQ_normal ?_
  have hgd := hgood.1 rfl
  have hKe3 : Keep w w3 := (hKe1.trans (Keep.of_below hbl2 (Nat.le_refl _))).trans (Keep.of_below hbl3 (Nat.le_refl _))
  have hx3 := hx0.keep hKe3
  have hbx3 : w3.heap[b1]? = some (.cells #[.slice av f.vals.length cv, .slice ab f.blks.length cb] 25 (0, 0)) := (hbl3.block b1 (by omega)).trans ((hbl2.block b1 (by omega)).trans hbx1)
  have hsz13 : b1 + 1 ≤ w3.heap.size := by omega
  refine EC_seq ?_
  refine EC_region ?_
  refine EL_v (x_loadS (cs := [.slice av f.vals.length cv, .slice ab f.blks.length cb]) rfl (tab_agg rfl) (cellsAt_block hbx3)) rfl ?_
  refine EL_c (x_call Try.func16 rfl rfl rfl rfl) rfl (implCopy_ret hx3 hgd.wf (ginv_pinv (truthN f 48) (toG f)) ⟨hgd.good, rfl, rfl, rfl⟩ fun _ h => h.good.gok) ?_
  rintro vg w4 ⟨⟨g', hof, hvg⟩, hbl4⟩
  obtain ⟨gxv, gxb, rfl, gvals, gblks⟩ := hvg
  obtain ⟨gab, gcb, rfl, gbl⟩ := gblks
  obtain ⟨gav, gcv, rfl, gvl⟩ := gvals
  refine EL_v (x_alloc zero_fn_i) rfl ?_
  have hBle : B ≤ w4.heap.size := by have := hbl4.size; omega
  refine EL_s (x_storeNew rfl rfl (tab_sizeN rfl) rfl rfl) rfl ?_
  refine EL_nil ?_
  refine thenQ_normal ?_
  change EC _ _ _ _ _ (w4.alloc (.cells #[.slice gav (toF g').vals.length gcv, .slice gab (toF g').blks.length gcb] 25))
  have hN5 := heap_alloc_new w4 (.cells #[.slice gav (toF g').vals.length gcv, .slice gab (toF g').blks.length gcb] 25)
  have hO5 : ∀ zz, zz < w4.heap.size → (w4.alloc (.cells #[.slice gav (toF g').vals.length gcv, .slice gab (toF g').blks.length gcb] 25)).heap[zz]? = w4.heap[zz]? := fun _ hi => Below.heap_alloc _ _ _ hi
  have hZ5 := size_alloc w4 (.cells #[.slice gav (toF g').vals.length gcv, .slice gab (toF g').blks.length gcb] 25)
  have hB5 := (Below.refl B w4).alloc (by omega) (.cells #[.slice gav (toF g').vals.length gcv, .slice gab (toF g').blks.length gcb] 25)
  have hK5 := Keep.alloc w4 (.cells #[.slice gav (toF g').vals.length gcv, .slice gab (toF g').blks.length gcb] 25)
  generalize w4.alloc (.cells #[.slice gav (toF g').vals.length gcv, .slice gab (toF g').blks.length gcb] 25) = w5 at hN5 hO5 hZ5 hB5 hK5 ⊢
  obtain ⟨b5, hb5⟩ : ∃ b5, b5 = w4.heap.size := ⟨_, rfl⟩
  rw [← hb5] at hN5 ⊢
  have hsz4 := hbl4.size
  have hbw5 : Below b1 w w5 := (hb3w.trans (hbl4.mono (by omega))).trans ⟨hB5.os, hB5.tape, hB5.output, hB5.size, fun j hj => hO5 j (by omega)⟩
  have hbx5 : w5.heap[b1]? = some (.cells #[.slice av f.vals.length cv, .slice ab f.blks.length cb] 25 (0, 0)) := (hO5 b1 (by omega)).trans ((hbl4.block b1 (by omega)).trans hbx3)
  have f0 : w5.cell? ⟨b1, 0 + 0, none⟩ = some (.slice av f.vals.length cv) := cell_block hbx5 rfl
  have f1 : w5.cell? ⟨b1, 0 + 1, none⟩ = some (.slice ab f.blks.length cb) := cell_block hbx5 rfl
  have g0 : w5.cell? ⟨b5, 0 + 0, none⟩ = some (.slice gav (toF g').vals.length gcv) := cell_block hN5 rfl
  have g1 : w5.cell? ⟨b5, 0 + 1, none⟩ = some (.slice gab (toF g').blks.length gcb) := cell_block hN5 rfl
  have hKe5 : Keep w w5 := (hKe3.trans (Keep.of_below hbl4 (Nat.le_refl _))).trans hK5
  have hfv : ∀ k, k < f.vals.length → ∃ bb ob, av = some ⟨bb, ob, none⟩ ∧ Quad w5 bb (ob + k * 4) (f.v k).op (f.v k).blk (f.v k).args (f.v k).aux := fun k hk => by
    obtain ⟨bb, ob, e, hq⟩ := hvl.resolve_left (fun e => by rw [e] at hk; simp at hk)
    exact ⟨bb, ob, e, (hq k hk).keep hKe5⟩
  have hfb : ∀ k, k < f.blks.length → ∃ bb ob, ab = some ⟨bb, ob, none⟩ ∧ Quad w5 bb (ob + k * 4) (f.b k).kind (f.b k).ctrl (f.b k).succs (f.b k).likely := fun k hk => by
    obtain ⟨bb, ob, e, hq⟩ := hbl.resolve_left (fun e => by rw [e] at hk; simp at hk)
    exact ⟨bb, ob, e, (hq k hk).keep hKe5⟩
  have hgv : ∀ k, k < (toF g').vals.length → ∃ bb ob, gav = some ⟨bb, ob, none⟩ ∧ Quad w5 bb (ob + k * 4) ((toF g').v k).op ((toF g').v k).blk ((toF g').v k).args ((toF g').v k).aux := fun k hk => by
    obtain ⟨bb, ob, e, hq⟩ := gvl.resolve_left (fun e => by rw [e] at hk; simp at hk)
    exact ⟨bb, ob, e, (hq k hk).keep hK5⟩
  have hgb : ∀ k, k < (toF g').blks.length → ∃ bb ob, gab = some ⟨bb, ob, none⟩ ∧ Quad w5 bb (ob + k * 4) ((toF g').b k).kind ((toF g').b k).ctrl ((toF g').b k).succs ((toF g').b k).likely := fun k hk => by
    obtain ⟨bb, ob, e, hq⟩ := gbl.resolve_left (fun e => by rw [e] at hk; simp at hk)
    exact ⟨bb, ob, e, (hq k hk).keep hK5⟩
  obtain ⟨hgg, hfine, hnv0, hnb0, hcc⟩ := copy_good hgd.good hof
  have hlen : (toF g').vals.length = f.vals.length := (toF_nv g').trans hnv0
  have hgp := hgg.goodP
  have hxg : FnV w5 (.agg #[.slice gav (toF g').vals.length gcv, .slice gab (toF g').blks.length gcb]) (toF g') :=
    (show FnV w4 (.agg #[.slice gav (toF g').vals.length gcv, .slice gab (toF g').blks.length gcb]) (toF g') from ⟨_, _, rfl, ⟨gav, gcv, rfl, gvl⟩, ⟨gab, gcb, rfl, gbl⟩⟩).keep hK5
  refine EC_seq ?_
  refine EC_region ?_
  refine EL_v (x_loadS (cs := [.slice gav (toF g').vals.length gcv, .slice gab (toF g').blks.length gcb]) rfl (tab_agg rfl) (cellsAt_block hN5)) rfl ?_
  refine EL_c (x_call Try.func16 rfl rfl rfl rfl) rfl (implCopy_ret hxg hgp.wf (ginv_pinv (truthN (toF g') 48) (toG (toF g'))) ⟨hgp.good, rfl, rfl, rfl⟩ fun _ h => h.good.gok) ?_
  rintro vh w6 ⟨⟨g2, hof2, hvh⟩, hbl6⟩
  obtain ⟨hxv, hxb, rfl, hvalsh, hblksh⟩ := hvh
  obtain ⟨hab, hcb, rfl, hbl'⟩ := hblksh
  obtain ⟨hav, hcv, rfl, hvl'⟩ := hvalsh
  refine EL_v (x_alloc zero_fn_i) rfl ?_
  have hsz6 := hbl6.size
  have hBle : B ≤ w6.heap.size := by omega
  refine EL_s (x_storeNew rfl rfl (tab_sizeN rfl) rfl rfl) rfl ?_
  refine EL_nil ?_
  refine thenQ_normal ?_
  change EC _ _ _ _ _ (w6.alloc (.cells #[.slice hav (toF g2).vals.length hcv, .slice hab (toF g2).blks.length hcb] 25))
  have hN7 := heap_alloc_new w6 (.cells #[.slice hav (toF g2).vals.length hcv, .slice hab (toF g2).blks.length hcb] 25)
  have hO7 : ∀ zz, zz < w6.heap.size → (w6.alloc (.cells #[.slice hav (toF g2).vals.length hcv, .slice hab (toF g2).blks.length hcb] 25)).heap[zz]? = w6.heap[zz]? := fun _ hi => Below.heap_alloc _ _ _ hi
  have hZ7 := size_alloc w6 (.cells #[.slice hav (toF g2).vals.length hcv, .slice hab (toF g2).blks.length hcb] 25)
  have hB7 := (Below.refl B w6).alloc (by omega) (.cells #[.slice hav (toF g2).vals.length hcv, .slice hab (toF g2).blks.length hcb] 25)
  have hK7 := Keep.alloc w6 (.cells #[.slice hav (toF g2).vals.length hcv, .slice hab (toF g2).blks.length hcb] 25)
  generalize w6.alloc (.cells #[.slice hav (toF g2).vals.length hcv, .slice hab (toF g2).blks.length hcb] 25) = w7 at hN7 hO7 hZ7 hB7 hK7 ⊢
  obtain ⟨b7, hb7⟩ : ∃ b7, b7 = w6.heap.size := ⟨_, rfl⟩
  rw [← hb7] at hN7 ⊢
  have hK57 : Keep w5 w7 := (Keep.of_below hbl6 (Nat.le_refl _)).trans hK7
  have hbw7 : Below b1 w w7 := (hbw5.trans (hbl6.mono (by omega))).trans ⟨hB7.os, hB7.tape, hB7.output, hB7.size, fun j hj => hO7 j (by omega)⟩
  have f0' := hK57 _ _ f0
  have g0' := hK57 _ _ g0
  have h0' : w7.cell? ⟨b7, 0 + 0, none⟩ = some (.slice hav (toF g2).vals.length hcv) := cell_block hN7 rfl
  have hgv7 : ∀ k, k < (toF g').vals.length → ∃ bb ob, gav = some ⟨bb, ob, none⟩ ∧ Quad w7 bb (ob + k * 4) ((toF g').v k).op ((toF g').v k).blk ((toF g').v k).args ((toF g').v k).aux := fun k hk => by
    obtain ⟨bb, ob, e, hq⟩ := hgv k hk
    exact ⟨bb, ob, e, hq.keep hK57⟩
  have hhv7 : ∀ k, k < (toF g2).vals.length → ∃ bb ob, hav = some ⟨bb, ob, none⟩ ∧ Quad w7 bb (ob + k * 4) ((toF g2).v k).op ((toF g2).v k).blk ((toF g2).v k).args ((toF g2).v k).aux := fun k hk => by
    obtain ⟨bb, ob, e, hq⟩ := hvl'.resolve_left (fun e => by rw [e] at hk; simp at hk)
    exact ⟨bb, ob, e, (hq k hk).keep hK7⟩
  have hn48 : (toF g').vals.length ≤ 48 := hgp.shp.nv
  have hTP := twiceP hgg hfine hof2
  clear gvl gbl hvl hbl hfb hgb hfv hgv hvl' hbl' hxg hgp hx3 hx0 hof hof2 hfine hcc hgg hN5 hbx5
  generalize toF g2 = h at hTP hhv7 hN7 h0' ⊢
  generalize toF g' = g at hTP hgv7 hlen g0 g0' g1 hn48 ⊢
  obtain ⟨hnv, ha64, hval⟩ := hTP
  obtain ⟨SA, hSA⟩ : ∃ SA, SA = w7.heap.size := ⟨_, rfl⟩
  refine EC_seq ?_
  refine EC_seq ?_
  refine EC_region ?_
  refine EL_v (x_field rfl (tab_fld rfl)) rfl ?_
  refine EL_v (x_load rfl (tab_one rfl) (by with_reducible assumption)) rfl ?_
  refine EL_v (x_len rfl (tab_sl rfl)) rfl ?_
  refine EL_v (x_field rfl (tab_fld rfl)) rfl ?_
  refine EL_v (x_load rfl (tab_one rfl) (by with_reducible assumption)) rfl ?_
  refine EL_v (x_len rfl (tab_sl rfl)) rfl ?_
  refine EL_v (x_neq rfl rfl) rfl ?_
  refine EL_v x_move rfl ?_
  rw [decide_eq_false (fun hh => hh (by rw [hlen]) : ¬ ((g.vals.length : Int) ≠ (f.vals.length : Int)))]
  refine EL_yes rfl rfl (x_field rfl (tab_fld rfl)) rfl ?_
  refine EL_yes rfl rfl (x_load rfl (tab_one rfl) (by with_reducible assumption)) rfl ?_
  refine EL_yes rfl rfl (x_len rfl (tab_sl rfl)) rfl ?_
  refine EL_yes rfl rfl (x_field rfl (tab_fld rfl)) rfl ?_
  refine EL_yes rfl rfl (x_load rfl (tab_one rfl) (by with_reducible assumption)) rfl ?_
  refine EL_yes rfl rfl (x_len rfl (tab_sl rfl)) rfl ?_
  refine EL_yes rfl rfl (x_neq rfl rfl) rfl ?_
  refine EL_v (x_pick_f rfl) rfl ?_
  refine EL_nil ?_
  refine thenQ_normal ?_
  refine EC_no (congrArg Value.bool (decide_eq_false (fun hh => hh (by rw [hnv]) : ¬ ((h.vals.length : Int) ≠ (g.vals.length : Int))))) rfl ?_
  refine EC_skip ?_
  refine thenQ_normal ?_
  refine EC_seq ?_
  refine EC_seq ?_
  refine EC_region ?_
  refine EL_v (x_field rfl (tab_fld rfl)) rfl ?_
  refine EL_v (x_load rfl (tab_one rfl) (by with_reducible assumption)) rfl ?_
  refine EL_v (x_len rfl (tab_sl rfl)) rfl ?_
  refine EL_v x_move rfl ?_
  refine EL_nil ?_
  refine thenQ_normal ?_
  refine EC_block ?_
  refine EC_loop (fun n e wr => ∃ k, k ≤ g.vals.length ∧ At e [(4, .pointer (some ⟨b7, 0, none⟩)), (37, .slice gav g.vals.length gcv), (38, .int .i64 (g.vals.length : Int)), (39, .int .i64 (k : Int))] ∧ Below SA w7 wr ∧ n = g.vals.length - k) g.vals.length
    ⟨0, Nat.zero_le _, at_of rfl ⟨rfl, rfl, rfl, rfl, trivial⟩, Below.refl _ _, rfl⟩ ?_
  rintro n e wr ⟨k, hk, ⟨t, rfl⟩, hb, rfl⟩
  refine EC_seq ?_
  refine EC_region ?_
  refine EL_v (x_lss rfl rfl) rfl ?_
  refine EL_nil ?_
  refine thenQ_normal ?_
  refine EC_seq ?_
  refine EC_if rfl rfl (fun hlt => ?_) (fun hge => ?_)
  · have hlt : k < g.vals.length := by omega
    have hlth : k < h.vals.length := by omega
    obtain ⟨bb, ob, rfl, ⟨s0, hcells0, ⟨sa, sc, rfl, hints⟩⟩⟩ := hgv7 k hlt
    obtain ⟨bg, og, rfl, ⟨s1, hcells1, ⟨ra, rc, rfl, hintg⟩⟩⟩ := hhv7 k hlth
    obtain ⟨hvop, hvargs⟩ := hval k hlt
    rw [hvargs] at hcells1 hintg
    have hKr : Keep w7 wr := Keep.of_below hb (by omega)
    have hcells := hcells0.keep hKr
    have hszr := hb.size
    have hal := ha64 k hlt
    refine EC_skip ?_
    refine thenQ_normal ?_
    refine EC_seq ?_
    refine EC_block ?_
    refine EC_seq ?_
    refine EC_region ?_
    refine EL_v x_move rfl ?_
    refine EL_v (x_indexN (n := 4) rfl rfl (tab_sl rfl) hlt) rfl ?_
    refine EL_v (x_loadS rfl (tab_agg rfl) hcells) rfl ?_
    refine EL_v (x_alloc zero_iv) rfl ?_
    refine EL_v x_assign rfl ?_
    refine EL_s (x_storeNew rfl rfl (tab_sizeN rfl) rfl rfl) rfl ?_
    refine EL_nil ?_
    refine thenQ_normal ?_
    have hBle : B ≤ wr.heap.size := by omega
    change EC _ _ _ _ _ (wr.alloc (.cells #[.int .i64 (g.v k).op, .int .i64 (g.v k).blk, .slice sa (g.v k).args.length sc, .int .i64 (g.v k).aux] 36))
    have hN3 := heap_alloc_new wr (.cells #[.int .i64 (g.v k).op, .int .i64 (g.v k).blk, .slice sa (g.v k).args.length sc, .int .i64 (g.v k).aux] 36)
    have hO3 : ∀ zz, zz < wr.heap.size → (wr.alloc (.cells #[.int .i64 (g.v k).op, .int .i64 (g.v k).blk, .slice sa (g.v k).args.length sc, .int .i64 (g.v k).aux] 36)).heap[zz]? = wr.heap[zz]? := fun _ hi => Below.heap_alloc _ _ _ hi
    have hZ3 := size_alloc wr (.cells #[.int .i64 (g.v k).op, .int .i64 (g.v k).blk, .slice sa (g.v k).args.length sc, .int .i64 (g.v k).aux] 36)
    have hB3 := (Below.refl B wr).alloc (by omega) (.cells #[.int .i64 (g.v k).op, .int .i64 (g.v k).blk, .slice sa (g.v k).args.length sc, .int .i64 (g.v k).aux] 36)
    have hK3 := Keep.alloc wr (.cells #[.int .i64 (g.v k).op, .int .i64 (g.v k).blk, .slice sa (g.v k).args.length sc, .int .i64 (g.v k).aux] 36)
    generalize wr.alloc (.cells #[.int .i64 (g.v k).op, .int .i64 (g.v k).blk, .slice sa (g.v k).args.length sc, .int .i64 (g.v k).aux] 36) = X at hN3 hO3 hZ3 hB3 hK3 ⊢
    obtain ⟨V, hV⟩ : ∃ V, V = wr.heap.size := ⟨_, rfl⟩
    rw [← hV] at hN3 ⊢
    have hbX : Below SA w7 X := hb.trans ⟨hB3.os, hB3.tape, hB3.output, hB3.size, fun j hj => hO3 j (by omega)⟩
    have hKX : Keep w7 X := hKr.trans hK3
    have v0 : X.cell? ⟨V, 0 + 0, none⟩ = some (.int .i64 (g.v k).op) := cell_block hN3 rfl
    have v2 : X.cell? ⟨V, 0 + 2, none⟩ = some (.slice sa (g.v k).args.length sc) := cell_block hN3 rfl
    have hc0 := (hKX _ _ (hcells1 0 _ rfl))
    have hc2 := (hKX _ _ (hcells1 2 _ rfl))
    rw [hvop] at hc0
    refine EC_seq ?_
    refine EC_seq ?_
    have hc : Cells [(⟨b7, 0 + 0, none⟩, .slice (some ⟨bg, og, none⟩) h.vals.length hcv), (⟨bg, og + k * 4 + 0, none⟩, .int .i64 (g.v k).op), (⟨V, 0 + 0, none⟩, .int .i64 (g.v k).op), (⟨bg, og + k * 4 + 2, none⟩, .slice ra (g.v k).args.length rc), (⟨V, 0 + 2, none⟩, .slice sa (g.v k).args.length sc)] X.drew :=
      (Keep.drew X).cells (.cons (hKX _ _ h0') (.cons hc0 (.cons v0 (.cons hc2 (.cons v2 (.nil _))))))
    refine EC_draw mixed (Cells [(⟨b7, 0 + 0, none⟩, .slice (some ⟨bg, og, none⟩) h.vals.length hcv), (⟨bg, og + k * 4 + 0, none⟩, .int .i64 (g.v k).op), (⟨V, 0 + 0, none⟩, .int .i64 (g.v k).op), (⟨bg, og + k * 4 + 2, none⟩, .slice ra (g.v k).args.length rc), (⟨V, 0 + 2, none⟩, .slice sa (g.v k).args.length sc)]) [(0, false), (1, false), (2, false), (3, false), (4, false), (5, false), (6, false), (7, false), (8, false), (9, false), (10, false), (11, false), (12, false), (13, false), (14, false), (15, false), (16, false), (17, false), (18, false), (19, false), (20, false), (21, false)] (by kernel_rfl) hc ?_
    have hbX2 := hbX.drew
    have hKX2 := hKX.trans (Keep.drew X)
    generalize X.drew = Y at hc hbX2 hKX2 ⊢
    refine DL_v rfl (fun _ _ => x_field rfl (tab_fld rfl)) ?_
    refine DL_v rfl (fun _ hS => x_load rfl (tab_one rfl) (hS.get (by first | exact .head _ | exact .tail _ (.head _) | exact .tail _ (.tail _ (.head _)) | exact .tail _ (.tail _ (.tail _ (.head _))) | exact .tail _ (.tail _ (.tail _ (.tail _ (.head _)))) | exact .tail _ (.tail _ (.tail _ (.tail _ (.tail _ (.head _))))) | exact .tail _ (.tail _ (.tail _ (.tail _ (.tail _ (.tail _ (.head _)))))) | exact .tail _ (.tail _ (.tail _ (.tail _ (.tail _ (.tail _ (.tail _ (.head _)))))))))) ?_
    refine DL_v rfl (fun _ _ => x_move) ?_
    refine DL_v rfl (fun _ _ => x_indexN (n := 4) rfl rfl (tab_sl rfl) hlth) ?_
    refine DL_v rfl (fun _ _ => x_field rfl (tab_fld rfl)) ?_
    refine DL_v rfl (fun _ hS => x_load rfl (tab_one rfl) (hS.get (by first | exact .head _ | exact .tail _ (.head _) | exact .tail _ (.tail _ (.head _)) | exact .tail _ (.tail _ (.tail _ (.head _))) | exact .tail _ (.tail _ (.tail _ (.tail _ (.head _)))) | exact .tail _ (.tail _ (.tail _ (.tail _ (.tail _ (.head _))))) | exact .tail _ (.tail _ (.tail _ (.tail _ (.tail _ (.tail _ (.head _)))))) | exact .tail _ (.tail _ (.tail _ (.tail _ (.tail _ (.tail _ (.tail _ (.head _)))))))))) ?_
    refine DL_v rfl (fun _ _ => x_field rfl (tab_fld rfl)) ?_
    refine DL_v rfl (fun _ hS => x_load rfl (tab_one rfl) (hS.get (by first | exact .head _ | exact .tail _ (.head _) | exact .tail _ (.tail _ (.head _)) | exact .tail _ (.tail _ (.tail _ (.head _))) | exact .tail _ (.tail _ (.tail _ (.tail _ (.head _)))) | exact .tail _ (.tail _ (.tail _ (.tail _ (.tail _ (.head _))))) | exact .tail _ (.tail _ (.tail _ (.tail _ (.tail _ (.tail _ (.head _)))))) | exact .tail _ (.tail _ (.tail _ (.tail _ (.tail _ (.tail _ (.tail _ (.head _)))))))))) ?_
    refine DL_v rfl (fun _ _ => x_neq rfl rfl) ?_
    refine DL_v rfl (fun _ _ => x_move) ?_
    rw [decide_eq_false (fun hh => hh rfl : ¬ ((g.v k).op ≠ (g.v k).op))]
    refine DL_gy rfl rfl (fun _ _ => x_field rfl (tab_fld rfl)) ?_
    refine DL_gy rfl rfl (fun _ hS => x_load rfl (tab_one rfl) (hS.get (by first | exact .head _ | exact .tail _ (.head _) | exact .tail _ (.tail _ (.head _)) | exact .tail _ (.tail _ (.tail _ (.head _))) | exact .tail _ (.tail _ (.tail _ (.tail _ (.head _)))) | exact .tail _ (.tail _ (.tail _ (.tail _ (.tail _ (.head _))))) | exact .tail _ (.tail _ (.tail _ (.tail _ (.tail _ (.tail _ (.head _)))))) | exact .tail _ (.tail _ (.tail _ (.tail _ (.tail _ (.tail _ (.tail _ (.head _)))))))))) ?_
    refine DL_gy rfl rfl (fun _ _ => x_move) ?_
    refine DL_gy rfl rfl (fun _ _ => x_indexN (n := 4) rfl rfl (tab_sl rfl) hlth) ?_
    refine DL_gy rfl rfl (fun _ _ => x_field rfl (tab_fld rfl)) ?_
    refine DL_gy rfl rfl (fun _ hS => x_load rfl (tab_one rfl) (hS.get (by first | exact .head _ | exact .tail _ (.head _) | exact .tail _ (.tail _ (.head _)) | exact .tail _ (.tail _ (.tail _ (.head _))) | exact .tail _ (.tail _ (.tail _ (.tail _ (.head _)))) | exact .tail _ (.tail _ (.tail _ (.tail _ (.tail _ (.head _))))) | exact .tail _ (.tail _ (.tail _ (.tail _ (.tail _ (.tail _ (.head _)))))) | exact .tail _ (.tail _ (.tail _ (.tail _ (.tail _ (.tail _ (.tail _ (.head _)))))))))) ?_
    refine DL_gy rfl rfl (fun _ _ => x_len rfl (tab_sl rfl)) ?_
    refine DL_gy rfl rfl (fun _ _ => x_field rfl (tab_fld rfl)) ?_
    refine DL_gy rfl rfl (fun _ hS => x_load rfl (tab_one rfl) (hS.get (by first | exact .head _ | exact .tail _ (.head _) | exact .tail _ (.tail _ (.head _)) | exact .tail _ (.tail _ (.tail _ (.head _))) | exact .tail _ (.tail _ (.tail _ (.tail _ (.head _)))) | exact .tail _ (.tail _ (.tail _ (.tail _ (.tail _ (.head _))))) | exact .tail _ (.tail _ (.tail _ (.tail _ (.tail _ (.tail _ (.head _)))))) | exact .tail _ (.tail _ (.tail _ (.tail _ (.tail _ (.tail _ (.tail _ (.head _)))))))))) ?_
    refine DL_gy rfl rfl (fun _ _ => x_len rfl (tab_sl rfl)) ?_
    refine DL_gy rfl rfl (fun _ _ => x_neq rfl rfl) ?_
    refine DL_v rfl (fun _ _ => x_pick_f rfl) ?_
    refine DL_nil ?_
    refine thenQ_normal ?_
    refine EC_no (congrArg Value.bool (decide_eq_false (fun hh => hh rfl : ¬ (((g.v k).args.length : Int) ≠ ((g.v k).args.length : Int))))) rfl ?_
    refine EC_skip ?_
    refine thenQ_normal ?_
    have v2' : Y.cell? ⟨V, 0 + 2, none⟩ = some (.slice sa (g.v k).args.length sc) := hc.get (.tail _ (.tail _ (.tail _ (.tail _ (.head _)))))
    have hc0' : Y.cell? ⟨b7, 0 + 0, none⟩ = some (.slice (some ⟨bg, og, none⟩) h.vals.length hcv) := hc.get (.head _)
    have hc2' : Y.cell? ⟨bg, og + k * 4 + 2, none⟩ = some (.slice ra (g.v k).args.length rc) := hc.get (.tail _ (.tail _ (.tail _ (.head _))))
    refine EC_seq ?_
    refine EC_region ?_
    refine EL_v (x_field rfl (tab_fld rfl)) rfl ?_
    refine EL_v (x_load rfl (tab_one rfl) (by with_reducible assumption)) rfl ?_
    refine EL_v (x_len rfl (tab_sl rfl)) rfl ?_
    refine EL_v x_move rfl ?_
    refine EL_nil ?_
    refine thenQ_normal ?_
    refine EC_block ?_
    refine EC_loop (fun n e wi => ∃ j, j ≤ (g.v k).args.length ∧ At e [(4, .pointer (some ⟨b7, 0, none⟩)), (37, .slice (some ⟨bb, ob, none⟩) g.vals.length gcv), (38, .int .i64 (g.vals.length : Int)), (39, .int .i64 (k : Int)), (5, .int .i64 (k : Int)), (67, .slice sa (g.v k).args.length sc), (68, .int .i64 ((g.v k).args.length : Int)), (69, .int .i64 (j : Int))] ∧ wi = Y ∧ n = (g.v k).args.length - j) (g.v k).args.length
      ⟨0, Nat.zero_le _, at_of rfl ⟨rfl, rfl, rfl, rfl, rfl, rfl, rfl, rfl, trivial⟩, rfl, rfl⟩ ?_
    rintro n e wi ⟨j, hj, ⟨t, rfl⟩, rfl, rfl⟩
    refine EC_seq ?_
    refine EC_region ?_
    refine EL_v (x_lss rfl rfl) rfl ?_
    refine EL_nil ?_
    refine thenQ_normal ?_
    refine EC_seq ?_
    refine EC_if rfl rfl (fun hlj => ?_) (fun hgj => ?_)
    · have hlj : j < (g.v k).args.length := by omega
      obtain ⟨ba, oa, rfl, hai⟩ := hints.get hlj
      obtain ⟨bh, oh, rfl, hah⟩ := hintg.get hlj
      have hai := hKX2 _ _ hai
      have hah := hKX2 _ _ hah
      refine EC_skip ?_
      refine thenQ_normal ?_
      refine EC_seq ?_
      refine EC_block ?_
      refine EC_seq ?_
      refine EC_region ?_
      refine EL_v x_move rfl ?_
      refine EL_v (x_index1 rfl rfl (tab_sl rfl) (by omega)) rfl ?_
      refine EL_v (x_load rfl (tab_one rfl) (by with_reducible assumption)) rfl ?_
      refine EL_v x_assign rfl ?_
      refine EL_v x_assign rfl ?_
      refine EL_nil ?_
      refine thenQ_normal ?_
      refine EC_seq ?_
      refine EC_region ?_
      refine EL_v (x_field rfl (tab_fld rfl)) rfl ?_
      refine EL_v (x_load rfl (tab_one rfl) (by with_reducible assumption)) rfl ?_
      refine EL_v x_move rfl ?_
      refine EL_v (x_indexN (n := 4) rfl rfl (tab_sl rfl) hlth) rfl ?_
      refine EL_v (x_field rfl (tab_fld rfl)) rfl ?_
      refine EL_v (x_load rfl (tab_one rfl) (by with_reducible assumption)) rfl ?_
      refine EL_v x_move rfl ?_
      refine EL_v (x_index1 rfl rfl (tab_sl rfl) (by omega)) rfl ?_
      refine EL_v (x_load rfl (tab_one rfl) (by with_reducible assumption)) rfl ?_
      refine EL_v x_move rfl ?_
      refine EL_v (x_neq rfl rfl) rfl ?_
      refine EL_nil ?_
      refine thenQ_normal ?_
      refine EC_no (congrArg Value.bool (decide_eq_false (fun hh => hh rfl : ¬ ((g.v k).args.getD j 0 ≠ (g.v k).args.getD j 0)))) rfl ?_
      refine EC_skip ?_
      refine blockQ_normal ?_
      refine thenQ_normal ?_
      refine EC_region ?_
      refine EL_v (x_inc rfl rfl (by omega)) rfl ?_
      refine EL_v x_move rfl ?_
      refine EL_nil ?_
      exact loopQ_next ((g.v k).args.length - (j + 1)) (by omega) ⟨j + 1, by omega, at_of rfl ⟨rfl, rfl, rfl, rfl, rfl, rfl, rfl, rfl, trivial⟩, rfl, rfl⟩
    · have hj : j = (g.v k).args.length := by omega
      subst hj
      refine EC_exit ?_
      refine thenQ_exit ?_
      refine loopQ_exit ?_
      refine blockQ_hit ?_
      refine blockQ_normal ?_
      refine thenQ_normal ?_
      refine EC_region ?_
      refine EL_v (x_inc rfl rfl (by omega)) rfl ?_
      refine EL_v x_move rfl ?_
      refine EL_nil ?_
      exact loopQ_next (g.vals.length - (k + 1)) (by omega) ⟨k + 1, by omega, at_of rfl ⟨rfl, rfl, rfl, rfl, trivial⟩, hbX2, rfl⟩
  · have hk : k = g.vals.length := by omega
    subst hk
    refine EC_exit ?_
    refine thenQ_exit ?_
    refine loopQ_exit ?_
    refine blockQ_hit ?_
    refine thenQ_normal ?_
    refine EC_seq ?_
    refine EC_region ?_
    refine EL_v x_assign rfl ?_
    refine EL_nil ?_
    refine thenQ_normal ?_
    refine EC_ret ?_
    exact post_tmp rfl rfl rfl ⟨rfl, hbw7.trans (hb.mono (by omega))⟩
end Go.Proofs.Yteepnepebilckaa
