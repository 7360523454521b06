/- The law FnCopyNone. -/
import Derived.Test.YteepnepebilckaaL2
namespace Go.Proofs.Yteepnepebilckaa
open Go Go.Eng Go.RowKit

/-- What the pass over copies leaves. -/
theorem copy_good {T : Nat → Bool} {g0 g' : Gph} (h0 : GoodG T g0) (hof : CopyOf g0 g') : GoodG T g' ∧ (∀ v, v < g'.nv → Fine g' v) ∧ g'.nv = g0.nv ∧ g'.nb = g0.nb ∧
    (∀ b, b < g'.nb → ∀ c ∈ g'.ctrl b, c < g'.nv ∧ g'.op c ≠ 14) := by
  obtain ⟨g1, c2, hp, hc, rfl⟩ := hof.ex
  have h1 := ((ginv_pinv T g0).steps ⟨h0, rfl, rfl, rfl⟩ hp.steps).good
  have hsame := hp.steps.same
  refine ⟨h1.ctrls hc, hp.fine, hsame.1, hsame.2.1, fun b hb c hcm => ?_⟩
  have hcm : c ∈ c2 b := hcm
  have hb : b < g1.nb := hb
  rw [hc b hb] at hcm
  obtain ⟨d, hd, rfl⟩ := List.mem_map.1 hcm
  show fixC g1 d < g1.nv ∧ g1.op (fixC g1 d) ≠ 14
  have hdn : d < g1.nv := (h1.gok.ctrl b hb) d hd
  unfold fixC
  split
  · rename_i ho
    obtain ⟨e, he⟩ := h1.copy1 hdn ho
    rw [he]
    exact ⟨(h1.copy2 hdn ho he).1, (hp.fine d hdn).1 e (by rw [he]; exact .head _)⟩
  · rename_i ho
    exact ⟨hdn, ho⟩
/-- No control is a copy. -/
structure CtrlP (h : Fn) : Prop where
  nb : h.blks.length ≤ 9
  ctrl : ∀ b, b < h.blks.length → (h.b b).ctrl < h.vals.length ∧ (0 ≤ (h.b b).ctrl → (h.v (h.b b).ctrl.toNat).op ≠ 14)
theorem ctrlP {T : Nat → Bool} {g : Gph} (h : GoodG T g) (hc : ∀ b, b < g.nb → ∀ c ∈ g.ctrl b, c < g.nv ∧ g.op c ≠ 14) : CtrlP (toF g) := by
  refine ⟨by rw [toF_nb]; exact h.nb, fun b hb => ?_⟩
  rw [toF_nb] at hb
  rw [toF_b hb, toF_nv]
  show ctl (g.ctrl b) < _ ∧ (0 ≤ ctl (g.ctrl b) → ((toF g).v (ctl (g.ctrl b)).toNat).op ≠ 14)
  rcases h.ctrl b hb with ⟨_, h2⟩ | ⟨c, h1, _, _⟩
  · rw [h2]
    exact ⟨by show (-1 : Int) < _; omega, fun hh => absurd hh (by decide)⟩
  · obtain ⟨h3, h4⟩ := hc b hb c (by rw [h1]; exact .head _)
    rw [h1]
    refine ⟨by show (c : Int) < _; omega, fun _ => ?_⟩
    show ((toF g).v (c : Int).toNat).op ≠ 14
    rw [Int.toNat_natCast, toF_v h3]
    exact h4
set_option maxHeartbeats 4000000
attribute [local irreducible] EC EL DL Ret thenQ blockQ loopQ bodyQ onlyN execOp Sem.run World.cell? World.frozen? World.setCell World.alloc

theorem FnCopyNone_ret {w : World} {x : Value} {f : Fn} (hx : FnV w x f) :
    Ret Try.prog 6 #[x] w fun v w' => v = .bool true ∧ Below w.heap.size w w' := by
  obtain ⟨xv, xb, rfl, hvals, hblks⟩ := hx
  refine ret_of_EC Try.func6 rfl rfl ?_
  have hx0 : FnV w (.agg #[xv, xb]) f := ⟨xv, xb, rfl, hvals, hblks⟩
  obtain ⟨ab, cb, rfl, hbl⟩ := hblks
  obtain ⟨av, cv, rfl, hvl⟩ := hvals
  obtain ⟨B, hBd⟩ : ∃ B, B = w.heap.size := ⟨_, rfl⟩
  refine EC_seq ?_
  refine EC_region ?_
  refine EL_v (x_box (v := .agg #[.slice av f.vals.length cv, .slice ab f.blks.length cb]) rfl) rfl ?_
  change EL _ _ _ _ _ _ (w.alloc (.cells #[.slice av f.vals.length cv, .slice ab f.blks.length cb] 25))
  have hN1 := heap_alloc_new w (.cells #[.slice av f.vals.length cv, .slice ab f.blks.length cb] 25)
  have hO1 : ∀ zz, zz < w.heap.size → (w.alloc (.cells #[.slice av f.vals.length cv, .slice ab f.blks.length cb] 25)).heap[zz]? = w.heap[zz]? := fun _ hi => Below.heap_alloc _ _ _ hi
  have hZ1 := size_alloc w (.cells #[.slice av f.vals.length cv, .slice ab f.blks.length cb] 25)
  have hB1 := (Below.refl B w).alloc (by omega) (.cells #[.slice av f.vals.length cv, .slice ab f.blks.length cb] 25)
  have hK1 := Keep.alloc w (.cells #[.slice av f.vals.length cv, .slice ab f.blks.length cb] 25)
  generalize w.alloc (.cells #[.slice av f.vals.length cv, .slice ab f.blks.length cb] 25) = wa at hN1 hO1 hZ1 hB1 hK1 ⊢
  refine EL_v x_assign rfl ?_
  refine EL_nil ?_
  refine thenQ_normal ?_
  obtain ⟨b1, hb1⟩ : ∃ b1, b1 = w.heap.size := ⟨_, rfl⟩
  rw [← hb1] at hN1 ⊢
  have hbw : Below b1 w wa := by rw [hb1, ← hBd]; exact hB1
  refine EC_seq ?_
  refine EC_seq ?_
  refine EC_region ?_
  refine EL_v (x_loadS (cs := [.slice av f.vals.length cv, .slice ab f.blks.length cb]) rfl (tab_agg rfl) (cellsAt_block hN1)) rfl ?_
  refine EL_c (x_call Try.func11 rfl rfl rfl rfl) rfl (fits1_ret (hx0.keep hK1)) ?_
  rintro _ w1 ⟨sb, rfl, hfit, hbs⟩
  refine EL_v (x_not rfl) rfl ?_
  refine EL_nil ?_
  refine thenQ_normal ?_
  have hb1w : Below b1 w w1 := hbw.trans (hbs.mono (by omega))
  cases sb with
  | false =>
    refine EC_yes rfl rfl ?_
    refine EC_seq ?_
    refine EC_region ?_
    refine EL_v x_assign rfl ?_
    refine EL_nil ?_
    refine thenQ_normal ?_
    refine EC_ret ?_
    refine thenQ_ret ?_
    exact post_tmp rfl rfl rfl ⟨rfl, hb1w⟩
  | true =>
  refine EC_no rfl rfl ?_
  refine EC_skip ?_
  refine thenQ_normal ?_
  obtain ⟨hf1, hf2⟩ := hfit rfl
  have hbx1 : w1.heap[b1]? = some (.cells #[.slice av f.vals.length cv, .slice ab f.blks.length cb] 25 (0, 0)) := (hbs.block b1 (by omega)).trans hN1
  have hsz1 := hbs.size
  have hKe1 : Keep w w1 := hK1.trans (Keep.of_below hbs (Nat.le_refl _))
  refine EC_seq ?_
  refine EC_seq ?_
  refine EC_region ?_
  refine EL_v (x_loadS (cs := [.slice av f.vals.length cv, .slice ab f.blks.length cb]) rfl (tab_agg rfl) (cellsAt_block hbx1)) rfl ?_
  refine EL_c (x_call Try.func13 rfl rfl rfl rfl) rfl (laws_conv_ret (hx0.keep hKe1) hf1 hf2) ?_
  rintro vc w2 ⟨hvc, hbl2⟩
  refine EL_c (x_call Try.func12 rfl rfl rfl rfl) rfl (Good_ret hvc) ?_
  rintro _ w3 ⟨gb, rfl, hgood, hbl3⟩
  refine EL_v (x_not rfl) rfl ?_
  refine EL_nil ?_
  refine thenQ_normal ?_
  have hsz2 := hbl2.size
  have hsz3 := hbl3.size
  have hb3w : Below b1 w w3 := (hb1w.trans (hbl2.mono (by omega))).trans (hbl3.mono (by omega))
  cases gb with
  | false =>
    refine EC_yes rfl rfl ?_
    refine EC_seq ?_
    refine EC_region ?_
    refine EL_v x_assign rfl ?_
    refine EL_nil ?_
    refine thenQ_normal ?_
    refine EC_ret ?_
    refine thenQ_ret ?_
    exact post_tmp rfl rfl rfl ⟨rfl, hb3w⟩
  | true =>
  refine EC_no rfl rfl ?_
  refine EC_skip ?_
  refine thenQ_normal ?_
  have hgd := hgood.1 rfl
  have hKe3 : Keep w w3 := (hKe1.trans (Keep.of_below hbl2 (Nat.le_refl _))).trans (Keep.of_below hbl3 (Nat.le_refl _))
  have hx3 := hx0.keep hKe3
  have hbx3 : w3.heap[b1]? = some (.cells #[.slice av f.vals.length cv, .slice ab f.blks.length cb] 25 (0, 0)) := (hbl3.block b1 (by omega)).trans ((hbl2.block b1 (by omega)).trans hbx1)
  have hsz13 : b1 + 1 ≤ w3.heap.size := by omega
  refine EC_seq ?_
  refine EC_region ?_
  refine EL_v (x_loadS (cs := [.slice av f.vals.length cv, .slice ab f.blks.length cb]) rfl (tab_agg rfl) (cellsAt_block hbx3)) rfl ?_
  refine EL_c (x_call Try.func16 rfl rfl rfl rfl) rfl (implCopy_ret hx3 hgd.wf (ginv_pinv (truthN f 48) (toG f)) ⟨hgd.good, rfl, rfl, rfl⟩ fun _ h => h.good.gok) ?_
  rintro vg w4 ⟨⟨g', hof, hvg⟩, hbl4⟩
  obtain ⟨gxv, gxb, rfl, gvals, gblks⟩ := hvg
  obtain ⟨gab, gcb, rfl, gbl⟩ := gblks
  obtain ⟨gav, gcv, rfl, gvl⟩ := gvals
  refine EL_v (x_alloc zero_fn_i) rfl ?_
  have hBle : B ≤ w4.heap.size := by have := hbl4.size; omega
  refine EL_s (x_storeNew rfl rfl (tab_sizeN rfl) rfl rfl) rfl ?_
  refine EL_nil ?_
  refine thenQ_normal ?_
  change EC _ _ _ _ _ (w4.alloc (.cells #[.slice gav (toF g').vals.length gcv, .slice gab (toF g').blks.length gcb] 25))
  have hN5 := heap_alloc_new w4 (.cells #[.slice gav (toF g').vals.length gcv, .slice gab (toF g').blks.length gcb] 25)
  have hO5 : ∀ zz, zz < w4.heap.size → (w4.alloc (.cells #[.slice gav (toF g').vals.length gcv, .slice gab (toF g').blks.length gcb] 25)).heap[zz]? = w4.heap[zz]? := fun _ hi => Below.heap_alloc _ _ _ hi
  have hZ5 := size_alloc w4 (.cells #[.slice gav (toF g').vals.length gcv, .slice gab (toF g').blks.length gcb] 25)
  have hB5 := (Below.refl B w4).alloc (by omega) (.cells #[.slice gav (toF g').vals.length gcv, .slice gab (toF g').blks.length gcb] 25)
  have hK5 := Keep.alloc w4 (.cells #[.slice gav (toF g').vals.length gcv, .slice gab (toF g').blks.length gcb] 25)
  generalize w4.alloc (.cells #[.slice gav (toF g').vals.length gcv, .slice gab (toF g').blks.length gcb] 25) = w5 at hN5 hO5 hZ5 hB5 hK5 ⊢
  obtain ⟨b5, hb5⟩ : ∃ b5, b5 = w4.heap.size := ⟨_, rfl⟩
  rw [← hb5] at hN5 ⊢
  have hsz4 := hbl4.size
  have hbw5 : Below b1 w w5 := (hb3w.trans (hbl4.mono (by omega))).trans ⟨hB5.os, hB5.tape, hB5.output, hB5.size, fun j hj => hO5 j (by omega)⟩
  have hbx5 : w5.heap[b1]? = some (.cells #[.slice av f.vals.length cv, .slice ab f.blks.length cb] 25 (0, 0)) := (hO5 b1 (by omega)).trans ((hbl4.block b1 (by omega)).trans hbx3)
  have f0 : w5.cell? ⟨b1, 0 + 0, none⟩ = some (.slice av f.vals.length cv) := cell_block hbx5 rfl
  have f1 : w5.cell? ⟨b1, 0 + 1, none⟩ = some (.slice ab f.blks.length cb) := cell_block hbx5 rfl
  have g0 : w5.cell? ⟨b5, 0 + 0, none⟩ = some (.slice gav (toF g').vals.length gcv) := cell_block hN5 rfl
  have g1 : w5.cell? ⟨b5, 0 + 1, none⟩ = some (.slice gab (toF g').blks.length gcb) := cell_block hN5 rfl
  have hKe5 : Keep w w5 := (hKe3.trans (Keep.of_below hbl4 (Nat.le_refl _))).trans hK5
  have hfv : ∀ k, k < f.vals.length → ∃ bb ob, av = some ⟨bb, ob, none⟩ ∧ Quad w5 bb (ob + k * 4) (f.v k).op (f.v k).blk (f.v k).args (f.v k).aux := fun k hk => by
    obtain ⟨bb, ob, e, hq⟩ := hvl.resolve_left (fun e => by rw [e] at hk; simp at hk)
    exact ⟨bb, ob, e, (hq k hk).keep hKe5⟩
  have hfb : ∀ k, k < f.blks.length → ∃ bb ob, ab = some ⟨bb, ob, none⟩ ∧ Quad w5 bb (ob + k * 4) (f.b k).kind (f.b k).ctrl (f.b k).succs (f.b k).likely := fun k hk => by
    obtain ⟨bb, ob, e, hq⟩ := hbl.resolve_left (fun e => by rw [e] at hk; simp at hk)
    exact ⟨bb, ob, e, (hq k hk).keep hKe5⟩
  have hgv : ∀ k, k < (toF g').vals.length → ∃ bb ob, gav = some ⟨bb, ob, none⟩ ∧ Quad w5 bb (ob + k * 4) ((toF g').v k).op ((toF g').v k).blk ((toF g').v k).args ((toF g').v k).aux := fun k hk => by
    obtain ⟨bb, ob, e, hq⟩ := gvl.resolve_left (fun e => by rw [e] at hk; simp at hk)
    exact ⟨bb, ob, e, (hq k hk).keep hK5⟩
  have hgb : ∀ k, k < (toF g').blks.length → ∃ bb ob, gab = some ⟨bb, ob, none⟩ ∧ Quad w5 bb (ob + k * 4) ((toF g').b k).kind ((toF g').b k).ctrl ((toF g').b k).succs ((toF g').b k).likely := fun k hk => by
    obtain ⟨bb, ob, e, hq⟩ := gbl.resolve_left (fun e => by rw [e] at hk; simp at hk)
    exact ⟨bb, ob, e, (hq k hk).keep hK5⟩
  obtain ⟨hgg, hfine, hnv0, hnb0, hcc⟩ := copy_good hgd.good hof
  have hlen : (toF g').vals.length = f.vals.length := (toF_nv g').trans hnv0
  have hblen : (toF g').blks.length = f.blks.length := (toF_nb g').trans hnb0
  have hNP := noneP hgg hfine
  have hCP := ctrlP hgg hcc
  clear gvl gbl hvl hbl hfv hfb
  generalize toF g' = h at hlen hblen hNP hCP hgv hgb hN5 g0 g1 ⊢
  obtain ⟨hn48, ha64, hNP, hNQ⟩ := hNP
  obtain ⟨hn9, hCP⟩ := hCP
  obtain ⟨SA, hSA⟩ : ∃ SA, SA = w5.heap.size := ⟨_, rfl⟩
  refine EC_seq ?_
  refine EC_seq ?_
  refine EC_region ?_
  refine EL_v (x_field rfl (tab_fld rfl)) rfl ?_
  refine EL_v (x_load rfl (tab_one rfl) (by with_reducible assumption)) rfl ?_
  refine EL_v (x_len rfl (tab_sl rfl)) rfl ?_
  refine EL_v (x_field rfl (tab_fld rfl)) rfl ?_
  refine EL_v (x_load rfl (tab_one rfl) (by with_reducible assumption)) rfl ?_
  refine EL_v (x_len rfl (tab_sl rfl)) rfl ?_
  refine EL_v (x_neq rfl rfl) rfl ?_
  refine EL_v x_move rfl ?_
  rw [decide_eq_false (fun hh => hh (by rw [hlen]) : ¬ ((h.vals.length : Int) ≠ (f.vals.length : Int)))]
  refine EL_yes rfl rfl (x_field rfl (tab_fld rfl)) rfl ?_
  refine EL_yes rfl rfl (x_load rfl (tab_one rfl) (by with_reducible assumption)) rfl ?_
  refine EL_yes rfl rfl (x_len rfl (tab_sl rfl)) rfl ?_
  refine EL_yes rfl rfl (x_field rfl (tab_fld rfl)) rfl ?_
  refine EL_yes rfl rfl (x_load rfl (tab_one rfl) (by with_reducible assumption)) rfl ?_
  refine EL_yes rfl rfl (x_len rfl (tab_sl rfl)) rfl ?_
  refine EL_yes rfl rfl (x_neq rfl rfl) rfl ?_
  refine EL_v (x_pick_f rfl) rfl ?_
  refine EL_nil ?_
  refine thenQ_normal ?_
  refine EC_no (congrArg Value.bool (decide_eq_false (fun hh => hh (by rw [hblen]) : ¬ ((h.blks.length : Int) ≠ (f.blks.length : Int))))) rfl ?_
  refine EC_skip ?_
  refine thenQ_normal ?_
  refine EC_seq_cutQ (fun e wr => At e [(3, .pointer (some ⟨b5, 0, none⟩))] ∧ Below SA w5 wr) ?_ ?_
  · refine EC_seq ?_
    refine EC_region ?_
    refine EL_v (x_field rfl (tab_fld rfl)) rfl ?_
    refine EL_v (x_load rfl (tab_one rfl) (by with_reducible assumption)) rfl ?_
    refine EL_v (x_len rfl (tab_sl rfl)) rfl ?_
    refine EL_v x_move rfl ?_
    refine EL_nil ?_
    refine thenQ_normal ?_
    refine EC_block ?_
    refine EC_loop (fun n e wr => ∃ k, k ≤ h.vals.length ∧ At e [(3, .pointer (some ⟨b5, 0, none⟩)), (37, .slice gav h.vals.length gcv), (38, .int .i64 (h.vals.length : Int)), (39, .int .i64 (k : Int))] ∧ Below SA w5 wr ∧ n = h.vals.length - k) h.vals.length
      ⟨0, Nat.zero_le _, at_of rfl ⟨rfl, rfl, rfl, rfl, trivial⟩, Below.refl _ _, rfl⟩ ?_
    rintro n e wr ⟨k, hk, ⟨t, rfl⟩, hb, rfl⟩
    refine EC_seq ?_
    refine EC_region ?_
    refine EL_v (x_lss rfl rfl) rfl ?_
    refine EL_nil ?_
    refine thenQ_normal ?_
    refine EC_seq ?_
    refine EC_if rfl rfl (fun hlt => ?_) (fun hge => ?_)
    · have hlt : k < h.vals.length := by omega
      obtain ⟨bb, ob, rfl, ⟨s0, hcells0, ⟨sa, sc, rfl, hints⟩⟩⟩ := hgv k hlt
      have hKr : Keep w5 wr := Keep.of_below hb (by omega)
      have hcells := hcells0.keep hKr
      have hszr := hb.size
      have hal := ha64 k hlt
      refine EC_skip ?_
      refine thenQ_normal ?_
      refine EC_seq ?_
      refine EC_block ?_
      refine EC_seq ?_
      refine EC_region ?_
      refine EL_v (x_indexN (n := 4) rfl rfl (tab_sl rfl) hlt) rfl ?_
      refine EL_v (x_loadS rfl (tab_agg rfl) hcells) rfl ?_
      refine EL_v (x_alloc zero_iv) rfl ?_
      refine EL_s (x_storeNew rfl rfl (tab_sizeN rfl) rfl rfl) rfl ?_
      refine EL_nil ?_
      refine thenQ_normal ?_
      have hBle : B ≤ wr.heap.size := by omega
      change EC _ _ _ _ _ (wr.alloc (.cells #[.int .i64 (h.v k).op, .int .i64 (h.v k).blk, .slice sa (h.v k).args.length sc, .int .i64 (h.v k).aux] 36))
      have hN3 := heap_alloc_new wr (.cells #[.int .i64 (h.v k).op, .int .i64 (h.v k).blk, .slice sa (h.v k).args.length sc, .int .i64 (h.v k).aux] 36)
      have hO3 : ∀ zz, zz < wr.heap.size → (wr.alloc (.cells #[.int .i64 (h.v k).op, .int .i64 (h.v k).blk, .slice sa (h.v k).args.length sc, .int .i64 (h.v k).aux] 36)).heap[zz]? = wr.heap[zz]? := fun _ hi => Below.heap_alloc _ _ _ hi
      have hZ3 := size_alloc wr (.cells #[.int .i64 (h.v k).op, .int .i64 (h.v k).blk, .slice sa (h.v k).args.length sc, .int .i64 (h.v k).aux] 36)
      have hB3 := (Below.refl B wr).alloc (by omega) (.cells #[.int .i64 (h.v k).op, .int .i64 (h.v k).blk, .slice sa (h.v k).args.length sc, .int .i64 (h.v k).aux] 36)
      have hK3 := Keep.alloc wr (.cells #[.int .i64 (h.v k).op, .int .i64 (h.v k).blk, .slice sa (h.v k).args.length sc, .int .i64 (h.v k).aux] 36)
      generalize wr.alloc (.cells #[.int .i64 (h.v k).op, .int .i64 (h.v k).blk, .slice sa (h.v k).args.length sc, .int .i64 (h.v k).aux] 36) = X at hN3 hO3 hZ3 hB3 hK3 ⊢
      obtain ⟨V, hV⟩ : ∃ V, V = wr.heap.size := ⟨_, rfl⟩
      rw [← hV] at hN3 ⊢
      have hbX : Below SA w5 X := hb.trans ⟨hB3.os, hB3.tape, hB3.output, hB3.size, fun j hj => hO3 j (by omega)⟩
      have hKX : Keep w5 X := hKr.trans hK3
      have v2 : X.cell? ⟨V, 0 + 2, none⟩ = some (.slice sa (h.v k).args.length sc) := cell_block hN3 rfl
      have g0' := hKX _ _ g0
      refine EC_seq ?_
      refine EC_region ?_
      refine EL_v (x_field rfl (tab_fld rfl)) rfl ?_
      refine EL_v (x_load rfl (tab_one rfl) (by with_reducible assumption)) rfl ?_
      refine EL_v (x_len rfl (tab_sl rfl)) rfl ?_
      refine EL_v x_move rfl ?_
      refine EL_nil ?_
      refine thenQ_normal ?_
      refine EC_block ?_
      refine EC_loop (fun n e wi => ∃ j : Nat, j ≤ (h.v k).args.length ∧ At e [(3, .pointer (some ⟨b5, 0, none⟩)), (37, .slice (some ⟨bb, ob, none⟩) h.vals.length gcv), (38, .int .i64 (h.vals.length : Int)), (39, .int .i64 (k : Int)), (44, .slice sa (h.v k).args.length sc), (45, .int .i64 ((h.v k).args.length : Int)), (46, .int .i64 (j : Int))] ∧ wi = X ∧ n = (h.v k).args.length - j) (h.v k).args.length
        ⟨0, Nat.zero_le _, at_of rfl ⟨rfl, rfl, rfl, rfl, rfl, rfl, rfl, trivial⟩, rfl, rfl⟩ ?_
      rintro n e wi ⟨j, hj, ⟨t, rfl⟩, rfl, rfl⟩
      refine EC_seq ?_
      refine EC_region ?_
      refine EL_v (x_lss rfl rfl) rfl ?_
      refine EL_nil ?_
      refine thenQ_normal ?_
      refine EC_seq ?_
      refine EC_if rfl rfl (fun hlj => ?_) (fun hgj => ?_)
      · have hlj : j < (h.v k).args.length := by omega
        obtain ⟨ba, oa, rfl, hai⟩ := hints.get hlj
        have hai := hKX _ _ hai
        obtain ⟨hr1, hr2, hr3⟩ := hNP k hlt j hlj
        obtain ⟨a, ha⟩ : ∃ a : Nat, (h.v k).args.getD j 0 = (a : Int) := ⟨_, (Int.toNat_of_nonneg hr1).symm⟩
        have han : a < h.vals.length := by omega
        rw [ha, Int.toNat_natCast] at hr3
        rw [ha] at hai
        obtain ⟨bb', ob', e, ⟨s1, hcA, _⟩⟩ := hgv a han
        cases e
        have hcA0 : wi.cell? ⟨bb, ob + a * 4 + 0, none⟩ = some (.int .i64 (h.v a).op) := hKX _ _ (hcA 0 _ rfl)
        refine EC_skip ?_
        refine thenQ_normal ?_
        refine EC_seq ?_
        refine EC_block ?_
        refine EC_seq ?_
        refine EC_region ?_
        refine EL_v (x_index1 rfl rfl (tab_sl rfl) (by omega)) rfl ?_
        refine EL_v (x_load rfl (tab_one rfl) (by with_reducible assumption)) rfl ?_
        refine EL_v x_assign rfl ?_
        refine EL_nil ?_
        refine thenQ_normal ?_
        refine EC_seq ?_
        refine EC_region ?_
        refine EL_v x_move rfl ?_
        refine EL_v (x_lss rfl rfl) rfl ?_
        refine EL_v x_move rfl ?_
        rw [decide_eq_false (show ¬ (a : Int) < 0 by omega)]
        refine EL_yes rfl rfl x_move rfl ?_
        refine EL_yes rfl rfl (x_field rfl (tab_fld rfl)) rfl ?_
        refine EL_yes rfl rfl (x_load rfl (tab_one rfl) (by with_reducible assumption)) rfl ?_
        refine EL_yes rfl rfl (x_len rfl (tab_sl rfl)) rfl ?_
        refine EL_yes rfl rfl (x_geq rfl rfl) rfl ?_
        refine EL_v (x_pick_f rfl) rfl ?_
        refine EL_v x_move rfl ?_
        rw [decide_eq_false (show ¬ (h.vals.length : Int) ≤ (a : Int) by omega)]
        refine EL_yes rfl rfl (x_field rfl (tab_fld rfl)) rfl ?_
        refine EL_yes rfl rfl (x_load rfl (tab_one rfl) (by with_reducible assumption)) rfl ?_
        refine EL_yes rfl rfl x_move rfl ?_
        refine EL_yes rfl rfl (x_indexN (n := 4) rfl rfl (tab_sl rfl) han) rfl ?_
        refine EL_yes rfl rfl (x_field rfl (tab_fld rfl)) rfl ?_
        refine EL_yes rfl rfl (x_load rfl (tab_one rfl) (by with_reducible assumption)) rfl ?_
        refine EL_yes rfl rfl (x_eql rfl rfl) rfl ?_
        refine EL_v (x_pick_f rfl) rfl ?_
        refine EL_nil ?_
        refine thenQ_normal ?_
        rw [decide_eq_false hr3]
        refine EC_no rfl rfl ?_
        refine EC_skip ?_
        refine blockQ_normal ?_
        refine thenQ_normal ?_
        refine EC_region ?_
        refine EL_v (x_inc rfl rfl (by omega)) rfl ?_
        refine EL_v x_move rfl ?_
        refine EL_nil ?_
        exact loopQ_next ((h.v k).args.length - (j + 1)) (by omega) ⟨j + 1, by omega, at_of rfl ⟨rfl, rfl, rfl, rfl, rfl, rfl, rfl, trivial⟩, rfl, rfl⟩
      · have hj : j = (h.v k).args.length := by omega
        subst hj
        refine EC_exit ?_
        refine thenQ_exit ?_
        refine loopQ_exit ?_
        refine blockQ_hit ?_
        refine blockQ_normal ?_
        refine thenQ_normal ?_
        refine EC_region ?_
        refine EL_v (x_inc rfl rfl (by omega)) rfl ?_
        refine EL_v x_move rfl ?_
        refine EL_nil ?_
        exact loopQ_next (h.vals.length - (k + 1)) (by omega) ⟨k + 1, by omega, at_of rfl ⟨rfl, rfl, rfl, rfl, trivial⟩, hbX, rfl⟩
    · have hk : k = h.vals.length := by omega
      subst hk
      refine EC_exit ?_
      refine thenQ_exit ?_
      refine loopQ_exit ?_
      refine blockQ_hit ?_
      exact orN_in ⟨at_of rfl ⟨rfl, trivial⟩, hb⟩
  rintro e wr ⟨⟨t, rfl⟩, hb⟩
  have g1' := Keep.of_below hb (by omega) _ _ g1
  refine EC_seq ?_
  refine EC_seq ?_
  refine EC_region ?_
  refine EL_v (x_field rfl (tab_fld rfl)) rfl ?_
  refine EL_v (x_load rfl (tab_one rfl) (by with_reducible assumption)) rfl ?_
  refine EL_v (x_len rfl (tab_sl rfl)) rfl ?_
  refine EL_v x_move rfl ?_
  refine EL_nil ?_
  refine thenQ_normal ?_
  refine EC_block ?_
  refine EC_loop (fun n e wr => ∃ k, k ≤ h.blks.length ∧ At e [(3, .pointer (some ⟨b5, 0, none⟩)), (71, .slice gab h.blks.length gcb), (72, .int .i64 (h.blks.length : Int)), (73, .int .i64 (k : Int))] ∧ Below SA w5 wr ∧ n = h.blks.length - k) h.blks.length
    ⟨0, Nat.zero_le _, at_of rfl ⟨rfl, rfl, rfl, rfl, trivial⟩, hb, rfl⟩ ?_
  clear hb g1'
  rintro n e wr ⟨k, hk, ⟨t, rfl⟩, hb, rfl⟩
  refine EC_seq ?_
  refine EC_region ?_
  refine EL_v (x_lss rfl rfl) rfl ?_
  refine EL_nil ?_
  refine thenQ_normal ?_
  refine EC_seq ?_
  refine EC_if rfl rfl (fun hlt => ?_) (fun hge => ?_)
  · have hlt : k < h.blks.length := by omega
    obtain ⟨bb, ob, rfl, ⟨s0, hcells0, ⟨sa, sc, rfl, _⟩⟩⟩ := hgb k hlt
    have hKr : Keep w5 wr := Keep.of_below hb (by omega)
    have hcells := hcells0.keep hKr
    have hszr := hb.size
    obtain ⟨hc1, hc2⟩ := hCP k hlt
    refine EC_skip ?_
    refine thenQ_normal ?_
    refine EC_seq ?_
    refine EC_block ?_
    refine EC_seq ?_
    refine EC_region ?_
    refine EL_v (x_indexN (n := 4) rfl rfl (tab_sl rfl) hlt) rfl ?_
    refine EL_v (x_loadS rfl (tab_agg rfl) hcells) rfl ?_
    refine EL_v (x_alloc zero_ib) rfl ?_
    refine EL_s (x_storeNew rfl rfl (tab_sizeN rfl) rfl rfl) rfl ?_
    refine EL_nil ?_
    refine thenQ_normal ?_
    have hBle : B ≤ wr.heap.size := by omega
    change EC _ _ _ _ _ (wr.alloc (.cells #[.int .i64 (h.b k).kind, .int .i64 (h.b k).ctrl, .slice sa (h.b k).succs.length sc, .int .i64 (h.b k).likely] 38))
    have hN3 := heap_alloc_new wr (.cells #[.int .i64 (h.b k).kind, .int .i64 (h.b k).ctrl, .slice sa (h.b k).succs.length sc, .int .i64 (h.b k).likely] 38)
    have hO3 : ∀ zz, zz < wr.heap.size → (wr.alloc (.cells #[.int .i64 (h.b k).kind, .int .i64 (h.b k).ctrl, .slice sa (h.b k).succs.length sc, .int .i64 (h.b k).likely] 38)).heap[zz]? = wr.heap[zz]? := fun _ hi => Below.heap_alloc _ _ _ hi
    have hZ3 := size_alloc wr (.cells #[.int .i64 (h.b k).kind, .int .i64 (h.b k).ctrl, .slice sa (h.b k).succs.length sc, .int .i64 (h.b k).likely] 38)
    have hB3 := (Below.refl B wr).alloc (by omega) (.cells #[.int .i64 (h.b k).kind, .int .i64 (h.b k).ctrl, .slice sa (h.b k).succs.length sc, .int .i64 (h.b k).likely] 38)
    have hK3 := Keep.alloc wr (.cells #[.int .i64 (h.b k).kind, .int .i64 (h.b k).ctrl, .slice sa (h.b k).succs.length sc, .int .i64 (h.b k).likely] 38)
    generalize wr.alloc (.cells #[.int .i64 (h.b k).kind, .int .i64 (h.b k).ctrl, .slice sa (h.b k).succs.length sc, .int .i64 (h.b k).likely] 38) = X at hN3 hO3 hZ3 hB3 hK3 ⊢
    obtain ⟨V, hV⟩ : ∃ V, V = wr.heap.size := ⟨_, rfl⟩
    rw [← hV] at hN3 ⊢
    have hbX : Below SA w5 X := hb.trans ⟨hB3.os, hB3.tape, hB3.output, hB3.size, fun j hj => hO3 j (by omega)⟩
    have hKX : Keep w5 X := hKr.trans hK3
    have v1 : X.cell? ⟨V, 0 + 1, none⟩ = some (.int .i64 (h.b k).ctrl) := cell_block hN3 rfl
    have g0' := hKX _ _ g0
    refine EC_seq ?_
    refine EC_region ?_
    refine EL_v (x_field rfl (tab_fld rfl)) rfl ?_
    refine EL_v (x_load rfl (tab_one rfl) (by with_reducible assumption)) rfl ?_
    refine EL_v x_assign rfl ?_
    refine EL_nil ?_
    refine thenQ_normal ?_
    refine EC_seq ?_
    refine EC_region ?_
    refine EL_cut 18 (fun e w' => w' = X ∧ At e [(96, .bool false), (3, .pointer (some ⟨b5, 0, none⟩)), (71, .slice (some ⟨bb, ob, none⟩) h.blks.length gcb), (72, .int .i64 (h.blks.length : Int)), (73, .int .i64 (k : Int))]) ?_ ?_
    · refine EL_v x_move rfl ?_
      refine EL_v (x_field rfl (tab_fld rfl)) rfl ?_
      refine EL_v (x_load rfl (tab_one rfl) (by with_reducible assumption)) rfl ?_
      refine EL_v (x_len rfl (tab_sl rfl)) rfl ?_
      refine EL_v (x_geq rfl rfl) rfl ?_
      refine EL_v x_move rfl ?_
      rw [decide_eq_false (show ¬ (h.vals.length : Int) ≤ (h.b k).ctrl by omega)]
      refine EL_yes rfl rfl x_move rfl ?_
      refine EL_yes rfl rfl (x_geq rfl rfl) rfl ?_
      refine EL_yes rfl rfl x_move rfl ?_
      by_cases hn : 0 ≤ (h.b k).ctrl
      · rw [decide_eq_true hn]
        obtain ⟨c, hcc⟩ : ∃ c : Nat, (h.b k).ctrl = (c : Int) := ⟨_, (Int.toNat_of_nonneg hn).symm⟩
        have hcn : c < h.vals.length := by omega
        have hc3 := hc2 hn
        rw [hcc, Int.toNat_natCast] at hc3
        rw [hcc]
        obtain ⟨bv, ov, rfl, ⟨s1, hcC, _⟩⟩ := hgv c hcn
        have hcC0 : X.cell? ⟨bv, ov + c * 4 + 0, none⟩ = some (.int .i64 (h.v c).op) := hKX _ _ (hcC 0 _ rfl)
        refine EL_yes rfl rfl (x_field rfl (tab_fld rfl)) rfl ?_
        refine EL_yes rfl rfl (x_load rfl (tab_one rfl) (by with_reducible assumption)) rfl ?_
        refine EL_yes rfl rfl x_move rfl ?_
        refine EL_yes rfl rfl (x_indexN (n := 4) rfl rfl (tab_sl rfl) hcn) rfl ?_
        refine EL_yes rfl rfl (x_field rfl (tab_fld rfl)) rfl ?_
        refine EL_yes rfl rfl (x_load rfl (tab_one rfl) (by with_reducible assumption)) rfl ?_
        refine EL_yes rfl rfl (x_eql rfl rfl) rfl ?_
        refine EL_yes rfl rfl (x_pick_t rfl) rfl ?_
        refine EL_v (x_pick_f rfl) rfl ?_
        refine EL_nil ?_
        rw [decide_eq_false hc3]
        exact ⟨rfl, at_of rfl ⟨rfl, rfl, rfl, rfl, rfl, trivial⟩⟩
      · rw [decide_eq_false hn]
        refine EL_no rfl rfl ?_
        refine EL_no rfl rfl ?_
        refine EL_no rfl rfl ?_
        refine EL_no rfl rfl ?_
        refine EL_no rfl rfl ?_
        refine EL_no rfl rfl ?_
        refine EL_no rfl rfl ?_
        refine EL_yes rfl rfl (x_pick_f rfl) rfl ?_
        refine EL_v (x_pick_f rfl) rfl ?_
        refine EL_nil ?_
        exact ⟨rfl, at_of rfl ⟨rfl, rfl, rfl, rfl, rfl, trivial⟩⟩
    rintro e w' ⟨rfl, t, rfl⟩
    refine EL_nil ?_
    refine thenQ_normal ?_
    refine EC_no rfl rfl ?_
    refine EC_skip ?_
    refine blockQ_normal ?_
    refine thenQ_normal ?_
    refine EC_region ?_
    refine EL_v (x_inc rfl rfl (by omega)) rfl ?_
    refine EL_v x_move rfl ?_
    refine EL_nil ?_
    exact loopQ_next (h.blks.length - (k + 1)) (by omega) ⟨k + 1, by omega, at_of rfl ⟨rfl, rfl, rfl, rfl, trivial⟩, hbX, rfl⟩
  · have hk : k = h.blks.length := by omega
    subst hk
    refine EC_exit ?_
    refine thenQ_exit ?_
    refine loopQ_exit ?_
    refine blockQ_hit ?_
    refine thenQ_normal ?_
    refine EC_seq ?_
    refine EC_region ?_
    refine EL_v x_assign rfl ?_
    refine EL_nil ?_
    refine thenQ_normal ?_
    refine EC_ret ?_
    exact post_tmp rfl rfl rfl ⟨rfl, hbw5.trans (hb.mono (by omega))⟩
end Go.Proofs.Yteepnepebilckaa
