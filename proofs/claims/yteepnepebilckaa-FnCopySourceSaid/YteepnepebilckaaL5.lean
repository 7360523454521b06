/- The law FnCopySource. -/
import Derived.Test.YteepnepebilckaaL4
import Derived.Test.YteepnepebilckaaE7
namespace Go.Proofs.Yteepnepebilckaa
open Go Go.Eng Go.RowKit

theorem Src.det {g : Gph} {a s s' : Nat} (h : Src g a s) (k : Src g a s') : s = s' := by
  induction h with
  | here h1 =>
    cases k with
    | here _ => rfl
    | step h2 _ _ => exact absurd h2 h1
  | step h1 h2 _ ih =>
    cases k with
    | here h3 => exact absurd h1 h3
    | step _ h4 h5 =>
      rw [h2] at h4
      have e := List.cons.inj h4
      rw [← e.1] at h5
      exact ih h5
theorem Red.srcArg {g g' : Gph} (h : Red g g') : ∀ i k s, k < (g.args i).length → Src g ((g'.args i).getD k 0) s → Src g ((g.args i).getD k 0) s := by
  induction h with
  | refl => exact fun _ _ _ _ h => h
  | @step g1 i0 k0 c d h0 h1 h2 h3 h4 h5 ih =>
    intro i k s hk hs
    rw [setArg_args] at hs
    by_cases e : i = i0
    · subst e
      rw [if_pos rfl] at hs
      by_cases e2 : k0 = k
      · subst e2
        rw [List.getD_eq_getElem?_getD, List.getElem?_set_self h2] at hs
        have hs : Src g d s := hs
        have hoc : g.op c = 14 := by rw [← h0.same.2.2.1]; exact h4
        have hlc : (g.args c).length = 1 := by rw [← h0.len c, h5]; rfl
        have h6 := ih c 0 s (by omega) (by rw [h5]; exact hs)
        obtain ⟨z, hz⟩ := List.length_eq_one_iff.1 hlc
        rw [hz] at h6
        have h7 : Src g c s := .step hoc hz h6
        refine ih i k0 s hk ?_
        rw [h3]; exact h7
      · rw [List.getD_eq_getElem?_getD, List.getElem?_set_ne e2, ← List.getD_eq_getElem?_getD] at hs
        exact ih i k s hk hs
    · rw [if_neg e] at hs
      exact ih i k s hk hs

/-- Each argument is the first value that is no copy. -/
structure SourceP (f h : Fn) : Prop where
  nv : h.vals.length = f.vals.length
  val : ∀ i, i < f.vals.length → (h.v i).op = (f.v i).op ∧ (h.v i).args.length = (f.v i).args.length ∧
    ∀ k, k < (f.v i).args.length → ∃ s : Nat, (h.v i).args.getD k 0 = (s : Int) ∧ Src (toG f) ((f.v i).args.getD k 0).toNat s
theorem sourceP {f : Fn} (hg : GoodP f) (hno : ∀ i, i < f.vals.length → (f.v i).op ≠ 13) {g' : Gph} (hof : CopyOf (toG f) g') : SourceP f (toF g') := by
  obtain ⟨g1, c2, hp, hc, rfl⟩ := hof.ex
  have hr := hp.red hno
  have hs := hr.same
  have hnv : g1.nv = f.vals.length := hs.1
  have hop : g1.op = (toG f).op := hs.2.2.1
  refine ⟨(toF_nv _).trans hnv, fun i hi => ?_⟩
  have hi' : i < ({ g1 with ctrl := c2 } : Gph).nv := by show i < g1.nv; rw [hnv]; exact hi
  rw [toF_v hi']
  have hal : ((toG f).args i).length = (f.v i).args.length := List.length_map ..
  refine ⟨?_, ?_, fun k hk => ?_⟩
  · show g1.op i = _
    rw [hop]; rfl
  · show (nats (g1.args i)).length = _
    rw [show (nats (g1.args i)).length = (g1.args i).length from List.length_map .., hr.len i, hal]
  · refine ⟨(g1.args i).getD k 0, getD_nats _ _, ?_⟩
    have hk1 : k < ((toG f).args i).length := by rw [hal]; exact hk
    have hk2 : k < (g1.args i).length := by rw [hr.len i]; exact hk1
    have h1 : g1.op ((g1.args i).getD k 0) ≠ 14 := (hp.fine i (by rw [hnv]; exact hi)).1 _ (getD_mem hk2)
    rw [hop] at h1
    have h2 := hr.srcArg i k _ hk1 (.here h1)
    have h3 : ((toG f).args i).getD k 0 = ((f.v i).args.getD k 0).toNat := getD_toNat _ _
    rw [h3] at h2
    exact h2
set_option maxHeartbeats 4000000
attribute [local irreducible] EC EL DL Ret thenQ blockQ loopQ bodyQ onlyN execOp Sem.run World.cell? World.frozen? World.setCell World.alloc

theorem FnCopySource_ret {w : World} {x : Value} {f : Fn} (hx : FnV w x f) :
    Ret Try.prog 8 #[x] w fun v w' => v = .bool true ∧ Below w.heap.size w w' := by
  obtain ⟨xv, xb, rfl, hvals, hblks⟩ := hx
  refine ret_of_EC Try.func8 rfl rfl ?_
  have hx0 : FnV w (.agg #[xv, xb]) f := ⟨xv, xb, rfl, hvals, hblks⟩
  obtain ⟨ab, cb, rfl, hbl⟩ := hblks
  obtain ⟨av, cv, rfl, hvl⟩ := hvals
  obtain ⟨B, hBd⟩ : ∃ B, B = w.heap.size := ⟨_, rfl⟩
  refine EC_seq ?_
  refine EC_region ?_
  refine EL_v (x_box (v := .agg #[.slice av f.vals.length cv, .slice ab f.blks.length cb]) rfl) rfl ?_
  change EL _ _ _ _ _ _ (w.alloc (.cells #[.slice av f.vals.length cv, .slice ab f.blks.length cb] 25))
  have hN1 := heap_alloc_new w (.cells #[.slice av f.vals.length cv, .slice ab f.blks.length cb] 25)
  have hO1 : ∀ zz, zz < w.heap.size → (w.alloc (.cells #[.slice av f.vals.length cv, .slice ab f.blks.length cb] 25)).heap[zz]? = w.heap[zz]? := fun _ hi => Below.heap_alloc _ _ _ hi
  have hZ1 := size_alloc w (.cells #[.slice av f.vals.length cv, .slice ab f.blks.length cb] 25)
  have hB1 := (Below.refl B w).alloc (by omega) (.cells #[.slice av f.vals.length cv, .slice ab f.blks.length cb] 25)
  have hK1 := Keep.alloc w (.cells #[.slice av f.vals.length cv, .slice ab f.blks.length cb] 25)
  generalize w.alloc (.cells #[.slice av f.vals.length cv, .slice ab f.blks.length cb] 25) = wa at hN1 hO1 hZ1 hB1 hK1 ⊢
  refine EL_v x_assign rfl ?_
  refine EL_nil ?_
  refine thenQ_normal ?_
  obtain ⟨b1, hb1⟩ : ∃ b1, b1 = w.heap.size := ⟨_, rfl⟩
  rw [← hb1] at hN1 ⊢
  have hbw : Below b1 w wa := by rw [hb1, ← hBd]; exact hB1
  refine EC_seq ?_
  refine EC_seq ?_
  refine EC_region ?_
  refine EL_v (x_loadS (cs := [.slice av f.vals.length cv, .slice ab f.blks.length cb]) rfl (tab_agg rfl) (cellsAt_block hN1)) rfl ?_
  refine EL_c (x_call Try.func11 rfl rfl rfl rfl) rfl (fits1_ret (hx0.keep hK1)) ?_
  rintro _ w1 ⟨sb, rfl, hfit, hbs⟩
  refine EL_v (x_not rfl) rfl ?_
  refine EL_nil ?_
  refine thenQ_normal ?_
  have hb1w : Below b1 w w1 := hbw.trans (hbs.mono (by omega))
  cases sb with
  | false =>
    refine EC_yes rfl rfl ?_
    refine EC_seq ?_
    refine EC_region ?_
    refine EL_v x_assign rfl ?_
    refine EL_nil ?_
    refine thenQ_normal ?_
    refine EC_ret ?_
    refine thenQ_ret ?_
    exact post_tmp rfl rfl rfl ⟨rfl, hb1w⟩
  | true =>
  refine EC_no rfl rfl ?_
  refine EC_skip ?_
  refine thenQ_normal ?_
  obtain ⟨hf1, hf2⟩ := hfit rfl
  have hbx1 : w1.heap[b1]? = some (.cells #[.slice av f.vals.length cv, .slice ab f.blks.length cb] 25 (0, 0)) := (hbs.block b1 (by omega)).trans hN1
  have hsz1 := hbs.size
  have hKe1 : Keep w w1 := hK1.trans (Keep.of_below hbs (Nat.le_refl _))
  refine EC_seq ?_
  refine EC_seq ?_
  refine EC_region ?_
  refine EL_v (x_loadS (cs := [.slice av f.vals.length cv, .slice ab f.blks.length cb]) rfl (tab_agg rfl) (cellsAt_block hbx1)) rfl ?_
  refine EL_c (x_call Try.func13 rfl rfl rfl rfl) rfl (laws_conv_ret (hx0.keep hKe1) hf1 hf2) ?_
  rintro vc w2 ⟨hvc, hbl2⟩
  refine EL_c (x_call Try.func12 rfl rfl rfl rfl) rfl (Good_ret hvc) ?_
  rintro _ w3 ⟨gb, rfl, hgood, hbl3⟩
  refine EL_v (x_not rfl) rfl ?_
  refine EL_nil ?_
  refine thenQ_normal ?_
  have hsz2 := hbl2.size
  have hsz3 := hbl3.size
  have hb3w : Below b1 w w3 := (hb1w.trans (hbl2.mono (by omega))).trans (hbl3.mono (by omega))
  cases gb with
  | false =>
    refine EC_yes rfl rfl ?_
    refine EC_seq ?_
    refine EC_region ?_
    refine EL_v x_assign rfl ?_
    refine EL_nil ?_
    refine thenQ_normal ?_
    refine EC_ret ?_
    refine thenQ_ret ?_
    exact post_tmp rfl rfl rfl ⟨rfl, hb3w⟩
  | true =>
  refine EC_no rfl rfl ?_
  refine EC_skip ?_
  refine thenQ_normal ?_
  have hgd := hgood.1 rfl
  have hKe3 : Keep w w3 := (hKe1.trans (Keep.of_below hbl2 (Nat.le_refl _))).trans (Keep.of_below hbl3 (Nat.le_refl _))
  have hx3 := hx0.keep hKe3
  have hbx3 : w3.heap[b1]? = some (.cells #[.slice av f.vals.length cv, .slice ab f.blks.length cb] 25 (0, 0)) := (hbl3.block b1 (by omega)).trans ((hbl2.block b1 (by omega)).trans hbx1)
  have hsz13 : b1 + 1 ≤ w3.heap.size := by omega
  have hn48 := hgd.shp.nv
  have f03 : w3.cell? ⟨b1, 0 + 0, none⟩ = some (.slice av f.vals.length cv) := cell_block hbx3 rfl
  have hfv3 : ∀ k, k < f.vals.length → ∃ bb ob, av = some ⟨bb, ob, none⟩ ∧ Quad w3 bb (ob + k * 4) (f.v k).op (f.v k).blk (f.v k).args (f.v k).aux := fun k hk => by
    obtain ⟨bb, ob, e, hq⟩ := hvl.resolve_left (fun e => by rw [e] at hk; simp at hk)
    exact ⟨bb, ob, e, (hq k hk).keep hKe3⟩
  obtain ⟨S0, hS0⟩ : ∃ S0, S0 = w3.heap.size := ⟨_, rfl⟩
  refine EC_seq_cutQ (fun e wr => At e [(1, .pointer (some ⟨b1, 0, none⟩))] ∧ Below S0 w3 wr ∧ ∀ i, i < f.vals.length → (f.v i).op ≠ 13) ?_ ?_
  · refine EC_seq ?_
    refine EC_region ?_
    refine EL_v (x_field rfl (tab_fld rfl)) rfl ?_
    refine EL_v (x_load rfl (tab_one rfl) (by with_reducible assumption)) rfl ?_
    refine EL_v (x_len rfl (tab_sl rfl)) rfl ?_
    refine EL_v x_move rfl ?_
    refine EL_nil ?_
    refine thenQ_normal ?_
    refine EC_block ?_
    refine EC_loop (fun n e wr => ∃ k, k ≤ f.vals.length ∧ At e [(1, .pointer (some ⟨b1, 0, none⟩)), (18, .slice av f.vals.length cv), (19, .int .i64 (f.vals.length : Int)), (20, .int .i64 (k : Int))] ∧ Below S0 w3 wr ∧ (∀ i, i < k → (f.v i).op ≠ 13) ∧ n = f.vals.length - k) f.vals.length
      ⟨0, Nat.zero_le _, at_of rfl ⟨rfl, rfl, rfl, rfl, trivial⟩, Below.refl _ _, fun i hi => absurd hi (Nat.not_lt_zero _), rfl⟩ ?_
    rintro n e wr ⟨k, hk, ⟨t, rfl⟩, hb, hno, rfl⟩
    refine EC_seq ?_
    refine EC_region ?_
    refine EL_v (x_lss rfl rfl) rfl ?_
    refine EL_nil ?_
    refine thenQ_normal ?_
    refine EC_seq ?_
    refine EC_if rfl rfl (fun hlt => ?_) (fun hge => ?_)
    · have hlt : k < f.vals.length := by omega
      obtain ⟨bb, ob, rfl, ⟨s0, hcells0, ⟨sa, sc, rfl, _⟩⟩⟩ := hfv3 k hlt
      have hKr : Keep w3 wr := Keep.of_below hb (by omega)
      have hcells := hcells0.keep hKr
      have hszr := hb.size
      refine EC_skip ?_
      refine thenQ_normal ?_
      refine EC_seq ?_
      refine EC_block ?_
      refine EC_seq ?_
      refine EC_region ?_
      refine EL_v (x_indexN (n := 4) rfl rfl (tab_sl rfl) hlt) rfl ?_
      refine EL_v (x_loadS rfl (tab_agg rfl) hcells) rfl ?_
      refine EL_v (x_alloc zero_iv) rfl ?_
      refine EL_s (x_storeNew rfl rfl (tab_sizeN rfl) rfl rfl) rfl ?_
      refine EL_nil ?_
      refine thenQ_normal ?_
      have hBle : B ≤ wr.heap.size := by omega
      change EC _ _ _ _ _ (wr.alloc (.cells #[.int .i64 (f.v k).op, .int .i64 (f.v k).blk, .slice sa (f.v k).args.length sc, .int .i64 (f.v k).aux] 36))
      have hN3 := heap_alloc_new wr (.cells #[.int .i64 (f.v k).op, .int .i64 (f.v k).blk, .slice sa (f.v k).args.length sc, .int .i64 (f.v k).aux] 36)
      have hO3 : ∀ zz, zz < wr.heap.size → (wr.alloc (.cells #[.int .i64 (f.v k).op, .int .i64 (f.v k).blk, .slice sa (f.v k).args.length sc, .int .i64 (f.v k).aux] 36)).heap[zz]? = wr.heap[zz]? := fun _ hi => Below.heap_alloc _ _ _ hi
      have hZ3 := size_alloc wr (.cells #[.int .i64 (f.v k).op, .int .i64 (f.v k).blk, .slice sa (f.v k).args.length sc, .int .i64 (f.v k).aux] 36)
      have hB3 := (Below.refl B wr).alloc (by omega) (.cells #[.int .i64 (f.v k).op, .int .i64 (f.v k).blk, .slice sa (f.v k).args.length sc, .int .i64 (f.v k).aux] 36)
      have hK3 := Keep.alloc wr (.cells #[.int .i64 (f.v k).op, .int .i64 (f.v k).blk, .slice sa (f.v k).args.length sc, .int .i64 (f.v k).aux] 36)
      generalize wr.alloc (.cells #[.int .i64 (f.v k).op, .int .i64 (f.v k).blk, .slice sa (f.v k).args.length sc, .int .i64 (f.v k).aux] 36) = X at hN3 hO3 hZ3 hB3 hK3 ⊢
      obtain ⟨V, hV⟩ : ∃ V, V = wr.heap.size := ⟨_, rfl⟩
      rw [← hV] at hN3 ⊢
      have hbX : Below S0 w3 X := hb.trans ⟨hB3.os, hB3.tape, hB3.output, hB3.size, fun j hj => hO3 j (by omega)⟩
      have v0 : X.cell? ⟨V, 0 + 0, none⟩ = some (.int .i64 (f.v k).op) := cell_block hN3 rfl
      refine EC_seq ?_
      refine EC_region ?_
      refine EL_v (x_field rfl (tab_fld rfl)) rfl ?_
      refine EL_v (x_load rfl (tab_one rfl) (by with_reducible assumption)) rfl ?_
      refine EL_v (x_eql rfl rfl) rfl ?_
      refine EL_nil ?_
      refine thenQ_normal ?_
      refine EC_if rfl rfl (fun hphi => ?_) (fun hphi => ?_)
      · refine EC_seq ?_
        refine EC_region ?_
        refine EL_v x_assign rfl ?_
        refine EL_nil ?_
        refine thenQ_normal ?_
        refine EC_ret ?_
        refine blockQ_ret ?_
        refine thenQ_ret ?_
        refine loopQ_ret ?_
        refine blockQ_ret ?_
        refine orN_ret ?_
        exact post_tmp rfl rfl rfl ⟨rfl, hb3w.trans (hbX.mono (by omega))⟩
      · refine EC_skip ?_
        refine blockQ_normal ?_
        refine thenQ_normal ?_
        refine EC_region ?_
        refine EL_v (x_inc rfl rfl (by omega)) rfl ?_
        refine EL_v x_move rfl ?_
        refine EL_nil ?_
        refine loopQ_next (f.vals.length - (k + 1)) (by omega) ⟨k + 1, by omega, at_of rfl ⟨rfl, rfl, rfl, rfl, trivial⟩, hbX, fun i hi => ?_, rfl⟩
        by_cases e : i = k
        · subst e; exact hphi
        · exact hno i (by omega)
    · have hk : k = f.vals.length := by omega
      subst hk
      refine EC_exit ?_
      refine thenQ_exit ?_
      refine loopQ_exit ?_
      refine blockQ_hit ?_
      exact orN_in ⟨at_of rfl ⟨rfl, trivial⟩, hb, hno⟩
  clear hfv3 f03
  rintro e wr ⟨⟨t, rfl⟩, hb, hno⟩
  have hKr3 : Keep w3 wr := Keep.of_below hb (by omega)
  have hx3 := hx3.keep hKr3
  have hbx3 := (hb.block b1 (by omega)).trans hbx3
  have hb3w := hb3w.trans (hb.mono (by omega))
  have hKe3 := hKe3.trans hKr3
  have hsz13 : b1 + 1 ≤ wr.heap.size := by have := hb.size; omega
  refine EC_seq ?_
  refine EC_region ?_
  refine EL_v (x_loadS (cs := [.slice av f.vals.length cv, .slice ab f.blks.length cb]) rfl (tab_agg rfl) (cellsAt_block hbx3)) rfl ?_
  refine EL_c (x_call Try.func16 rfl rfl rfl rfl) rfl (implCopy_ret hx3 hgd.wf (ginv_pinv (truthN f 48) (toG f)) ⟨hgd.good, rfl, rfl, rfl⟩ fun _ h => h.good.gok) ?_
  rintro vg w4 ⟨⟨g', hof, hvg⟩, hbl4⟩
  obtain ⟨gxv, gxb, rfl, gvals, gblks⟩ := hvg
  obtain ⟨gab, gcb, rfl, gbl⟩ := gblks
  obtain ⟨gav, gcv, rfl, gvl⟩ := gvals
  refine EL_v (x_alloc zero_fn_i) rfl ?_
  have hBle : B ≤ w4.heap.size := by have := hbl4.size; omega
  refine EL_s (x_storeNew rfl rfl (tab_sizeN rfl) rfl rfl) rfl ?_
  refine EL_nil ?_
  refine thenQ_normal ?_
  change EC _ _ _ _ _ (w4.alloc (.cells #[.slice gav (toF g').vals.length gcv, .slice gab (toF g').blks.length gcb] 25))
  have hN5 := heap_alloc_new w4 (.cells #[.slice gav (toF g').vals.length gcv, .slice gab (toF g').blks.length gcb] 25)
  have hO5 : ∀ zz, zz < w4.heap.size → (w4.alloc (.cells #[.slice gav (toF g').vals.length gcv, .slice gab (toF g').blks.length gcb] 25)).heap[zz]? = w4.heap[zz]? := fun _ hi => Below.heap_alloc _ _ _ hi
  have hZ5 := size_alloc w4 (.cells #[.slice gav (toF g').vals.length gcv, .slice gab (toF g').blks.length gcb] 25)
  have hB5 := (Below.refl B w4).alloc (by omega) (.cells #[.slice gav (toF g').vals.length gcv, .slice gab (toF g').blks.length gcb] 25)
  have hK5 := Keep.alloc w4 (.cells #[.slice gav (toF g').vals.length gcv, .slice gab (toF g').blks.length gcb] 25)
  generalize w4.alloc (.cells #[.slice gav (toF g').vals.length gcv, .slice gab (toF g').blks.length gcb] 25) = w5 at hN5 hO5 hZ5 hB5 hK5 ⊢
  obtain ⟨b5, hb5⟩ : ∃ b5, b5 = w4.heap.size := ⟨_, rfl⟩
  rw [← hb5] at hN5 ⊢
  have hsz4 := hbl4.size
  have hbw5 : Below b1 w w5 := (hb3w.trans (hbl4.mono (by omega))).trans ⟨hB5.os, hB5.tape, hB5.output, hB5.size, fun j hj => hO5 j (by omega)⟩
  have hbx5 : w5.heap[b1]? = some (.cells #[.slice av f.vals.length cv, .slice ab f.blks.length cb] 25 (0, 0)) := (hO5 b1 (by omega)).trans ((hbl4.block b1 (by omega)).trans hbx3)
  have f0 : w5.cell? ⟨b1, 0 + 0, none⟩ = some (.slice av f.vals.length cv) := cell_block hbx5 rfl
  have f1 : w5.cell? ⟨b1, 0 + 1, none⟩ = some (.slice ab f.blks.length cb) := cell_block hbx5 rfl
  have g0 : w5.cell? ⟨b5, 0 + 0, none⟩ = some (.slice gav (toF g').vals.length gcv) := cell_block hN5 rfl
  have g1 : w5.cell? ⟨b5, 0 + 1, none⟩ = some (.slice gab (toF g').blks.length gcb) := cell_block hN5 rfl
  have hKe5 : Keep w w5 := (hKe3.trans (Keep.of_below hbl4 (Nat.le_refl _))).trans hK5
  have hfv : ∀ k, k < f.vals.length → ∃ bb ob, av = some ⟨bb, ob, none⟩ ∧ Quad w5 bb (ob + k * 4) (f.v k).op (f.v k).blk (f.v k).args (f.v k).aux := fun k hk => by
    obtain ⟨bb, ob, e, hq⟩ := hvl.resolve_left (fun e => by rw [e] at hk; simp at hk)
    exact ⟨bb, ob, e, (hq k hk).keep hKe5⟩
  have hfb : ∀ k, k < f.blks.length → ∃ bb ob, ab = some ⟨bb, ob, none⟩ ∧ Quad w5 bb (ob + k * 4) (f.b k).kind (f.b k).ctrl (f.b k).succs (f.b k).likely := fun k hk => by
    obtain ⟨bb, ob, e, hq⟩ := hbl.resolve_left (fun e => by rw [e] at hk; simp at hk)
    exact ⟨bb, ob, e, (hq k hk).keep hKe5⟩
  have hgv : ∀ k, k < (toF g').vals.length → ∃ bb ob, gav = some ⟨bb, ob, none⟩ ∧ Quad w5 bb (ob + k * 4) ((toF g').v k).op ((toF g').v k).blk ((toF g').v k).args ((toF g').v k).aux := fun k hk => by
    obtain ⟨bb, ob, e, hq⟩ := gvl.resolve_left (fun e => by rw [e] at hk; simp at hk)
    exact ⟨bb, ob, e, (hq k hk).keep hK5⟩
  have hgb : ∀ k, k < (toF g').blks.length → ∃ bb ob, gab = some ⟨bb, ob, none⟩ ∧ Quad w5 bb (ob + k * 4) ((toF g').b k).kind ((toF g').b k).ctrl ((toF g').b k).succs ((toF g').b k).likely := fun k hk => by
    obtain ⟨bb, ob, e, hq⟩ := gbl.resolve_left (fun e => by rw [e] at hk; simp at hk)
    exact ⟨bb, ob, e, (hq k hk).keep hK5⟩
  have hSP := sourceP hgd hno hof
  have hci := hgd.goodA.cinv
  clear gvl gbl hvl hbl hfb hgb
  generalize toF g' = h at hSP hgv hN5 g0 g1 ⊢
  obtain ⟨hnv, hval⟩ := hSP
  rw [hnv] at hN5 g0
  obtain ⟨SA, hSA⟩ : ∃ SA, SA = w5.heap.size := ⟨_, rfl⟩
  refine EC_seq ?_
  refine EC_seq ?_
  refine EC_region ?_
  refine EL_v (x_field rfl (tab_fld rfl)) rfl ?_
  refine EL_v (x_load rfl (tab_one rfl) (by with_reducible assumption)) rfl ?_
  refine EL_v (x_len rfl (tab_sl rfl)) rfl ?_
  refine EL_v (x_field rfl (tab_fld rfl)) rfl ?_
  refine EL_v (x_load rfl (tab_one rfl) (by with_reducible assumption)) rfl ?_
  refine EL_v (x_len rfl (tab_sl rfl)) rfl ?_
  refine EL_v (x_neq rfl rfl) rfl ?_
  refine EL_nil ?_
  refine thenQ_normal ?_
  refine EC_no (congrArg Value.bool (decide_eq_false (fun hh => hh rfl : ¬ ((f.vals.length : Int) ≠ (f.vals.length : Int))))) rfl ?_
  refine EC_skip ?_
  refine thenQ_normal ?_
  refine EC_seq ?_
  refine EC_seq ?_
  refine EC_region ?_
  refine EL_v (x_field rfl (tab_fld rfl)) rfl ?_
  refine EL_v (x_load rfl (tab_one rfl) (by with_reducible assumption)) rfl ?_
  refine EL_v (x_len rfl (tab_sl rfl)) rfl ?_
  refine EL_v x_move rfl ?_
  refine EL_nil ?_
  refine thenQ_normal ?_
  refine EC_block ?_
  refine EC_loop (fun n e wr => ∃ k, k ≤ f.vals.length ∧ At e [(1, .pointer (some ⟨b1, 0, none⟩)), (5, .pointer (some ⟨b5, 0, none⟩)), (38, .slice av f.vals.length cv), (39, .int .i64 (f.vals.length : Int)), (40, .int .i64 (k : Int))] ∧ Below SA w5 wr ∧ n = f.vals.length - k) f.vals.length
    ⟨0, Nat.zero_le _, at_of rfl ⟨rfl, rfl, rfl, rfl, rfl, trivial⟩, Below.refl _ _, rfl⟩ ?_
  clear hb
  rintro n e wr ⟨k, hk, ⟨t, rfl⟩, hb, rfl⟩
  refine EC_seq ?_
  refine EC_region ?_
  refine EL_v (x_lss rfl rfl) rfl ?_
  refine EL_nil ?_
  refine thenQ_normal ?_
  refine EC_seq ?_
  refine EC_if rfl rfl (fun hlt => ?_) (fun hge => ?_)
  · have hlt : k < f.vals.length := by omega
    obtain ⟨bb, ob, rfl, ⟨s0, hcells0, ⟨sa, sc, rfl, hints⟩⟩⟩ := hfv k hlt
    obtain ⟨bg, og, rfl, ⟨s1, hcells1, ⟨ra, rc, rfl, hintg⟩⟩⟩ := hgv k (by rw [hnv]; exact hlt)
    obtain ⟨hvop, hvlen, hvsrc⟩ := hval k hlt
    rw [hvlen] at hcells1
    have hKr : Keep w5 wr := Keep.of_below hb (by omega)
    have hcells := hcells0.keep hKr
    have hszr := hb.size
    have hal : (f.v k).args.length ≤ 64 := (hgd.wf.args k hlt).1
    refine EC_skip ?_
    refine thenQ_normal ?_
    refine EC_seq ?_
    refine EC_block ?_
    refine EC_seq ?_
    refine EC_region ?_
    refine EL_v x_move rfl ?_
    refine EL_v (x_indexN (n := 4) rfl rfl (tab_sl rfl) hlt) rfl ?_
    refine EL_v (x_loadS rfl (tab_agg rfl) hcells) rfl ?_
    refine EL_v (x_alloc zero_iv) rfl ?_
    refine EL_v x_assign rfl ?_
    refine EL_s (x_storeNew rfl rfl (tab_sizeN rfl) rfl rfl) rfl ?_
    refine EL_nil ?_
    refine thenQ_normal ?_
    have hBle : B ≤ wr.heap.size := by omega
    change EC _ _ _ _ _ (wr.alloc (.cells #[.int .i64 (f.v k).op, .int .i64 (f.v k).blk, .slice sa (f.v k).args.length sc, .int .i64 (f.v k).aux] 36))
    have hN3 := heap_alloc_new wr (.cells #[.int .i64 (f.v k).op, .int .i64 (f.v k).blk, .slice sa (f.v k).args.length sc, .int .i64 (f.v k).aux] 36)
    have hO3 : ∀ zz, zz < wr.heap.size → (wr.alloc (.cells #[.int .i64 (f.v k).op, .int .i64 (f.v k).blk, .slice sa (f.v k).args.length sc, .int .i64 (f.v k).aux] 36)).heap[zz]? = wr.heap[zz]? := fun _ hi => Below.heap_alloc _ _ _ hi
    have hZ3 := size_alloc wr (.cells #[.int .i64 (f.v k).op, .int .i64 (f.v k).blk, .slice sa (f.v k).args.length sc, .int .i64 (f.v k).aux] 36)
    have hB3 := (Below.refl B wr).alloc (by omega) (.cells #[.int .i64 (f.v k).op, .int .i64 (f.v k).blk, .slice sa (f.v k).args.length sc, .int .i64 (f.v k).aux] 36)
    have hK3 := Keep.alloc wr (.cells #[.int .i64 (f.v k).op, .int .i64 (f.v k).blk, .slice sa (f.v k).args.length sc, .int .i64 (f.v k).aux] 36)
    generalize wr.alloc (.cells #[.int .i64 (f.v k).op, .int .i64 (f.v k).blk, .slice sa (f.v k).args.length sc, .int .i64 (f.v k).aux] 36) = X at hN3 hO3 hZ3 hB3 hK3 ⊢
    obtain ⟨V, hV⟩ : ∃ V, V = wr.heap.size := ⟨_, rfl⟩
    rw [← hV] at hN3 ⊢
    have hbX : Below SA w5 X := hb.trans ⟨hB3.os, hB3.tape, hB3.output, hB3.size, fun j hj => hO3 j (by omega)⟩
    have hKX : Keep w5 X := hKr.trans hK3
    have v0 : X.cell? ⟨V, 0 + 0, none⟩ = some (.int .i64 (f.v k).op) := cell_block hN3 rfl
    have v2 : X.cell? ⟨V, 0 + 2, none⟩ = some (.slice sa (f.v k).args.length sc) := cell_block hN3 rfl
    refine EC_seq ?_
    refine EC_region ?_
    refine EL_v (x_field rfl (tab_fld rfl)) rfl ?_
    refine EL_v (x_load rfl (tab_one rfl) (by with_reducible assumption)) rfl ?_
    refine EL_v (x_len rfl (tab_sl rfl)) rfl ?_
    refine EL_v x_move rfl ?_
    refine EL_nil ?_
    refine thenQ_normal ?_
    refine EC_block ?_
    refine EC_loop (fun n e wi => ∃ j, j ≤ (f.v k).args.length ∧ At e [(1, .pointer (some ⟨b1, 0, none⟩)), (5, .pointer (some ⟨b5, 0, none⟩)), (38, .slice (some ⟨bb, ob, none⟩) f.vals.length cv), (39, .int .i64 (f.vals.length : Int)), (40, .int .i64 (k : Int)), (6, .int .i64 (k : Int)), (7, .pointer (some ⟨V, 0, none⟩)), (46, .slice sa (f.v k).args.length sc), (47, .int .i64 ((f.v k).args.length : Int)), (48, .int .i64 (j : Int))] ∧ Below SA w5 wi ∧ Keep X wi ∧ n = (f.v k).args.length - j) (f.v k).args.length
      ⟨0, Nat.zero_le _, at_of rfl ⟨rfl, rfl, rfl, rfl, rfl, rfl, rfl, rfl, rfl, rfl, trivial⟩, hbX, fun _ _ h => h, rfl⟩ ?_
    rintro n e wi ⟨j, hj, ⟨t, rfl⟩, hbi, hKi, rfl⟩
    refine EC_seq ?_
    refine EC_region ?_
    refine EL_v (x_lss rfl rfl) rfl ?_
    refine EL_nil ?_
    refine thenQ_normal ?_
    refine EC_seq ?_
    refine EC_if rfl rfl (fun hlj => ?_) (fun hgj => ?_)
    · have hlj : j < (f.v k).args.length := by omega
      obtain ⟨ba, oa, rfl, hai⟩ := hints.get hlj
      obtain ⟨bh, oh, rfl, hah⟩ := hintg.get (k := j) (by rw [hvlen]; exact hlj)
      have hKW := hKX.trans hKi
      have hai := hKW _ _ hai
      have hah := hKW _ _ hah
      obtain ⟨s, hs1, hs2⟩ := hvsrc j hlj
      rw [hs1] at hah
      have hmem := hgd.args hlt _ (getD_memI hlj)
      obtain ⟨a, ha⟩ : ∃ a : Nat, (f.v k).args.getD j 0 = (a : Int) := ⟨_, (Int.toNat_of_nonneg hmem.1).symm⟩
      rw [ha] at hmem hai hs2
      rw [Int.toNat_natCast] at hs2
      have han : a < f.vals.length := by omega
      have f0i := hKW _ _ f0
      have g0i := hKW _ _ g0
      have hc0 := (hKW _ _ (hcells1 0 _ rfl))
      have hc2 := (hKW _ _ (hcells1 2 _ rfl))
      rw [hvop] at hc0
      have v0i := hKi _ _ v0
      refine EC_skip ?_
      refine thenQ_normal ?_
      refine EC_seq ?_
      refine EC_block ?_
      refine EC_seq ?_
      refine EC_region ?_
      refine EL_v x_move rfl ?_
      refine EL_v (x_index1 rfl rfl (tab_sl rfl) (by omega)) rfl ?_
      refine EL_v (x_load rfl (tab_one rfl) (by with_reducible assumption)) rfl ?_
      refine EL_v x_assign rfl ?_
      refine EL_v x_assign rfl ?_
      refine EL_nil ?_
      refine thenQ_normal ?_
      refine EC_seq_cutQ (fun e w' => w' = wi ∧ At e [(9, .int .i64 (s : Int)), (8, .int .i64 (j : Int)), (1, .pointer (some ⟨b1, 0, none⟩)), (5, .pointer (some ⟨b5, 0, none⟩)), (38, .slice (some ⟨bb, ob, none⟩) f.vals.length cv), (39, .int .i64 (f.vals.length : Int)), (40, .int .i64 (k : Int)), (6, .int .i64 (k : Int)), (7, .pointer (some ⟨V, 0, none⟩)), (46, .slice (some ⟨ba, oa, none⟩) (f.v k).args.length sc), (47, .int .i64 ((f.v k).args.length : Int)), (48, .int .i64 (j : Int))]) ?_ ?_
      · refine EC_block ?_
        refine EC_loop (fun n e w' => w' = wi ∧ ∃ b : Nat, b < f.vals.length ∧ Src (toG f) b s ∧ n = rk (toG f) b ∧ At e [(9, .int .i64 (b : Int)), (8, .int .i64 (j : Int)), (1, .pointer (some ⟨b1, 0, none⟩)), (5, .pointer (some ⟨b5, 0, none⟩)), (38, .slice (some ⟨bb, ob, none⟩) f.vals.length cv), (39, .int .i64 (f.vals.length : Int)), (40, .int .i64 (k : Int)), (6, .int .i64 (k : Int)), (7, .pointer (some ⟨V, 0, none⟩)), (46, .slice (some ⟨ba, oa, none⟩) (f.v k).args.length sc), (47, .int .i64 ((f.v k).args.length : Int)), (48, .int .i64 (j : Int))]) (rk (toG f) a)
          ⟨rfl, a, han, hs2, rfl, at_of rfl ⟨rfl, rfl, rfl, rfl, rfl, rfl, rfl, rfl, rfl, rfl, rfl, rfl, trivial⟩⟩ ?_
        rintro n e w' ⟨rfl, b, hbn, hsb, rfl, ⟨t, rfl⟩⟩
        obtain ⟨bb', ob', e, ⟨s2, hcB, ⟨ca, cc, rfl, hintb⟩⟩⟩ := hfv b hbn
        cases e
        have hb0 := (hKW _ _ (hcB 0 _ rfl))
        have hb2 := (hKW _ _ (hcB 2 _ rfl))
        refine EC_seq ?_
        refine EC_seq ?_
        refine EC_region ?_
        refine EL_v (x_field rfl (tab_fld rfl)) rfl ?_
        refine EL_v (x_load rfl (tab_one rfl) (by with_reducible assumption)) rfl ?_
        refine EL_v x_move rfl ?_
        refine EL_v (x_indexN (n := 4) rfl rfl (tab_sl rfl) hbn) rfl ?_
        refine EL_v (x_field rfl (tab_fld rfl)) rfl ?_
        refine EL_v (x_load rfl (tab_one rfl) (by with_reducible assumption)) rfl ?_
        refine EL_v (x_eql rfl rfl) rfl ?_
        refine EL_nil ?_
        refine thenQ_normal ?_
        refine EC_if rfl rfl (fun h14 => ?_) (fun h14 => ?_)
        · refine EC_skip ?_
          refine thenQ_normal ?_
          obtain ⟨z, hz, hrz⟩ := hci.copy b hbn h14
          have hzn := hci.closed b hbn z (by rw [hz]; exact .head _)
          have hfl : (f.v b).args.length = 1 := by
            have e1 : ((toG f).args b).length = (f.v b).args.length := List.length_map ..
            rw [hz] at e1; exact e1.symm
          obtain ⟨bc, oc, rfl, haz⟩ := hintb.get (k := 0) (by omega)
          have haz := hKW _ _ haz
          have hzv : (f.v b).args.getD 0 0 = (z : Int) := by
            have e1 : ((toG f).args b).getD 0 0 = ((f.v b).args.getD 0 0).toNat := getD_toNat _ _
            rw [hz] at e1
            have e2 : z = ((f.v b).args.getD 0 0).toNat := e1
            have e3 := hgd.args hbn _ (getD_memI (l := (f.v b).args) (k := 0) (by omega))
            omega
          rw [hzv] at haz
          refine EC_block ?_
          refine EC_region ?_
          refine EL_v (x_field rfl (tab_fld rfl)) rfl ?_
          refine EL_v (x_load rfl (tab_one rfl) (by with_reducible assumption)) rfl ?_
          refine EL_v x_move rfl ?_
          refine EL_v (x_indexN (n := 4) rfl rfl (tab_sl rfl) hbn) rfl ?_
          refine EL_v (x_field rfl (tab_fld rfl)) rfl ?_
          refine EL_v (x_load rfl (tab_one rfl) (by with_reducible assumption)) rfl ?_
          refine EL_v (x_index0 rfl rfl (tab_sl rfl) (by omega)) rfl ?_
          refine EL_v (x_load rfl (tab_one rfl) (by with_reducible assumption)) rfl ?_
          refine EL_v x_assign rfl ?_
          refine EL_nil ?_
          refine blockQ_normal ?_
          refine loopQ_next (rk (toG f) z) hrz ⟨rfl, z, hzn, ?_, rfl, at_of rfl ⟨rfl, rfl, rfl, rfl, rfl, rfl, rfl, rfl, rfl, rfl, rfl, rfl, trivial⟩⟩
          cases hsb with
          | here h1 => exact absurd h14 h1
          | step _ h2 h3 =>
            rw [hz] at h2
            have e4 := (List.cons.inj h2).1
            rw [← e4] at h3
            exact h3
        · refine EC_exit ?_
          refine thenQ_exit ?_
          refine loopQ_exit ?_
          refine blockQ_hit ?_
          have hbs : b = s := Src.det (.here h14) hsb
          subst hbs
          exact orN_in ⟨rfl, at_of rfl ⟨rfl, rfl, rfl, rfl, rfl, rfl, rfl, rfl, rfl, rfl, rfl, rfl, trivial⟩⟩
      rintro e w' ⟨rfl, t, rfl⟩
      refine EC_seq ?_
      have hc : Cells [(⟨b5, 0 + 0, none⟩, .slice (some ⟨bg, og, none⟩) f.vals.length gcv), (⟨bg, og + k * 4 + 0, none⟩, .int .i64 (f.v k).op), (⟨V, 0 + 0, none⟩, .int .i64 (f.v k).op), (⟨bg, og + k * 4 + 2, none⟩, .slice (some ⟨bh, oh, none⟩) (f.v k).args.length rc), (⟨bh, oh + j, none⟩, .int .i64 (s : Int))] w'.drew :=
        (Keep.drew w').cells (.cons g0i (.cons hc0 (.cons v0i (.cons hc2 (.cons hah (.nil _))))))
      refine EC_draw mixed (Cells [(⟨b5, 0 + 0, none⟩, .slice (some ⟨bg, og, none⟩) f.vals.length gcv), (⟨bg, og + k * 4 + 0, none⟩, .int .i64 (f.v k).op), (⟨V, 0 + 0, none⟩, .int .i64 (f.v k).op), (⟨bg, og + k * 4 + 2, none⟩, .slice (some ⟨bh, oh, none⟩) (f.v k).args.length rc), (⟨bh, oh + j, none⟩, .int .i64 (s : Int))]) [(0, false), (1, false), (2, false), (3, false), (4, false), (5, false), (6, false), (7, false), (8, false), (9, false), (10, false), (11, false), (12, false), (13, false), (14, false), (15, false), (16, false), (17, false), (18, false), (19, false), (20, false), (21, false)] (by kernel_rfl) hc ?_
      have hbi2 := hbi.drew
      have hKi2 := hKi.trans (Keep.drew w')
      generalize w'.drew = Y at hc hbi2 hKi2 ⊢
      have hltg : k < f.vals.length := hlt
      refine DL_v rfl (fun _ _ => x_field rfl (tab_fld rfl)) ?_
      refine DL_v rfl (fun _ hS => x_load rfl (tab_one rfl) (hS.get (by first | exact .head _ | exact .tail _ (.head _) | exact .tail _ (.tail _ (.head _)) | exact .tail _ (.tail _ (.tail _ (.head _))) | exact .tail _ (.tail _ (.tail _ (.tail _ (.head _)))) | exact .tail _ (.tail _ (.tail _ (.tail _ (.tail _ (.head _))))) | exact .tail _ (.tail _ (.tail _ (.tail _ (.tail _ (.tail _ (.head _)))))) | exact .tail _ (.tail _ (.tail _ (.tail _ (.tail _ (.tail _ (.tail _ (.head _)))))))))) ?_
      refine DL_v rfl (fun _ _ => x_move) ?_
      refine DL_v rfl (fun _ _ => x_indexN (n := 4) rfl rfl (tab_sl rfl) hltg) ?_
      refine DL_v rfl (fun _ _ => x_field rfl (tab_fld rfl)) ?_
      refine DL_v rfl (fun _ hS => x_load rfl (tab_one rfl) (hS.get (by first | exact .head _ | exact .tail _ (.head _) | exact .tail _ (.tail _ (.head _)) | exact .tail _ (.tail _ (.tail _ (.head _))) | exact .tail _ (.tail _ (.tail _ (.tail _ (.head _)))) | exact .tail _ (.tail _ (.tail _ (.tail _ (.tail _ (.head _))))) | exact .tail _ (.tail _ (.tail _ (.tail _ (.tail _ (.tail _ (.head _)))))) | exact .tail _ (.tail _ (.tail _ (.tail _ (.tail _ (.tail _ (.tail _ (.head _)))))))))) ?_
      refine DL_v rfl (fun _ _ => x_field rfl (tab_fld rfl)) ?_
      refine DL_v rfl (fun _ hS => x_load rfl (tab_one rfl) (hS.get (by first | exact .head _ | exact .tail _ (.head _) | exact .tail _ (.tail _ (.head _)) | exact .tail _ (.tail _ (.tail _ (.head _))) | exact .tail _ (.tail _ (.tail _ (.tail _ (.head _)))) | exact .tail _ (.tail _ (.tail _ (.tail _ (.tail _ (.head _))))) | exact .tail _ (.tail _ (.tail _ (.tail _ (.tail _ (.tail _ (.head _)))))) | exact .tail _ (.tail _ (.tail _ (.tail _ (.tail _ (.tail _ (.tail _ (.head _)))))))))) ?_
      refine DL_v rfl (fun _ _ => x_neq rfl rfl) ?_
      refine DL_v rfl (fun _ _ => x_move) ?_
      rw [decide_eq_false (fun hh => hh rfl : ¬ ((f.v k).op ≠ (f.v k).op))]
      refine DL_gy rfl rfl (fun _ _ => x_field rfl (tab_fld rfl)) ?_
      refine DL_gy rfl rfl (fun _ hS => x_load rfl (tab_one rfl) (hS.get (by first | exact .head _ | exact .tail _ (.head _) | exact .tail _ (.tail _ (.head _)) | exact .tail _ (.tail _ (.tail _ (.head _))) | exact .tail _ (.tail _ (.tail _ (.tail _ (.head _)))) | exact .tail _ (.tail _ (.tail _ (.tail _ (.tail _ (.head _))))) | exact .tail _ (.tail _ (.tail _ (.tail _ (.tail _ (.tail _ (.head _)))))) | exact .tail _ (.tail _ (.tail _ (.tail _ (.tail _ (.tail _ (.tail _ (.head _)))))))))) ?_
      refine DL_gy rfl rfl (fun _ _ => x_move) ?_
      refine DL_gy rfl rfl (fun _ _ => x_indexN (n := 4) rfl rfl (tab_sl rfl) hltg) ?_
      refine DL_gy rfl rfl (fun _ _ => x_field rfl (tab_fld rfl)) ?_
      refine DL_gy rfl rfl (fun _ hS => x_load rfl (tab_one rfl) (hS.get (by first | exact .head _ | exact .tail _ (.head _) | exact .tail _ (.tail _ (.head _)) | exact .tail _ (.tail _ (.tail _ (.head _))) | exact .tail _ (.tail _ (.tail _ (.tail _ (.head _)))) | exact .tail _ (.tail _ (.tail _ (.tail _ (.tail _ (.head _))))) | exact .tail _ (.tail _ (.tail _ (.tail _ (.tail _ (.tail _ (.head _)))))) | exact .tail _ (.tail _ (.tail _ (.tail _ (.tail _ (.tail _ (.tail _ (.head _)))))))))) ?_
      refine DL_gy rfl rfl (fun _ _ => x_move) ?_
      refine DL_gy rfl rfl (fun _ _ => x_index1 rfl rfl (tab_sl rfl) (by omega)) ?_
      refine DL_gy rfl rfl (fun _ hS => x_load rfl (tab_one rfl) (hS.get (by first | exact .head _ | exact .tail _ (.head _) | exact .tail _ (.tail _ (.head _)) | exact .tail _ (.tail _ (.tail _ (.head _))) | exact .tail _ (.tail _ (.tail _ (.tail _ (.head _)))) | exact .tail _ (.tail _ (.tail _ (.tail _ (.tail _ (.head _))))) | exact .tail _ (.tail _ (.tail _ (.tail _ (.tail _ (.tail _ (.head _)))))) | exact .tail _ (.tail _ (.tail _ (.tail _ (.tail _ (.tail _ (.tail _ (.head _)))))))))) ?_
      refine DL_gy rfl rfl (fun _ _ => x_move) ?_
      refine DL_gy rfl rfl (fun _ _ => x_neq rfl rfl) ?_
      refine DL_v rfl (fun _ _ => x_pick_f rfl) ?_
      refine DL_nil ?_
      refine thenQ_normal ?_
      refine EC_no (congrArg Value.bool (decide_eq_false (fun hh => hh rfl : ¬ ((s : Int) ≠ (s : Int))))) rfl ?_
      refine EC_skip ?_
      refine blockQ_normal ?_
      refine thenQ_normal ?_
      refine EC_region ?_
      refine EL_v (x_inc rfl rfl (by omega)) rfl ?_
      refine EL_v x_move rfl ?_
      refine EL_nil ?_
      exact loopQ_next ((f.v k).args.length - (j + 1)) (by omega) ⟨j + 1, by omega, at_of rfl ⟨rfl, rfl, rfl, rfl, rfl, rfl, rfl, rfl, rfl, rfl, trivial⟩, hbi2, hKi2, rfl⟩
    · have hj : j = (f.v k).args.length := by omega
      subst hj
      refine EC_exit ?_
      refine thenQ_exit ?_
      refine loopQ_exit ?_
      refine blockQ_hit ?_
      refine blockQ_normal ?_
      refine thenQ_normal ?_
      refine EC_region ?_
      refine EL_v (x_inc rfl rfl (by omega)) rfl ?_
      refine EL_v x_move rfl ?_
      refine EL_nil ?_
      exact loopQ_next (f.vals.length - (k + 1)) (by omega) ⟨k + 1, by omega, at_of rfl ⟨rfl, rfl, rfl, rfl, rfl, trivial⟩, hbi, rfl⟩
  · have hk : k = f.vals.length := by omega
    subst hk
    refine EC_exit ?_
    refine thenQ_exit ?_
    refine loopQ_exit ?_
    refine blockQ_hit ?_
    refine thenQ_normal ?_
    refine EC_seq ?_
    refine EC_region ?_
    refine EL_v x_assign rfl ?_
    refine EL_nil ?_
    refine thenQ_normal ?_
    refine EC_ret ?_
    exact post_tmp rfl rfl rfl ⟨rfl, hbw5.trans (hb.mono (by omega))⟩
end Go.Proofs.Yteepnepebilckaa
