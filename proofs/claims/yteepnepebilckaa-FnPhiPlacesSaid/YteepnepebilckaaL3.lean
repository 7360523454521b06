/- The law FnPhiPlaces. -/
import Derived.Test.YteepnepebilckaaL1
import Derived.Test.YteepnepebilckaaV8
import Derived.Test.YteepnepebilckaaP4
namespace Go.Proofs.Yteepnepebilckaa
open Go Go.Eng Go.RowKit

theorem Steps.opsame {g g' : Gph} (s : Steps g g') (i : Nat) : g'.op i = g.op i ∨ (g.op i = 13 ∧ g'.op i = 14) := by
  induction s with
  | refl => exact .inl rfl
  | @step g1 g2 _ s ih =>
    cases s with
    | red _ _ _ _ _ => exact ih
    | @phi k x h1 h2 h3 h4 h5 =>
      have hop : ((g1.setOp k 14).setArgs k [x]).op i = if i = k then 14 else g1.op i := rfl
      rw [hop]
      by_cases e : i = k
      · subst e
        rw [if_pos rfl]
        rcases ih with h6 | h6
        · exact .inr ⟨by rw [← h6]; exact h2, rfl⟩
        · rw [h2] at h6; exact absurd h6.2 (by decide)
      · rw [if_neg e]; exact ih

/-- Values stay in their places, and phis alone become copies. -/
structure PlacesP (f h : Fn) : Prop where
  nv : h.vals.length = f.vals.length
  nb : h.blks.length = f.blks.length
  nv48 : f.vals.length ≤ 48
  nb9 : f.blks.length ≤ 9
  slen : ∀ b, b < f.blks.length → (f.b b).succs.length ≤ 2
  val : ∀ i, i < f.vals.length → (h.v i).blk = (f.v i).blk ∧ (h.v i).aux = (f.v i).aux ∧ ((h.v i).op ≠ (f.v i).op → (f.v i).op = 13 ∧ (h.v i).op = 14)
  blk : ∀ b, b < f.blks.length → (h.b b).kind = (f.b b).kind ∧ (h.b b).succs = (f.b b).succs
theorem placesP {f : Fn} (hg : GoodP f) {g' : Gph} (s : Steps (toG f) g') : PlacesP f (toF g') := by
  obtain ⟨h1, h2, h3, h4, h5, h6, h7, h8, h9, h10, h11⟩ := s.same
  refine ⟨(toF_nv g').trans h1, (toF_nb g').trans h2, hg.shp.nv, hg.shp.nb, fun b hb => (hg.wf.succs b hb).1, fun i hi => ?_, fun b hb => ?_⟩
  · have hi' : i < g'.nv := by rw [h1]; exact hi
    have hv := hg.val hi
    rw [toF_v hi']
    refine ⟨?_, ?_, fun hne => ?_⟩
    · show (g'.blk i : Int) = _
      rw [h5]
      show (((f.v i).blk.toNat : Nat) : Int) = _
      omega
    · show g'.aux i = _
      rw [h4]; rfl
    · rcases s.opsame i with e | e
      · exact absurd e hne
      · exact e
  · have hb' : b < g'.nb := by rw [h2]; exact hb
    rw [toF_b hb']
    refine ⟨?_, ?_⟩
    · show g'.kind b = _
      rw [h6]; rfl
    · show nats (g'.succs b) = _
      rw [h8]
      show nats ((f.b b).succs.map Int.toNat) = _
      unfold nats
      rw [List.map_map]
      conv => rhs; rw [← List.map_id (f.b b).succs]
      refine List.map_congr_left fun z hz => ?_
      have := hg.succs b hb z hz
      show ((z.toNat : Nat) : Int) = z
      omega
set_option maxHeartbeats 4000000
attribute [local irreducible] EC EL DL Ret thenQ blockQ loopQ bodyQ onlyN execOp Sem.run World.cell? World.frozen? World.setCell World.alloc

theorem FnPhiPlaces_ret {w : World} {x : Value} {f : Fn} (hx : FnV w x f) :
    Ret Try.prog 4 #[x] w fun v w' => v = .bool true ∧ Below w.heap.size w w' := by
  obtain ⟨xv, xb, rfl, hvals, hblks⟩ := hx
  refine ret_of_EC Try.func4 rfl rfl ?_
  have hx0 : FnV w (.agg #[xv, xb]) f := ⟨xv, xb, rfl, hvals, hblks⟩
  obtain ⟨ab, cb, rfl, hbl⟩ := hblks
  obtain ⟨av, cv, rfl, hvl⟩ := hvals
  obtain ⟨B, hBd⟩ : ∃ B, B = w.heap.size := ⟨_, rfl⟩
  refine EC_seq ?_
  refine EC_region ?_
  refine EL_v (x_box (v := .agg #[.slice av f.vals.length cv, .slice ab f.blks.length cb]) rfl) rfl ?_
  change EL _ _ _ _ _ _ (w.alloc (.cells #[.slice av f.vals.length cv, .slice ab f.blks.length cb] 25))
  have hN1 := heap_alloc_new w (.cells #[.slice av f.vals.length cv, .slice ab f.blks.length cb] 25)
  have hO1 : ∀ zz, zz < w.heap.size → (w.alloc (.cells #[.slice av f.vals.length cv, .slice ab f.blks.length cb] 25)).heap[zz]? = w.heap[zz]? := fun _ hi => Below.heap_alloc _ _ _ hi
  have hZ1 := size_alloc w (.cells #[.slice av f.vals.length cv, .slice ab f.blks.length cb] 25)
  have hB1 := (Below.refl B w).alloc (by omega) (.cells #[.slice av f.vals.length cv, .slice ab f.blks.length cb] 25)
  have hK1 := Keep.alloc w (.cells #[.slice av f.vals.length cv, .slice ab f.blks.length cb] 25)
  generalize w.alloc (.cells #[.slice av f.vals.length cv, .slice ab f.blks.length cb] 25) = wa at hN1 hO1 hZ1 hB1 hK1 ⊢
  refine EL_v x_assign rfl ?_
  refine EL_nil ?_
  refine thenQ_normal ?_
  obtain ⟨b1, hb1⟩ : ∃ b1, b1 = w.heap.size := ⟨_, rfl⟩
  rw [← hb1] at hN1 ⊢
  have hbw : Below b1 w wa := by rw [hb1, ← hBd]; exact hB1
  refine EC_seq ?_
  refine EC_seq ?_
  refine EC_region ?_
  refine EL_v (x_loadS (cs := [.slice av f.vals.length cv, .slice ab f.blks.length cb]) rfl (tab_agg rfl) (cellsAt_block hN1)) rfl ?_
  refine EL_c (x_call Try.func11 rfl rfl rfl rfl) rfl (fits1_ret (hx0.keep hK1)) ?_
  rintro _ w1 ⟨sb, rfl, hfit, hbs⟩
  refine EL_v (x_not rfl) rfl ?_
  refine EL_nil ?_
  refine thenQ_normal ?_
  have hb1w : Below b1 w w1 := hbw.trans (hbs.mono (by omega))
  cases sb with
  | false =>
    refine EC_yes rfl rfl ?_
    refine EC_seq ?_
    refine EC_region ?_
    refine EL_v x_assign rfl ?_
    refine EL_nil ?_
    refine thenQ_normal ?_
    refine EC_ret ?_
    refine thenQ_ret ?_
    exact post_tmp rfl rfl rfl ⟨rfl, hb1w⟩
  | true =>
  refine EC_no rfl rfl ?_
  refine EC_skip ?_
  refine thenQ_normal ?_
  obtain ⟨hf1, hf2⟩ := hfit rfl
  have hbx1 : w1.heap[b1]? = some (.cells #[.slice av f.vals.length cv, .slice ab f.blks.length cb] 25 (0, 0)) := (hbs.block b1 (by omega)).trans hN1
  have hsz1 := hbs.size
  have hKe1 : Keep w w1 := hK1.trans (Keep.of_below hbs (Nat.le_refl _))
  refine EC_seq ?_
  refine EC_seq ?_
  refine EC_region ?_
  refine EL_v (x_loadS (cs := [.slice av f.vals.length cv, .slice ab f.blks.length cb]) rfl (tab_agg rfl) (cellsAt_block hbx1)) rfl ?_
  refine EL_c (x_call Try.func13 rfl rfl rfl rfl) rfl (laws_conv_ret (hx0.keep hKe1) hf1 hf2) ?_
  rintro vc w2 ⟨hvc, hbl2⟩
  refine EL_c (x_call Try.func12 rfl rfl rfl rfl) rfl (Good_ret hvc) ?_
  rintro _ w3 ⟨gb, rfl, hgood, hbl3⟩
  refine EL_v (x_not rfl) rfl ?_
  refine EL_nil ?_
  refine thenQ_normal ?_
  have hsz2 := hbl2.size
  have hsz3 := hbl3.size
  have hb3w : Below b1 w w3 := (hb1w.trans (hbl2.mono (by omega))).trans (hbl3.mono (by omega))
  cases gb with
  | false =>
    refine EC_yes rfl rfl ?_
    refine EC_seq ?_
    refine EC_region ?_
    refine EL_v x_assign rfl ?_
    refine EL_nil ?_
    refine thenQ_normal ?_
    refine EC_ret ?_
    refine thenQ_ret ?_
    exact post_tmp rfl rfl rfl ⟨rfl, hb3w⟩
  | true =>
  refine EC_no rfl rfl ?_
  refine EC_skip ?_
  refine thenQ_normal ?_
  have hgd := hgood.1 rfl
  have hKe3 : Keep w w3 := (hKe1.trans (Keep.of_below hbl2 (Nat.le_refl _))).trans (Keep.of_below hbl3 (Nat.le_refl _))
  have hx3 := hx0.keep hKe3
  have hbx3 : w3.heap[b1]? = some (.cells #[.slice av f.vals.length cv, .slice ab f.blks.length cb] 25 (0, 0)) := (hbl3.block b1 (by omega)).trans ((hbl2.block b1 (by omega)).trans hbx1)
  have hsz13 : b1 + 1 ≤ w3.heap.size := by omega
  refine EC_seq ?_
  refine EC_region ?_
  refine EL_v (x_loadS (cs := [.slice av f.vals.length cv, .slice ab f.blks.length cb]) rfl (tab_agg rfl) (cellsAt_block hbx3)) rfl ?_
  refine EL_c (x_call Try.func14 rfl rfl rfl rfl) rfl (implPhi_ret hx3 hgd.wf (ginv_pinv (truthN f 48) (toG f)) ⟨hgd.good, rfl, rfl, rfl⟩ fun _ h => h.good.gok) ?_
  rintro vg w4 ⟨⟨g', hof, hvg⟩, hbl4⟩
  obtain ⟨gxv, gxb, rfl, gvals, gblks⟩ := hvg
  obtain ⟨gab, gcb, rfl, gbl⟩ := gblks
  obtain ⟨gav, gcv, rfl, gvl⟩ := gvals
  refine EL_v (x_alloc zero_fn_i) rfl ?_
  have hBle : B ≤ w4.heap.size := by have := hbl4.size; omega
  refine EL_s (x_storeNew rfl rfl (tab_sizeN rfl) rfl rfl) rfl ?_
  refine EL_nil ?_
  refine thenQ_normal ?_
  change EC _ _ _ _ _ (w4.alloc (.cells #[.slice gav (toF g').vals.length gcv, .slice gab (toF g').blks.length gcb] 25))
  have hN5 := heap_alloc_new w4 (.cells #[.slice gav (toF g').vals.length gcv, .slice gab (toF g').blks.length gcb] 25)
  have hO5 : ∀ zz, zz < w4.heap.size → (w4.alloc (.cells #[.slice gav (toF g').vals.length gcv, .slice gab (toF g').blks.length gcb] 25)).heap[zz]? = w4.heap[zz]? := fun _ hi => Below.heap_alloc _ _ _ hi
  have hZ5 := size_alloc w4 (.cells #[.slice gav (toF g').vals.length gcv, .slice gab (toF g').blks.length gcb] 25)
  have hB5 := (Below.refl B w4).alloc (by omega) (.cells #[.slice gav (toF g').vals.length gcv, .slice gab (toF g').blks.length gcb] 25)
  have hK5 := Keep.alloc w4 (.cells #[.slice gav (toF g').vals.length gcv, .slice gab (toF g').blks.length gcb] 25)
  generalize w4.alloc (.cells #[.slice gav (toF g').vals.length gcv, .slice gab (toF g').blks.length gcb] 25) = w5 at hN5 hO5 hZ5 hB5 hK5 ⊢
  obtain ⟨b5, hb5⟩ : ∃ b5, b5 = w4.heap.size := ⟨_, rfl⟩
  rw [← hb5] at hN5 ⊢
  have hsz4 := hbl4.size
  have hbw5 : Below b1 w w5 := (hb3w.trans (hbl4.mono (by omega))).trans ⟨hB5.os, hB5.tape, hB5.output, hB5.size, fun j hj => hO5 j (by omega)⟩
  have hbx5 : w5.heap[b1]? = some (.cells #[.slice av f.vals.length cv, .slice ab f.blks.length cb] 25 (0, 0)) := (hO5 b1 (by omega)).trans ((hbl4.block b1 (by omega)).trans hbx3)
  have f0 : w5.cell? ⟨b1, 0 + 0, none⟩ = some (.slice av f.vals.length cv) := cell_block hbx5 rfl
  have f1 : w5.cell? ⟨b1, 0 + 1, none⟩ = some (.slice ab f.blks.length cb) := cell_block hbx5 rfl
  have g0 : w5.cell? ⟨b5, 0 + 0, none⟩ = some (.slice gav (toF g').vals.length gcv) := cell_block hN5 rfl
  have g1 : w5.cell? ⟨b5, 0 + 1, none⟩ = some (.slice gab (toF g').blks.length gcb) := cell_block hN5 rfl
  have hKe5 : Keep w w5 := (hKe3.trans (Keep.of_below hbl4 (Nat.le_refl _))).trans hK5
  have hfv : ∀ k, k < f.vals.length → ∃ bb ob, av = some ⟨bb, ob, none⟩ ∧ Quad w5 bb (ob + k * 4) (f.v k).op (f.v k).blk (f.v k).args (f.v k).aux := fun k hk => by
    obtain ⟨bb, ob, e, hq⟩ := hvl.resolve_left (fun e => by rw [e] at hk; simp at hk)
    exact ⟨bb, ob, e, (hq k hk).keep hKe5⟩
  have hfb : ∀ k, k < f.blks.length → ∃ bb ob, ab = some ⟨bb, ob, none⟩ ∧ Quad w5 bb (ob + k * 4) (f.b k).kind (f.b k).ctrl (f.b k).succs (f.b k).likely := fun k hk => by
    obtain ⟨bb, ob, e, hq⟩ := hbl.resolve_left (fun e => by rw [e] at hk; simp at hk)
    exact ⟨bb, ob, e, (hq k hk).keep hKe5⟩
  have hgv : ∀ k, k < (toF g').vals.length → ∃ bb ob, gav = some ⟨bb, ob, none⟩ ∧ Quad w5 bb (ob + k * 4) ((toF g').v k).op ((toF g').v k).blk ((toF g').v k).args ((toF g').v k).aux := fun k hk => by
    obtain ⟨bb, ob, e, hq⟩ := gvl.resolve_left (fun e => by rw [e] at hk; simp at hk)
    exact ⟨bb, ob, e, (hq k hk).keep hK5⟩
  have hgb : ∀ k, k < (toF g').blks.length → ∃ bb ob, gab = some ⟨bb, ob, none⟩ ∧ Quad w5 bb (ob + k * 4) ((toF g').b k).kind ((toF g').b k).ctrl ((toF g').b k).succs ((toF g').b k).likely := fun k hk => by
    obtain ⟨bb, ob, e, hq⟩ := gbl.resolve_left (fun e => by rw [e] at hk; simp at hk)
    exact ⟨bb, ob, e, (hq k hk).keep hK5⟩
  have hPP := placesP hgd hof.steps
  clear gvl gbl hvl hbl
  generalize toF g' = h at hPP hgv hgb hN5 g0 g1 ⊢
  obtain ⟨hnv, hnb, hn48, hn9, hsl, hval, hblk⟩ := hPP
  rw [hnv, hnb] at hN5
  rw [hnv] at g0
  rw [hnb] at g1
  obtain ⟨SA, hSA⟩ : ∃ SA, SA = w5.heap.size := ⟨_, rfl⟩
  refine EC_seq ?_
  refine EC_seq ?_
  refine EC_region ?_
  refine EL_v (x_field rfl (tab_fld rfl)) rfl ?_
  refine EL_v (x_load rfl (tab_one rfl) (by with_reducible assumption)) rfl ?_
  refine EL_v (x_len rfl (tab_sl rfl)) rfl ?_
  refine EL_v (x_field rfl (tab_fld rfl)) rfl ?_
  refine EL_v (x_load rfl (tab_one rfl) (by with_reducible assumption)) rfl ?_
  refine EL_v (x_len rfl (tab_sl rfl)) rfl ?_
  refine EL_v (x_neq rfl rfl) rfl ?_
  refine EL_v x_move rfl ?_
  rw [decide_eq_false (fun hh => hh rfl : ¬ ((f.vals.length : Int) ≠ (f.vals.length : Int)))]
  refine EL_yes rfl rfl (x_field rfl (tab_fld rfl)) rfl ?_
  refine EL_yes rfl rfl (x_load rfl (tab_one rfl) (by with_reducible assumption)) rfl ?_
  refine EL_yes rfl rfl (x_len rfl (tab_sl rfl)) rfl ?_
  refine EL_yes rfl rfl (x_field rfl (tab_fld rfl)) rfl ?_
  refine EL_yes rfl rfl (x_load rfl (tab_one rfl) (by with_reducible assumption)) rfl ?_
  refine EL_yes rfl rfl (x_len rfl (tab_sl rfl)) rfl ?_
  refine EL_yes rfl rfl (x_neq rfl rfl) rfl ?_
  refine EL_v (x_pick_f rfl) rfl ?_
  refine EL_nil ?_
  refine thenQ_normal ?_
  refine EC_no (congrArg Value.bool (decide_eq_false (fun hh => hh rfl : ¬ ((f.blks.length : Int) ≠ (f.blks.length : Int))))) rfl ?_
  refine EC_skip ?_
  refine thenQ_normal ?_
  refine EC_seq_cutQ (fun e wr => At e [(1, .pointer (some ⟨b1, 0, none⟩)), (3, .pointer (some ⟨b5, 0, none⟩))] ∧ Below SA w5 wr) ?_ ?_
  · refine EC_seq ?_
    refine EC_region ?_
    refine EL_v (x_field rfl (tab_fld rfl)) rfl ?_
    refine EL_v (x_load rfl (tab_one rfl) (by with_reducible assumption)) rfl ?_
    refine EL_v (x_len rfl (tab_sl rfl)) rfl ?_
    refine EL_v x_move rfl ?_
    refine EL_nil ?_
    refine thenQ_normal ?_
    refine EC_block ?_
    refine EC_loop (fun n e wr => ∃ k, k ≤ f.vals.length ∧ At e [(1, .pointer (some ⟨b1, 0, none⟩)), (3, .pointer (some ⟨b5, 0, none⟩)), (38, .slice av f.vals.length cv), (39, .int .i64 (f.vals.length : Int)), (40, .int .i64 (k : Int))] ∧ Below SA w5 wr ∧ n = f.vals.length - k) f.vals.length
      ⟨0, Nat.zero_le _, at_of rfl ⟨rfl, rfl, rfl, rfl, rfl, trivial⟩, Below.refl _ _, rfl⟩ ?_
    rintro n e wr ⟨k, hk, ⟨t, rfl⟩, hb, rfl⟩
    refine EC_seq ?_
    refine EC_region ?_
    refine EL_v (x_lss rfl rfl) rfl ?_
    refine EL_nil ?_
    refine thenQ_normal ?_
    refine EC_seq ?_
    refine EC_if rfl rfl (fun hlt => ?_) (fun hge => ?_)
    · have hlt : k < f.vals.length := by omega
      obtain ⟨bb, ob, rfl, ⟨s0, hcells0, ⟨sa, sc, rfl, _⟩⟩⟩ := hfv k hlt
      obtain ⟨bg, og, rfl, ⟨s1, hcells1, ⟨ra, rc, rfl, _⟩⟩⟩ := hgv k (by rw [hnv]; exact hlt)
      have hKr : Keep w5 wr := Keep.of_below hb (by omega)
      have hcells := hcells0.keep hKr
      have hszr := hb.size
      refine EC_skip ?_
      refine thenQ_normal ?_
      refine EC_seq ?_
      refine EC_block ?_
      refine EC_seq ?_
      refine EC_region ?_
      refine EL_v x_move rfl ?_
      refine EL_v (x_indexN (n := 4) rfl rfl (tab_sl rfl) hlt) rfl ?_
      refine EL_v (x_loadS rfl (tab_agg rfl) hcells) rfl ?_
      refine EL_v (x_alloc zero_iv) rfl ?_
      refine EL_v x_assign rfl ?_
      refine EL_s (x_storeNew rfl rfl (tab_sizeN rfl) rfl rfl) rfl ?_
      refine EL_nil ?_
      refine thenQ_normal ?_
      have hBle : B ≤ wr.heap.size := by omega
      change EC _ _ _ _ _ (wr.alloc (.cells #[.int .i64 (f.v k).op, .int .i64 (f.v k).blk, .slice sa (f.v k).args.length sc, .int .i64 (f.v k).aux] 36))
      have hN3 := heap_alloc_new wr (.cells #[.int .i64 (f.v k).op, .int .i64 (f.v k).blk, .slice sa (f.v k).args.length sc, .int .i64 (f.v k).aux] 36)
      have hO3 : ∀ zz, zz < wr.heap.size → (wr.alloc (.cells #[.int .i64 (f.v k).op, .int .i64 (f.v k).blk, .slice sa (f.v k).args.length sc, .int .i64 (f.v k).aux] 36)).heap[zz]? = wr.heap[zz]? := fun _ hi => Below.heap_alloc _ _ _ hi
      have hZ3 := size_alloc wr (.cells #[.int .i64 (f.v k).op, .int .i64 (f.v k).blk, .slice sa (f.v k).args.length sc, .int .i64 (f.v k).aux] 36)
      have hB3 := (Below.refl B wr).alloc (by omega) (.cells #[.int .i64 (f.v k).op, .int .i64 (f.v k).blk, .slice sa (f.v k).args.length sc, .int .i64 (f.v k).aux] 36)
      have hK3 := Keep.alloc wr (.cells #[.int .i64 (f.v k).op, .int .i64 (f.v k).blk, .slice sa (f.v k).args.length sc, .int .i64 (f.v k).aux] 36)
      generalize wr.alloc (.cells #[.int .i64 (f.v k).op, .int .i64 (f.v k).blk, .slice sa (f.v k).args.length sc, .int .i64 (f.v k).aux] 36) = X at hN3 hO3 hZ3 hB3 hK3 ⊢
      obtain ⟨V, hV⟩ : ∃ V, V = wr.heap.size := ⟨_, rfl⟩
      rw [← hV] at hN3 ⊢
      have hKX : Keep w5 X := hKr.trans hK3
      have g0' := hKX _ _ g0
      have hcells1' := hcells1.keep hKX
      refine EC_seq ?_
      refine EC_region ?_
      refine EL_v (x_field rfl (tab_fld rfl)) rfl ?_
      refine EL_v (x_load rfl (tab_one rfl) (by with_reducible assumption)) rfl ?_
      refine EL_v x_move rfl ?_
      refine EL_v (x_indexN (n := 4) rfl rfl (tab_sl rfl) hlt) rfl ?_
      refine EL_v (x_loadS rfl (tab_agg rfl) hcells1') rfl ?_
      refine EL_v (x_alloc zero_iv) rfl ?_
      refine EL_s (x_storeNew rfl rfl (tab_sizeN rfl) rfl rfl) rfl ?_
      refine EL_nil ?_
      refine thenQ_normal ?_
      have hBle : B ≤ X.heap.size := by omega
      change EC _ _ _ _ _ (X.alloc (.cells #[.int .i64 (h.v k).op, .int .i64 (h.v k).blk, .slice ra (h.v k).args.length rc, .int .i64 (h.v k).aux] 36))
      have hN4 := heap_alloc_new X (.cells #[.int .i64 (h.v k).op, .int .i64 (h.v k).blk, .slice ra (h.v k).args.length rc, .int .i64 (h.v k).aux] 36)
      have hO4 : ∀ zz, zz < X.heap.size → (X.alloc (.cells #[.int .i64 (h.v k).op, .int .i64 (h.v k).blk, .slice ra (h.v k).args.length rc, .int .i64 (h.v k).aux] 36)).heap[zz]? = X.heap[zz]? := fun _ hi => Below.heap_alloc _ _ _ hi
      have hZ4 := size_alloc X (.cells #[.int .i64 (h.v k).op, .int .i64 (h.v k).blk, .slice ra (h.v k).args.length rc, .int .i64 (h.v k).aux] 36)
      have hB4 := (Below.refl B X).alloc (by omega) (.cells #[.int .i64 (h.v k).op, .int .i64 (h.v k).blk, .slice ra (h.v k).args.length rc, .int .i64 (h.v k).aux] 36)
      have hK4 := Keep.alloc X (.cells #[.int .i64 (h.v k).op, .int .i64 (h.v k).blk, .slice ra (h.v k).args.length rc, .int .i64 (h.v k).aux] 36)
      generalize X.alloc (.cells #[.int .i64 (h.v k).op, .int .i64 (h.v k).blk, .slice ra (h.v k).args.length rc, .int .i64 (h.v k).aux] 36) = Y at hN4 hO4 hZ4 hB4 hK4 ⊢
      obtain ⟨U, hU⟩ : ∃ U, U = X.heap.size := ⟨_, rfl⟩
      rw [← hU] at hN4 ⊢
      have hN3' : Y.heap[V]? = some (.cells #[.int .i64 (f.v k).op, .int .i64 (f.v k).blk, .slice sa (f.v k).args.length sc, .int .i64 (f.v k).aux] 36 (0, 0)) := (hO4 V (by omega)).trans hN3
      have hbY : Below SA w5 Y := hb.trans (Below.trans ⟨hB3.os, hB3.tape, hB3.output, hB3.size, fun j hj => hO3 j (by omega)⟩ ⟨hB4.os, hB4.tape, hB4.output, hB4.size, fun j hj => hO4 j (by omega)⟩)
      have v0 : Y.cell? ⟨V, 0 + 0, none⟩ = some (.int .i64 (f.v k).op) := cell_block hN3' rfl
      have v1 : Y.cell? ⟨V, 0 + 1, none⟩ = some (.int .i64 (f.v k).blk) := cell_block hN3' rfl
      have v3 : Y.cell? ⟨V, 0 + 3, none⟩ = some (.int .i64 (f.v k).aux) := cell_block hN3' rfl
      have u0 : Y.cell? ⟨U, 0 + 0, none⟩ = some (.int .i64 (h.v k).op) := cell_block hN4 rfl
      have u1 : Y.cell? ⟨U, 0 + 1, none⟩ = some (.int .i64 (h.v k).blk) := cell_block hN4 rfl
      have u3 : Y.cell? ⟨U, 0 + 3, none⟩ = some (.int .i64 (h.v k).aux) := cell_block hN4 rfl
      obtain ⟨hv1, hv2, hv3⟩ := hval k hlt
      refine EC_seq ?_
      refine EC_region ?_
      refine EL_v (x_field rfl (tab_fld rfl)) rfl ?_
      refine EL_v (x_load rfl (tab_one rfl) (by with_reducible assumption)) rfl ?_
      refine EL_v (x_field rfl (tab_fld rfl)) rfl ?_
      refine EL_v (x_load rfl (tab_one rfl) (by with_reducible assumption)) rfl ?_
      refine EL_v (x_neq rfl rfl) rfl ?_
      refine EL_v x_move rfl ?_
      rw [decide_eq_false (fun hh => hh hv1 : ¬ ((h.v k).blk ≠ (f.v k).blk))]
      refine EL_yes rfl rfl (x_field rfl (tab_fld rfl)) rfl ?_
      refine EL_yes rfl rfl (x_load rfl (tab_one rfl) (by with_reducible assumption)) rfl ?_
      refine EL_yes rfl rfl (x_field rfl (tab_fld rfl)) rfl ?_
      refine EL_yes rfl rfl (x_load rfl (tab_one rfl) (by with_reducible assumption)) rfl ?_
      refine EL_yes rfl rfl (x_neq rfl rfl) rfl ?_
      refine EL_v (x_pick_f rfl) rfl ?_
      refine EL_v x_move rfl ?_
      rw [decide_eq_false (fun hh => hh hv2 : ¬ ((h.v k).aux ≠ (f.v k).aux))]
      refine EL_yes rfl rfl (x_field rfl (tab_fld rfl)) rfl ?_
      refine EL_yes rfl rfl (x_load rfl (tab_one rfl) (by with_reducible assumption)) rfl ?_
      refine EL_yes rfl rfl (x_field rfl (tab_fld rfl)) rfl ?_
      refine EL_yes rfl rfl (x_load rfl (tab_one rfl) (by with_reducible assumption)) rfl ?_
      refine EL_yes rfl rfl (x_neq rfl rfl) rfl ?_
      refine EL_yes rfl rfl x_move rfl ?_
      refine EL_cut 11 (fun e w' => w' = Y ∧ At e [(78, .bool false), (1, .pointer (some ⟨b1, 0, none⟩)), (3, .pointer (some ⟨b5, 0, none⟩)), (38, .slice (some ⟨bb, ob, none⟩) f.vals.length cv), (39, .int .i64 (f.vals.length : Int)), (40, .int .i64 (k : Int))]) ?_ ?_
      · by_cases hne : (h.v k).op ≠ (f.v k).op
        · rw [decide_eq_true hne]
          obtain ⟨h1, h2⟩ := hv3 hne
          refine EL_yes rfl rfl (x_field rfl (tab_fld rfl)) rfl ?_
          refine EL_yes rfl rfl (x_load rfl (tab_one rfl) (by with_reducible assumption)) rfl ?_
          refine EL_yes rfl rfl (x_neq rfl rfl) rfl ?_
          refine EL_yes rfl rfl x_move rfl ?_
          rw [decide_eq_false (fun hh => hh h1 : ¬ ((f.v k).op ≠ 13))]
          refine EL_yes rfl rfl (x_field rfl (tab_fld rfl)) rfl ?_
          refine EL_yes rfl rfl (x_load rfl (tab_one rfl) (by with_reducible assumption)) rfl ?_
          refine EL_yes rfl rfl (x_neq rfl rfl) rfl ?_
          refine EL_yes rfl rfl (x_pick_f rfl) rfl ?_
          refine EL_yes rfl rfl (x_pick_t rfl) rfl ?_
          refine EL_v (x_pick_f rfl) rfl ?_
          refine EL_nil ?_
          rw [decide_eq_false (fun hh => hh h2 : ¬ ((h.v k).op ≠ 14))]
          exact ⟨rfl, at_of rfl ⟨rfl, rfl, rfl, rfl, rfl, rfl, trivial⟩⟩
        · rw [decide_eq_false hne]
          refine EL_no rfl rfl ?_
          refine EL_no rfl rfl ?_
          refine EL_no rfl rfl ?_
          refine EL_no rfl rfl ?_
          refine EL_un rfl rfl ?_
          refine EL_un rfl rfl ?_
          refine EL_un rfl rfl ?_
          refine EL_no rfl rfl ?_
          refine EL_yes rfl rfl (x_pick_f rfl) rfl ?_
          refine EL_v (x_pick_f rfl) rfl ?_
          refine EL_nil ?_
          exact ⟨rfl, at_of rfl ⟨rfl, rfl, rfl, rfl, rfl, rfl, trivial⟩⟩
      rintro e w' ⟨rfl, t, rfl⟩
      refine EL_nil ?_
      refine thenQ_normal ?_
      refine EC_no rfl rfl ?_
      refine EC_skip ?_
      refine blockQ_normal ?_
      refine thenQ_normal ?_
      refine EC_region ?_
      refine EL_v (x_inc rfl rfl (by omega)) rfl ?_
      refine EL_v x_move rfl ?_
      refine EL_nil ?_
      exact loopQ_next (f.vals.length - (k + 1)) (by omega) ⟨k + 1, by omega, at_of rfl ⟨rfl, rfl, rfl, rfl, rfl, trivial⟩, hbY, rfl⟩
    · have hk : k = f.vals.length := by omega
      subst hk
      refine EC_exit ?_
      refine thenQ_exit ?_
      refine loopQ_exit ?_
      refine blockQ_hit ?_
      exact orN_in ⟨at_of rfl ⟨rfl, rfl, trivial⟩, hb⟩
  rintro e wr ⟨⟨t, rfl⟩, hb⟩
  have f1' := Keep.of_below hb (by omega) _ _ f1
  refine EC_seq ?_
  refine EC_seq ?_
  refine EC_region ?_
  refine EL_v (x_field rfl (tab_fld rfl)) rfl ?_
  refine EL_v (x_load rfl (tab_one rfl) (by with_reducible assumption)) rfl ?_
  refine EL_v (x_len rfl (tab_sl rfl)) rfl ?_
  refine EL_v x_move rfl ?_
  refine EL_nil ?_
  refine thenQ_normal ?_
  refine EC_block ?_
  refine EC_loop (fun n e wr => ∃ k, k ≤ f.blks.length ∧ At e [(1, .pointer (some ⟨b1, 0, none⟩)), (3, .pointer (some ⟨b5, 0, none⟩)), (81, .slice ab f.blks.length cb), (82, .int .i64 (f.blks.length : Int)), (83, .int .i64 (k : Int))] ∧ Below SA w5 wr ∧ n = f.blks.length - k) f.blks.length
    ⟨0, Nat.zero_le _, at_of rfl ⟨rfl, rfl, rfl, rfl, rfl, trivial⟩, hb, rfl⟩ ?_
  clear hb f1'
  rintro n e wr ⟨k, hk, ⟨t, rfl⟩, hb, rfl⟩
  refine EC_seq ?_
  refine EC_region ?_
  refine EL_v (x_lss rfl rfl) rfl ?_
  refine EL_nil ?_
  refine thenQ_normal ?_
  refine EC_seq ?_
  refine EC_if rfl rfl (fun hlt => ?_) (fun hge => ?_)
  · have hlt : k < f.blks.length := by omega
    obtain ⟨bb, ob, rfl, ⟨s0, hcells0, ⟨sa, sc, rfl, hint0⟩⟩⟩ := hfb k hlt
    obtain ⟨bg, og, rfl, ⟨s1, hcells1, ⟨ra, rc, rfl, hint1⟩⟩⟩ := hgb k (by rw [hnb]; exact hlt)
    have hKr : Keep w5 wr := Keep.of_below hb (by omega)
    have hcells := hcells0.keep hKr
    have hszr := hb.size
    have hsl2 := hsl k hlt
    obtain ⟨hkind, hsucc⟩ := hblk k hlt
    rw [hsucc] at hcells1 hint1
    refine EC_skip ?_
    refine thenQ_normal ?_
    refine EC_seq ?_
    refine EC_block ?_
    refine EC_seq ?_
    refine EC_region ?_
    refine EL_v x_move rfl ?_
    refine EL_v (x_indexN (n := 4) rfl rfl (tab_sl rfl) hlt) rfl ?_
    refine EL_v (x_loadS rfl (tab_agg rfl) hcells) rfl ?_
    refine EL_v (x_alloc zero_ib) rfl ?_
    refine EL_v x_assign rfl ?_
    refine EL_s (x_storeNew rfl rfl (tab_sizeN rfl) rfl rfl) rfl ?_
    refine EL_nil ?_
    refine thenQ_normal ?_
    have hBle : B ≤ wr.heap.size := by omega
    change EC _ _ _ _ _ (wr.alloc (.cells #[.int .i64 (f.b k).kind, .int .i64 (f.b k).ctrl, .slice sa (f.b k).succs.length sc, .int .i64 (f.b k).likely] 38))
    have hN3 := heap_alloc_new wr (.cells #[.int .i64 (f.b k).kind, .int .i64 (f.b k).ctrl, .slice sa (f.b k).succs.length sc, .int .i64 (f.b k).likely] 38)
    have hO3 : ∀ zz, zz < wr.heap.size → (wr.alloc (.cells #[.int .i64 (f.b k).kind, .int .i64 (f.b k).ctrl, .slice sa (f.b k).succs.length sc, .int .i64 (f.b k).likely] 38)).heap[zz]? = wr.heap[zz]? := fun _ hi => Below.heap_alloc _ _ _ hi
    have hZ3 := size_alloc wr (.cells #[.int .i64 (f.b k).kind, .int .i64 (f.b k).ctrl, .slice sa (f.b k).succs.length sc, .int .i64 (f.b k).likely] 38)
    have hB3 := (Below.refl B wr).alloc (by omega) (.cells #[.int .i64 (f.b k).kind, .int .i64 (f.b k).ctrl, .slice sa (f.b k).succs.length sc, .int .i64 (f.b k).likely] 38)
    have hK3 := Keep.alloc wr (.cells #[.int .i64 (f.b k).kind, .int .i64 (f.b k).ctrl, .slice sa (f.b k).succs.length sc, .int .i64 (f.b k).likely] 38)
    generalize wr.alloc (.cells #[.int .i64 (f.b k).kind, .int .i64 (f.b k).ctrl, .slice sa (f.b k).succs.length sc, .int .i64 (f.b k).likely] 38) = X at hN3 hO3 hZ3 hB3 hK3 ⊢
    obtain ⟨V, hV⟩ : ∃ V, V = wr.heap.size := ⟨_, rfl⟩
    rw [← hV] at hN3 ⊢
    have hKX : Keep w5 X := hKr.trans hK3
    have g1' := hKX _ _ g1
    have hcells1' := hcells1.keep hKX
    refine EC_seq ?_
    refine EC_region ?_
    refine EL_v (x_field rfl (tab_fld rfl)) rfl ?_
    refine EL_v (x_load rfl (tab_one rfl) (by with_reducible assumption)) rfl ?_
    refine EL_v x_move rfl ?_
    refine EL_v (x_indexN (n := 4) rfl rfl (tab_sl rfl) hlt) rfl ?_
    refine EL_v (x_loadS rfl (tab_agg rfl) hcells1') rfl ?_
    refine EL_v (x_alloc zero_ib) rfl ?_
    refine EL_s (x_storeNew rfl rfl (tab_sizeN rfl) rfl rfl) rfl ?_
    refine EL_nil ?_
    refine thenQ_normal ?_
    have hBle : B ≤ X.heap.size := by omega
    change EC _ _ _ _ _ (X.alloc (.cells #[.int .i64 (h.b k).kind, .int .i64 (h.b k).ctrl, .slice ra (f.b k).succs.length rc, .int .i64 (h.b k).likely] 38))
    have hN4 := heap_alloc_new X (.cells #[.int .i64 (h.b k).kind, .int .i64 (h.b k).ctrl, .slice ra (f.b k).succs.length rc, .int .i64 (h.b k).likely] 38)
    have hO4 : ∀ zz, zz < X.heap.size → (X.alloc (.cells #[.int .i64 (h.b k).kind, .int .i64 (h.b k).ctrl, .slice ra (f.b k).succs.length rc, .int .i64 (h.b k).likely] 38)).heap[zz]? = X.heap[zz]? := fun _ hi => Below.heap_alloc _ _ _ hi
    have hZ4 := size_alloc X (.cells #[.int .i64 (h.b k).kind, .int .i64 (h.b k).ctrl, .slice ra (f.b k).succs.length rc, .int .i64 (h.b k).likely] 38)
    have hB4 := (Below.refl B X).alloc (by omega) (.cells #[.int .i64 (h.b k).kind, .int .i64 (h.b k).ctrl, .slice ra (f.b k).succs.length rc, .int .i64 (h.b k).likely] 38)
    have hK4 := Keep.alloc X (.cells #[.int .i64 (h.b k).kind, .int .i64 (h.b k).ctrl, .slice ra (f.b k).succs.length rc, .int .i64 (h.b k).likely] 38)
    generalize X.alloc (.cells #[.int .i64 (h.b k).kind, .int .i64 (h.b k).ctrl, .slice ra (f.b k).succs.length rc, .int .i64 (h.b k).likely] 38) = Y at hN4 hO4 hZ4 hB4 hK4 ⊢
    obtain ⟨U, hU⟩ : ∃ U, U = X.heap.size := ⟨_, rfl⟩
    rw [← hU] at hN4 ⊢
    have hKY : Keep w5 Y := hKX.trans hK4
    have hN3' : Y.heap[V]? = some (.cells #[.int .i64 (f.b k).kind, .int .i64 (f.b k).ctrl, .slice sa (f.b k).succs.length sc, .int .i64 (f.b k).likely] 38 (0, 0)) := (hO4 V (by omega)).trans hN3
    have hbY : Below SA w5 Y := hb.trans (Below.trans ⟨hB3.os, hB3.tape, hB3.output, hB3.size, fun j hj => hO3 j (by omega)⟩ ⟨hB4.os, hB4.tape, hB4.output, hB4.size, fun j hj => hO4 j (by omega)⟩)
    have v0 : Y.cell? ⟨V, 0 + 0, none⟩ = some (.int .i64 (f.b k).kind) := cell_block hN3' rfl
    have v2 : Y.cell? ⟨V, 0 + 2, none⟩ = some (.slice sa (f.b k).succs.length sc) := cell_block hN3' rfl
    have u0 : Y.cell? ⟨U, 0 + 0, none⟩ = some (.int .i64 (h.b k).kind) := cell_block hN4 rfl
    have u2 : Y.cell? ⟨U, 0 + 2, none⟩ = some (.slice ra (f.b k).succs.length rc) := cell_block hN4 rfl
    refine EC_seq ?_
    refine EC_seq ?_
    refine EC_region ?_
    refine EL_v (x_field rfl (tab_fld rfl)) rfl ?_
    refine EL_v (x_load rfl (tab_one rfl) (by with_reducible assumption)) rfl ?_
    refine EL_v (x_field rfl (tab_fld rfl)) rfl ?_
    refine EL_v (x_load rfl (tab_one rfl) (by with_reducible assumption)) rfl ?_
    refine EL_v (x_neq rfl rfl) rfl ?_
    refine EL_v x_move rfl ?_
    rw [decide_eq_false (fun hh => hh hkind : ¬ ((h.b k).kind ≠ (f.b k).kind))]
    refine EL_yes rfl rfl (x_field rfl (tab_fld rfl)) rfl ?_
    refine EL_yes rfl rfl (x_load rfl (tab_one rfl) (by with_reducible assumption)) rfl ?_
    refine EL_yes rfl rfl (x_len rfl (tab_sl rfl)) rfl ?_
    refine EL_yes rfl rfl (x_field rfl (tab_fld rfl)) rfl ?_
    refine EL_yes rfl rfl (x_load rfl (tab_one rfl) (by with_reducible assumption)) rfl ?_
    refine EL_yes rfl rfl (x_len rfl (tab_sl rfl)) rfl ?_
    refine EL_yes rfl rfl (x_neq rfl rfl) rfl ?_
    refine EL_v (x_pick_f rfl) rfl ?_
    refine EL_nil ?_
    refine thenQ_normal ?_
    refine EC_no (congrArg Value.bool (decide_eq_false (fun hh => hh rfl : ¬ (((f.b k).succs.length : Int) ≠ ((f.b k).succs.length : Int))))) rfl ?_
    refine EC_skip ?_
    refine thenQ_normal ?_
    refine EC_seq ?_
    refine EC_region ?_
    refine EL_v (x_field rfl (tab_fld rfl)) rfl ?_
    refine EL_v (x_load rfl (tab_one rfl) (by with_reducible assumption)) rfl ?_
    refine EL_v (x_len rfl (tab_sl rfl)) rfl ?_
    refine EL_v x_move rfl ?_
    refine EL_nil ?_
    refine thenQ_normal ?_
    refine EC_block ?_
    refine EC_loop (fun n e wi => ∃ i, i ≤ (f.b k).succs.length ∧ At e [(1, .pointer (some ⟨b1, 0, none⟩)), (3, .pointer (some ⟨b5, 0, none⟩)), (81, .slice (some ⟨bb, ob, none⟩) f.blks.length cb), (82, .int .i64 (f.blks.length : Int)), (83, .int .i64 (k : Int)), (9, .pointer (some ⟨U, 0, none⟩)), (108, .slice sa (f.b k).succs.length sc), (109, .int .i64 ((f.b k).succs.length : Int)), (110, .int .i64 (i : Int))] ∧ wi = Y ∧ n = (f.b k).succs.length - i) (f.b k).succs.length
      ⟨0, Nat.zero_le _, at_of rfl ⟨rfl, rfl, rfl, rfl, rfl, rfl, rfl, rfl, rfl, trivial⟩, rfl, rfl⟩ ?_
    rintro n e wi ⟨i, hi, ⟨t, rfl⟩, rfl, rfl⟩
    refine EC_seq ?_
    refine EC_region ?_
    refine EL_v (x_lss rfl rfl) rfl ?_
    refine EL_nil ?_
    refine thenQ_normal ?_
    refine EC_seq ?_
    refine EC_if rfl rfl (fun hli => ?_) (fun hgi => ?_)
    · have hli : i < (f.b k).succs.length := by omega
      obtain ⟨bi, oi, rfl, hai⟩ := hint0.get hli
      obtain ⟨bj, oj, rfl, haj⟩ := hint1.get hli
      have hai := hKY _ _ hai
      have haj := hKY _ _ haj
      refine EC_skip ?_
      refine thenQ_normal ?_
      refine EC_seq ?_
      refine EC_block ?_
      refine EC_seq ?_
      refine EC_region ?_
      refine EL_v x_move rfl ?_
      refine EL_v (x_index1 rfl rfl (tab_sl rfl) (by omega)) rfl ?_
      refine EL_v (x_load rfl (tab_one rfl) (by with_reducible assumption)) rfl ?_
      refine EL_v x_assign rfl ?_
      refine EL_v x_assign rfl ?_
      refine EL_nil ?_
      refine thenQ_normal ?_
      refine EC_seq ?_
      refine EC_region ?_
      refine EL_v (x_field rfl (tab_fld rfl)) rfl ?_
      refine EL_v (x_load rfl (tab_one rfl) (by with_reducible assumption)) rfl ?_
      refine EL_v x_move rfl ?_
      refine EL_v (x_index1 rfl rfl (tab_sl rfl) (by omega)) rfl ?_
      refine EL_v (x_load rfl (tab_one rfl) (by with_reducible assumption)) rfl ?_
      refine EL_v x_move rfl ?_
      refine EL_v (x_neq rfl rfl) rfl ?_
      refine EL_nil ?_
      refine thenQ_normal ?_
      refine EC_no (congrArg Value.bool (decide_eq_false (fun hh => hh rfl : ¬ ((f.b k).succs.getD i 0 ≠ (f.b k).succs.getD i 0)))) rfl ?_
      refine EC_skip ?_
      refine blockQ_normal ?_
      refine thenQ_normal ?_
      refine EC_region ?_
      refine EL_v (x_inc rfl rfl (by omega)) rfl ?_
      refine EL_v x_move rfl ?_
      refine EL_nil ?_
      exact loopQ_next ((f.b k).succs.length - (i + 1)) (by omega) ⟨i + 1, by omega, at_of rfl ⟨rfl, rfl, rfl, rfl, rfl, rfl, rfl, rfl, rfl, trivial⟩, rfl, rfl⟩
    · have hi : i = (f.b k).succs.length := by omega
      subst hi
      refine EC_exit ?_
      refine thenQ_exit ?_
      refine loopQ_exit ?_
      refine blockQ_hit ?_
      refine blockQ_normal ?_
      refine thenQ_normal ?_
      refine EC_region ?_
      refine EL_v (x_inc rfl rfl (by omega)) rfl ?_
      refine EL_v x_move rfl ?_
      refine EL_nil ?_
      exact loopQ_next (f.blks.length - (k + 1)) (by omega) ⟨k + 1, by omega, at_of rfl ⟨rfl, rfl, rfl, rfl, rfl, trivial⟩, hbY, rfl⟩
  · have hk : k = f.blks.length := by omega
    subst hk
    refine EC_exit ?_
    refine thenQ_exit ?_
    refine loopQ_exit ?_
    refine blockQ_hit ?_
    refine thenQ_normal ?_
    refine EC_seq ?_
    refine EC_region ?_
    refine EL_v x_assign rfl ?_
    refine EL_nil ?_
    refine thenQ_normal ?_
    refine EC_ret ?_
    exact post_tmp rfl rfl rfl ⟨rfl, hbw5.trans (hb.mono (by omega))⟩
end Go.Proofs.Yteepnepebilckaa
