/- The law FnPhiNone. -/
import Derived.Test.YteepnepebilckaaL1
import Derived.Test.YteepnepebilckaaV8
import Derived.Test.YteepnepebilckaaP4
namespace Go.Proofs.Yteepnepebilckaa
open Go Go.Eng Go.RowKit

/-- A phi has another value among its arguments than itself. -/
theorem GoodA.phiNS {g : Gph} (h : GoodA g) {i : Nat} (hi : i < g.nv) (ho : g.op i = 13) : ∃ a ∈ g.args i, a ≠ i := by
  refine Classical.byContradiction fun hno => ?_
  have hall : ∀ a ∈ g.args i, a = i := fun a ha => Classical.byContradiction fun e => hno ⟨a, ha, e⟩
  have hbi := h.blk i hi
  have hlen : (g.args i).length = (g.preds (g.blk i)).length := by
    have := (h.ops i hi).2.2
    rw [ho] at this
    have h2 : manyI 13 ((g.preds (g.blk i)).length : Nat) = ((g.preds (g.blk i)).length : Nat) := rfl
    omega
  have hb0 : g.blk i ≠ 0 := by
    intro e
    have h1 := (h.aux i hi).2.2 ho
    have h2 : 0 < (g.preds (g.blk i)).length := by omega
    have h3 := getD_mem h2
    rw [h.preds _ hbi, mem_predsL] at h3
    have := h.succs _ h3.1 _ h3.2
    omega
  obtain ⟨p, h1, h2, h3⟩ := (h.rch _ hbi).first hb0
  have hp : p ∈ g.preds (g.blk i) := by
    rw [h.preds _ hbi, mem_predsL]
    exact ⟨h1.lt h.one (fun b hb s hs => (h.succs b hb s hs).2), h3⟩
  obtain ⟨k, hk, rfl⟩ := List.getElem_of_mem hp
  obtain ⟨_, h4⟩ := h.args i hi k (by omega)
  unfold KnownG at h4
  rw [if_pos ho, hall _ (getD_mem (by omega))] at h4
  have h5 : (g.preds (g.blk i)).getD k 0 = (g.preds (g.blk i))[k] := by rw [List.getD_eq_getElem?_getD, List.getElem?_eq_getElem hk]; rfl
  rw [h5] at h4
  exact h4 h2

/-- No argument is a copy, and each phi has two sources. -/
structure NoneP (h : Fn) : Prop where
  len : h.vals.length ≤ 48
  alen : ∀ i, i < h.vals.length → (h.v i).args.length ≤ 64
  arg : ∀ i, i < h.vals.length → ∀ k, k < (h.v i).args.length → 0 ≤ (h.v i).args.getD k 0 ∧ (h.v i).args.getD k 0 < h.vals.length ∧ (h.v ((h.v i).args.getD k 0).toNat).op ≠ 14
  phi : ∀ i, i < h.vals.length → (h.v i).op = 13 → ∃ j k, j < (h.v i).args.length ∧ k < (h.v i).args.length ∧ (h.v i).args.getD j 0 ≠ (i : Int) ∧ (h.v i).args.getD k 0 ≠ (i : Int) ∧ (h.v i).args.getD j 0 ≠ (h.v i).args.getD k 0
theorem noneP {T : Nat → Bool} {g : Gph} (h : GoodG T g) (hf : ∀ v, v < g.nv → Fine g v) : NoneP (toF g) := by
  have har : ∀ v, v < g.nv → ((toF g).v v).args = nats (g.args v) := fun v hv => by rw [toF_v hv]; rfl
  have hlen : ∀ v, v < g.nv → ((toF g).v v).args.length = (g.args v).length := fun v hv => by rw [har v hv]; exact List.length_map ..
  have hop : ∀ v, v < g.nv → ((toF g).v v).op = g.op v := fun v hv => by rw [toF_v hv]; rfl
  refine ⟨by rw [toF_nv]; exact h.nv, fun i hi => ?_, fun i hi k hk => ?_, fun i hi ho => ?_⟩
  · rw [toF_nv] at hi
    rw [hlen i hi]
    have := h.alen hi; omega
  · rw [toF_nv] at hi ⊢
    rw [hlen i hi] at hk
    have h1 := (h.args i hi k hk).1
    rw [har i hi, getD_nats, Int.toNat_natCast, hop _ h1]
    exact ⟨by omega, by omega, (hf i hi).1 _ (getD_mem hk)⟩
  · rw [toF_nv] at hi
    rw [hop i hi] at ho
    obtain ⟨a, ha, hne⟩ := h.phiNS hi ho
    have h2 : ∃ b ∈ g.args i, b ≠ i ∧ b ≠ a := Classical.byContradiction fun hno => (hf i hi).2 ho ⟨a, ha, hne, fun b hb => by
      by_cases e1 : b = i
      · exact .inl e1
      · exact .inr (Classical.byContradiction fun e2 => hno ⟨b, hb, e1, e2⟩)⟩
    obtain ⟨b, hb, hbi, hba⟩ := h2
    obtain ⟨j, hj, hja⟩ := h.args_mem hi ha
    obtain ⟨k, hk, hkb⟩ := h.args_mem hi hb
    rw [hlen i hi, har i hi]
    refine ⟨j, k, hj, hk, ?_⟩
    rw [getD_nats, getD_nats, hja, hkb]
    omega
set_option maxHeartbeats 4000000
attribute [local irreducible] EC EL DL Ret thenQ blockQ loopQ bodyQ onlyN execOp Sem.run World.cell? World.frozen? World.setCell World.alloc

theorem FnPhiNone_ret {w : World} {x : Value} {f : Fn} (hx : FnV w x f) :
    Ret Try.prog 3 #[x] w fun v w' => v = .bool true ∧ Below w.heap.size w w' := by
  obtain ⟨xv, xb, rfl, hvals, hblks⟩ := hx
  refine ret_of_EC Try.func3 rfl rfl ?_
  have hx0 : FnV w (.agg #[xv, xb]) f := ⟨xv, xb, rfl, hvals, hblks⟩
  obtain ⟨ab, cb, rfl, hbl⟩ := hblks
  obtain ⟨av, cv, rfl, hvl⟩ := hvals
  obtain ⟨B, hBd⟩ : ∃ B, B = w.heap.size := ⟨_, rfl⟩
  refine EC_seq ?_
  refine EC_region ?_
  refine EL_v (x_box (v := .agg #[.slice av f.vals.length cv, .slice ab f.blks.length cb]) rfl) rfl ?_
  change EL _ _ _ _ _ _ (w.alloc (.cells #[.slice av f.vals.length cv, .slice ab f.blks.length cb] 25))
  have hN1 := heap_alloc_new w (.cells #[.slice av f.vals.length cv, .slice ab f.blks.length cb] 25)
  have hO1 : ∀ zz, zz < w.heap.size → (w.alloc (.cells #[.slice av f.vals.length cv, .slice ab f.blks.length cb] 25)).heap[zz]? = w.heap[zz]? := fun _ hi => Below.heap_alloc _ _ _ hi
  have hZ1 := size_alloc w (.cells #[.slice av f.vals.length cv, .slice ab f.blks.length cb] 25)
  have hB1 := (Below.refl B w).alloc (by omega) (.cells #[.slice av f.vals.length cv, .slice ab f.blks.length cb] 25)
  have hK1 := Keep.alloc w (.cells #[.slice av f.vals.length cv, .slice ab f.blks.length cb] 25)
  generalize w.alloc (.cells #[.slice av f.vals.length cv, .slice ab f.blks.length cb] 25) = wa at hN1 hO1 hZ1 hB1 hK1 ⊢
  refine EL_v x_assign rfl ?_
  refine EL_nil ?_
  refine thenQ_normal ?_
  obtain ⟨b1, hb1⟩ : ∃ b1, b1 = w.heap.size := ⟨_, rfl⟩
  rw [← hb1] at hN1 ⊢
  have hbw : Below b1 w wa := by rw [hb1, ← hBd]; exact hB1
  refine EC_seq ?_
  refine EC_seq ?_
  refine EC_region ?_
  refine EL_v (x_loadS (cs := [.slice av f.vals.length cv, .slice ab f.blks.length cb]) rfl (tab_agg rfl) (cellsAt_block hN1)) rfl ?_
  refine EL_c (x_call Try.func11 rfl rfl rfl rfl) rfl (fits1_ret (hx0.keep hK1)) ?_
  rintro _ w1 ⟨sb, rfl, hfit, hbs⟩
  refine EL_v (x_not rfl) rfl ?_
  refine EL_nil ?_
  refine thenQ_normal ?_
  have hb1w : Below b1 w w1 := hbw.trans (hbs.mono (by omega))
  cases sb with
  | false =>
    refine EC_yes rfl rfl ?_
    refine EC_seq ?_
    refine EC_region ?_
    refine EL_v x_assign rfl ?_
    refine EL_nil ?_
    refine thenQ_normal ?_
    refine EC_ret ?_
    refine thenQ_ret ?_
    exact post_tmp rfl rfl rfl ⟨rfl, hb1w⟩
  | true =>
  refine EC_no rfl rfl ?_
  refine EC_skip ?_
  refine thenQ_normal ?_
  obtain ⟨hf1, hf2⟩ := hfit rfl
  have hbx1 : w1.heap[b1]? = some (.cells #[.slice av f.vals.length cv, .slice ab f.blks.length cb] 25 (0, 0)) := (hbs.block b1 (by omega)).trans hN1
  have hsz1 := hbs.size
  have hKe1 : Keep w w1 := hK1.trans (Keep.of_below hbs (Nat.le_refl _))
  refine EC_seq ?_
  refine EC_seq ?_
  refine EC_region ?_
  refine EL_v (x_loadS (cs := [.slice av f.vals.length cv, .slice ab f.blks.length cb]) rfl (tab_agg rfl) (cellsAt_block hbx1)) rfl ?_
  refine EL_c (x_call Try.func13 rfl rfl rfl rfl) rfl (laws_conv_ret (hx0.keep hKe1) hf1 hf2) ?_
  rintro vc w2 ⟨hvc, hbl2⟩
  refine EL_c (x_call Try.func12 rfl rfl rfl rfl) rfl (Good_ret hvc) ?_
  rintro _ w3 ⟨gb, rfl, hgood, hbl3⟩
  refine EL_v (x_not rfl) rfl ?_
  refine EL_nil ?_
  refine thenQ_normal ?_
  have hsz2 := hbl2.size
  have hsz3 := hbl3.size
  have hb3w : Below b1 w w3 := (hb1w.trans (hbl2.mono (by omega))).trans (hbl3.mono (by omega))
  cases gb with
  | false =>
    refine EC_yes rfl rfl ?_
    refine EC_seq ?_
    refine EC_region ?_
    refine EL_v x_assign rfl ?_
    refine EL_nil ?_
    refine thenQ_normal ?_
    refine EC_ret ?_
    refine thenQ_ret ?_
    exact post_tmp rfl rfl rfl ⟨rfl, hb3w⟩
  | true =>
  refine EC_no rfl rfl ?_
  refine EC_skip ?_
  refine thenQ_normal ?_
  have hgd := hgood.1 rfl
  have hKe3 : Keep w w3 := (hKe1.trans (Keep.of_below hbl2 (Nat.le_refl _))).trans (Keep.of_below hbl3 (Nat.le_refl _))
  have hx3 := hx0.keep hKe3
  have hbx3 : w3.heap[b1]? = some (.cells #[.slice av f.vals.length cv, .slice ab f.blks.length cb] 25 (0, 0)) := (hbl3.block b1 (by omega)).trans ((hbl2.block b1 (by omega)).trans hbx1)
  have hsz13 : b1 + 1 ≤ w3.heap.size := by omega
  refine EC_seq ?_
  refine EC_region ?_
  refine EL_v (x_loadS (cs := [.slice av f.vals.length cv, .slice ab f.blks.length cb]) rfl (tab_agg rfl) (cellsAt_block hbx3)) rfl ?_
  refine EL_c (x_call Try.func14 rfl rfl rfl rfl) rfl (implPhi_ret hx3 hgd.wf (ginv_pinv (truthN f 48) (toG f)) ⟨hgd.good, rfl, rfl, rfl⟩ fun _ h => h.good.gok) ?_
  rintro vg w4 ⟨⟨g', hof, hvg⟩, hbl4⟩
  obtain ⟨gxv, gxb, rfl, gvals, gblks⟩ := hvg
  obtain ⟨gab, gcb, rfl, gbl⟩ := gblks
  obtain ⟨gav, gcv, rfl, gvl⟩ := gvals
  refine EL_v (x_alloc zero_fn_i) rfl ?_
  have hBle : B ≤ w4.heap.size := by have := hbl4.size; omega
  refine EL_s (x_storeNew rfl rfl (tab_sizeN rfl) rfl rfl) rfl ?_
  refine EL_nil ?_
  refine thenQ_normal ?_
  change EC _ _ _ _ _ (w4.alloc (.cells #[.slice gav (toF g').vals.length gcv, .slice gab (toF g').blks.length gcb] 25))
  have hN5 := heap_alloc_new w4 (.cells #[.slice gav (toF g').vals.length gcv, .slice gab (toF g').blks.length gcb] 25)
  have hO5 : ∀ zz, zz < w4.heap.size → (w4.alloc (.cells #[.slice gav (toF g').vals.length gcv, .slice gab (toF g').blks.length gcb] 25)).heap[zz]? = w4.heap[zz]? := fun _ hi => Below.heap_alloc _ _ _ hi
  have hZ5 := size_alloc w4 (.cells #[.slice gav (toF g').vals.length gcv, .slice gab (toF g').blks.length gcb] 25)
  have hB5 := (Below.refl B w4).alloc (by omega) (.cells #[.slice gav (toF g').vals.length gcv, .slice gab (toF g').blks.length gcb] 25)
  have hK5 := Keep.alloc w4 (.cells #[.slice gav (toF g').vals.length gcv, .slice gab (toF g').blks.length gcb] 25)
  generalize w4.alloc (.cells #[.slice gav (toF g').vals.length gcv, .slice gab (toF g').blks.length gcb] 25) = w5 at hN5 hO5 hZ5 hB5 hK5 ⊢
  obtain ⟨b5, hb5⟩ : ∃ b5, b5 = w4.heap.size := ⟨_, rfl⟩
  rw [← hb5] at hN5 ⊢
  have hsz4 := hbl4.size
  have hbw5 : Below b1 w w5 := (hb3w.trans (hbl4.mono (by omega))).trans ⟨hB5.os, hB5.tape, hB5.output, hB5.size, fun j hj => hO5 j (by omega)⟩
  have hbx5 : w5.heap[b1]? = some (.cells #[.slice av f.vals.length cv, .slice ab f.blks.length cb] 25 (0, 0)) := (hO5 b1 (by omega)).trans ((hbl4.block b1 (by omega)).trans hbx3)
  have f0 : w5.cell? ⟨b1, 0 + 0, none⟩ = some (.slice av f.vals.length cv) := cell_block hbx5 rfl
  have f1 : w5.cell? ⟨b1, 0 + 1, none⟩ = some (.slice ab f.blks.length cb) := cell_block hbx5 rfl
  have g0 : w5.cell? ⟨b5, 0 + 0, none⟩ = some (.slice gav (toF g').vals.length gcv) := cell_block hN5 rfl
  have g1 : w5.cell? ⟨b5, 0 + 1, none⟩ = some (.slice gab (toF g').blks.length gcb) := cell_block hN5 rfl
  have hKe5 : Keep w w5 := (hKe3.trans (Keep.of_below hbl4 (Nat.le_refl _))).trans hK5
  have hfv : ∀ k, k < f.vals.length → ∃ bb ob, av = some ⟨bb, ob, none⟩ ∧ Quad w5 bb (ob + k * 4) (f.v k).op (f.v k).blk (f.v k).args (f.v k).aux := fun k hk => by
    obtain ⟨bb, ob, e, hq⟩ := hvl.resolve_left (fun e => by rw [e] at hk; simp at hk)
    exact ⟨bb, ob, e, (hq k hk).keep hKe5⟩
  have hfb : ∀ k, k < f.blks.length → ∃ bb ob, ab = some ⟨bb, ob, none⟩ ∧ Quad w5 bb (ob + k * 4) (f.b k).kind (f.b k).ctrl (f.b k).succs (f.b k).likely := fun k hk => by
    obtain ⟨bb, ob, e, hq⟩ := hbl.resolve_left (fun e => by rw [e] at hk; simp at hk)
    exact ⟨bb, ob, e, (hq k hk).keep hKe5⟩
  have hgv : ∀ k, k < (toF g').vals.length → ∃ bb ob, gav = some ⟨bb, ob, none⟩ ∧ Quad w5 bb (ob + k * 4) ((toF g').v k).op ((toF g').v k).blk ((toF g').v k).args ((toF g').v k).aux := fun k hk => by
    obtain ⟨bb, ob, e, hq⟩ := gvl.resolve_left (fun e => by rw [e] at hk; simp at hk)
    exact ⟨bb, ob, e, (hq k hk).keep hK5⟩
  have hgb : ∀ k, k < (toF g').blks.length → ∃ bb ob, gab = some ⟨bb, ob, none⟩ ∧ Quad w5 bb (ob + k * 4) ((toF g').b k).kind ((toF g').b k).ctrl ((toF g').b k).succs ((toF g').b k).likely := fun k hk => by
    obtain ⟨bb, ob, e, hq⟩ := gbl.resolve_left (fun e => by rw [e] at hk; simp at hk)
    exact ⟨bb, ob, e, (hq k hk).keep hK5⟩
  have hgi := (ginv_pinv (truthN f 48) (toG f)).steps ⟨hgd.good, rfl, rfl, rfl⟩ hof.steps
  have hlen : (toF g').vals.length = f.vals.length := (toF_nv g').trans hof.steps.same.1
  have hNP := noneP hgi.good hof.fine
  clear hgv hgb hfv hfb
  have hgv : ∀ k, k < (toF g').vals.length → ∃ bb ob, gav = some ⟨bb, ob, none⟩ ∧ Quad w5 bb (ob + k * 4) ((toF g').v k).op ((toF g').v k).blk ((toF g').v k).args ((toF g').v k).aux := fun k hk => by
    obtain ⟨bb, ob, e, hq⟩ := gvl.resolve_left (fun e => by rw [e] at hk; simp at hk)
    exact ⟨bb, ob, e, (hq k hk).keep hK5⟩
  clear gvl gbl hvl hbl
  generalize toF g' = h at hlen hNP hgv hN5 g0 g1 ⊢
  obtain ⟨hn48, ha64, hNP, hNQ⟩ := hNP
  obtain ⟨SA, hSA⟩ : ∃ SA, SA = w5.heap.size := ⟨_, rfl⟩
  refine EC_seq ?_
  refine EC_seq ?_
  refine EC_region ?_
  refine EL_v (x_field rfl (tab_fld rfl)) rfl ?_
  refine EL_v (x_load rfl (tab_one rfl) (by with_reducible assumption)) rfl ?_
  refine EL_v (x_len rfl (tab_sl rfl)) rfl ?_
  refine EL_v (x_field rfl (tab_fld rfl)) rfl ?_
  refine EL_v (x_load rfl (tab_one rfl) (by with_reducible assumption)) rfl ?_
  refine EL_v (x_len rfl (tab_sl rfl)) rfl ?_
  refine EL_v (x_neq rfl rfl) rfl ?_
  refine EL_nil ?_
  refine thenQ_normal ?_
  refine EC_no (congrArg Value.bool (decide_eq_false (fun hh => hh (by rw [hlen])))) rfl ?_
  refine EC_skip ?_
  refine thenQ_normal ?_
  refine EC_seq ?_
  refine EC_seq ?_
  refine EC_region ?_
  refine EL_v (x_field rfl (tab_fld rfl)) rfl ?_
  refine EL_v (x_load rfl (tab_one rfl) (by with_reducible assumption)) rfl ?_
  refine EL_v (x_len rfl (tab_sl rfl)) rfl ?_
  refine EL_v x_move rfl ?_
  refine EL_nil ?_
  refine thenQ_normal ?_
  refine EC_block ?_
  refine EC_loop (fun n e wr => ∃ k, k ≤ h.vals.length ∧ At e [(3, .pointer (some ⟨b5, 0, none⟩)), (27, .slice gav h.vals.length gcv), (28, .int .i64 (h.vals.length : Int)), (29, .int .i64 (k : Int))] ∧ Below SA w5 wr ∧ n = h.vals.length - k) h.vals.length
    ⟨0, Nat.zero_le _, at_of rfl ⟨rfl, rfl, rfl, rfl, trivial⟩, Below.refl _ _, rfl⟩ ?_
  rintro n e wr ⟨k, hk, ⟨t, rfl⟩, hb, rfl⟩
  refine EC_seq ?_
  refine EC_region ?_
  refine EL_v (x_lss rfl rfl) rfl ?_
  refine EL_nil ?_
  refine thenQ_normal ?_
  refine EC_seq ?_
  refine EC_if rfl rfl (fun hlt => ?_) (fun hge => ?_)
  · have hlt : k < h.vals.length := by omega
    obtain ⟨bb, ob, rfl, ⟨s0, hcells0, ⟨sa, sc, rfl, hints⟩⟩⟩ := hgv k hlt
    have hKr : Keep w5 wr := Keep.of_below hb (by omega)
    have hcells := hcells0.keep hKr
    have hszr := hb.size
    have hal := ha64 k hlt
    refine EC_skip ?_
    refine thenQ_normal ?_
    refine EC_seq ?_
    refine EC_block ?_
    refine EC_seq ?_
    refine EC_region ?_
    refine EL_v x_move rfl ?_
    refine EL_v (x_indexN (n := 4) rfl rfl (tab_sl rfl) hlt) rfl ?_
    refine EL_v (x_loadS rfl (tab_agg rfl) hcells) rfl ?_
    refine EL_v (x_alloc zero_iv) rfl ?_
    refine EL_v x_assign rfl ?_
    refine EL_s (x_storeNew rfl rfl (tab_sizeN rfl) rfl rfl) rfl ?_
    refine EL_nil ?_
    refine thenQ_normal ?_
    have hBle : B ≤ wr.heap.size := by omega
    change EC _ _ _ _ _ (wr.alloc (.cells #[.int .i64 (h.v k).op, .int .i64 (h.v k).blk, .slice sa (h.v k).args.length sc, .int .i64 (h.v k).aux] 36))
    have hN3 := heap_alloc_new wr (.cells #[.int .i64 (h.v k).op, .int .i64 (h.v k).blk, .slice sa (h.v k).args.length sc, .int .i64 (h.v k).aux] 36)
    have hO3 : ∀ zz, zz < wr.heap.size → (wr.alloc (.cells #[.int .i64 (h.v k).op, .int .i64 (h.v k).blk, .slice sa (h.v k).args.length sc, .int .i64 (h.v k).aux] 36)).heap[zz]? = wr.heap[zz]? := fun _ hi => Below.heap_alloc _ _ _ hi
    have hZ3 := size_alloc wr (.cells #[.int .i64 (h.v k).op, .int .i64 (h.v k).blk, .slice sa (h.v k).args.length sc, .int .i64 (h.v k).aux] 36)
    have hB3 := (Below.refl B wr).alloc (by omega) (.cells #[.int .i64 (h.v k).op, .int .i64 (h.v k).blk, .slice sa (h.v k).args.length sc, .int .i64 (h.v k).aux] 36)
    have hK3 := Keep.alloc wr (.cells #[.int .i64 (h.v k).op, .int .i64 (h.v k).blk, .slice sa (h.v k).args.length sc, .int .i64 (h.v k).aux] 36)
    generalize wr.alloc (.cells #[.int .i64 (h.v k).op, .int .i64 (h.v k).blk, .slice sa (h.v k).args.length sc, .int .i64 (h.v k).aux] 36) = X at hN3 hO3 hZ3 hB3 hK3 ⊢
    obtain ⟨V, hV⟩ : ∃ V, V = wr.heap.size := ⟨_, rfl⟩
    rw [← hV] at hN3 ⊢
    have hbX : Below SA w5 X := hb.trans ⟨hB3.os, hB3.tape, hB3.output, hB3.size, fun j hj => hO3 j (by omega)⟩
    have hKX : Keep w5 X := hKr.trans hK3
    have v0 : X.cell? ⟨V, 0 + 0, none⟩ = some (.int .i64 (h.v k).op) := cell_block hN3 rfl
    have v2 : X.cell? ⟨V, 0 + 2, none⟩ = some (.slice sa (h.v k).args.length sc) := cell_block hN3 rfl
    have g0' := hKX _ _ g0
    have hbFX : Below b1 w X := hbw5.trans (hbX.mono (by omega))
    refine EC_seq ?_
    refine EC_region ?_
    refine EL_v x_assign rfl ?_
    refine EL_nil ?_
    refine thenQ_normal ?_
    refine EC_seq ?_
    refine EC_region ?_
    refine EL_v (x_field rfl (tab_fld rfl)) rfl ?_
    refine EL_v (x_load rfl (tab_one rfl) (by with_reducible assumption)) rfl ?_
    refine EL_v (x_eql rfl rfl) rfl ?_
    refine EL_v x_assign rfl ?_
    refine EL_nil ?_
    refine thenQ_normal ?_
    refine EC_seq ?_
    refine EC_seq ?_
    refine EC_region ?_
    refine EL_v (x_field rfl (tab_fld rfl)) rfl ?_
    refine EL_v (x_load rfl (tab_one rfl) (by with_reducible assumption)) rfl ?_
    refine EL_v (x_len rfl (tab_sl rfl)) rfl ?_
    refine EL_v x_move rfl ?_
    refine EL_nil ?_
    refine thenQ_normal ?_
    refine EC_block ?_
    refine EC_loop (fun n e wi => ∃ (j : Nat) (nd : Bool) (s : Int), j ≤ (h.v k).args.length ∧ At e [(3, .pointer (some ⟨b5, 0, none⟩)), (27, .slice (some ⟨bb, ob, none⟩) h.vals.length gcv), (28, .int .i64 (h.vals.length : Int)), (29, .int .i64 (k : Int)), (4, .int .i64 (k : Int)), (6, .int .i64 s), (7, .bool nd), (38, .slice sa (h.v k).args.length sc), (39, .int .i64 ((h.v k).args.length : Int)), (40, .int .i64 (j : Int))] ∧ wi = X ∧
        (nd = true → (h.v k).op = 13 ∧ (∀ m, m < j → (h.v k).args.getD m 0 = (k : Int) ∨ (h.v k).args.getD m 0 = s) ∧ (s < 0 → ∀ m, m < j → (h.v k).args.getD m 0 = (k : Int))) ∧ n = (h.v k).args.length - j) (h.v k).args.length
      ⟨0, _, _, Nat.zero_le _, at_of rfl ⟨rfl, rfl, rfl, rfl, rfl, rfl, rfl, rfl, rfl, rfl, trivial⟩, rfl, fun hh => ⟨of_decide_eq_true hh, fun m hm => absurd hm (Nat.not_lt_zero _), fun _ m hm => absurd hm (Nat.not_lt_zero _)⟩, rfl⟩ ?_
    rintro n e wi ⟨j, nd, s, hj, ⟨t, rfl⟩, rfl, hI, rfl⟩
    refine EC_seq ?_
    refine EC_region ?_
    refine EL_v (x_lss rfl rfl) rfl ?_
    refine EL_nil ?_
    refine thenQ_normal ?_
    refine EC_seq ?_
    refine EC_if rfl rfl (fun hlj => ?_) (fun hgj => ?_)
    · have hlj : j < (h.v k).args.length := by omega
      obtain ⟨ba, oa, rfl, hai⟩ := hints.get hlj
      have hai := hKX _ _ hai
      obtain ⟨hr1, hr2, hr3⟩ := hNP k hlt j hlj
      obtain ⟨a, ha⟩ : ∃ a : Nat, (h.v k).args.getD j 0 = (a : Int) := ⟨_, (Int.toNat_of_nonneg hr1).symm⟩
      have han : a < h.vals.length := by omega
      rw [ha, Int.toNat_natCast] at hr3
      rw [ha] at hai
      obtain ⟨bb', ob', e, ⟨s1, hcA, _⟩⟩ := hgv a han
      cases e
      have hcA0 : wi.cell? ⟨bb, ob + a * 4 + 0, none⟩ = some (.int .i64 (h.v a).op) := hKX _ _ (hcA 0 _ rfl)
      refine EC_skip ?_
      refine thenQ_normal ?_
      refine EC_seq ?_
      refine EC_block ?_
      refine EC_seq ?_
      refine EC_region ?_
      refine EL_v (x_index1 rfl rfl (tab_sl rfl) (by omega)) rfl ?_
      refine EL_v (x_load rfl (tab_one rfl) (by with_reducible assumption)) rfl ?_
      refine EL_v x_assign rfl ?_
      refine EL_nil ?_
      refine thenQ_normal ?_
      refine EC_seq ?_
      refine EC_seq ?_
      refine EC_region ?_
      refine EL_v x_move rfl ?_
      refine EL_v (x_lss rfl rfl) rfl ?_
      refine EL_v x_move rfl ?_
      rw [decide_eq_false (show ¬ (a : Int) < 0 by omega)]
      refine EL_yes rfl rfl x_move rfl ?_
      refine EL_yes rfl rfl (x_field rfl (tab_fld rfl)) rfl ?_
      refine EL_yes rfl rfl (x_load rfl (tab_one rfl) (by with_reducible assumption)) rfl ?_
      refine EL_yes rfl rfl (x_len rfl (tab_sl rfl)) rfl ?_
      refine EL_yes rfl rfl (x_geq rfl rfl) rfl ?_
      refine EL_v (x_pick_f rfl) rfl ?_
      refine EL_v x_move rfl ?_
      rw [decide_eq_false (show ¬ (h.vals.length : Int) ≤ (a : Int) by omega)]
      refine EL_yes rfl rfl (x_field rfl (tab_fld rfl)) rfl ?_
      refine EL_yes rfl rfl (x_load rfl (tab_one rfl) (by with_reducible assumption)) rfl ?_
      refine EL_yes rfl rfl x_move rfl ?_
      refine EL_yes rfl rfl (x_indexN (n := 4) rfl rfl (tab_sl rfl) han) rfl ?_
      refine EL_yes rfl rfl (x_field rfl (tab_fld rfl)) rfl ?_
      refine EL_yes rfl rfl (x_load rfl (tab_one rfl) (by with_reducible assumption)) rfl ?_
      refine EL_yes rfl rfl (x_eql rfl rfl) rfl ?_
      refine EL_v (x_pick_f rfl) rfl ?_
      refine EL_nil ?_
      refine thenQ_normal ?_
      rw [decide_eq_false hr3]
      refine EC_no rfl rfl ?_
      refine EC_skip ?_
      refine thenQ_normal ?_
      refine EC_seq ?_
      refine EC_region ?_
      refine EL_cut 16 (fun e w' => w' = wi ∧ ∃ nd' : Bool, (nd' = true → nd = true ∧ (a = k ∨ s < 0 ∨ (a : Int) = s)) ∧ At e [(7, .bool nd'), (3, .pointer (some ⟨b5, 0, none⟩)), (27, .slice (some ⟨bb, ob, none⟩) h.vals.length gcv), (28, .int .i64 (h.vals.length : Int)), (29, .int .i64 (k : Int)), (4, .int .i64 (k : Int)), (6, .int .i64 s), (9, .int .i64 (a : Int)), (38, .slice (some ⟨ba, oa, none⟩) (h.v k).args.length sc), (39, .int .i64 ((h.v k).args.length : Int)), (40, .int .i64 (j : Int))]) ?_ ?_
      · refine EL_v x_move rfl ?_
        refine EL_v x_move rfl ?_
        cases nd with
        | false =>
          refine EL_no rfl rfl ?_
          refine EL_no rfl rfl ?_
          refine EL_no rfl rfl ?_
          refine EL_no rfl rfl ?_
          refine EL_un rfl rfl ?_
          refine EL_un rfl rfl ?_
          refine EL_no rfl rfl ?_
          refine EL_no rfl rfl ?_
          refine EL_un rfl rfl ?_
          refine EL_un rfl rfl ?_
          refine EL_un rfl rfl ?_
          refine EL_no rfl rfl ?_
          refine EL_v (x_pick_f rfl) rfl ?_
          refine EL_v x_assign rfl ?_
          refine EL_nil ?_
          exact ⟨rfl, false, fun hh => (by cases hh), at_of rfl ⟨rfl, rfl, rfl, rfl, rfl, rfl, rfl, rfl, rfl, rfl, rfl, trivial⟩⟩
        | true =>
          refine EL_yes rfl rfl x_move rfl ?_
          refine EL_yes rfl rfl x_move rfl ?_
          refine EL_yes rfl rfl (x_eql rfl rfl) rfl ?_
          refine EL_yes rfl rfl x_move rfl ?_
          by_cases h1 : (a : Int) = (k : Int)
          · rw [decide_eq_true h1]
            refine EL_no rfl rfl ?_
            refine EL_no rfl rfl ?_
            refine EL_yes rfl rfl (x_pick_t rfl) rfl ?_
            refine EL_yes rfl rfl x_move rfl ?_
            refine EL_no rfl rfl ?_
            refine EL_no rfl rfl ?_
            refine EL_no rfl rfl ?_
            refine EL_yes rfl rfl (x_pick_t rfl) rfl ?_
            refine EL_v (x_pick_t rfl) rfl ?_
            refine EL_v x_assign rfl ?_
            refine EL_nil ?_
            exact ⟨rfl, true, fun _ => ⟨rfl, .inl (by omega)⟩, at_of rfl ⟨rfl, rfl, rfl, rfl, rfl, rfl, rfl, rfl, rfl, rfl, rfl, trivial⟩⟩
          · rw [decide_eq_false h1]
            refine EL_yes rfl rfl x_move rfl ?_
            refine EL_yes rfl rfl (x_lss rfl rfl) rfl ?_
            refine EL_yes rfl rfl (x_pick_f rfl) rfl ?_
            refine EL_yes rfl rfl x_move rfl ?_
            by_cases h2 : s < 0
            · rw [decide_eq_true h2]
              refine EL_no rfl rfl ?_
              refine EL_no rfl rfl ?_
              refine EL_no rfl rfl ?_
              refine EL_yes rfl rfl (x_pick_t rfl) rfl ?_
              refine EL_v (x_pick_t rfl) rfl ?_
              refine EL_v x_assign rfl ?_
              refine EL_nil ?_
              exact ⟨rfl, true, fun _ => ⟨rfl, .inr (.inl h2)⟩, at_of rfl ⟨rfl, rfl, rfl, rfl, rfl, rfl, rfl, rfl, rfl, rfl, rfl, trivial⟩⟩
            · rw [decide_eq_false h2]
              refine EL_yes rfl rfl x_move rfl ?_
              refine EL_yes rfl rfl x_move rfl ?_
              refine EL_yes rfl rfl (x_eql rfl rfl) rfl ?_
              refine EL_yes rfl rfl (x_pick_f rfl) rfl ?_
              refine EL_v (x_pick_t rfl) rfl ?_
              refine EL_v x_assign rfl ?_
              refine EL_nil ?_
              exact ⟨rfl, _, fun hh => ⟨rfl, .inr (.inr (of_decide_eq_true hh))⟩, at_of rfl ⟨rfl, rfl, rfl, rfl, rfl, rfl, rfl, rfl, rfl, rfl, rfl, trivial⟩⟩
      rintro e w' ⟨rfl, nd', hnd, t, rfl⟩
      refine EL_nil ?_
      refine thenQ_normal ?_
      refine EC_seq ?_
      refine EC_region ?_
      refine EL_v x_move rfl ?_
      refine EL_v x_move rfl ?_
      refine EL_v (x_neq rfl rfl) rfl ?_
      refine EL_nil ?_
      refine thenQ_normal ?_
      have hnext : ∀ s' : Int, s' = (if a = k then s else (a : Int)) → (nd' = true → (h.v k).op = 13 ∧ (∀ m, m < j + 1 → (h.v k).args.getD m 0 = (k : Int) ∨ (h.v k).args.getD m 0 = s') ∧ (s' < 0 → ∀ m, m < j + 1 → (h.v k).args.getD m 0 = (k : Int))) := by
        intro s' hs' hh
        obtain ⟨h1, h2⟩ := hnd hh
        obtain ⟨h3, h4, h5⟩ := hI h1
        refine ⟨h3, fun m hm => ?_, fun hneg m hm => ?_⟩
        · by_cases e : m = j
          · subst e
            rw [ha, hs']
            by_cases e2 : a = k
            · left; omega
            · right; rw [if_neg e2]
          · by_cases e2 : a = k
            · rw [hs', if_pos e2]; exact h4 m (by omega)
            · rw [hs', if_neg e2]
              rcases h2 with h2 | h2 | h2
              · exact absurd h2 e2
              · exact .inl (h5 h2 m (by omega))
              · rw [h2]; exact h4 m (by omega)
        · by_cases e2 : a = k
          · rw [hs', if_pos e2] at hneg
            by_cases e : m = j
            · subst e; rw [ha]; omega
            · exact h5 hneg m (by omega)
          · rw [hs', if_neg e2] at hneg
            omega
      refine EC_if rfl rfl (fun hne => ?_) (fun heq => ?_)
      · refine EC_region ?_
        refine EL_v x_move rfl ?_
        refine EL_v x_assign rfl ?_
        refine EL_nil ?_
        refine blockQ_normal ?_
        refine thenQ_normal ?_
        refine EC_region ?_
        refine EL_v (x_inc rfl rfl (by omega)) rfl ?_
        refine EL_v x_move rfl ?_
        refine EL_nil ?_
        exact loopQ_next ((h.v k).args.length - (j + 1)) (by omega) ⟨j + 1, nd', (a : Int), by omega, at_of rfl ⟨rfl, rfl, rfl, rfl, rfl, rfl, rfl, rfl, rfl, rfl, trivial⟩, rfl, hnext _ (by rw [if_neg (by omega)]), rfl⟩
      · refine EC_skip ?_
        refine blockQ_normal ?_
        refine thenQ_normal ?_
        refine EC_region ?_
        refine EL_v (x_inc rfl rfl (by omega)) rfl ?_
        refine EL_v x_move rfl ?_
        refine EL_nil ?_
        exact loopQ_next ((h.v k).args.length - (j + 1)) (by omega) ⟨j + 1, nd', s, by omega, at_of rfl ⟨rfl, rfl, rfl, rfl, rfl, rfl, rfl, rfl, rfl, rfl, trivial⟩, rfl, hnext _ (by rw [if_pos (by omega)]), rfl⟩
    · have hj : j = (h.v k).args.length := by omega
      subst hj
      refine EC_exit ?_
      refine thenQ_exit ?_
      refine loopQ_exit ?_
      refine blockQ_hit ?_
      refine thenQ_normal ?_
      refine EC_seq ?_
      refine EC_region ?_
      refine EL_v x_move rfl ?_
      refine EL_nil ?_
      refine thenQ_normal ?_
      have hnd : nd = false := by
        rcases Bool.eq_false_or_eq_true nd with e | e
        · exfalso
          obtain ⟨h3, h4, _⟩ := hI e
          obtain ⟨p, q, hp, hq, h6, h7, h8⟩ := hNQ k hlt h3
          rcases h4 p hp with h9 | h9
          · exact h6 h9
          · rcases h4 q hq with h10 | h10
            · exact h7 h10
            · exact h8 (h9.trans h10.symm)
        · exact e
      refine EC_no (congrArg Value.bool hnd) rfl ?_
      refine EC_skip ?_
      refine blockQ_normal ?_
      refine thenQ_normal ?_
      refine EC_region ?_
      refine EL_v (x_inc rfl rfl (by omega)) rfl ?_
      refine EL_v x_move rfl ?_
      refine EL_nil ?_
      exact loopQ_next (h.vals.length - (k + 1)) (by omega) ⟨k + 1, by omega, at_of rfl ⟨rfl, rfl, rfl, rfl, trivial⟩, hbX, rfl⟩
  · have hk : k = h.vals.length := by omega
    subst hk
    refine EC_exit ?_
    refine thenQ_exit ?_
    refine loopQ_exit ?_
    refine blockQ_hit ?_
    refine thenQ_normal ?_
    refine EC_seq ?_
    refine EC_region ?_
    refine EL_v x_assign rfl ?_
    refine EL_nil ?_
    refine thenQ_normal ?_
    refine EC_ret ?_
    exact post_tmp rfl rfl rfl ⟨rfl, hbw5.trans (hb.mono (by omega))⟩
end Go.Proofs.Yteepnepebilckaa
