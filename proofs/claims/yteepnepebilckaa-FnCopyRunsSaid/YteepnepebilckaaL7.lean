/- The laws FnPhiRuns, FnCopyRuns. -/
import Derived.Test.YteepnepebilckaaN4
import Derived.Test.YteepnepebilckaaL4
namespace Go.Proofs.Yteepnepebilckaa
open Go Go.Eng Go.RowKit

theorem runs_phi {f : Fn} (hg : GoodP f) (ins : List Int) {g' : Gph} (hof : PhiOf (toG f) g') :
    GoodP (toF g') ∧ (toF g').vals.length = f.vals.length ∧ (toF g').blks.length = f.blks.length ∧ runG (toG f) (doI ins) 300 0 0 (fun _ => 0) = runG (toG (toF g')) (doI ins) 300 0 0 (fun _ => 0) := by
  obtain ⟨h1, h2⟩ := run_steps hg.good (E := doI ins) (fun a l => doI_copy ins a l) hof.steps
  exact ⟨h1.goodP, (toF_nv g').trans hof.steps.same.1, (toF_nb g').trans hof.steps.same.2.1, (h2 300 _).trans (run_like h1 h1.goodP.good (like_toF h1) 300 _)⟩
theorem runs_copy {f : Fn} (hg : GoodP f) (ins : List Int) {g' : Gph} (hof : CopyOf (toG f) g') :
    GoodP (toF g') ∧ (toF g').vals.length = f.vals.length ∧ (toF g').blks.length = f.blks.length ∧ runG (toG f) (doI ins) 300 0 0 (fun _ => 0) = runG (toG (toF g')) (doI ins) 300 0 0 (fun _ => 0) := by
  obtain ⟨hgg, _, hnv, hnb, _⟩ := copy_good hg.good hof
  obtain ⟨g1, c2, hp, hc, rfl⟩ := hof.ex
  obtain ⟨h1, h2⟩ := run_steps hg.good (E := doI ins) (fun a l => doI_copy ins a l) hp.steps
  exact ⟨hgg.goodP, (toF_nv _).trans hnv, (toF_nb _).trans hnb, ((h2 300 _).trans (run_ctrls h1 (fun a l => doI_copy ins a l) hc 300 _)).trans (run_like hgg hgg.goodP.good (like_toF hgg) 300 _)⟩
set_option maxHeartbeats 4000000
attribute [local irreducible] EC EL DL Ret thenQ blockQ loopQ bodyQ onlyN execOp Sem.run World.cell? World.frozen? World.setCell World.alloc

theorem FnPhiRuns_ret {w : World} {x vi : Value} {f : Fn} {ins : List Int} (hx : FnV w x f) (hin : IntsV w vi ins) :
    Ret Try.prog 5 #[x, vi] w fun v w' => v = .bool true ∧ Below w.heap.size w w' := by
  obtain ⟨xv, xb, rfl, hvals, hblks⟩ := hx
  refine ret_of_EC Try.func5 rfl rfl ?_
  have hx0 : FnV w (.agg #[xv, xb]) f := ⟨xv, xb, rfl, hvals, hblks⟩
  have hin0 := hin
  obtain ⟨ia, ic, rfl, hil⟩ := hin
  obtain ⟨ab, cb, rfl, hbl⟩ := hblks
  obtain ⟨av, cv, rfl, hvl⟩ := hvals
  obtain ⟨B, hBd⟩ : ∃ B, B = w.heap.size := ⟨_, rfl⟩
  refine EC_seq ?_
  refine EC_region ?_
  refine EL_v (x_box (v := .agg #[.slice av f.vals.length cv, .slice ab f.blks.length cb]) rfl) rfl ?_
  change EL _ _ _ _ _ _ (w.alloc (.cells #[.slice av f.vals.length cv, .slice ab f.blks.length cb] 25))
  have hN1 := heap_alloc_new w (.cells #[.slice av f.vals.length cv, .slice ab f.blks.length cb] 25)
  have hO1 : ∀ zz, zz < w.heap.size → (w.alloc (.cells #[.slice av f.vals.length cv, .slice ab f.blks.length cb] 25)).heap[zz]? = w.heap[zz]? := fun _ hi => Below.heap_alloc _ _ _ hi
  have hZ1 := size_alloc w (.cells #[.slice av f.vals.length cv, .slice ab f.blks.length cb] 25)
  have hB1 := (Below.refl B w).alloc (by omega) (.cells #[.slice av f.vals.length cv, .slice ab f.blks.length cb] 25)
  have hK1 := Keep.alloc w (.cells #[.slice av f.vals.length cv, .slice ab f.blks.length cb] 25)
  generalize w.alloc (.cells #[.slice av f.vals.length cv, .slice ab f.blks.length cb] 25) = wa at hN1 hO1 hZ1 hB1 hK1 ⊢
  refine EL_v x_assign rfl ?_
  refine EL_nil ?_
  refine thenQ_normal ?_
  obtain ⟨b1, hb1⟩ : ∃ b1, b1 = w.heap.size := ⟨_, rfl⟩
  rw [← hb1] at hN1 ⊢
  have hbw : Below b1 w wa := by rw [hb1, ← hBd]; exact hB1
  refine EC_seq ?_
  refine EC_seq ?_
  refine EC_region ?_
  refine EL_v (x_loadS (cs := [.slice av f.vals.length cv, .slice ab f.blks.length cb]) rfl (tab_agg rfl) (cellsAt_block hN1)) rfl ?_
  refine EL_c (x_call Try.func11 rfl rfl rfl rfl) rfl (fits1_ret (hx0.keep hK1)) ?_
  rintro _ w1 ⟨sb, rfl, hfit, hbs⟩
  refine EL_v (x_not rfl) rfl ?_
  have hb1w : Below b1 w w1 := hbw.trans (hbs.mono (by omega))
  have hsz1 := hbs.size
  cases sb with
  | false =>
    refine EL_v x_move rfl ?_
    refine EL_no rfl rfl ?_
    refine EL_no rfl rfl ?_
    refine EL_no rfl rfl ?_
    refine EL_v (x_pick_t rfl) rfl ?_
    refine EL_nil ?_
    refine thenQ_normal ?_
    refine EC_yes rfl rfl ?_
    refine EC_seq ?_
    refine EC_region ?_
    refine EL_v x_assign rfl ?_
    refine EL_nil ?_
    refine thenQ_normal ?_
    refine EC_ret ?_
    refine thenQ_ret ?_
    exact post_tmp rfl rfl rfl ⟨rfl, hb1w⟩
  | true =>
  refine EL_v x_move rfl ?_
  refine EL_yes rfl rfl x_move rfl ?_
  refine EL_yes rfl rfl (x_len rfl (tab_sl rfl)) rfl ?_
  refine EL_yes rfl rfl (x_gtr rfl rfl) rfl ?_
  refine EL_v (x_pick_f rfl) rfl ?_
  refine EL_nil ?_
  refine thenQ_normal ?_
  refine EC_if rfl rfl (fun hlong => ?_) (fun hshort => ?_)
  · refine EC_seq ?_
    refine EC_region ?_
    refine EL_v x_assign rfl ?_
    refine EL_nil ?_
    refine thenQ_normal ?_
    refine EC_ret ?_
    refine thenQ_ret ?_
    exact post_tmp rfl rfl rfl ⟨rfl, hb1w⟩
  refine EC_skip ?_
  refine thenQ_normal ?_
  obtain ⟨hf1, hf2⟩ := hfit rfl
  have hbx1 : w1.heap[b1]? = some (.cells #[.slice av f.vals.length cv, .slice ab f.blks.length cb] 25 (0, 0)) := (hbs.block b1 (by omega)).trans hN1
  have hKe1 : Keep w w1 := hK1.trans (Keep.of_below hbs (Nat.le_refl _))
  refine EC_seq ?_
  refine EC_region ?_
  refine EL_v (x_loadS (cs := [.slice av f.vals.length cv, .slice ab f.blks.length cb]) rfl (tab_agg rfl) (cellsAt_block hbx1)) rfl ?_
  refine EL_c (x_call Try.func13 rfl rfl rfl rfl) rfl (laws_conv_ret (hx0.keep hKe1) hf1 hf2) ?_
  rintro vc w2 ⟨hvc, hbl2⟩
  have hsz2 := hbl2.size
  have hvc0 := hvc
  obtain ⟨cxv, cxb, rfl, cvals, cblks⟩ := hvc
  obtain ⟨cab, ccb, rfl, _⟩ := cblks
  obtain ⟨cav, ccv, rfl, _⟩ := cvals
  refine EL_v (x_alloc zero_fn_s) rfl ?_
  refine EL_s (x_storeNew rfl rfl (tab_sizeN rfl) rfl rfl) rfl ?_
  refine EL_nil ?_
  refine thenQ_normal ?_
  have hBle : B ≤ w2.heap.size := by omega
  change EC _ _ _ _ _ (w2.alloc (.cells #[.slice cav f.vals.length ccv, .slice cab f.blks.length ccb] 31))
  have hN3 := heap_alloc_new w2 (.cells #[.slice cav f.vals.length ccv, .slice cab f.blks.length ccb] 31)
  have hO3 : ∀ zz, zz < w2.heap.size → (w2.alloc (.cells #[.slice cav f.vals.length ccv, .slice cab f.blks.length ccb] 31)).heap[zz]? = w2.heap[zz]? := fun _ hi => Below.heap_alloc _ _ _ hi
  have hZ3 := size_alloc w2 (.cells #[.slice cav f.vals.length ccv, .slice cab f.blks.length ccb] 31)
  have hB3 := (Below.refl B w2).alloc (by omega) (.cells #[.slice cav f.vals.length ccv, .slice cab f.blks.length ccb] 31)
  have hK3 := Keep.alloc w2 (.cells #[.slice cav f.vals.length ccv, .slice cab f.blks.length ccb] 31)
  generalize w2.alloc (.cells #[.slice cav f.vals.length ccv, .slice cab f.blks.length ccb] 31) = w3 at hN3 hO3 hZ3 hB3 hK3 ⊢
  obtain ⟨b5, hb5⟩ : ∃ b5, b5 = w2.heap.size := ⟨_, rfl⟩
  rw [← hb5] at hN3 ⊢
  have hb3w : Below b1 w w3 := (hb1w.trans (hbl2.mono (by omega))).trans ⟨hB3.os, hB3.tape, hB3.output, hB3.size, fun j hj => hO3 j (by omega)⟩
  have hKe3 : Keep w w3 := (hKe1.trans (Keep.of_below hbl2 (Nat.le_refl _))).trans hK3
  have hvc3 := hvc0.keep hK3
  have hbx3 : w3.heap[b1]? = some (.cells #[.slice av f.vals.length cv, .slice ab f.blks.length cb] 25 (0, 0)) := (hO3 b1 (by omega)).trans ((hbl2.block b1 (by omega)).trans hbx1)
  refine EC_seq ?_
  have hc : Cells [(⟨b5, 0 + 0, none⟩, .slice cav f.vals.length ccv), (⟨b5, 0 + 1, none⟩, .slice cab f.blks.length ccb), (⟨b1, 0 + 0, none⟩, .slice av f.vals.length cv), (⟨b1, 0 + 1, none⟩, .slice ab f.blks.length cb)] w3.drew :=
    (Keep.drew w3).cells (.cons (cell_block hN3 rfl) (.cons (cell_block hN3 rfl) (.cons (cell_block hbx3 rfl) (.cons (cell_block hbx3 rfl) (.nil _)))))
  refine EC_draw mixed (Cells [(⟨b5, 0 + 0, none⟩, .slice cav f.vals.length ccv), (⟨b5, 0 + 1, none⟩, .slice cab f.blks.length ccb), (⟨b1, 0 + 0, none⟩, .slice av f.vals.length cv), (⟨b1, 0 + 1, none⟩, .slice ab f.blks.length cb)]) [(0, false), (1, true), (2, false), (3, false), (4, false), (5, false), (6, false), (7, false), (8, false), (9, false), (10, false), (13, false), (11, true), (12, true), (14, true), (15, false), (16, false)] (by kernel_rfl) hc ?_
  have hbd : Below b1 w w3.drew := hb3w.drew
  have hKd : Keep w w3.drew := hKe3.trans (Keep.drew w3)
  have hvd := hvc3.keep (Keep.drew w3)
  have hszd : b1 + 1 ≤ w3.drew.heap.size := by show b1 + 1 ≤ w3.heap.size; omega
  generalize w3.drew = Wd at hc hbd hKd hvd hszd ⊢
  refine DL_v rfl (fun _ hS => x_loadS (cs := [.slice cav f.vals.length ccv, .slice cab f.blks.length ccb]) rfl (tab_agg rfl) (fun j u hj => by
    rcases j with _ | _ | j
    · simp at hj; subst hj; exact hS.get (.head _)
    · simp at hj; subst hj; exact hS.get (.tail _ (.head _))
    · simp at hj)) ?_
  refine DL_wc rfl (x_call Try.func12 rfl rfl rfl rfl) (Good_ret hvd) ?_
  rintro _ w4 ⟨gb, rfl, hgood, hbl4⟩
  have hK4 := Keep.of_below hbl4 (Nat.le_refl _)
  have hsz4 := hbl4.size
  have hc4 := hK4.cells hc
  refine ⟨.inr hc4, ?_⟩
  have hb4 : Below b1 w w4 := hbd.trans (hbl4.mono (by omega))
  cases gb with
  | false =>
    refine DL_v rfl (fun _ _ => x_not rfl) ?_
    refine DL_v rfl (fun _ _ => x_move) ?_
    refine DL_gn rfl rfl ?_
    refine DL_gn rfl rfl ?_
    refine DL_gn rfl rfl ?_
    refine DL_v rfl (fun _ _ => x_pick_t rfl) ?_
    refine DL_v rfl (fun _ _ => x_move) ?_
    refine DL_gn rfl rfl ?_
    refine DL_gn rfl rfl ?_
    refine DL_gn rfl rfl ?_
    refine DL_gwn rfl rfl (.inr hc4) ?_
    refine DL_gwn rfl rfl (.inr hc4) ?_
    refine DL_gwn rfl rfl (.inr hc4) ?_
    refine DL_v rfl (fun _ _ => x_pick_t rfl) ?_
    refine DL_v rfl (fun _ _ => x_assign) ?_
    refine DL_nil ?_
    refine thenQ_normal ?_
    refine EC_ret ?_
    exact post_tmp rfl rfl rfl ⟨rfl, hb4⟩
  | true =>
  refine DL_v rfl (fun _ _ => x_not rfl) ?_
  refine DL_v rfl (fun _ _ => x_move) ?_
  refine DL_gy rfl rfl (fun _ _ => x_move) ?_
  refine DL_gy rfl rfl (fun _ _ => x_len rfl (tab_sl rfl)) ?_
  refine DL_gy rfl rfl (fun _ _ => x_gtr rfl rfl) ?_
  refine DL_v rfl (fun _ _ => x_pick_f rfl) ?_
  refine DL_v rfl (fun _ _ => x_move) ?_
  by_cases h8 : (8 : Int) < (ins.length : Int)
  · rw [decide_eq_true h8]
    refine DL_gn rfl rfl ?_
    refine DL_gn rfl rfl ?_
    refine DL_gn rfl rfl ?_
    refine DL_gwn rfl rfl (.inr hc4) ?_
    refine DL_gwn rfl rfl (.inr hc4) ?_
    refine DL_gwn rfl rfl (.inr hc4) ?_
    refine DL_v rfl (fun _ _ => x_pick_t rfl) ?_
    refine DL_v rfl (fun _ _ => x_assign) ?_
    refine DL_nil ?_
    refine thenQ_normal ?_
    refine EC_ret ?_
    exact post_tmp rfl rfl rfl ⟨rfl, hb4⟩
  rw [decide_eq_false h8]
  have hgd := hgood.1 rfl
  refine DL_gy rfl rfl (fun _ hS => x_loadS (cs := [.slice cav f.vals.length ccv, .slice cab f.blks.length ccb]) rfl (tab_agg rfl) (fun j u hj => by
    rcases j with _ | _ | j
    · simp at hj; subst hj; exact hS.get (.head _)
    · simp at hj; subst hj; exact hS.get (.tail _ (.head _))
    · simp at hj)) ?_
  refine DL_gy rfl rfl (fun _ hS => x_loadS (cs := [.slice av f.vals.length cv, .slice ab f.blks.length cb]) rfl (tab_agg rfl) (fun j u hj => by
    rcases j with _ | _ | j
    · simp at hj; subst hj; exact hS.get (.tail _ (.tail _ (.head _)))
    · simp at hj; subst hj; exact hS.get (.tail _ (.tail _ (.tail _ (.head _))))
    · simp at hj)) ?_
  refine DL_gy rfl rfl (fun _ _ => x_move) ?_
  refine DL_gwc rfl rfl (x_call Try.func14 rfl rfl rfl rfl) (implPhi_ret ((hx0.keep hKd).keep hK4) hgd.wf (ginv_pinv (truthN f 48) (toG f)) ⟨hgd.good, rfl, rfl, rfl⟩ fun _ h => h.good.gok) ?_
  rintro vg w5 ⟨⟨g', hof, hvg⟩, hbl5⟩
  have hK5 := Keep.of_below hbl5 (Nat.le_refl _)
  have hsz5 := hbl5.size
  have hc5 := hK5.cells hc4
  refine ⟨.inr hc5, ?_⟩
  obtain ⟨hgp, hl1, hl2, hrun⟩ := runs_phi hgd ins hof
  refine DL_gwc rfl rfl (x_call Try.func13 rfl rfl rfl rfl) (laws_conv_ret hvg (by omega) (by omega)) ?_
  rintro vh w6 ⟨hvh, hbl6⟩
  have hK6 := Keep.of_below hbl6 (Nat.le_refl _)
  have hsz6 := hbl6.size
  have hc6 := hK6.cells hc5
  refine ⟨.inr hc6, ?_⟩
  refine DL_gwc rfl rfl (x_call Try.func15 rfl rfl rfl rfl) (means_ret (((hvd.keep hK4).keep hK5).keep hK6) hvh ((((hin0.keep hKd).keep hK4).keep hK5).keep hK6) hgd hgp hl1 hl2 hrun) ?_
  rintro _ w7 ⟨rfl, hbl7⟩
  refine ⟨.inr ((Keep.of_below hbl7 (Nat.le_refl _)).cells hc6), ?_⟩
  refine DL_v rfl (fun _ _ => x_pick_f rfl) ?_
  refine DL_v rfl (fun _ _ => x_assign) ?_
  refine DL_nil ?_
  refine thenQ_normal ?_
  refine EC_ret ?_
  exact post_tmp rfl rfl rfl ⟨rfl, ((hb4.trans (hbl5.mono (by omega))).trans (hbl6.mono (by omega))).trans (hbl7.mono (by omega))⟩
theorem FnCopyRuns_ret {w : World} {x vi : Value} {f : Fn} {ins : List Int} (hx : FnV w x f) (hin : IntsV w vi ins) :
    Ret Try.prog 7 #[x, vi] w fun v w' => v = .bool true ∧ Below w.heap.size w w' := by
  obtain ⟨xv, xb, rfl, hvals, hblks⟩ := hx
  refine ret_of_EC Try.func7 rfl rfl ?_
  have hx0 : FnV w (.agg #[xv, xb]) f := ⟨xv, xb, rfl, hvals, hblks⟩
  have hin0 := hin
  obtain ⟨ia, ic, rfl, hil⟩ := hin
  obtain ⟨ab, cb, rfl, hbl⟩ := hblks
  obtain ⟨av, cv, rfl, hvl⟩ := hvals
  obtain ⟨B, hBd⟩ : ∃ B, B = w.heap.size := ⟨_, rfl⟩
  refine EC_seq ?_
  refine EC_region ?_
  refine EL_v (x_box (v := .agg #[.slice av f.vals.length cv, .slice ab f.blks.length cb]) rfl) rfl ?_
  change EL _ _ _ _ _ _ (w.alloc (.cells #[.slice av f.vals.length cv, .slice ab f.blks.length cb] 25))
  have hN1 := heap_alloc_new w (.cells #[.slice av f.vals.length cv, .slice ab f.blks.length cb] 25)
  have hO1 : ∀ zz, zz < w.heap.size → (w.alloc (.cells #[.slice av f.vals.length cv, .slice ab f.blks.length cb] 25)).heap[zz]? = w.heap[zz]? := fun _ hi => Below.heap_alloc _ _ _ hi
  have hZ1 := size_alloc w (.cells #[.slice av f.vals.length cv, .slice ab f.blks.length cb] 25)
  have hB1 := (Below.refl B w).alloc (by omega) (.cells #[.slice av f.vals.length cv, .slice ab f.blks.length cb] 25)
  have hK1 := Keep.alloc w (.cells #[.slice av f.vals.length cv, .slice ab f.blks.length cb] 25)
  generalize w.alloc (.cells #[.slice av f.vals.length cv, .slice ab f.blks.length cb] 25) = wa at hN1 hO1 hZ1 hB1 hK1 ⊢
  refine EL_v x_assign rfl ?_
  refine EL_nil ?_
  refine thenQ_normal ?_
  obtain ⟨b1, hb1⟩ : ∃ b1, b1 = w.heap.size := ⟨_, rfl⟩
  rw [← hb1] at hN1 ⊢
  have hbw : Below b1 w wa := by rw [hb1, ← hBd]; exact hB1
  refine EC_seq ?_
  refine EC_seq ?_
  refine EC_region ?_
  refine EL_v (x_loadS (cs := [.slice av f.vals.length cv, .slice ab f.blks.length cb]) rfl (tab_agg rfl) (cellsAt_block hN1)) rfl ?_
  refine EL_c (x_call Try.func11 rfl rfl rfl rfl) rfl (fits1_ret (hx0.keep hK1)) ?_
  rintro _ w1 ⟨sb, rfl, hfit, hbs⟩
  refine EL_v (x_not rfl) rfl ?_
  have hb1w : Below b1 w w1 := hbw.trans (hbs.mono (by omega))
  have hsz1 := hbs.size
  cases sb with
  | false =>
    refine EL_v x_move rfl ?_
    refine EL_no rfl rfl ?_
    refine EL_no rfl rfl ?_
    refine EL_no rfl rfl ?_
    refine EL_v (x_pick_t rfl) rfl ?_
    refine EL_nil ?_
    refine thenQ_normal ?_
    refine EC_yes rfl rfl ?_
    refine EC_seq ?_
    refine EC_region ?_
    refine EL_v x_assign rfl ?_
    refine EL_nil ?_
    refine thenQ_normal ?_
    refine EC_ret ?_
    refine thenQ_ret ?_
    exact post_tmp rfl rfl rfl ⟨rfl, hb1w⟩
  | true =>
  refine EL_v x_move rfl ?_
  refine EL_yes rfl rfl x_move rfl ?_
  refine EL_yes rfl rfl (x_len rfl (tab_sl rfl)) rfl ?_
  refine EL_yes rfl rfl (x_gtr rfl rfl) rfl ?_
  refine EL_v (x_pick_f rfl) rfl ?_
  refine EL_nil ?_
  refine thenQ_normal ?_
  refine EC_if rfl rfl (fun hlong => ?_) (fun hshort => ?_)
  · refine EC_seq ?_
    refine EC_region ?_
    refine EL_v x_assign rfl ?_
    refine EL_nil ?_
    refine thenQ_normal ?_
    refine EC_ret ?_
    refine thenQ_ret ?_
    exact post_tmp rfl rfl rfl ⟨rfl, hb1w⟩
  refine EC_skip ?_
  refine thenQ_normal ?_
  obtain ⟨hf1, hf2⟩ := hfit rfl
  have hbx1 : w1.heap[b1]? = some (.cells #[.slice av f.vals.length cv, .slice ab f.blks.length cb] 25 (0, 0)) := (hbs.block b1 (by omega)).trans hN1
  have hKe1 : Keep w w1 := hK1.trans (Keep.of_below hbs (Nat.le_refl _))
  refine EC_seq ?_
  refine EC_region ?_
  refine EL_v (x_loadS (cs := [.slice av f.vals.length cv, .slice ab f.blks.length cb]) rfl (tab_agg rfl) (cellsAt_block hbx1)) rfl ?_
  refine EL_c (x_call Try.func13 rfl rfl rfl rfl) rfl (laws_conv_ret (hx0.keep hKe1) hf1 hf2) ?_
  rintro vc w2 ⟨hvc, hbl2⟩
  have hsz2 := hbl2.size
  have hvc0 := hvc
  obtain ⟨cxv, cxb, rfl, cvals, cblks⟩ := hvc
  obtain ⟨cab, ccb, rfl, _⟩ := cblks
  obtain ⟨cav, ccv, rfl, _⟩ := cvals
  refine EL_v (x_alloc zero_fn_s) rfl ?_
  refine EL_s (x_storeNew rfl rfl (tab_sizeN rfl) rfl rfl) rfl ?_
  refine EL_nil ?_
  refine thenQ_normal ?_
  have hBle : B ≤ w2.heap.size := by omega
  change EC _ _ _ _ _ (w2.alloc (.cells #[.slice cav f.vals.length ccv, .slice cab f.blks.length ccb] 31))
  have hN3 := heap_alloc_new w2 (.cells #[.slice cav f.vals.length ccv, .slice cab f.blks.length ccb] 31)
  have hO3 : ∀ zz, zz < w2.heap.size → (w2.alloc (.cells #[.slice cav f.vals.length ccv, .slice cab f.blks.length ccb] 31)).heap[zz]? = w2.heap[zz]? := fun _ hi => Below.heap_alloc _ _ _ hi
  have hZ3 := size_alloc w2 (.cells #[.slice cav f.vals.length ccv, .slice cab f.blks.length ccb] 31)
  have hB3 := (Below.refl B w2).alloc (by omega) (.cells #[.slice cav f.vals.length ccv, .slice cab f.blks.length ccb] 31)
  have hK3 := Keep.alloc w2 (.cells #[.slice cav f.vals.length ccv, .slice cab f.blks.length ccb] 31)
  generalize w2.alloc (.cells #[.slice cav f.vals.length ccv, .slice cab f.blks.length ccb] 31) = w3 at hN3 hO3 hZ3 hB3 hK3 ⊢
  obtain ⟨b5, hb5⟩ : ∃ b5, b5 = w2.heap.size := ⟨_, rfl⟩
  rw [← hb5] at hN3 ⊢
  have hb3w : Below b1 w w3 := (hb1w.trans (hbl2.mono (by omega))).trans ⟨hB3.os, hB3.tape, hB3.output, hB3.size, fun j hj => hO3 j (by omega)⟩
  have hKe3 : Keep w w3 := (hKe1.trans (Keep.of_below hbl2 (Nat.le_refl _))).trans hK3
  have hvc3 := hvc0.keep hK3
  have hbx3 : w3.heap[b1]? = some (.cells #[.slice av f.vals.length cv, .slice ab f.blks.length cb] 25 (0, 0)) := (hO3 b1 (by omega)).trans ((hbl2.block b1 (by omega)).trans hbx1)
  refine EC_seq ?_
  have hc : Cells [(⟨b5, 0 + 0, none⟩, .slice cav f.vals.length ccv), (⟨b5, 0 + 1, none⟩, .slice cab f.blks.length ccb), (⟨b1, 0 + 0, none⟩, .slice av f.vals.length cv), (⟨b1, 0 + 1, none⟩, .slice ab f.blks.length cb)] w3.drew :=
    (Keep.drew w3).cells (.cons (cell_block hN3 rfl) (.cons (cell_block hN3 rfl) (.cons (cell_block hbx3 rfl) (.cons (cell_block hbx3 rfl) (.nil _)))))
  refine EC_draw mixed (Cells [(⟨b5, 0 + 0, none⟩, .slice cav f.vals.length ccv), (⟨b5, 0 + 1, none⟩, .slice cab f.blks.length ccb), (⟨b1, 0 + 0, none⟩, .slice av f.vals.length cv), (⟨b1, 0 + 1, none⟩, .slice ab f.blks.length cb)]) [(0, false), (1, true), (2, false), (3, false), (4, false), (5, false), (6, false), (7, false), (8, false), (9, false), (10, false), (13, false), (11, true), (12, true), (14, true), (15, false), (16, false)] (by kernel_rfl) hc ?_
  have hbd : Below b1 w w3.drew := hb3w.drew
  have hKd : Keep w w3.drew := hKe3.trans (Keep.drew w3)
  have hvd := hvc3.keep (Keep.drew w3)
  have hszd : b1 + 1 ≤ w3.drew.heap.size := by show b1 + 1 ≤ w3.heap.size; omega
  generalize w3.drew = Wd at hc hbd hKd hvd hszd ⊢
  refine DL_v rfl (fun _ hS => x_loadS (cs := [.slice cav f.vals.length ccv, .slice cab f.blks.length ccb]) rfl (tab_agg rfl) (fun j u hj => by
    rcases j with _ | _ | j
    · simp at hj; subst hj; exact hS.get (.head _)
    · simp at hj; subst hj; exact hS.get (.tail _ (.head _))
    · simp at hj)) ?_
  refine DL_wc rfl (x_call Try.func12 rfl rfl rfl rfl) (Good_ret hvd) ?_
  rintro _ w4 ⟨gb, rfl, hgood, hbl4⟩
  have hK4 := Keep.of_below hbl4 (Nat.le_refl _)
  have hsz4 := hbl4.size
  have hc4 := hK4.cells hc
  refine ⟨.inr hc4, ?_⟩
  have hb4 : Below b1 w w4 := hbd.trans (hbl4.mono (by omega))
  cases gb with
  | false =>
    refine DL_v rfl (fun _ _ => x_not rfl) ?_
    refine DL_v rfl (fun _ _ => x_move) ?_
    refine DL_gn rfl rfl ?_
    refine DL_gn rfl rfl ?_
    refine DL_gn rfl rfl ?_
    refine DL_v rfl (fun _ _ => x_pick_t rfl) ?_
    refine DL_v rfl (fun _ _ => x_move) ?_
    refine DL_gn rfl rfl ?_
    refine DL_gn rfl rfl ?_
    refine DL_gn rfl rfl ?_
    refine DL_gwn rfl rfl (.inr hc4) ?_
    refine DL_gwn rfl rfl (.inr hc4) ?_
    refine DL_gwn rfl rfl (.inr hc4) ?_
    refine DL_v rfl (fun _ _ => x_pick_t rfl) ?_
    refine DL_v rfl (fun _ _ => x_assign) ?_
    refine DL_nil ?_
    refine thenQ_normal ?_
    refine EC_ret ?_
    exact post_tmp rfl rfl rfl ⟨rfl, hb4⟩
  | true =>
  refine DL_v rfl (fun _ _ => x_not rfl) ?_
  refine DL_v rfl (fun _ _ => x_move) ?_
  refine DL_gy rfl rfl (fun _ _ => x_move) ?_
  refine DL_gy rfl rfl (fun _ _ => x_len rfl (tab_sl rfl)) ?_
  refine DL_gy rfl rfl (fun _ _ => x_gtr rfl rfl) ?_
  refine DL_v rfl (fun _ _ => x_pick_f rfl) ?_
  refine DL_v rfl (fun _ _ => x_move) ?_
  by_cases h8 : (8 : Int) < (ins.length : Int)
  · rw [decide_eq_true h8]
    refine DL_gn rfl rfl ?_
    refine DL_gn rfl rfl ?_
    refine DL_gn rfl rfl ?_
    refine DL_gwn rfl rfl (.inr hc4) ?_
    refine DL_gwn rfl rfl (.inr hc4) ?_
    refine DL_gwn rfl rfl (.inr hc4) ?_
    refine DL_v rfl (fun _ _ => x_pick_t rfl) ?_
    refine DL_v rfl (fun _ _ => x_assign) ?_
    refine DL_nil ?_
    refine thenQ_normal ?_
    refine EC_ret ?_
    exact post_tmp rfl rfl rfl ⟨rfl, hb4⟩
  rw [decide_eq_false h8]
  have hgd := hgood.1 rfl
  refine DL_gy rfl rfl (fun _ hS => x_loadS (cs := [.slice cav f.vals.length ccv, .slice cab f.blks.length ccb]) rfl (tab_agg rfl) (fun j u hj => by
    rcases j with _ | _ | j
    · simp at hj; subst hj; exact hS.get (.head _)
    · simp at hj; subst hj; exact hS.get (.tail _ (.head _))
    · simp at hj)) ?_
  refine DL_gy rfl rfl (fun _ hS => x_loadS (cs := [.slice av f.vals.length cv, .slice ab f.blks.length cb]) rfl (tab_agg rfl) (fun j u hj => by
    rcases j with _ | _ | j
    · simp at hj; subst hj; exact hS.get (.tail _ (.tail _ (.head _)))
    · simp at hj; subst hj; exact hS.get (.tail _ (.tail _ (.tail _ (.head _))))
    · simp at hj)) ?_
  refine DL_gy rfl rfl (fun _ _ => x_move) ?_
  refine DL_gwc rfl rfl (x_call Try.func16 rfl rfl rfl rfl) (implCopy_ret ((hx0.keep hKd).keep hK4) hgd.wf (ginv_pinv (truthN f 48) (toG f)) ⟨hgd.good, rfl, rfl, rfl⟩ fun _ h => h.good.gok) ?_
  rintro vg w5 ⟨⟨g', hof, hvg⟩, hbl5⟩
  have hK5 := Keep.of_below hbl5 (Nat.le_refl _)
  have hsz5 := hbl5.size
  have hc5 := hK5.cells hc4
  refine ⟨.inr hc5, ?_⟩
  obtain ⟨hgp, hl1, hl2, hrun⟩ := runs_copy hgd ins hof
  refine DL_gwc rfl rfl (x_call Try.func13 rfl rfl rfl rfl) (laws_conv_ret hvg (by omega) (by omega)) ?_
  rintro vh w6 ⟨hvh, hbl6⟩
  have hK6 := Keep.of_below hbl6 (Nat.le_refl _)
  have hsz6 := hbl6.size
  have hc6 := hK6.cells hc5
  refine ⟨.inr hc6, ?_⟩
  refine DL_gwc rfl rfl (x_call Try.func15 rfl rfl rfl rfl) (means_ret (((hvd.keep hK4).keep hK5).keep hK6) hvh ((((hin0.keep hKd).keep hK4).keep hK5).keep hK6) hgd hgp hl1 hl2 hrun) ?_
  rintro _ w7 ⟨rfl, hbl7⟩
  refine ⟨.inr ((Keep.of_below hbl7 (Nat.le_refl _)).cells hc6), ?_⟩
  refine DL_v rfl (fun _ _ => x_pick_f rfl) ?_
  refine DL_v rfl (fun _ _ => x_assign) ?_
  refine DL_nil ?_
  refine thenQ_normal ?_
  refine EC_ret ?_
  exact post_tmp rfl rfl rfl ⟨rfl, ((hb4.trans (hbl5.mono (by omega))).trans (hbl6.mono (by omega))).trans (hbl7.mono (by omega))⟩
end Go.Proofs.Yteepnepebilckaa
