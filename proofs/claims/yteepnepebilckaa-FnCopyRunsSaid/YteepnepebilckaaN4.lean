/- Same, means. -/
import Derived.Test.YteepnepebilckaaN3
namespace Go.Proofs.Yteepnepebilckaa
open Go Go.Eng Go.RowKit

section
variable {P : Program} {w : World} {ρ : Operand → Value} {d : Option Tmp} {ty : TypeId} {pos : String} {af : Array Edge} {g : Option (Nat × Bool)}
theorem x_extract0 {x : Operand} {a b : Value} (hx : ρ x = .tuple #[a, b]) : (execOp ρ ⟨d, .extract x 0, ty, pos, af, g⟩).run P w = .ok (.value a) w := by
  have key : (Instr.extract (.tuple #[a, b]) 0).run P w = .ok a w := rfl
  simp [execOp, hx, key]
theorem x_extract1 {x : Operand} {a b : Value} (hx : ρ x = .tuple #[a, b]) : (execOp ρ ⟨d, .extract x 1, ty, pos, af, g⟩).run P w = .ok (.value b) w := by
  have key : (Instr.extract (.tuple #[a, b]) 1).run P w = .ok b w := rfl
  simp [execOp, hx, key]
end
set_option maxHeartbeats 4000000
attribute [local irreducible] EC EL DL Ret thenQ blockQ loopQ bodyQ onlyN execOp Sem.run World.cell? World.frozen? World.setCell World.alloc

/-- Same. -/
theorem Same_ret {w : World} {x y vi : Value} {f h : Fn} {ins : List Int} (hx : FnV w x f) (hy : FnV w y h) (hin : IntsV w vi ins) (hg : GoodP f) (hh : GoodP h)
    (heq : runG (toG f) (doI ins) 300 0 0 (fun _ => 0) = runG (toG h) (doI ins) 300 0 0 (fun _ => 0)) :
    Ret Try.prog 28 #[x, y, vi] w fun v w' => v = .bool true ∧ Below w.heap.size w w' := by
  obtain ⟨xv, xb, rfl, hvals, hblks⟩ := hx
  obtain ⟨yv, yb, rfl, yvals, yblks⟩ := hy
  refine ret_of_EC Try.func28 rfl rfl ?_
  have hx0 : FnV w (.agg #[xv, xb]) f := ⟨xv, xb, rfl, hvals, hblks⟩
  have hy0 : FnV w (.agg #[yv, yb]) h := ⟨yv, yb, rfl, yvals, yblks⟩
  obtain ⟨ab, cb, rfl, hbl⟩ := hblks
  obtain ⟨av, cv, rfl, hvl⟩ := hvals
  obtain ⟨yab, ycb, rfl, ybl⟩ := yblks
  obtain ⟨yav, ycv, rfl, yvl⟩ := yvals
  obtain ⟨B, hBd⟩ : ∃ B, B = w.heap.size := ⟨_, rfl⟩
  refine EC_seq ?_
  refine EC_region ?_
  refine EL_v (x_box (v := .agg #[.slice av f.vals.length cv, .slice ab f.blks.length cb]) rfl) rfl ?_
  change EL _ _ _ _ _ _ (w.alloc (.cells #[.slice av f.vals.length cv, .slice ab f.blks.length cb] 31))
  have hN1 := heap_alloc_new w (.cells #[.slice av f.vals.length cv, .slice ab f.blks.length cb] 31)
  have hO1 : ∀ zz, zz < w.heap.size → (w.alloc (.cells #[.slice av f.vals.length cv, .slice ab f.blks.length cb] 31)).heap[zz]? = w.heap[zz]? := fun _ hi => Below.heap_alloc _ _ _ hi
  have hZ1 := size_alloc w (.cells #[.slice av f.vals.length cv, .slice ab f.blks.length cb] 31)
  have hB1 := (Below.refl B w).alloc (by omega) (.cells #[.slice av f.vals.length cv, .slice ab f.blks.length cb] 31)
  have hK1 := Keep.alloc w (.cells #[.slice av f.vals.length cv, .slice ab f.blks.length cb] 31)
  generalize w.alloc (.cells #[.slice av f.vals.length cv, .slice ab f.blks.length cb] 31) = wa at hN1 hO1 hZ1 hB1 hK1 ⊢
  refine EL_v (x_box (v := .agg #[.slice yav h.vals.length ycv, .slice yab h.blks.length ycb]) rfl) rfl ?_
  change EL _ _ _ _ _ _ (wa.alloc (.cells #[.slice yav h.vals.length ycv, .slice yab h.blks.length ycb] 31))
  have hN2 := heap_alloc_new wa (.cells #[.slice yav h.vals.length ycv, .slice yab h.blks.length ycb] 31)
  have hO2 : ∀ zz, zz < wa.heap.size → (wa.alloc (.cells #[.slice yav h.vals.length ycv, .slice yab h.blks.length ycb] 31)).heap[zz]? = wa.heap[zz]? := fun _ hi => Below.heap_alloc _ _ _ hi
  have hZ2 := size_alloc wa (.cells #[.slice yav h.vals.length ycv, .slice yab h.blks.length ycb] 31)
  have hB2 := (Below.refl B wa).alloc (by omega) (.cells #[.slice yav h.vals.length ycv, .slice yab h.blks.length ycb] 31)
  have hK2 := Keep.alloc wa (.cells #[.slice yav h.vals.length ycv, .slice yab h.blks.length ycb] 31)
  generalize wa.alloc (.cells #[.slice yav h.vals.length ycv, .slice yab h.blks.length ycb] 31) = wb at hN2 hO2 hZ2 hB2 hK2 ⊢
  refine EL_v x_assign rfl ?_
  refine EL_nil ?_
  refine thenQ_normal ?_
  have hN1' : wb.heap[w.heap.size]? = some (.cells #[.slice av f.vals.length cv, .slice ab f.blks.length cb] 31 (0, 0)) := (hO2 _ (by omega)).trans hN1
  have hbwb : Below B w wb := hB1.trans hB2
  have hKb : Keep w wb := hK1.trans hK2
  refine EC_seq ?_
  refine EC_region ?_
  refine EL_v (x_loadS (cs := [.slice av f.vals.length cv, .slice ab f.blks.length cb]) rfl (tab_agg rfl) (cellsAt_block hN1')) rfl ?_
  refine EL_v x_move rfl ?_
  refine EL_c (x_call Try.func38 rfl rfl rfl rfl) rfl (Run_ret (hx0.keep hKb) (hin.keep hKb) hg) ?_
  rintro _ w1 ⟨wv1, rfl, hw1, hl1, hb1⟩
  refine EL_v x_move rfl ?_
  refine EL_v (x_extract0 rfl) rfl ?_
  refine EL_v (x_extract1 rfl) rfl ?_
  refine EL_v x_assign rfl ?_
  refine EL_v x_assign rfl ?_
  refine EL_nil ?_
  refine thenQ_normal ?_
  have hN2' : w1.heap[wa.heap.size]? = some (.cells #[.slice yav h.vals.length ycv, .slice yab h.blks.length ycb] 31 (0, 0)) := (hb1.block _ (by omega)).trans hN2
  have hKb1 : Keep wb w1 := Keep.of_below hb1 (Nat.le_refl _)
  refine EC_seq ?_
  refine EC_region ?_
  refine EL_v (x_loadS (cs := [.slice yav h.vals.length ycv, .slice yab h.blks.length ycb]) rfl (tab_agg rfl) (cellsAt_block hN2')) rfl ?_
  refine EL_v x_move rfl ?_
  refine EL_c (x_call Try.func38 rfl rfl rfl rfl) rfl (Run_ret ((hy0.keep hKb).keep hKb1) ((hin.keep hKb).keep hKb1) hh) ?_
  rintro _ w2 ⟨wv2, rfl, hw2, hl2, hb2⟩
  refine EL_v x_move rfl ?_
  refine EL_v (x_extract0 rfl) rfl ?_
  refine EL_v (x_extract1 rfl) rfl ?_
  refine EL_v x_assign rfl ?_
  refine EL_v x_assign rfl ?_
  refine EL_nil ?_
  refine thenQ_normal ?_
  have hw1' := hw1.keep (Keep.of_below hb2 (Nat.le_refl _))
  rw [← heq] at hw2 ⊢
  clear hw1
  generalize runG (toG f) (doI ins) 300 0 0 (fun _ => 0) = tot at hw1' hw2 hl1 ⊢
  obtain ⟨way, rv⟩ := tot
  obtain ⟨a1, c1, rfl, hi1⟩ := hw1'
  obtain ⟨a2, c2, rfl, hi2⟩ := hw2
  have hnl : (nats way).length = way.length := List.length_map ..
  have hl1 : way.length ≤ 300 := hl1
  have hbF : Below w.heap.size w w2 := by
    rw [← hBd]
    have := hb1.size
    exact (hbwb.trans (hb1.mono (by omega))).trans (hb2.mono (by omega))
  dsimp only at hi1 hi2 ⊢
  refine EC_seq ?_
  refine EC_seq ?_
  refine EC_region ?_
  refine EL_v x_move rfl ?_
  refine EL_v (x_len rfl (tab_sl rfl)) rfl ?_
  refine EL_v x_move rfl ?_
  refine EL_v (x_len rfl (tab_sl rfl)) rfl ?_
  refine EL_v (x_neq rfl rfl) rfl ?_
  refine EL_v x_move rfl ?_
  rw [decide_eq_false (fun hh => hh rfl : ¬ (((nats way).length : Int) ≠ ((nats way).length : Int)))]
  refine EL_yes rfl rfl x_move rfl ?_
  refine EL_yes rfl rfl x_move rfl ?_
  refine EL_yes rfl rfl (x_neq rfl rfl) rfl ?_
  refine EL_v (x_pick_f rfl) rfl ?_
  refine EL_nil ?_
  refine thenQ_normal ?_
  refine EC_no (congrArg Value.bool (decide_eq_false (fun hh => hh rfl : ¬ (rv ≠ rv)))) rfl ?_
  refine EC_skip ?_
  refine thenQ_normal ?_
  refine EC_seq ?_
  refine EC_seq ?_
  refine EC_region ?_
  refine EL_v x_move rfl ?_
  refine EL_v (x_len rfl (tab_sl rfl)) rfl ?_
  refine EL_v x_move rfl ?_
  refine EL_nil ?_
  refine thenQ_normal ?_
  refine EC_block ?_
  refine EC_loop (fun n e wr => Below w2.heap.size w2 wr ∧ ∃ k, k ≤ way.length ∧ At e [(7, .slice a1 (nats way).length c1), (9, .slice a2 (nats way).length c2), (35, .int .i64 ((nats way).length : Int)), (36, .int .i64 (k : Int))] ∧ n = way.length - k) way.length
    ⟨Below.refl _ _, 0, Nat.zero_le _, at_of rfl ⟨rfl, rfl, rfl, rfl, trivial⟩, rfl⟩ ?_
  rintro n e wr ⟨hbr, k, hk, ⟨t, rfl⟩, rfl⟩
  refine EC_seq ?_
  refine EC_region ?_
  refine EL_v (x_lss rfl rfl) rfl ?_
  refine EL_nil ?_
  refine thenQ_normal ?_
  refine EC_seq ?_
  refine EC_if rfl rfl (fun hlt => ?_) (fun hge => ?_)
  · have hlt : k < (nats way).length := by omega
    obtain ⟨ba, oa, rfl, hca⟩ := hi1.get hlt
    obtain ⟨bc, oc, rfl, hcc⟩ := hi2.get hlt
    have hca := Keep.of_below hbr (Nat.le_refl _) _ _ hca
    have hcc := Keep.of_below hbr (Nat.le_refl _) _ _ hcc
    refine EC_skip ?_
    refine thenQ_normal ?_
    refine EC_seq ?_
    refine EC_block ?_
    refine EC_seq ?_
    refine EC_region ?_
    refine EL_v x_move rfl ?_
    refine EL_v x_assign rfl ?_
    refine EL_nil ?_
    refine thenQ_normal ?_
    refine EC_seq ?_
    have hc : Cells [(⟨ba, oa + k, none⟩, .int .i64 ((nats way).getD k 0)), (⟨bc, oc + k, none⟩, .int .i64 ((nats way).getD k 0))] wr.drew := (Keep.drew wr).cells (.cons hca (.cons hcc (.nil _)))
    refine EC_draw mixed (Cells [(⟨ba, oa + k, none⟩, .int .i64 ((nats way).getD k 0)), (⟨bc, oc + k, none⟩, .int .i64 ((nats way).getD k 0))]) [(0, false), (1, false), (2, false), (3, false), (4, false), (5, false), (6, false), (7, false), (8, false)] (by kernel_rfl) hc ?_
    have hbY := hbr.drew
    generalize wr.drew = Y at hc hbY ⊢
    refine DL_v rfl (fun _ _ => x_move) ?_
    refine DL_v rfl (fun _ _ => x_move) ?_
    refine DL_v rfl (fun _ _ => x_index1 rfl rfl (tab_sl rfl) (by omega)) ?_
    refine DL_v rfl (fun _ hS => x_load rfl (tab_one rfl) (hS.get (by first | exact .head _ | exact .tail _ (.head _) | exact .tail _ (.tail _ (.head _)) | exact .tail _ (.tail _ (.tail _ (.head _))) | exact .tail _ (.tail _ (.tail _ (.tail _ (.head _)))) | exact .tail _ (.tail _ (.tail _ (.tail _ (.tail _ (.head _))))) | exact .tail _ (.tail _ (.tail _ (.tail _ (.tail _ (.tail _ (.head _)))))) | exact .tail _ (.tail _ (.tail _ (.tail _ (.tail _ (.tail _ (.tail _ (.head _)))))))))) ?_
    refine DL_v rfl (fun _ _ => x_move) ?_
    refine DL_v rfl (fun _ _ => x_move) ?_
    refine DL_v rfl (fun _ _ => x_index1 rfl rfl (tab_sl rfl) (by omega)) ?_
    refine DL_v rfl (fun _ hS => x_load rfl (tab_one rfl) (hS.get (by first | exact .head _ | exact .tail _ (.head _) | exact .tail _ (.tail _ (.head _)) | exact .tail _ (.tail _ (.tail _ (.head _))) | exact .tail _ (.tail _ (.tail _ (.tail _ (.head _)))) | exact .tail _ (.tail _ (.tail _ (.tail _ (.tail _ (.head _))))) | exact .tail _ (.tail _ (.tail _ (.tail _ (.tail _ (.tail _ (.head _)))))) | exact .tail _ (.tail _ (.tail _ (.tail _ (.tail _ (.tail _ (.tail _ (.head _)))))))))) ?_
    refine DL_v rfl (fun _ _ => x_neq rfl rfl) ?_
    refine DL_nil ?_
    refine thenQ_normal ?_
    refine EC_no (congrArg Value.bool (decide_eq_false (fun hh => hh rfl : ¬ ((nats way).getD k 0 ≠ (nats way).getD k 0)))) rfl ?_
    refine EC_skip ?_
    refine blockQ_normal ?_
    refine thenQ_normal ?_
    refine EC_region ?_
    refine EL_v (x_inc rfl rfl (by omega)) rfl ?_
    refine EL_v x_move rfl ?_
    refine EL_nil ?_
    exact loopQ_next (way.length - (k + 1)) (by omega) ⟨hbY, k + 1, by omega, at_of rfl ⟨rfl, rfl, rfl, rfl, trivial⟩, rfl⟩
  · refine EC_exit ?_
    refine thenQ_exit ?_
    refine loopQ_exit ?_
    refine blockQ_hit ?_
    refine thenQ_normal ?_
    refine EC_seq ?_
    refine EC_region ?_
    refine EL_v x_assign rfl ?_
    refine EL_nil ?_
    refine thenQ_normal ?_
    refine EC_ret ?_
    exact post_tmp rfl rfl rfl ⟨rfl, hbF.trans (hbr.mono hbF.size)⟩

/-- means. -/
theorem means_ret {w : World} {x y vi : Value} {f h : Fn} {ins : List Int} (hx : FnV w x f) (hy : FnV w y h) (hin : IntsV w vi ins) (hg : GoodP f) (hh : GoodP h) (hl1 : h.vals.length = f.vals.length) (hl2 : h.blks.length = f.blks.length)
    (heq : runG (toG f) (doI ins) 300 0 0 (fun _ => 0) = runG (toG h) (doI ins) 300 0 0 (fun _ => 0)) :
    Ret Try.prog 15 #[x, y, vi] w fun v w' => v = .bool true ∧ Below w.heap.size w w' := by
  obtain ⟨xv, xb, rfl, hvals, hblks⟩ := hx
  obtain ⟨yv, yb, rfl, yvals, yblks⟩ := hy
  refine ret_of_EC Try.func15 rfl rfl ?_
  have hx0 : FnV w (.agg #[xv, xb]) f := ⟨xv, xb, rfl, hvals, hblks⟩
  have hy0 : FnV w (.agg #[yv, yb]) h := ⟨yv, yb, rfl, yvals, yblks⟩
  obtain ⟨ab, cb, rfl, hbl⟩ := hblks
  obtain ⟨av, cv, rfl, hvl⟩ := hvals
  obtain ⟨yab, ycb, rfl, ybl⟩ := yblks
  obtain ⟨yav, ycv, rfl, yvl⟩ := yvals
  obtain ⟨B, hBd⟩ : ∃ B, B = w.heap.size := ⟨_, rfl⟩
  refine EC_seq ?_
  refine EC_region ?_
  refine EL_v (x_box (v := .agg #[.slice av f.vals.length cv, .slice ab f.blks.length cb]) rfl) rfl ?_
  change EL _ _ _ _ _ _ (w.alloc (.cells #[.slice av f.vals.length cv, .slice ab f.blks.length cb] 31))
  have hN1 := heap_alloc_new w (.cells #[.slice av f.vals.length cv, .slice ab f.blks.length cb] 31)
  have hO1 : ∀ zz, zz < w.heap.size → (w.alloc (.cells #[.slice av f.vals.length cv, .slice ab f.blks.length cb] 31)).heap[zz]? = w.heap[zz]? := fun _ hi => Below.heap_alloc _ _ _ hi
  have hZ1 := size_alloc w (.cells #[.slice av f.vals.length cv, .slice ab f.blks.length cb] 31)
  have hB1 := (Below.refl B w).alloc (by omega) (.cells #[.slice av f.vals.length cv, .slice ab f.blks.length cb] 31)
  have hK1 := Keep.alloc w (.cells #[.slice av f.vals.length cv, .slice ab f.blks.length cb] 31)
  generalize w.alloc (.cells #[.slice av f.vals.length cv, .slice ab f.blks.length cb] 31) = wa at hN1 hO1 hZ1 hB1 hK1 ⊢
  refine EL_v (x_box (v := .agg #[.slice yav h.vals.length ycv, .slice yab h.blks.length ycb]) rfl) rfl ?_
  change EL _ _ _ _ _ _ (wa.alloc (.cells #[.slice yav h.vals.length ycv, .slice yab h.blks.length ycb] 31))
  have hN2 := heap_alloc_new wa (.cells #[.slice yav h.vals.length ycv, .slice yab h.blks.length ycb] 31)
  have hO2 : ∀ zz, zz < wa.heap.size → (wa.alloc (.cells #[.slice yav h.vals.length ycv, .slice yab h.blks.length ycb] 31)).heap[zz]? = wa.heap[zz]? := fun _ hi => Below.heap_alloc _ _ _ hi
  have hZ2 := size_alloc wa (.cells #[.slice yav h.vals.length ycv, .slice yab h.blks.length ycb] 31)
  have hB2 := (Below.refl B wa).alloc (by omega) (.cells #[.slice yav h.vals.length ycv, .slice yab h.blks.length ycb] 31)
  have hK2 := Keep.alloc wa (.cells #[.slice yav h.vals.length ycv, .slice yab h.blks.length ycb] 31)
  generalize wa.alloc (.cells #[.slice yav h.vals.length ycv, .slice yab h.blks.length ycb] 31) = wb at hN2 hO2 hZ2 hB2 hK2 ⊢
  refine EL_v x_assign rfl ?_
  refine EL_nil ?_
  refine thenQ_normal ?_
  have hN1' : wb.heap[w.heap.size]? = some (.cells #[.slice av f.vals.length cv, .slice ab f.blks.length cb] 31 (0, 0)) := (hO2 _ (by omega)).trans hN1
  have hbwb : Below B w wb := hB1.trans hB2
  have hKb : Keep w wb := hK1.trans hK2
  refine EC_seq ?_
  refine EC_region ?_
  refine EL_v (x_loadS (cs := [.slice yav h.vals.length ycv, .slice yab h.blks.length ycb]) rfl (tab_agg rfl) (cellsAt_block hN2)) rfl ?_
  refine EL_c (x_call Try.func12 rfl rfl rfl rfl) rfl (Good_ret (hy0.keep hKb)) ?_
  rintro _ w1 ⟨gb, rfl, hgb, hb1⟩
  have hgt : gb = true := hgb.2 hh
  subst hgt
  have hN1w : w1.heap[w.heap.size]? = some (.cells #[.slice av f.vals.length cv, .slice ab f.blks.length cb] 31 (0, 0)) := (hb1.block _ (by omega)).trans hN1'
  have hN2w : w1.heap[wa.heap.size]? = some (.cells #[.slice yav h.vals.length ycv, .slice yab h.blks.length ycb] 31 (0, 0)) := (hb1.block _ (by omega)).trans hN2
  have f0 : w1.cell? ⟨w.heap.size, 0 + 0, none⟩ = some (.slice av f.vals.length cv) := cell_block hN1w rfl
  have f1 : w1.cell? ⟨w.heap.size, 0 + 1, none⟩ = some (.slice ab f.blks.length cb) := cell_block hN1w rfl
  have g0 : w1.cell? ⟨wa.heap.size, 0 + 0, none⟩ = some (.slice yav h.vals.length ycv) := cell_block hN2w rfl
  have g1 : w1.cell? ⟨wa.heap.size, 0 + 1, none⟩ = some (.slice yab h.blks.length ycb) := cell_block hN2w rfl
  have hKw1 : Keep w w1 := hKb.trans (Keep.of_below hb1 (Nat.le_refl _))
  refine EL_v x_move rfl ?_
  refine EL_yes rfl rfl (x_field rfl (tab_fld rfl)) rfl ?_
  refine EL_yes rfl rfl (x_load rfl (tab_one rfl) (by with_reducible assumption)) rfl ?_
  refine EL_yes rfl rfl (x_len rfl (tab_sl rfl)) rfl ?_
  refine EL_yes rfl rfl (x_field rfl (tab_fld rfl)) rfl ?_
  refine EL_yes rfl rfl (x_load rfl (tab_one rfl) (by with_reducible assumption)) rfl ?_
  refine EL_yes rfl rfl (x_len rfl (tab_sl rfl)) rfl ?_
  refine EL_yes rfl rfl (x_eql rfl rfl) rfl ?_
  refine EL_v (x_pick_t rfl) rfl ?_
  refine EL_v x_move rfl ?_
  rw [decide_eq_true (by rw [hl1] : (h.vals.length : Int) = (f.vals.length : Int))]
  refine EL_yes rfl rfl (x_field rfl (tab_fld rfl)) rfl ?_
  refine EL_yes rfl rfl (x_load rfl (tab_one rfl) (by with_reducible assumption)) rfl ?_
  refine EL_yes rfl rfl (x_len rfl (tab_sl rfl)) rfl ?_
  refine EL_yes rfl rfl (x_field rfl (tab_fld rfl)) rfl ?_
  refine EL_yes rfl rfl (x_load rfl (tab_one rfl) (by with_reducible assumption)) rfl ?_
  refine EL_yes rfl rfl (x_len rfl (tab_sl rfl)) rfl ?_
  refine EL_yes rfl rfl (x_eql rfl rfl) rfl ?_
  refine EL_v (x_pick_t rfl) rfl ?_
  refine EL_v x_move rfl ?_
  rw [decide_eq_true (by rw [hl2] : (h.blks.length : Int) = (f.blks.length : Int))]
  refine EL_yes rfl rfl (x_loadS (cs := [.slice av f.vals.length cv, .slice ab f.blks.length cb]) rfl (tab_agg rfl) (cellsAt_block hN1w)) rfl ?_
  refine EL_yes rfl rfl (x_loadS (cs := [.slice yav h.vals.length ycv, .slice yab h.blks.length ycb]) rfl (tab_agg rfl) (cellsAt_block hN2w)) rfl ?_
  refine EL_yes rfl rfl x_move rfl ?_
  refine EL_yes_c rfl rfl (x_call Try.func28 rfl rfl rfl rfl) rfl (Same_ret (hx0.keep hKw1) (hy0.keep hKw1) (hin.keep hKw1) hg hh heq) ?_
  rintro _ w2 ⟨rfl, hb2⟩
  refine EL_v (x_pick_t rfl) rfl ?_
  refine EL_v x_assign rfl ?_
  refine EL_nil ?_
  refine thenQ_normal ?_
  refine EC_ret ?_
  have := hb1.size
  exact post_tmp rfl rfl rfl ⟨rfl, by rw [← hBd]; exact (hbwb.trans (hb1.mono (by omega))).trans (hb2.mono (by omega))⟩
end Go.Proofs.Yteepnepebilckaa
