/- truth, Truth. -/
import Derived.Test.YteepnepebilckaaV2
namespace Go.Proofs.Yteepnepebilckaa
open Go Go.Eng Go.RowKit
set_option maxHeartbeats 4000000
attribute [local irreducible] EC EL DL Ret thenQ blockQ loopQ bodyQ onlyN execOp Sem.run World.cell? World.frozen? World.setCell World.alloc

def isT (o : Int) : Prop := o = 10 ∨ o = 11 ∨ o = 12
instance (o : Int) : Decidable (isT o) := inferInstanceAs (Decidable (_ ∨ _ ∨ _))
def truthN (f : Fn) : Nat → Nat → Bool
  | 0, v => decide (isT (f.v v).op)
  | n + 1, v => if isT (f.v v).op then true else if (f.v v).op = 14 then truthN f n ((f.v v).args.getD 0 0).toNat else false

/-- What a look at truths asks: a copy has a source. -/
def TOk (f : Fn) : Prop := ∀ v, v < f.vals.length → (f.v v).op = 14 → 0 < (f.v v).args.length ∧ 0 ≤ (f.v v).args.getD 0 0 ∧ (f.v v).args.getD 0 0 < f.vals.length

theorem truthN_t {f : Fn} {n v : Nat} (h : isT (f.v v).op) : truthN f n v = true := by
  cases n with
  | zero => exact decide_eq_true h
  | succ n => exact if_pos h
theorem truthN_z {f : Fn} {v : Nat} (h : ¬ isT (f.v v).op) : truthN f 0 v = false := decide_eq_false h
theorem truthN_o {f : Fn} {n v : Nat} (h : ¬ isT (f.v v).op) (h2 : (f.v v).op ≠ 14) : truthN f n v = false := by
  cases n with
  | zero => exact decide_eq_false h
  | succ n => exact (if_neg h).trans (if_neg h2)
theorem truthN_c {f : Fn} {n v : Nat} (h : ¬ isT (f.v v).op) (h2 : (f.v v).op = 14) : truthN f (n + 1) v = truthN f n ((f.v v).args.getD 0 0).toNat := (if_neg h).trans (if_pos h2)

theorem truth_one {f : Fn} (tok : TOk f) (n : Nat)
    (ih : ∀ m, n = m + 1 → ∀ (w : World) (x : Value), FnV w x f → ∀ v, v < f.vals.length → Ret Try.prog 34 #[x, .int .i64 (v : Int), .int .i64 (m : Int)] w fun r w' => r = .bool (truthN f m v) ∧ Below w.heap.size w w')
    (w : World) (x : Value) (hx : FnV w x f) (v : Nat) (hv : v < f.vals.length) (hn : n ≤ 48) :
    Ret Try.prog 34 #[x, .int .i64 (v : Int), .int .i64 (n : Int)] w fun r w' => r = .bool (truthN f n v) ∧ Below w.heap.size w w' := by
  obtain ⟨xv, xb, rfl, hvals, hblks⟩ := hx
  refine ret_of_EC Try.func34 rfl rfl ?_
  have hx0 : FnV w (.agg #[xv, xb]) f := ⟨xv, xb, rfl, hvals, hblks⟩
  obtain ⟨av, cv, rfl, hvl⟩ := hvals
  obtain ⟨B, hBd⟩ : ∃ B, B = w.heap.size := ⟨_, rfl⟩
  refine EC_seq ?_
  refine EC_region ?_
  refine EL_v (x_box (v := .agg #[.slice av f.vals.length cv, xb]) rfl) rfl ?_
  change EL _ _ _ _ _ _ (w.alloc (.cells #[.slice av f.vals.length cv, xb] 31))
  have hN1 := heap_alloc_new w (.cells #[.slice av f.vals.length cv, xb] 31)
  have hO1 : ∀ zz, zz < w.heap.size → (w.alloc (.cells #[.slice av f.vals.length cv, xb] 31)).heap[zz]? = w.heap[zz]? := fun _ hi => Below.heap_alloc _ _ _ hi
  have hZ1 := size_alloc w (.cells #[.slice av f.vals.length cv, xb] 31)
  have hB1 := (Below.refl B w).alloc (by omega) (.cells #[.slice av f.vals.length cv, xb] 31)
  have hK1 := Keep.alloc w (.cells #[.slice av f.vals.length cv, xb] 31)
  generalize w.alloc (.cells #[.slice av f.vals.length cv, xb] 31) = wa at hN1 hO1 hZ1 hB1 hK1 ⊢
  obtain ⟨b1, hb1⟩ : ∃ b1, b1 = w.heap.size := ⟨_, rfl⟩
  rw [← hb1] at hN1 ⊢
  refine EL_v x_assign rfl ?_
  refine EL_nil ?_
  refine thenQ_normal ?_
  obtain ⟨bb, ob, rfl, hq⟩ := hvl.resolve_left (fun e => by rw [e] at hv; simp at hv)
  obtain ⟨s0, hcells0, ⟨sa, sc, rfl, hints⟩⟩ := hq v hv
  have hcells := hcells0.keep hK1
  have g1 : wa.cell? ⟨b1, 0 + 0, none⟩ = some (.slice (some ⟨bb, ob, none⟩) f.vals.length cv) := cell_block hN1 rfl
  have hBle : B ≤ wa.heap.size := by omega
  refine EC_seq ?_
  refine EC_region ?_
  refine EL_v (x_field rfl (tab_fld rfl)) rfl ?_
  refine EL_v (x_load rfl (tab_one rfl) (by with_reducible assumption)) rfl ?_
  refine EL_v x_move rfl ?_
  refine EL_v (x_indexN (n := 4) rfl rfl (tab_sl rfl) hv) rfl ?_
  refine EL_v (x_loadS rfl (tab_agg rfl) hcells) rfl ?_
  refine EL_v (x_alloc zero_sv) rfl ?_
  refine EL_s (x_storeNew rfl rfl (tab_sizeN rfl) rfl rfl) rfl ?_
  refine EL_nil ?_
  refine thenQ_normal ?_
  have ho : (f.vals.getD v default) = f.v v := rfl
  simp only [ho] at hcells hints ⊢
  change EC _ _ _ _ _ (wa.alloc (.cells #[.int .i64 (f.v v).op, .int .i64 (f.v v).blk, .slice sa (f.v v).args.length sc, .int .i64 (f.v v).aux] 50))
  have hN2 := heap_alloc_new wa (.cells #[.int .i64 (f.v v).op, .int .i64 (f.v v).blk, .slice sa (f.v v).args.length sc, .int .i64 (f.v v).aux] 50)
  have hO2 : ∀ zz, zz < wa.heap.size → (wa.alloc (.cells #[.int .i64 (f.v v).op, .int .i64 (f.v v).blk, .slice sa (f.v v).args.length sc, .int .i64 (f.v v).aux] 50)).heap[zz]? = wa.heap[zz]? := fun _ hi => Below.heap_alloc _ _ _ hi
  have hZ2 := size_alloc wa (.cells #[.int .i64 (f.v v).op, .int .i64 (f.v v).blk, .slice sa (f.v v).args.length sc, .int .i64 (f.v v).aux] 50)
  have hB2 := (Below.refl B wa).alloc (by omega) (.cells #[.int .i64 (f.v v).op, .int .i64 (f.v v).blk, .slice sa (f.v v).args.length sc, .int .i64 (f.v v).aux] 50)
  have hK2 := Keep.alloc wa (.cells #[.int .i64 (f.v v).op, .int .i64 (f.v v).blk, .slice sa (f.v v).args.length sc, .int .i64 (f.v v).aux] 50)
  generalize wa.alloc (.cells #[.int .i64 (f.v v).op, .int .i64 (f.v v).blk, .slice sa (f.v v).args.length sc, .int .i64 (f.v v).aux] 50) = wb at hN2 hO2 hZ2 hB2 hK2 ⊢
  obtain ⟨V, hV⟩ : ∃ V, V = wa.heap.size := ⟨_, rfl⟩
  rw [← hV] at hN2 ⊢
  have hb2 : Below B w wb := hB1.trans hB2
  have f0 : wb.cell? ⟨V, 0 + 0, none⟩ = some (.int .i64 (f.v v).op) := cell_block hN2 rfl
  refine EC_seq ?_
  refine EC_block ?_
  refine EC_seq ?_
  refine EC_region ?_
  refine EL_v (x_field rfl (tab_fld rfl)) rfl ?_
  refine EL_v (x_load rfl (tab_one rfl) (by with_reducible assumption)) rfl ?_
  refine EL_v (x_eql rfl rfl) rfl ?_
  refine EL_v x_move rfl ?_
  have hTrue : ∀ (h : isT (f.v v).op), true = truthN f n v := fun h => (truthN_t h).symm
  by_cases h10 : (f.v v).op = 10
  · rw [decide_eq_true h10]
    refine EL_no rfl rfl ?_
    refine EL_no rfl rfl ?_
    refine EL_no rfl rfl ?_
    refine EL_v (x_pick_t rfl) rfl ?_
    refine EL_v x_move rfl ?_
    refine EL_no rfl rfl ?_
    refine EL_no rfl rfl ?_
    refine EL_no rfl rfl ?_
    refine EL_v (x_pick_t rfl) rfl ?_
    refine EL_v x_assign rfl ?_
    refine EL_nil ?_
    refine thenQ_normal ?_
    refine EC_yes rfl rfl ?_
    refine EC_seq ?_
    refine EC_region ?_
    refine EL_v x_assign rfl ?_
    refine EL_nil ?_
    refine thenQ_normal ?_
    refine EC_ret ?_
    refine blockQ_ret ?_
    refine thenQ_ret ?_
    exact post_tmp rfl rfl rfl ⟨congrArg Value.bool (hTrue (.inl h10)), by rw [hb1, ← hBd]; exact hb2⟩
  rw [decide_eq_false h10]
  refine EL_yes rfl rfl (x_field rfl (tab_fld rfl)) rfl ?_
  refine EL_yes rfl rfl (x_load rfl (tab_one rfl) (by with_reducible assumption)) rfl ?_
  refine EL_yes rfl rfl (x_eql rfl rfl) rfl ?_
  refine EL_v (x_pick_f rfl) rfl ?_
  refine EL_v x_move rfl ?_
  by_cases h11 : (f.v v).op = 11
  · rw [decide_eq_true h11]
    refine EL_no rfl rfl ?_
    refine EL_no rfl rfl ?_
    refine EL_no rfl rfl ?_
    refine EL_v (x_pick_t rfl) rfl ?_
    refine EL_v x_assign rfl ?_
    refine EL_nil ?_
    refine thenQ_normal ?_
    refine EC_yes rfl rfl ?_
    refine EC_seq ?_
    refine EC_region ?_
    refine EL_v x_assign rfl ?_
    refine EL_nil ?_
    refine thenQ_normal ?_
    refine EC_ret ?_
    refine blockQ_ret ?_
    refine thenQ_ret ?_
    exact post_tmp rfl rfl rfl ⟨congrArg Value.bool (hTrue (.inr (.inl h11))), by rw [hb1, ← hBd]; exact hb2⟩
  rw [decide_eq_false h11]
  refine EL_yes rfl rfl (x_field rfl (tab_fld rfl)) rfl ?_
  refine EL_yes rfl rfl (x_load rfl (tab_one rfl) (by with_reducible assumption)) rfl ?_
  refine EL_yes rfl rfl (x_eql rfl rfl) rfl ?_
  refine EL_v (x_pick_f rfl) rfl ?_
  refine EL_v x_assign rfl ?_
  refine EL_nil ?_
  refine thenQ_normal ?_
  by_cases h12 : (f.v v).op = 12
  · rw [decide_eq_true h12]
    refine EC_yes rfl rfl ?_
    refine EC_seq ?_
    refine EC_region ?_
    refine EL_v x_assign rfl ?_
    refine EL_nil ?_
    refine thenQ_normal ?_
    refine EC_ret ?_
    refine blockQ_ret ?_
    refine thenQ_ret ?_
    exact post_tmp rfl rfl rfl ⟨congrArg Value.bool (hTrue (.inr (.inr h12))), by rw [hb1, ← hBd]; exact hb2⟩
  rw [decide_eq_false h12]
  have hno : ¬ isT (f.v v).op := fun h => by
    rcases h with h | h | h
    · exact h10 h
    · exact h11 h
    · exact h12 h
  refine EC_no rfl rfl ?_
  refine EC_seq ?_
  refine EC_region ?_
  refine EL_v (x_field rfl (tab_fld rfl)) rfl ?_
  refine EL_v (x_load rfl (tab_one rfl) (by with_reducible assumption)) rfl ?_
  refine EL_v (x_eql rfl rfl) rfl ?_
  refine EL_v x_move rfl ?_
  by_cases h14 : (f.v v).op = 14
  · rw [decide_eq_true h14]
    refine EL_yes rfl rfl x_move rfl ?_
    refine EL_yes rfl rfl (x_gtr rfl rfl) rfl ?_
    refine EL_v (x_pick_t rfl) rfl ?_
    refine EL_v x_assign rfl ?_
    refine EL_nil ?_
    refine thenQ_normal ?_
    cases n with
    | zero =>
      rw [decide_eq_false (show ¬ (0 : Int) < ((0 : Nat) : Int) by decide)]
      refine EC_no rfl rfl ?_
      refine EC_skip ?_
      refine blockQ_normal ?_
      refine thenQ_normal ?_
      refine EC_seq ?_
      refine EC_region ?_
      refine EL_v x_assign rfl ?_
      refine EL_nil ?_
      refine thenQ_normal ?_
      refine EC_ret ?_
      exact post_tmp rfl rfl rfl ⟨congrArg Value.bool (truthN_z hno).symm, by rw [hb1, ← hBd]; exact hb2⟩
    | succ m =>
      rw [decide_eq_true (show (0 : Int) < ((m + 1 : Nat) : Int) by omega)]
      refine EC_yes rfl rfl ?_
      obtain ⟨ha0, ha1, ha2⟩ := tok v hv h14
      obtain ⟨bi, oi, rfl, hai⟩ := hints.get ha0
      have hai2 := (Keep.of_below hb2 (by omega)) _ _ hai
      have f1 : wb.drew.cell? ⟨b1, 0 + 0, none⟩ = some (.slice (some ⟨bb, ob, none⟩) f.vals.length cv) := cell_block (w := wb.drew) ((hO2 _ (by omega)).trans hN1) rfl
      have f2 : wb.drew.cell? ⟨b1, 0 + 1, none⟩ = some xb := cell_block (w := wb.drew) ((hO2 _ (by omega)).trans hN1) rfl
      have f3 : wb.drew.cell? ⟨V, 0 + 2, none⟩ = some (.slice (some ⟨bi, oi, none⟩) (f.v v).args.length sc) := cell_block (w := wb.drew) hN2 rfl
      have f4 : wb.drew.cell? ⟨bi, oi + 0, none⟩ = some (.int .i64 ((f.v v).args.getD 0 0)) := Keep.drew wb _ _ hai2
      have hc0 : Cells [(⟨b1, 0 + 0, none⟩, .slice (some ⟨bb, ob, none⟩) f.vals.length cv), (⟨b1, 0 + 1, none⟩, xb), (⟨V, 0 + 2, none⟩, .slice (some ⟨bi, oi, none⟩) (f.v v).args.length sc), (⟨bi, oi + 0, none⟩, .int .i64 ((f.v v).args.getD 0 0))] wb.drew := .cons f1 (.cons f2 (.cons f3 (.cons f4 (.nil _))))
      refine EC_seq ?_
      refine EC_draw mixed (Cells [(⟨b1, 0 + 0, none⟩, .slice (some ⟨bb, ob, none⟩) f.vals.length cv), (⟨b1, 0 + 1, none⟩, xb), (⟨V, 0 + 2, none⟩, .slice (some ⟨bi, oi, none⟩) (f.v v).args.length sc), (⟨bi, oi + 0, none⟩, .int .i64 ((f.v v).args.getD 0 0))]) [(0, false), (1, false), (2, false), (3, false), (4, false), (5, false), (6, false), (7, true), (8, false)] (by kernel_rfl) hc0 ?_
      have hbd := hb2.drew
      have hszd : w.heap.size ≤ wb.drew.heap.size := hbd.size
      generalize wb.drew = Wd at hc0 hbd hszd ⊢
      refine DL_v rfl (fun _ hS => x_loadS (cs := [.slice (some ⟨bb, ob, none⟩) f.vals.length cv, xb]) rfl (tab_agg rfl) (fun j u hj => by
        rcases j with _ | _ | j
        · simp at hj; subst hj; exact hS.get (.head _)
        · simp at hj; subst hj; exact hS.get (.tail _ (.head _))
        · simp at hj)) ?_
      refine DL_v rfl (fun _ _ => x_field rfl (tab_fld rfl)) ?_
      refine DL_v rfl (fun _ hS => x_load rfl (tab_one rfl) (hS.get (by first | exact .head _ | exact .tail _ (.head _) | exact .tail _ (.tail _ (.head _)) | exact .tail _ (.tail _ (.tail _ (.head _))) | exact .tail _ (.tail _ (.tail _ (.tail _ (.head _)))) | exact .tail _ (.tail _ (.tail _ (.tail _ (.tail _ (.head _))))) | exact .tail _ (.tail _ (.tail _ (.tail _ (.tail _ (.tail _ (.head _)))))) | exact .tail _ (.tail _ (.tail _ (.tail _ (.tail _ (.tail _ (.tail _ (.head _)))))))))) ?_
      refine DL_v rfl (fun _ _ => x_index1 rfl rfl (tab_sl rfl) (by omega)) ?_
      refine DL_v rfl (fun _ hS => x_load rfl (tab_one rfl) (hS.get (by first | exact .head _ | exact .tail _ (.head _) | exact .tail _ (.tail _ (.head _)) | exact .tail _ (.tail _ (.tail _ (.head _))) | exact .tail _ (.tail _ (.tail _ (.tail _ (.head _)))) | exact .tail _ (.tail _ (.tail _ (.tail _ (.tail _ (.head _))))) | exact .tail _ (.tail _ (.tail _ (.tail _ (.tail _ (.tail _ (.head _)))))) | exact .tail _ (.tail _ (.tail _ (.tail _ (.tail _ (.tail _ (.tail _ (.head _)))))))))) ?_
      refine DL_v rfl (fun _ _ => x_move) ?_
      refine DL_v rfl (fun _ _ => x_sub (c := (m : Int)) rfl rfl (by rw [IntWalk.i64_in _ (by omega)]; omega)) ?_
      have hx1 : FnV Wd (.agg #[.slice (some ⟨bb, ob, none⟩) f.vals.length cv, xb]) f := hx0.keep (Keep.of_below hbd (by omega))
      have haz : (f.v v).args.getD 0 0 = ((((f.v v).args.getD 0 0).toNat : Nat) : Int) := by omega
      have hcall := ih m rfl Wd _ hx1 ((f.v v).args.getD 0 0).toNat (by omega)
      rw [← haz] at hcall
      refine DL_wc rfl (x_call Try.func34 rfl rfl rfl rfl) hcall ?_
      rintro r w2 ⟨rfl, hb3⟩
      refine ⟨.inr ((Keep.of_below hb3 (Nat.le_refl _)).cells hc0), ?_⟩
      refine DL_v rfl (fun _ _ => x_assign) ?_
      refine DL_nil ?_
      refine thenQ_normal ?_
      refine EC_ret ?_
      refine blockQ_ret ?_
      refine thenQ_ret ?_
      exact post_tmp rfl rfl rfl ⟨congrArg Value.bool (truthN_c hno h14).symm, by rw [hb1, ← hBd]; exact hbd.trans (hb3.mono (by omega))⟩
  · rw [decide_eq_false h14]
    refine EL_no rfl rfl ?_
    refine EL_no rfl rfl ?_
    refine EL_v (x_pick_f rfl) rfl ?_
    refine EL_v x_assign rfl ?_
    refine EL_nil ?_
    refine thenQ_normal ?_
    refine EC_no rfl rfl ?_
    refine EC_skip ?_
    refine blockQ_normal ?_
    refine thenQ_normal ?_
    refine EC_seq ?_
    refine EC_region ?_
    refine EL_v x_assign rfl ?_
    refine EL_nil ?_
    refine thenQ_normal ?_
    refine EC_ret ?_
    exact post_tmp rfl rfl rfl ⟨congrArg Value.bool (truthN_o hno h14).symm, by rw [hb1, ← hBd]; exact hb2⟩

theorem truth_ret {f : Fn} (tok : TOk f) : ∀ (n : Nat), n ≤ 48 → ∀ (w : World) (x : Value), FnV w x f → ∀ v, v < f.vals.length →
    Ret Try.prog 34 #[x, .int .i64 (v : Int), .int .i64 (n : Int)] w fun r w' => r = .bool (truthN f n v) ∧ Below w.heap.size w w'
  | 0, _, w, x, hx, v, hv => truth_one tok 0 (fun m h => by omega) w x hx v hv (by omega)
  | n + 1, hn, w, x, hx, v, hv => truth_one tok (n + 1) (fun m h => by
      have : m = n := by omega
      subst this
      exact truth_ret tok m (by omega)) w x hx v hv hn

/-- Truth. -/
theorem Truth_ret {f : Fn} (tok : TOk f) {w : World} {x : Value} (hx : FnV w x f) {v : Nat} (hv : v < f.vals.length) :
    Ret Try.prog 24 #[x, .int .i64 (v : Int)] w fun r w' => r = .bool (truthN f 48 v) ∧ Below w.heap.size w w' := by
  obtain ⟨xv, xb, rfl, hvals, hblks⟩ := hx
  refine ret_of_EC Try.func24 rfl rfl ?_
  have hx0 : FnV w (.agg #[xv, xb]) f := ⟨xv, xb, rfl, hvals, hblks⟩
  obtain ⟨B, hBd⟩ : ∃ B, B = w.heap.size := ⟨_, rfl⟩
  refine EC_seq ?_
  refine EC_region ?_
  refine EL_v (x_box (v := .agg #[xv, xb]) rfl) rfl ?_
  change EL _ _ _ _ _ _ (w.alloc (.cells #[xv, xb] 31))
  have hN1 := heap_alloc_new w (.cells #[xv, xb] 31)
  have hO1 : ∀ zz, zz < w.heap.size → (w.alloc (.cells #[xv, xb] 31)).heap[zz]? = w.heap[zz]? := fun _ hi => Below.heap_alloc _ _ _ hi
  have hZ1 := size_alloc w (.cells #[xv, xb] 31)
  have hB1 := (Below.refl B w).alloc (by omega) (.cells #[xv, xb] 31)
  have hK1 := Keep.alloc w (.cells #[xv, xb] 31)
  generalize w.alloc (.cells #[xv, xb] 31) = wa at hN1 hO1 hZ1 hB1 hK1 ⊢
  refine EL_v x_assign rfl ?_
  refine EL_nil ?_
  refine thenQ_normal ?_
  refine EC_seq ?_
  refine EC_region ?_
  refine EL_v (x_loadS (cs := [xv, xb]) rfl (tab_agg rfl) (cellsAt_block hN1)) rfl ?_
  refine EL_v x_move rfl ?_
  refine EL_c (x_call Try.func34 rfl rfl rfl rfl) rfl (truth_ret tok 48 (Nat.le_refl _) wa _ (hx0.keep hK1) v hv) ?_
  rintro r w2 ⟨rfl, hb2⟩
  refine EL_v x_assign rfl ?_
  refine EL_nil ?_
  refine thenQ_normal ?_
  refine EC_ret ?_
  exact post_tmp rfl rfl rfl ⟨rfl, by rw [← hBd]; exact hB1.trans (hb2.mono (by omega))⟩
end Go.Proofs.Yteepnepebilckaa
