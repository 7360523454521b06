/- Walks: nothing is too long. -/
import Derived.Test.YteepnepebilckaaW6
import Derived.Test.YteepnepebilckaaE6
namespace Go.Proofs.Yteepnepebilckaa
open Go Go.Eng Go.RowKit
set_option maxHeartbeats 4000000
attribute [local irreducible] EC EL DL Ret thenQ blockQ loopQ bodyQ onlyN execOp Sem.run World.cell? World.frozen? World.setCell World.alloc

theorem fits3_ret {w : World} {x y z : Int} {a : Option Addr} {n c : Nat} :
    Ret Try.prog 31 #[.agg #[.int .i64 x, .int .i64 y, .slice a n c, .int .i64 z]] w fun v w' => (∃ b, v = .bool b) ∧ Below w.heap.size w w' := by
  refine ret_of_EC Try.func31 rfl rfl ?_
  obtain ⟨B, hBd⟩ : ∃ B, B = w.heap.size := ⟨_, rfl⟩
  refine EC_seq ?_
  refine EC_region ?_
  refine EL_v (x_box (v := .agg #[.int .i64 x, .int .i64 y, .slice a n c, .int .i64 z]) rfl) rfl ?_
  change EL _ _ _ _ _ _ (w.alloc (.cells #[.int .i64 x, .int .i64 y, .slice a n c, .int .i64 z] 36))
  have hN1 := heap_alloc_new w (.cells #[.int .i64 x, .int .i64 y, .slice a n c, .int .i64 z] 36)
  have hO1 : ∀ zz, zz < w.heap.size → (w.alloc (.cells #[.int .i64 x, .int .i64 y, .slice a n c, .int .i64 z] 36)).heap[zz]? = w.heap[zz]? := fun _ hi => Below.heap_alloc _ _ _ hi
  have hZ1 := size_alloc w (.cells #[.int .i64 x, .int .i64 y, .slice a n c, .int .i64 z] 36)
  have hB1 := (Below.refl B w).alloc (by omega) (.cells #[.int .i64 x, .int .i64 y, .slice a n c, .int .i64 z] 36)
  have hK1 := Keep.alloc w (.cells #[.int .i64 x, .int .i64 y, .slice a n c, .int .i64 z] 36)
  generalize w.alloc (.cells #[.int .i64 x, .int .i64 y, .slice a n c, .int .i64 z] 36) = wa at hN1 hO1 hZ1 hB1 hK1 ⊢
  refine EL_v x_assign rfl ?_
  refine EL_nil ?_
  refine thenQ_normal ?_
  have g2 : wa.cell? ⟨w.heap.size, 0 + 2, none⟩ = some (.slice a n c) := cell_block hN1 rfl
  rw [← hBd] at g2 ⊢
  refine EC_seq ?_
  refine EC_seq ?_
  refine EC_region ?_
  refine EL_v (x_field rfl (tab_fld rfl)) rfl ?_
  refine EL_v (x_load rfl (tab_one rfl) (by with_reducible assumption)) rfl ?_
  refine EL_v (x_len rfl (tab_sl rfl)) rfl ?_
  refine EL_v (x_gtr rfl rfl) rfl ?_
  refine EL_nil ?_
  refine thenQ_normal ?_
  refine EC_if rfl rfl (fun h => ?_) (fun h => ?_)
  · refine EC_seq ?_
    refine EC_region ?_
    refine EL_v x_assign rfl ?_
    refine EL_nil ?_
    refine thenQ_normal ?_
    refine EC_ret ?_
    refine thenQ_ret ?_
    exact post_tmp rfl rfl rfl ⟨⟨_, rfl⟩, hB1⟩
  · refine EC_skip ?_
    refine thenQ_normal ?_
    refine EC_seq ?_
    refine EC_region ?_
    refine EL_v x_assign rfl ?_
    refine EL_nil ?_
    refine thenQ_normal ?_
    refine EC_ret ?_
    exact post_tmp rfl rfl rfl ⟨⟨_, rfl⟩, hB1⟩
theorem fits5_ret {w : World} {x y z : Int} {a : Option Addr} {n c : Nat} :
    Ret Try.prog 32 #[.agg #[.int .i64 x, .int .i64 y, .slice a n c, .int .i64 z]] w fun v w' => (∃ b, v = .bool b) ∧ Below w.heap.size w w' := by
  refine ret_of_EC Try.func32 rfl rfl ?_
  obtain ⟨B, hBd⟩ : ∃ B, B = w.heap.size := ⟨_, rfl⟩
  refine EC_seq ?_
  refine EC_region ?_
  refine EL_v (x_box (v := .agg #[.int .i64 x, .int .i64 y, .slice a n c, .int .i64 z]) rfl) rfl ?_
  change EL _ _ _ _ _ _ (w.alloc (.cells #[.int .i64 x, .int .i64 y, .slice a n c, .int .i64 z] 38))
  have hN1 := heap_alloc_new w (.cells #[.int .i64 x, .int .i64 y, .slice a n c, .int .i64 z] 38)
  have hO1 : ∀ zz, zz < w.heap.size → (w.alloc (.cells #[.int .i64 x, .int .i64 y, .slice a n c, .int .i64 z] 38)).heap[zz]? = w.heap[zz]? := fun _ hi => Below.heap_alloc _ _ _ hi
  have hZ1 := size_alloc w (.cells #[.int .i64 x, .int .i64 y, .slice a n c, .int .i64 z] 38)
  have hB1 := (Below.refl B w).alloc (by omega) (.cells #[.int .i64 x, .int .i64 y, .slice a n c, .int .i64 z] 38)
  have hK1 := Keep.alloc w (.cells #[.int .i64 x, .int .i64 y, .slice a n c, .int .i64 z] 38)
  generalize w.alloc (.cells #[.int .i64 x, .int .i64 y, .slice a n c, .int .i64 z] 38) = wa at hN1 hO1 hZ1 hB1 hK1 ⊢
  refine EL_v x_assign rfl ?_
  refine EL_nil ?_
  refine thenQ_normal ?_
  have g2 : wa.cell? ⟨w.heap.size, 0 + 2, none⟩ = some (.slice a n c) := cell_block hN1 rfl
  rw [← hBd] at g2 ⊢
  refine EC_seq ?_
  refine EC_seq ?_
  refine EC_region ?_
  refine EL_v (x_field rfl (tab_fld rfl)) rfl ?_
  refine EL_v (x_load rfl (tab_one rfl) (by with_reducible assumption)) rfl ?_
  refine EL_v (x_len rfl (tab_sl rfl)) rfl ?_
  refine EL_v (x_gtr rfl rfl) rfl ?_
  refine EL_nil ?_
  refine thenQ_normal ?_
  refine EC_if rfl rfl (fun h => ?_) (fun h => ?_)
  · refine EC_seq ?_
    refine EC_region ?_
    refine EL_v x_assign rfl ?_
    refine EL_nil ?_
    refine thenQ_normal ?_
    refine EC_ret ?_
    refine thenQ_ret ?_
    exact post_tmp rfl rfl rfl ⟨⟨_, rfl⟩, hB1⟩
  · refine EC_skip ?_
    refine thenQ_normal ?_
    refine EC_seq ?_
    refine EC_region ?_
    refine EL_v x_assign rfl ?_
    refine EL_nil ?_
    refine thenQ_normal ?_
    refine EC_ret ?_
    exact post_tmp rfl rfl rfl ⟨⟨_, rfl⟩, hB1⟩

theorem fits2_ret {w : World} {x : Value} {l : List Vl} (hx : ValsV w x l) :
    Ret Try.prog 18 #[x] w fun v w' => ∃ b, v = .bool b ∧ (b = true → l.length ≤ 2147483647) ∧ Below w.heap.size w w' := by
  obtain ⟨av, cv, rfl, hvl⟩ := hx
  refine ret_of_EC Try.func18 rfl rfl ?_
  obtain ⟨B, hBd⟩ : ∃ B, B = w.heap.size := ⟨_, rfl⟩
  refine EC_seq ?_
  refine EC_region ?_
  refine EL_v x_assign rfl ?_
  refine EL_nil ?_
  refine thenQ_normal ?_
  refine EC_seq ?_
  refine EC_seq ?_
  refine EC_region ?_
  refine EL_v x_move rfl ?_
  refine EL_v (x_len rfl (tab_sl rfl)) rfl ?_
  refine EL_v (x_gtr rfl rfl) rfl ?_
  refine EL_nil ?_
  refine thenQ_normal ?_
  refine EC_if rfl rfl (fun h => ?_) (fun h => ?_)
  · refine EC_seq ?_
    refine EC_region ?_
    refine EL_v x_assign rfl ?_
    refine EL_nil ?_
    refine thenQ_normal ?_
    refine EC_ret ?_
    refine thenQ_ret ?_
    exact post_tmp rfl rfl rfl ⟨false, rfl, fun h => (by cases h), Below.refl _ _⟩
  refine EC_skip ?_
  refine thenQ_normal ?_
  have hlen : l.length ≤ 2147483647 := by omega
  refine EC_seq ?_
  refine EC_seq ?_
  refine EC_region ?_
  refine EL_v x_move rfl ?_
  refine EL_v (x_len rfl (tab_sl rfl)) rfl ?_
  refine EL_v x_move rfl ?_
  refine EL_nil ?_
  refine thenQ_normal ?_
  refine EC_block ?_
  refine EC_loop (fun n e wr => ∃ k, k ≤ l.length ∧ At e [(8, .slice av l.length cv), (9, .int .i64 (l.length : Int)), (10, .int .i64 (k : Int))] ∧ Below B w wr ∧ n = l.length - k) l.length
    ⟨0, Nat.zero_le _, at_of rfl ⟨rfl, rfl, rfl, trivial⟩, Below.refl _ _, rfl⟩ ?_
  rintro n e wr ⟨k, hk, ⟨t, rfl⟩, hb, rfl⟩
  refine EC_seq ?_
  refine EC_region ?_
  refine EL_v (x_lss rfl rfl) rfl ?_
  refine EL_nil ?_
  refine thenQ_normal ?_
  refine EC_seq ?_
  refine EC_if rfl rfl (fun hlt => ?_) (fun hge => ?_)
  · have hlt : k < l.length := by omega
    obtain ⟨bb, ob, rfl, hq⟩ := hvl.resolve_left (fun e => by rw [e] at hlt; simp at hlt)
    obtain ⟨s0, hcells0, ⟨sa, sc, rfl, hints⟩⟩ := hq k hlt
    have hcells := hcells0.keep (Keep.of_below hb (by omega))
    have hszr := hb.size
    refine EC_skip ?_
    refine thenQ_normal ?_
    refine EC_seq ?_
    refine EC_block ?_
    refine EC_seq ?_
    refine EC_region ?_
    refine EL_v (x_indexN (n := 4) rfl rfl (tab_sl rfl) hlt) rfl ?_
    refine EL_v (x_loadS rfl (tab_agg rfl) hcells) rfl ?_
    refine EL_v (x_alloc zero_iv) rfl ?_
    refine EL_s (x_storeNew rfl rfl (tab_sizeN rfl) rfl rfl) rfl ?_
    refine EL_nil ?_
    refine thenQ_normal ?_
    have hBle : B ≤ wr.heap.size := by omega
    change EC _ _ _ _ _ (wr.alloc (.cells #[.int .i64 (l.getD k default).op, .int .i64 (l.getD k default).blk, .slice sa (l.getD k default).args.length sc, .int .i64 (l.getD k default).aux] 36))
    have hN3 := heap_alloc_new wr (.cells #[.int .i64 (l.getD k default).op, .int .i64 (l.getD k default).blk, .slice sa (l.getD k default).args.length sc, .int .i64 (l.getD k default).aux] 36)
    have hO3 : ∀ zz, zz < wr.heap.size → (wr.alloc (.cells #[.int .i64 (l.getD k default).op, .int .i64 (l.getD k default).blk, .slice sa (l.getD k default).args.length sc, .int .i64 (l.getD k default).aux] 36)).heap[zz]? = wr.heap[zz]? := fun _ hi => Below.heap_alloc _ _ _ hi
    have hZ3 := size_alloc wr (.cells #[.int .i64 (l.getD k default).op, .int .i64 (l.getD k default).blk, .slice sa (l.getD k default).args.length sc, .int .i64 (l.getD k default).aux] 36)
    have hB3 := (Below.refl B wr).alloc (by omega) (.cells #[.int .i64 (l.getD k default).op, .int .i64 (l.getD k default).blk, .slice sa (l.getD k default).args.length sc, .int .i64 (l.getD k default).aux] 36)
    have hK3 := Keep.alloc wr (.cells #[.int .i64 (l.getD k default).op, .int .i64 (l.getD k default).blk, .slice sa (l.getD k default).args.length sc, .int .i64 (l.getD k default).aux] 36)
    generalize wr.alloc (.cells #[.int .i64 (l.getD k default).op, .int .i64 (l.getD k default).blk, .slice sa (l.getD k default).args.length sc, .int .i64 (l.getD k default).aux] 36) = X at hN3 hO3 hZ3 hB3 hK3 ⊢
    obtain ⟨V, hV⟩ : ∃ V, V = wr.heap.size := ⟨_, rfl⟩
    rw [← hV] at hN3 ⊢
    have hbX : Below B w X := hb.trans hB3
    refine EC_seq ?_
    refine EC_region ?_
    refine EL_v (x_loadS (cs := [.int .i64 (l.getD k default).op, .int .i64 (l.getD k default).blk, .slice sa (l.getD k default).args.length sc, .int .i64 (l.getD k default).aux]) rfl (tab_agg rfl) (cellsAt_block hN3)) rfl ?_
    refine EL_c (x_call Try.func31 rfl rfl rfl rfl) rfl fits3_ret ?_
    rintro _ Y ⟨⟨b, rfl⟩, hbY⟩
    have hbY : Below B w Y := hbX.trans (hbY.mono (by omega))
    refine EL_v (x_not rfl) rfl ?_
    refine EL_nil ?_
    refine thenQ_normal ?_
    cases b with
    | false =>
      refine EC_yes rfl rfl ?_
      refine EC_seq ?_
      refine EC_region ?_
      refine EL_v x_assign rfl ?_
      refine EL_nil ?_
      refine thenQ_normal ?_
      refine EC_ret ?_
      refine blockQ_ret ?_
      refine thenQ_ret ?_
      refine loopQ_ret ?_
      refine blockQ_ret ?_
      refine thenQ_ret ?_
      exact post_tmp rfl rfl rfl ⟨false, rfl, fun h => (by cases h), by rw [← hBd]; exact hbY⟩
    | true =>
      refine EC_no rfl rfl ?_
      refine EC_skip ?_
      refine blockQ_normal ?_
      refine thenQ_normal ?_
      refine EC_region ?_
      refine EL_v (x_inc rfl rfl (by omega)) rfl ?_
      refine EL_v x_move rfl ?_
      refine EL_nil ?_
      exact loopQ_next (l.length - (k + 1)) (by omega) ⟨k + 1, by omega, at_of rfl ⟨rfl, rfl, rfl, trivial⟩, hbY, rfl⟩
  · have hk : k = l.length := by omega
    subst hk
    refine EC_exit ?_
    refine thenQ_exit ?_
    refine loopQ_exit ?_
    refine blockQ_hit ?_
    refine thenQ_normal ?_
    refine EC_seq ?_
    refine EC_region ?_
    refine EL_v x_assign rfl ?_
    refine EL_nil ?_
    refine thenQ_normal ?_
    refine EC_ret ?_
    exact post_tmp rfl rfl rfl ⟨true, rfl, fun _ => hlen, by rw [← hBd]; exact hb⟩
theorem fits4_ret {w : World} {x : Value} {l : List Bk} (hx : BlksV w x l) :
    Ret Try.prog 19 #[x] w fun v w' => ∃ b, v = .bool b ∧ (b = true → l.length ≤ 2147483647) ∧ Below w.heap.size w w' := by
  obtain ⟨av, cv, rfl, hvl⟩ := hx
  refine ret_of_EC Try.func19 rfl rfl ?_
  obtain ⟨B, hBd⟩ : ∃ B, B = w.heap.size := ⟨_, rfl⟩
  refine EC_seq ?_
  refine EC_region ?_
  refine EL_v x_assign rfl ?_
  refine EL_nil ?_
  refine thenQ_normal ?_
  refine EC_seq ?_
  refine EC_seq ?_
  refine EC_region ?_
  refine EL_v x_move rfl ?_
  refine EL_v (x_len rfl (tab_sl rfl)) rfl ?_
  refine EL_v (x_gtr rfl rfl) rfl ?_
  refine EL_nil ?_
  refine thenQ_normal ?_
  refine EC_if rfl rfl (fun h => ?_) (fun h => ?_)
  · refine EC_seq ?_
    refine EC_region ?_
    refine EL_v x_assign rfl ?_
    refine EL_nil ?_
    refine thenQ_normal ?_
    refine EC_ret ?_
    refine thenQ_ret ?_
    exact post_tmp rfl rfl rfl ⟨false, rfl, fun h => (by cases h), Below.refl _ _⟩
  refine EC_skip ?_
  refine thenQ_normal ?_
  have hlen : l.length ≤ 2147483647 := by omega
  refine EC_seq ?_
  refine EC_seq ?_
  refine EC_region ?_
  refine EL_v x_move rfl ?_
  refine EL_v (x_len rfl (tab_sl rfl)) rfl ?_
  refine EL_v x_move rfl ?_
  refine EL_nil ?_
  refine thenQ_normal ?_
  refine EC_block ?_
  refine EC_loop (fun n e wr => ∃ k, k ≤ l.length ∧ At e [(8, .slice av l.length cv), (9, .int .i64 (l.length : Int)), (10, .int .i64 (k : Int))] ∧ Below B w wr ∧ n = l.length - k) l.length
    ⟨0, Nat.zero_le _, at_of rfl ⟨rfl, rfl, rfl, trivial⟩, Below.refl _ _, rfl⟩ ?_
  rintro n e wr ⟨k, hk, ⟨t, rfl⟩, hb, rfl⟩
  refine EC_seq ?_
  refine EC_region ?_
  refine EL_v (x_lss rfl rfl) rfl ?_
  refine EL_nil ?_
  refine thenQ_normal ?_
  refine EC_seq ?_
  refine EC_if rfl rfl (fun hlt => ?_) (fun hge => ?_)
  · have hlt : k < l.length := by omega
    obtain ⟨bb, ob, rfl, hq⟩ := hvl.resolve_left (fun e => by rw [e] at hlt; simp at hlt)
    obtain ⟨s0, hcells0, ⟨sa, sc, rfl, hints⟩⟩ := hq k hlt
    have hcells := hcells0.keep (Keep.of_below hb (by omega))
    have hszr := hb.size
    refine EC_skip ?_
    refine thenQ_normal ?_
    refine EC_seq ?_
    refine EC_block ?_
    refine EC_seq ?_
    refine EC_region ?_
    refine EL_v (x_indexN (n := 4) rfl rfl (tab_sl rfl) hlt) rfl ?_
    refine EL_v (x_loadS rfl (tab_agg rfl) hcells) rfl ?_
    refine EL_v (x_alloc zero_ib) rfl ?_
    refine EL_s (x_storeNew rfl rfl (tab_sizeN rfl) rfl rfl) rfl ?_
    refine EL_nil ?_
    refine thenQ_normal ?_
    have hBle : B ≤ wr.heap.size := by omega
    change EC _ _ _ _ _ (wr.alloc (.cells #[.int .i64 (l.getD k default).kind, .int .i64 (l.getD k default).ctrl, .slice sa (l.getD k default).succs.length sc, .int .i64 (l.getD k default).likely] 38))
    have hN3 := heap_alloc_new wr (.cells #[.int .i64 (l.getD k default).kind, .int .i64 (l.getD k default).ctrl, .slice sa (l.getD k default).succs.length sc, .int .i64 (l.getD k default).likely] 38)
    have hO3 : ∀ zz, zz < wr.heap.size → (wr.alloc (.cells #[.int .i64 (l.getD k default).kind, .int .i64 (l.getD k default).ctrl, .slice sa (l.getD k default).succs.length sc, .int .i64 (l.getD k default).likely] 38)).heap[zz]? = wr.heap[zz]? := fun _ hi => Below.heap_alloc _ _ _ hi
    have hZ3 := size_alloc wr (.cells #[.int .i64 (l.getD k default).kind, .int .i64 (l.getD k default).ctrl, .slice sa (l.getD k default).succs.length sc, .int .i64 (l.getD k default).likely] 38)
    have hB3 := (Below.refl B wr).alloc (by omega) (.cells #[.int .i64 (l.getD k default).kind, .int .i64 (l.getD k default).ctrl, .slice sa (l.getD k default).succs.length sc, .int .i64 (l.getD k default).likely] 38)
    have hK3 := Keep.alloc wr (.cells #[.int .i64 (l.getD k default).kind, .int .i64 (l.getD k default).ctrl, .slice sa (l.getD k default).succs.length sc, .int .i64 (l.getD k default).likely] 38)
    generalize wr.alloc (.cells #[.int .i64 (l.getD k default).kind, .int .i64 (l.getD k default).ctrl, .slice sa (l.getD k default).succs.length sc, .int .i64 (l.getD k default).likely] 38) = X at hN3 hO3 hZ3 hB3 hK3 ⊢
    obtain ⟨V, hV⟩ : ∃ V, V = wr.heap.size := ⟨_, rfl⟩
    rw [← hV] at hN3 ⊢
    have hbX : Below B w X := hb.trans hB3
    refine EC_seq ?_
    refine EC_region ?_
    refine EL_v (x_loadS (cs := [.int .i64 (l.getD k default).kind, .int .i64 (l.getD k default).ctrl, .slice sa (l.getD k default).succs.length sc, .int .i64 (l.getD k default).likely]) rfl (tab_agg rfl) (cellsAt_block hN3)) rfl ?_
    refine EL_c (x_call Try.func32 rfl rfl rfl rfl) rfl fits5_ret ?_
    rintro _ Y ⟨⟨b, rfl⟩, hbY⟩
    have hbY : Below B w Y := hbX.trans (hbY.mono (by omega))
    refine EL_v (x_not rfl) rfl ?_
    refine EL_nil ?_
    refine thenQ_normal ?_
    cases b with
    | false =>
      refine EC_yes rfl rfl ?_
      refine EC_seq ?_
      refine EC_region ?_
      refine EL_v x_assign rfl ?_
      refine EL_nil ?_
      refine thenQ_normal ?_
      refine EC_ret ?_
      refine blockQ_ret ?_
      refine thenQ_ret ?_
      refine loopQ_ret ?_
      refine blockQ_ret ?_
      refine thenQ_ret ?_
      exact post_tmp rfl rfl rfl ⟨false, rfl, fun h => (by cases h), by rw [← hBd]; exact hbY⟩
    | true =>
      refine EC_no rfl rfl ?_
      refine EC_skip ?_
      refine blockQ_normal ?_
      refine thenQ_normal ?_
      refine EC_region ?_
      refine EL_v (x_inc rfl rfl (by omega)) rfl ?_
      refine EL_v x_move rfl ?_
      refine EL_nil ?_
      exact loopQ_next (l.length - (k + 1)) (by omega) ⟨k + 1, by omega, at_of rfl ⟨rfl, rfl, rfl, trivial⟩, hbY, rfl⟩
  · have hk : k = l.length := by omega
    subst hk
    refine EC_exit ?_
    refine thenQ_exit ?_
    refine loopQ_exit ?_
    refine blockQ_hit ?_
    refine thenQ_normal ?_
    refine EC_seq ?_
    refine EC_region ?_
    refine EL_v x_assign rfl ?_
    refine EL_nil ?_
    refine thenQ_normal ?_
    refine EC_ret ?_
    exact post_tmp rfl rfl rfl ⟨true, rfl, fun _ => hlen, by rw [← hBd]; exact hb⟩

/-- zzFits1. -/
theorem fits1_ret {w : World} {x : Value} {f : Fn} (hx : FnV w x f) :
    Ret Try.prog 11 #[x] w fun v w' => ∃ b, v = .bool b ∧ (b = true → f.vals.length < 4294967296 ∧ f.blks.length < 4294967296) ∧ Below w.heap.size w w' := by
  obtain ⟨xv, xb, rfl, hvals, hblks⟩ := hx
  refine ret_of_EC Try.func11 rfl rfl ?_
  have hx0 : FnV w (.agg #[xv, xb]) f := ⟨xv, xb, rfl, hvals, hblks⟩
  have hvals0 := hvals
  have hblks0 := hblks
  obtain ⟨ab, cb, rfl, hbl⟩ := hblks
  obtain ⟨av, cv, rfl, hvl⟩ := hvals
  obtain ⟨B, hBd⟩ : ∃ B, B = w.heap.size := ⟨_, rfl⟩
  refine EC_seq ?_
  refine EC_region ?_
  refine EL_v (x_box (v := .agg #[.slice av f.vals.length cv, .slice ab f.blks.length cb]) rfl) rfl ?_
  change EL _ _ _ _ _ _ (w.alloc (.cells #[.slice av f.vals.length cv, .slice ab f.blks.length cb] 25))
  have hN1 := heap_alloc_new w (.cells #[.slice av f.vals.length cv, .slice ab f.blks.length cb] 25)
  have hO1 : ∀ zz, zz < w.heap.size → (w.alloc (.cells #[.slice av f.vals.length cv, .slice ab f.blks.length cb] 25)).heap[zz]? = w.heap[zz]? := fun _ hi => Below.heap_alloc _ _ _ hi
  have hZ1 := size_alloc w (.cells #[.slice av f.vals.length cv, .slice ab f.blks.length cb] 25)
  have hB1 := (Below.refl B w).alloc (by omega) (.cells #[.slice av f.vals.length cv, .slice ab f.blks.length cb] 25)
  have hK1 := Keep.alloc w (.cells #[.slice av f.vals.length cv, .slice ab f.blks.length cb] 25)
  generalize w.alloc (.cells #[.slice av f.vals.length cv, .slice ab f.blks.length cb] 25) = wa at hN1 hO1 hZ1 hB1 hK1 ⊢
  refine EL_v x_assign rfl ?_
  refine EL_nil ?_
  refine thenQ_normal ?_
  have g0 : wa.cell? ⟨w.heap.size, 0 + 0, none⟩ = some (.slice av f.vals.length cv) := cell_block hN1 rfl
  have g1 : wa.cell? ⟨w.heap.size, 0 + 1, none⟩ = some (.slice ab f.blks.length cb) := cell_block hN1 rfl
  refine EC_seq ?_
  refine EC_seq ?_
  refine EC_region ?_
  refine EL_v (x_field rfl (tab_fld rfl)) rfl ?_
  refine EL_v (x_load rfl (tab_one rfl) (by with_reducible assumption)) rfl ?_
  refine EL_c (x_call Try.func18 rfl rfl rfl rfl) rfl (fits2_ret (hvals0.keep hK1)) ?_
  rintro _ w1 ⟨b, rfl, hb, hbl1⟩
  refine EL_v (x_not rfl) rfl ?_
  refine EL_nil ?_
  refine thenQ_normal ?_
  have hK2 : Keep wa w1 := Keep.of_below hbl1 (Nat.le_refl _)
  have g1' := hK2 _ _ g1
  cases b with
  | false =>
    refine EC_yes rfl rfl ?_
    refine EC_seq ?_
    refine EC_region ?_
    refine EL_v x_assign rfl ?_
    refine EL_nil ?_
    refine thenQ_normal ?_
    refine EC_ret ?_
    refine thenQ_ret ?_
    exact post_tmp rfl rfl rfl ⟨false, rfl, fun h => (by cases h), by rw [← hBd]; exact hB1.trans (hbl1.mono (by omega))⟩
  | true =>
  refine EC_no rfl rfl ?_
  refine EC_skip ?_
  refine thenQ_normal ?_
  refine EC_seq ?_
  refine EC_seq ?_
  refine EC_region ?_
  refine EL_v (x_field rfl (tab_fld rfl)) rfl ?_
  refine EL_v (x_load rfl (tab_one rfl) (by with_reducible assumption)) rfl ?_
  refine EL_c (x_call Try.func19 rfl rfl rfl rfl) rfl (fits4_ret ((hblks0.keep hK1).keep hK2)) ?_
  rintro _ w2 ⟨b2, rfl, hb2, hbl2⟩
  refine EL_v (x_not rfl) rfl ?_
  refine EL_nil ?_
  refine thenQ_normal ?_
  have hsz1 := hbl1.size
  have hbF : Below w.heap.size w w2 := by rw [← hBd]; exact (hB1.trans (hbl1.mono (by omega))).trans (hbl2.mono (by omega))
  cases b2 with
  | false =>
    refine EC_yes rfl rfl ?_
    refine EC_seq ?_
    refine EC_region ?_
    refine EL_v x_assign rfl ?_
    refine EL_nil ?_
    refine thenQ_normal ?_
    refine EC_ret ?_
    refine thenQ_ret ?_
    exact post_tmp rfl rfl rfl ⟨false, rfl, fun h => (by cases h), hbF⟩
  | true =>
    refine EC_no rfl rfl ?_
    refine EC_skip ?_
    refine thenQ_normal ?_
    refine EC_seq ?_
    refine EC_region ?_
    refine EL_v x_assign rfl ?_
    refine EL_nil ?_
    refine thenQ_normal ?_
    refine EC_ret ?_
    exact post_tmp rfl rfl rfl ⟨true, rfl, fun _ => ⟨by have := hb rfl; omega, by have := hb2 rfl; omega⟩, hbF⟩
end Go.Proofs.Yteepnepebilckaa
