/- Over. -/
import Derived.Test.YteepnepebilckaaV4
namespace Go.Proofs.Yteepnepebilckaa
open Go Go.Eng Go.RowKit
set_option maxHeartbeats 4000000
attribute [local irreducible] EC EL DL Ret thenQ blockQ loopQ bodyQ onlyN execOp Sem.run World.cell? World.frozen? World.setCell World.alloc

def ovS (nb : Nat) (R : Nat → Nat) (b : Nat) : Value := .slice (some ⟨R b, 0, none⟩) nb nb
/-- A row of rows of truths. -/
def Grid (w : World) (f : Fn) (k : Nat) (R : Nat → Nat) : Prop := ∀ b, b < k → ∃ D : Nat → Bool, w.heap[R b]? = some (.cells (bools D f.blks.length) 4 (0, 0)) ∧ ∀ i, i < f.blks.length → (D i = true ↔ ¬ Rch f (b : Int) i)

/-- Over. -/
theorem Over_ret {w : World} {x : Value} {f : Fn} (hx : FnV w x f) (sh : Shp f) :
    Ret Try.prog 22 #[x] w fun v w' => ∃ g cap R, v = .slice (some ⟨g, 0, none⟩) f.blks.length cap ∧ (∀ b, b < f.blks.length → w'.cell? ⟨g, 0 + b, none⟩ = some (ovS f.blks.length R b)) ∧ Grid w' f f.blks.length R ∧ Below w.heap.size w w' := by
  obtain ⟨xv, xb, rfl, hvals, hblks⟩ := hx
  refine ret_of_EC Try.func22 rfl rfl ?_
  have hx0 : FnV w (.agg #[xv, xb]) f := ⟨xv, xb, rfl, hvals, hblks⟩
  obtain ⟨ab, cb, rfl, hbl⟩ := hblks
  obtain ⟨B, hBd⟩ : ∃ B, B = w.heap.size := ⟨_, rfl⟩
  have hnb := sh.nb
  have hone := sh.one
  refine EC_seq ?_
  refine EC_region ?_
  refine EL_v (x_box (v := .agg #[xv, .slice ab f.blks.length cb]) rfl) rfl ?_
  change EL _ _ _ _ _ _ (w.alloc (.cells #[xv, .slice ab f.blks.length cb] 31))
  have hN1 := heap_alloc_new w (.cells #[xv, .slice ab f.blks.length cb] 31)
  have hO1 : ∀ zz, zz < w.heap.size → (w.alloc (.cells #[xv, .slice ab f.blks.length cb] 31)).heap[zz]? = w.heap[zz]? := fun _ hi => Below.heap_alloc _ _ _ hi
  have hZ1 := size_alloc w (.cells #[xv, .slice ab f.blks.length cb] 31)
  have hB1 := (Below.refl B w).alloc (by omega) (.cells #[xv, .slice ab f.blks.length cb] 31)
  have hK1 := Keep.alloc w (.cells #[xv, .slice ab f.blks.length cb] 31)
  generalize w.alloc (.cells #[xv, .slice ab f.blks.length cb] 31) = wa at hN1 hO1 hZ1 hB1 hK1 ⊢
  refine EL_v x_assign rfl ?_
  refine EL_nil ?_
  refine thenQ_normal ?_
  obtain ⟨b1, hb1⟩ : ∃ b1, b1 = w.heap.size := ⟨_, rfl⟩
  rw [← hb1] at hN1 ⊢
  have key : ∀ {W : World} {ρ : Operand → Value} {d : Option Tmp} {ty : TypeId} {pos : String} {af : Array Edge} {g : Option (Nat × Bool)}, (execOp ρ ⟨d, .buildSlice 48 0 #[], ty, pos, af, g⟩).run Try.prog W = .ok (.value (.slice (some ⟨W.heap.size, 0, none⟩) 0 0)) (W.alloc (.cells #[] 43)) := by
    intro W ρ d ty pos af g
    have key : (Instr.buildSlice 48 0 #[]).run Try.prog W = .ok (.slice (some ⟨W.heap.size, 0, none⟩) 0 0) (W.alloc (.cells #[] 43)) := by kernel_rfl
    simp [execOp, key]
  refine EC_seq ?_
  refine EC_region ?_
  refine EL_v key rfl ?_
  have hBle : B ≤ wa.heap.size := by omega
  change EL _ _ _ _ _ _ (wa.alloc (.cells #[] 43))
  have hN2 := heap_alloc_new wa (.cells #[] 43)
  have hO2 : ∀ zz, zz < wa.heap.size → (wa.alloc (.cells #[] 43)).heap[zz]? = wa.heap[zz]? := fun _ hi => Below.heap_alloc _ _ _ hi
  have hZ2 := size_alloc wa (.cells #[] 43)
  have hB2 := (Below.refl B wa).alloc (by omega) (.cells #[] 43)
  have hK2 := Keep.alloc wa (.cells #[] 43)
  generalize wa.alloc (.cells #[] 43) = wb at hN2 hO2 hZ2 hB2 hK2 ⊢
  refine EL_v x_assign rfl ?_
  refine EL_nil ?_
  refine thenQ_normal ?_
  have hbelB : Below B w wb := hB1.trans hB2
  have hbx : wb.heap[b1]? = some (.cells #[xv, .slice ab f.blks.length cb] 31 (0, 0)) := (hO2 _ (by omega)).trans hN1
  have g2 : wb.cell? ⟨b1, 0 + 1, none⟩ = some (.slice ab f.blks.length cb) := cell_block hbx rfl
  obtain ⟨S0, hS0⟩ : ∃ S0, S0 = wa.heap.size := ⟨_, rfl⟩
  have hrow0 : wb.ownsRow S0 43 1 (.slice (some ⟨wa.heap.size, 0, none⟩) 0 0) 0 [] := ⟨rfl, .inr ⟨wa.heap.size, 0, #[], rfl, Nat.le_of_eq hS0, hN2, Nat.le_refl _, by decide, rfl, rfl⟩⟩
  have hs0 : S0 ≤ wb.heap.size := by omega
  refine EC_seq_cut (fun e wr => ∃ v R, At e [(3, v)] ∧ wr.ownsRow S0 43 1 v f.blks.length ((List.range f.blks.length).map (ovS f.blks.length R)) ∧ Grid wr f f.blks.length R ∧ Below B w wr) ?_ ?_
  · refine EC_seq ?_
    refine EC_region ?_
    refine EL_v (x_field rfl (tab_fld rfl)) rfl ?_
    refine EL_v (x_load rfl (tab_one rfl) (by with_reducible assumption)) rfl ?_
    refine EL_v (x_len rfl (tab_sl rfl)) rfl ?_
    refine EL_v x_move rfl ?_
    refine EL_nil ?_
    refine thenQ_normal ?_
    refine EC_block ?_
    refine EC_loop (fun n e wr => ∃ (i : Nat) (v : Value) (R : Nat → Nat), i ≤ f.blks.length ∧ At e [(1, .pointer (some ⟨b1, 0, none⟩)), (3, v), (10, .int .i64 (f.blks.length : Int)), (11, .int .i64 (i : Int))] ∧ wr.ownsRow S0 43 1 v i ((List.range i).map (ovS f.blks.length R)) ∧ Grid wr f i R ∧ (∀ b, b < i → S0 ≤ R b ∧ R b < wr.heap.size ∧ v.ownBlock ≠ some (R b)) ∧ (∀ j, j < S0 → wr.heap[j]? = wb.heap[j]?) ∧ S0 ≤ wr.heap.size ∧ Below B w wr ∧ n = f.blks.length - i) f.blks.length
      ⟨0, _, fun _ => 0, Nat.zero_le _, at_of rfl ⟨rfl, rfl, rfl, rfl, trivial⟩, hrow0, fun b hb => absurd hb (Nat.not_lt_zero _), fun b hb => absurd hb (Nat.not_lt_zero _), fun _ _ => rfl, hs0, hbelB, rfl⟩ ?_
    rintro n e wr ⟨i, v, R, hi, ⟨t, rfl⟩, hrow, hgrid, hlow, hst, hsz, hb, rfl⟩
    refine EC_seq ?_
    refine EC_region ?_
    refine EL_v (x_lss rfl rfl) rfl ?_
    refine EL_nil ?_
    refine thenQ_normal ?_
    refine EC_seq ?_
    refine EC_if rfl rfl (fun hlt => ?_) (fun hge => ?_)
    · have hlt : i < f.blks.length := by omega
      refine EC_skip ?_
      refine thenQ_normal ?_
      refine EC_seq ?_
      refine EC_block ?_
      refine EC_seq ?_
      refine EC_region ?_
      refine EL_v x_move rfl ?_
      refine EL_v x_assign rfl ?_
      refine EL_nil ?_
      refine thenQ_normal ?_
      have hbxr : wr.heap[b1]? = some (.cells #[xv, .slice ab f.blks.length cb] 31 (0, 0)) := (hst b1 (by omega)).trans hbx
      refine EC_seq ?_
      refine EC_region ?_
      refine EL_v (x_loadS (cs := [xv, .slice ab f.blks.length cb]) rfl (tab_agg rfl) (cellsAt_block hbxr)) rfl ?_
      refine EL_v x_move rfl ?_
      refine EL_c (x_call Try.func33 rfl rfl rfl rfl) rfl (reach_ret (hx0.keep (Keep.of_below hb (by omega))) sh (i : Int)) ?_
      rintro _ w1 ⟨G, S, rfl, hGs, hN, hSr, hb1'⟩
      refine EL_v x_assign rfl ?_
      refine EL_nil ?_
      refine thenQ_normal ?_
      have hGlt : G < w1.heap.size := (Array.getElem?_eq_some_iff.1 hN).1
      have hrow1 := ownsRow_congr hrow (w' := w1) fun k e => hb1'.block k (ownsRow_lt hrow k e).2
      have hgrid1 : Grid w1 f i R := fun b hbi => by
        obtain ⟨D, h1, h2⟩ := hgrid b hbi
        exact ⟨D, (hb1'.block _ (hlow b hbi).2.1).trans h1, h2⟩
      have hst1 : ∀ j, j < S0 → w1.heap[j]? = wb.heap[j]? := fun j hj => (hb1'.block j (by omega)).trans (hst j hj)
      have hbel1 : Below B w w1 := hb.trans (hb1'.mono (by omega))
      have hsz1 := hb1'.size
      have hvlt := ownsRow_lt hrow
      -- each is turned
      refine EC_seq_cut (fun e wi => At e [(1, .pointer (some ⟨b1, 0, none⟩)), (3, v), (10, .int .i64 (f.blks.length : Int)), (11, .int .i64 (i : Int)), (5, .slice (some ⟨G, 0, none⟩) f.blks.length f.blks.length)] ∧ wi.heap[G]? = some (.cells (bools (fun x => !S x) f.blks.length) 4 (0, 0)) ∧ (∀ j, j ≠ G → wi.heap[j]? = w1.heap[j]?) ∧ wi.heap.size = w1.heap.size ∧ Below B w wi) ?_ ?_
      · refine EC_seq ?_
        refine EC_region ?_
        refine EL_v x_move rfl ?_
        refine EL_v (x_len rfl (tab_sl rfl)) rfl ?_
        refine EL_v x_move rfl ?_
        refine EL_nil ?_
        refine thenQ_normal ?_
        refine EC_block ?_
        refine EC_loop (fun m e wi => ∃ (k : Nat) (T : Nat → Bool), k ≤ f.blks.length ∧ At e [(1, .pointer (some ⟨b1, 0, none⟩)), (3, v), (10, .int .i64 (f.blks.length : Int)), (11, .int .i64 (i : Int)), (5, .slice (some ⟨G, 0, none⟩) f.blks.length f.blks.length), (18, .int .i64 (f.blks.length : Int)), (19, .int .i64 (k : Int))] ∧ wi.heap[G]? = some (.cells (bools T f.blks.length) 4 (0, 0)) ∧ (∀ x, T x = if x < k then !S x else S x) ∧ (∀ j, j ≠ G → wi.heap[j]? = w1.heap[j]?) ∧ wi.heap.size = w1.heap.size ∧ Below B w wi ∧ m = f.blks.length - k) f.blks.length
          ⟨0, S, Nat.zero_le _, at_of rfl ⟨rfl, rfl, rfl, rfl, rfl, rfl, rfl, trivial⟩, hN, fun x => by simp, fun _ _ => rfl, rfl, hbel1, rfl⟩ ?_
        rintro m e wi ⟨k, T, hk, ⟨t, rfl⟩, hT, hTS, hsti, hszi, hbi', rfl⟩
        refine EC_seq ?_
        refine EC_region ?_
        refine EL_v (x_lss rfl rfl) rfl ?_
        refine EL_nil ?_
        refine thenQ_normal ?_
        refine EC_seq ?_
        refine EC_if rfl rfl (fun hlk => ?_) (fun hge => ?_)
        · have hlk : k < f.blks.length := by omega
          have hcy : wi.cell? ⟨G, 0 + k, none⟩ = some (.bool (T k)) := cell_block hT (by rw [Nat.zero_add]; exact bools_get _ hlk)
          refine EC_skip ?_
          refine thenQ_normal ?_
          refine EC_seq ?_
          refine EC_block ?_
          refine EC_seq ?_
          refine EC_region ?_
          refine EL_v x_move rfl ?_
          refine EL_v x_assign rfl ?_
          refine EL_nil ?_
          refine thenQ_normal ?_
          refine EC_region ?_
          refine EL_v x_move rfl ?_
          refine EL_v x_move rfl ?_
          refine EL_v x_move rfl ?_
          refine EL_v x_move rfl ?_
          refine EL_v (x_index1 rfl rfl (tab_sl rfl) (by omega)) rfl ?_
          refine EL_v (x_load rfl (tab_one rfl) (by with_reducible assumption)) rfl ?_
          refine EL_v (x_not rfl) rfl ?_
          refine EL_v (x_index1 rfl rfl (tab_sl rfl) (by omega)) rfl ?_
          refine EL_s (x_store (v := .bool (!T k)) rfl rfl rfl (tab_size1 rfl) hcy (free_block hT)) rfl ?_
          refine EL_nil ?_
          refine blockQ_normal ?_
          refine thenQ_normal ?_
          have hT2 := heap_setCell_same (o := 0 + k) (u := .bool (!T k)) hT
          rw [bools_set] at hT2
          refine EC_region ?_
          refine EL_v (x_inc rfl rfl (by omega)) rfl ?_
          refine EL_v x_move rfl ?_
          refine EL_nil ?_
          refine loopQ_next (f.blks.length - (k + 1)) (by omega) ⟨k + 1, _, by omega, at_of rfl ⟨rfl, rfl, rfl, rfl, rfl, rfl, rfl, trivial⟩, hT2, fun x => ?_, fun j hj => (Below.heap_setCell _ _ _ _ hj).trans (hsti j hj), (size_setCell _ _).trans hszi, hbi'.setCell (by show B ≤ G; omega) _, rfl⟩
          rw [Nat.zero_add]
          by_cases e : x = k
          · subst e; rw [if_pos rfl, if_pos (Nat.lt_succ_self _), hTS, if_neg (Nat.lt_irrefl _)]
          · rw [if_neg e, hTS]
            by_cases e2 : x < k
            · rw [if_pos e2, if_pos (by omega)]
            · rw [if_neg e2, if_neg (by omega)]
        · have hk : k = f.blks.length := by omega
          subst hk
          refine EC_exit ?_
          refine thenQ_exit ?_
          refine loopQ_exit ?_
          refine blockQ_hit ?_
          have hbe : bools T f.blks.length = bools (fun x => !S x) f.blks.length := by
            apply Array.ext_getElem?
            intro x
            by_cases hx : x < f.blks.length
            · rw [bools_get _ hx, bools_get _ hx, hTS, if_pos hx]
            · rw [Array.getElem?_eq_none (by rw [bools_size]; omega), Array.getElem?_eq_none (by rw [bools_size]; omega)]
          rw [hbe] at hT
          exact onlyN_in ⟨at_of rfl ⟨rfl, rfl, rfl, rfl, rfl, trivial⟩, hT, hsti, hszi, hbi'⟩
      rintro e w2 ⟨⟨t, rfl⟩, hN', hst2, hsz2, hb2⟩
      refine EC_region ?_
      refine EL_v x_move rfl ?_
      refine EL_v x_move rfl ?_
      refine EL_v (x_bslice1 (v := .slice (some ⟨G, 0, none⟩) f.blks.length f.blks.length) rfl rfl Try.underlying48 (by kernel_rfl) (z := .slice none 0 0) rfl) rfl ?_
      have hBle : B ≤ w2.heap.size := by omega
      change EL _ _ _ _ _ _ (w2.alloc (.cells #[.slice (some ⟨G, 0, none⟩) f.blks.length f.blks.length] 43))
      have hN3 := heap_alloc_new w2 (.cells #[.slice (some ⟨G, 0, none⟩) f.blks.length f.blks.length] 43)
      have hO3 : ∀ zz, zz < w2.heap.size → (w2.alloc (.cells #[.slice (some ⟨G, 0, none⟩) f.blks.length f.blks.length] 43)).heap[zz]? = w2.heap[zz]? := fun _ hi => Below.heap_alloc _ _ _ hi
      have hZ3 := size_alloc w2 (.cells #[.slice (some ⟨G, 0, none⟩) f.blks.length f.blks.length] 43)
      have hB3 := (Below.refl B w2).alloc (by omega) (.cells #[.slice (some ⟨G, 0, none⟩) f.blks.length f.blks.length] 43)
      have hK3 := Keep.alloc w2 (.cells #[.slice (some ⟨G, 0, none⟩) f.blks.length f.blks.length] 43)
      generalize w2.alloc (.cells #[.slice (some ⟨G, 0, none⟩) f.blks.length f.blks.length] 43) = w3 at hN3 hO3 hZ3 hB3 hK3 ⊢
      have hrow3 := ownsRow_congr hrow1 (w' := w3) fun k e => (hO3 k (by have := hvlt k e; omega)).trans (hst2 k (by have := hvlt k e; omega))
      refine EL_append1 hrow3 (cell_block hN3 rfl) rfl (by omega) (by decide) (by omega) Try.underlying48 info43 rfl rfl rfl rfl ?_
      intro v4 w4 hrow4 hgr4 hwh4
      refine EL_v x_assign rfl ?_
      refine EL_nil ?_
      refine blockQ_normal ?_
      refine thenQ_normal ?_
      have hsz4 := hgr4.size
      have hvG : v.ownBlock ≠ some G := fun e => by have := hvlt G e; omega
      have hle : ∀ j, j < w2.heap.size → v.ownBlock ≠ some j → w4.heap[j]? = w2.heap[j]? := fun j hj hne => by
        rw [hgr4.block j (by omega) (fun e => hne e.symm), hO3 j hj]
      refine EC_region ?_
      refine EL_v (x_inc rfl rfl (by omega)) rfl ?_
      refine EL_v x_move rfl ?_
      refine EL_nil ?_
      refine loopQ_next (f.blks.length - (i + 1)) (by omega) ⟨i + 1, v4, fun b => if b = i then G else R b, by omega, at_of rfl ⟨rfl, rfl, rfl, rfl, trivial⟩, ?_, ?_, ?_, ?_, by omega, ?_, rfl⟩
      · have : (List.range (i + 1)).map (ovS f.blks.length fun b => if b = i then G else R b) = (List.range i).map (ovS f.blks.length R) ++ [.slice (some ⟨G, 0, none⟩) f.blks.length f.blks.length] := by
          rw [List.range_succ, List.map_append]
          congr 1
          · apply List.map_congr_left
            intro b hbm
            have := List.mem_range.1 hbm
            show Value.slice (some ⟨if b = i then G else R b, 0, none⟩) _ _ = _
            rw [if_neg (by omega)]; rfl
          · simp [ovS]
        rw [this]; exact hrow4
      · intro b hbi
        by_cases e : b = i
        · subst e
          refine ⟨fun x => !S x, ?_, fun j hj => ?_⟩
          · show w4.heap[if b = b then G else R b]? = _
            rw [if_pos rfl, hle G (by omega) hvG]; exact hN'
          · have := hSr j hj
            show ((!S j) = true ↔ _)
            rw [← this]
            cases S j <;> simp
        · obtain ⟨D, h1, h2⟩ := hgrid1 b (by omega)
          obtain ⟨l1, l2, l3⟩ := hlow b (by omega)
          refine ⟨D, ?_, h2⟩
          show w4.heap[if b = i then G else R b]? = _
          rw [if_neg e, hle _ (by omega) l3, hst2 _ (by omega)]; exact h1
      · intro b hbi
        show S0 ≤ (if b = i then G else R b) ∧ (if b = i then G else R b) < _ ∧ v4.ownBlock ≠ some (if b = i then G else R b)
        by_cases e : b = i
        · rw [if_pos e]
          refine ⟨by omega, by omega, ?_⟩
          rcases hwh4 with h | h
          · rw [h]; exact hvG
          · rw [h]; intro e2; have := Option.some.inj e2; omega
        · rw [if_neg e]
          obtain ⟨l1, l2, l3⟩ := hlow b (by omega)
          refine ⟨l1, by omega, ?_⟩
          rcases hwh4 with h | h
          · rw [h]; exact l3
          · rw [h]; intro e2; have := Option.some.inj e2; omega
      · intro j hj
        rw [hle j (by omega) (fun e => by have := hvlt j e; omega), hst2 j (by omega)]
        exact hst1 j hj
      · exact (hb2.trans hB3).grown hgr4 (by omega) (fun j e => by have := hvlt j e; omega)
    · have hi : i = f.blks.length := by omega
      subst hi
      refine EC_exit ?_
      refine thenQ_exit ?_
      refine loopQ_exit ?_
      refine blockQ_hit ?_
      exact onlyN_in ⟨v, R, at_of rfl ⟨rfl, trivial⟩, hrow, hgrid, hb⟩
  rintro e wr ⟨v, R, ⟨t, rfl⟩, hrow, hgrid, hb⟩
  refine EC_seq ?_
  refine EC_region ?_
  refine EL_v x_move rfl ?_
  refine EL_v x_assign rfl ?_
  refine EL_nil ?_
  refine thenQ_normal ?_
  refine EC_ret ?_
  rcases hrow.2 with ⟨_, h0⟩ | ⟨g, cap, cur, rfl, _, hg, h1, h2, h3, h4⟩
  · omega
  refine post_tmp rfl rfl rfl ⟨g, cap, R, rfl, fun b hbn => ?_, hgrid, by rw [hb1, ← hBd]; exact hb⟩
  rw [cell_of_row wr g _ cur _ (0, 0) hg, Nat.zero_add]
  have h5 : ((List.range f.blks.length).map (ovS f.blks.length R))[b]? = some (ovS f.blks.length R b) := by
    rw [List.getElem?_map, List.getElem?_range hbn]; rfl
  rw [← h4, List.getElem?_take] at h5
  split at h5
  · rw [Array.getElem?_toList] at h5; exact h5
  · cases h5
end Go.Proofs.Yteepnepebilckaa
