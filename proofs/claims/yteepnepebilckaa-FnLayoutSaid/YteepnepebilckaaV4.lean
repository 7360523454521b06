/- Preds. -/
import Derived.Test.YteepnepebilckaaV1
import Derived.Test.YteepnepebilckaaW7
namespace Go.Proofs.Yteepnepebilckaa
open Go Go.Eng Go.RowKit

def cellsOf (R : Nat → Value) (n : Nat) : Array Value := ((List.range n).map R).toArray
theorem cellsOf_get (R : Nat → Value) {n i : Nat} (h : i < n) : (cellsOf R n)[i]? = some (R i) := by
  simp [cellsOf, List.getElem?_range h]
theorem cellsOf_size (R : Nat → Value) (n : Nat) : (cellsOf R n).size = n := by simp [cellsOf]
theorem cellsOf_set (R : Nat → Value) (n s : Nat) (v : Value) : (cellsOf R n).setIfInBounds s v = cellsOf (fun x => if x = s then v else R x) n := by
  apply Array.ext_getElem?
  intro i
  rw [Array.getElem?_setIfInBounds, cellsOf_size]
  by_cases hi : i < n
  · rw [cellsOf_get _ hi, cellsOf_get _ hi]
    by_cases e : s = i
    · subst e; simp [hi]
    · rw [if_neg e]
      have : ¬ i = s := fun h => e h.symm
      simp [this]
  · have h1 : (cellsOf R n)[i]? = none := by rw [Array.getElem?_eq_none]; rw [cellsOf_size]; omega
    have h2 : (cellsOf (fun x => if x = s then v else R x) n)[i]? = none := by rw [Array.getElem?_eq_none]; rw [cellsOf_size]; omega
    rw [h1, h2]
    split
    · rw [if_neg (by omega)]
    · rfl
theorem made_of (z : Value) (n : Nat) : madeCells #[z] n = cellsOf (fun _ => z) n := by
  simp [madeCells, cellsOf]
  apply Array.ext
  · simp
  · intro i h1 h2
    simp [Nat.mod_one]

/-- Rows of integers, one a place, no two of them in one block. -/
structure Rows (w : World) (base : Nat) (R : Nat → Value) (n : Nat) (L : Nat → List Nat) : Prop where
  row : ∀ b, b < n → w.ownsRow base 3 1 (R b) (L b).length ((nats (L b)).map (.int .i64))
  off : ∀ b c, b < n → c < n → b ≠ c → ∀ k, (R b).ownBlock = some k → (R c).ownBlock ≠ some k
theorem Rows.stay {w w' : World} {base : Nat} {R : Nat → Value} {n : Nat} {L : Nat → List Nat} (h : Rows w base R n L) (hk : ∀ k, base ≤ k → k < w.heap.size → w'.heap[k]? = w.heap[k]?) : Rows w' base R n L :=
  ⟨fun b hb => ownsRow_congr (h.row b hb) fun k e => hk k (ownsRow_lt (h.row b hb) k e).1 (ownsRow_lt (h.row b hb) k e).2, h.off⟩
theorem Rows.push {w w' : World} {base : Nat} {R : Nat → Value} {n : Nat} {L : Nat → List Nat} (h : Rows w base R n L) {s : Nat} (hs : s < n) {v' : Value} {x : Nat} {g o : Nat} (hg : g < base)
    (hrow : w'.ownsRow base 3 1 v' ((L s).length + 1) ((nats (L s)).map (.int .i64) ++ [.int .i64 (x : Int)])) (hgr : w.grownBy w' (R s).ownBlock) (hwh : v'.ownBlock = (R s).ownBlock ∨ v'.ownBlock = some w.heap.size) :
    Rows (w'.setCell ⟨g, o, none⟩ v') base (fun b => if b = s then v' else R b) n (fun b => if b = s then L s ++ [x] else L b) := by
  refine ⟨fun b hb => ?_, fun b c hb hc hne k hk => ?_⟩
  · show World.ownsRow _ _ _ _ (if b = s then v' else R b) (if b = s then L s ++ [x] else L b).length ((nats (if b = s then L s ++ [x] else L b)).map (.int .i64))
    by_cases e : b = s
    · rw [if_pos e, if_pos e, List.length_append]
      have : nats (L s ++ [x]) = nats (L s) ++ [(x : Int)] := by simp [nats]
      rw [this, List.map_append]
      exact ownsRow_congr hrow fun k e2 => Below.heap_setCell _ _ _ _ (by have := (ownsRow_lt hrow k e2).1; show k ≠ g; omega)
    · rw [if_neg e, if_neg e]
      refine ownsRow_congr (h.row b hb) fun k e2 => ?_
      have hlt := ownsRow_lt (h.row b hb) k e2
      rw [Below.heap_setCell _ _ _ _ (by show k ≠ g; omega), hgr.block k hlt.2 (fun e3 => h.off b s hb hs e k e2 e3.symm)]
  · have new : ∀ c, c < n → c ≠ s → (R c).ownBlock ≠ v'.ownBlock ∨ v'.ownBlock = none := fun c hc hne => by
      rcases hwh with e | e
      · cases hv : v'.ownBlock with
        | none => exact .inr rfl
        | some k =>
          left
          rw [hv] at e
          exact fun e2 => h.off c s hc hs hne k (e2.trans rfl) e.symm
      · left
        rw [e]
        intro e2
        have := (ownsRow_lt (h.row c hc) _ e2).2
        omega
    have hk : (if b = s then v' else R b).ownBlock = some k := hk
    show (if c = s then v' else R c).ownBlock ≠ some k
    by_cases e : b = s
    · rw [if_pos e] at hk
      rw [if_neg (fun e2 => hne (e.trans e2.symm))]
      rcases new c hc (fun e2 => hne (e.trans e2.symm)) with h1 | h1
      · rw [← hk]; exact h1
      · rw [h1] at hk; cases hk
    · rw [if_neg e] at hk
      by_cases e2 : c = s
      · rw [if_pos e2]
        rcases new b hb e with h1 | h1
        · rw [← hk]; exact fun e3 => h1 e3.symm
        · rw [h1]; simp
      · rw [if_neg e2]; exact h.off b c hb hc hne k hk

theorem predsTo_len' (f : Fn) (sh : Shp f) (i k b : Nat) (hi : i < f.blks.length) : (predsTo f i k b).length ≤ 2 * i + 2 := by
  have h1 : ∀ m, m ≤ i → ((List.range m).flatMap fun x => ((f.b x).succs.filter fun s => s == (b : Int)).map fun _ => x).length ≤ 2 * m := by
    intro m
    induction m with
    | zero => intro _; simp
    | succ m ih =>
      intro hm
      rw [List.range_succ, List.flatMap_append, List.length_append]
      have h2 := ih (by omega)
      have h3 := (sh.succs m (by omega)).1
      have h4 : (((f.b m).succs.filter fun s => s == (b : Int)).map fun _ => m).length ≤ (f.b m).succs.length := by
        rw [List.length_map]; exact List.length_filter_le _ _
      simp only [List.flatMap_cons, List.flatMap_nil, List.append_nil]
      omega
  have h2 := h1 i (Nat.le_refl _)
  have h3 := (sh.succs i hi).1
  have h4 : ((((f.b i).succs.take k).filter fun s => s == (b : Int)).map fun _ => i).length ≤ (f.b i).succs.length := by
    rw [List.length_map]
    refine Nat.le_trans (List.length_filter_le _ _) ?_
    rw [List.length_take]; omega
  unfold predsTo
  rw [List.length_append]
  omega
set_option maxHeartbeats 4000000
attribute [local irreducible] EC EL DL Ret thenQ blockQ loopQ bodyQ onlyN execOp Sem.run World.cell? World.frozen? World.setCell World.alloc
/-- Preds. -/
theorem Preds_ret {w : World} {x : Value} {f : Fn} (hx : FnV w x f) (sh : Shp f) :
    Ret Try.prog 21 #[x] w fun v w' => ∃ G R, v = .slice (some ⟨G, 0, none⟩) f.blks.length f.blks.length ∧ w'.heap[G]? = some (.cells (cellsOf R f.blks.length) 34 (0, 0)) ∧
      (∀ b, b < f.blks.length → IntsV w' (R b) (nats (predsOf f b))) ∧ Below w.heap.size w w' := by
  obtain ⟨xv, xb, rfl, hvals, hblks⟩ := hx
  refine ret_of_EC Try.func21 rfl rfl ?_
  obtain ⟨ab, cb, rfl, hbl⟩ := hblks
  obtain ⟨B, hBd⟩ : ∃ B, B = w.heap.size := ⟨_, rfl⟩
  have hnb := sh.nb
  have hone := sh.one
  refine EC_seq ?_
  refine EC_region ?_
  refine EL_v (x_box (v := .agg #[xv, .slice ab f.blks.length cb]) rfl) rfl ?_
  change EL _ _ _ _ _ _ (w.alloc (.cells #[xv, .slice ab f.blks.length cb] 31))
  have hN1 := heap_alloc_new w (.cells #[xv, .slice ab f.blks.length cb] 31)
  have hO1 : ∀ zz, zz < w.heap.size → (w.alloc (.cells #[xv, .slice ab f.blks.length cb] 31)).heap[zz]? = w.heap[zz]? := fun _ hi => Below.heap_alloc _ _ _ hi
  have hZ1 := size_alloc w (.cells #[xv, .slice ab f.blks.length cb] 31)
  have hB1 := (Below.refl B w).alloc (by omega) (.cells #[xv, .slice ab f.blks.length cb] 31)
  have hK1 := Keep.alloc w (.cells #[xv, .slice ab f.blks.length cb] 31)
  generalize w.alloc (.cells #[xv, .slice ab f.blks.length cb] 31) = wa at hN1 hO1 hZ1 hB1 hK1 ⊢
  refine EL_v x_assign rfl ?_
  refine EL_nil ?_
  refine thenQ_normal ?_
  obtain ⟨b1, hb1⟩ : ∃ b1, b1 = w.heap.size := ⟨_, rfl⟩
  rw [← hb1] at hN1 ⊢
  have g1 : wa.cell? ⟨b1, 0 + 1, none⟩ = some (.slice ab f.blks.length cb) := cell_block hN1 rfl
  refine EC_seq ?_
  refine EC_region ?_
  refine EL_v (x_field rfl (tab_fld rfl)) rfl ?_
  refine EL_v (x_load rfl (tab_one rfl) (by with_reducible assumption)) rfl ?_
  refine EL_v (x_len rfl (tab_sl rfl)) rfl ?_
  refine EL_v (x_make Try.underlying46 info34 rfl rfl rfl (by omega) (by omega)) rfl ?_
  rw [made_of]
  have hBle : B ≤ wa.heap.size := by omega
  change EL _ _ _ _ _ _ (wa.alloc (.cells (cellsOf (fun _ => .slice none 0 0) f.blks.length) 34))
  have hN2 := heap_alloc_new wa (.cells (cellsOf (fun _ => .slice none 0 0) f.blks.length) 34)
  have hO2 : ∀ zz, zz < wa.heap.size → (wa.alloc (.cells (cellsOf (fun _ => .slice none 0 0) f.blks.length) 34)).heap[zz]? = wa.heap[zz]? := fun _ hi => Below.heap_alloc _ _ _ hi
  have hZ2 := size_alloc wa (.cells (cellsOf (fun _ => .slice none 0 0) f.blks.length) 34)
  have hB2 := (Below.refl B wa).alloc (by omega) (.cells (cellsOf (fun _ => .slice none 0 0) f.blks.length) 34)
  have hK2 := Keep.alloc wa (.cells (cellsOf (fun _ => .slice none 0 0) f.blks.length) 34)
  generalize wa.alloc (.cells (cellsOf (fun _ => .slice none 0 0) f.blks.length) 34) = wb at hN2 hO2 hZ2 hB2 hK2 ⊢
  obtain ⟨G, hG⟩ : ∃ G, G = wa.heap.size := ⟨_, rfl⟩
  rw [← hG] at hN2 ⊢
  refine EL_v x_assign rfl ?_
  refine EL_nil ?_
  refine thenQ_normal ?_
  have hbelB : Below B w wb := hB1.trans hB2
  have hbx : wb.heap[b1]? = some (.cells #[xv, .slice ab f.blks.length cb] 31 (0, 0)) := (hO2 _ (by omega)).trans hN1
  have g2 : wb.cell? ⟨b1, 0 + 1, none⟩ = some (.slice ab f.blks.length cb) := cell_block hbx rfl
  have hR0 : Rows wb (G + 1) (fun _ => .slice none 0 0) f.blks.length (predsTo f 0 0) := by
    have : predsTo f 0 0 = fun _ => [] := by funext b; simp [predsTo]
    rw [this]
    exact ⟨fun _ _ => World.ownsRow_nil _ _ _ _, fun _ _ _ _ _ k hk => by cases hk⟩
  refine EC_seq_cut (fun e wr => ∃ R, At e [(3, .slice (some ⟨G, 0, none⟩) f.blks.length f.blks.length)] ∧ wr.heap[G]? = some (.cells (cellsOf R f.blks.length) 34 (0, 0)) ∧ Rows wr (G + 1) R f.blks.length (predsTo f f.blks.length 0) ∧ Below B w wr) ?_ ?_
  · refine EC_seq ?_
    refine EC_region ?_
    refine EL_v (x_field rfl (tab_fld rfl)) rfl ?_
    refine EL_v (x_load rfl (tab_one rfl) (by with_reducible assumption)) rfl ?_
    refine EL_v (x_len rfl (tab_sl rfl)) rfl ?_
    refine EL_v x_move rfl ?_
    refine EL_nil ?_
    refine thenQ_normal ?_
    refine EC_block ?_
    refine EC_loop (fun n e wr => ∃ (i : Nat) (R : Nat → Value), i ≤ f.blks.length ∧ At e [(1, .pointer (some ⟨b1, 0, none⟩)), (3, .slice (some ⟨G, 0, none⟩) f.blks.length f.blks.length), (13, .slice ab f.blks.length cb), (14, .int .i64 (f.blks.length : Int)), (15, .int .i64 (i : Int))] ∧ wr.heap[G]? = some (.cells (cellsOf R f.blks.length) 34 (0, 0)) ∧ Rows wr (G + 1) R f.blks.length (predsTo f i 0) ∧ G + 1 ≤ wr.heap.size ∧ Below B w wr ∧ n = f.blks.length - i) f.blks.length
      ⟨0, _, Nat.zero_le _, at_of rfl ⟨rfl, rfl, rfl, rfl, rfl, trivial⟩, hN2, hR0, by omega, hbelB, rfl⟩ ?_
    rintro n e wr ⟨i, R, hi, ⟨t, rfl⟩, hS, hR, hsz, hb, rfl⟩
    refine EC_seq ?_
    refine EC_region ?_
    refine EL_v (x_lss rfl rfl) rfl ?_
    refine EL_nil ?_
    refine thenQ_normal ?_
    refine EC_seq ?_
    refine EC_if rfl rfl (fun hlt => ?_) (fun hge => ?_)
    · have hlt : i < f.blks.length := by omega
      obtain ⟨bb, ob, rfl, hq⟩ := hbl.resolve_left (fun e => by rw [e] at hlt; simp at hlt)
      obtain ⟨s0, hcells0, ⟨sa, sc, rfl, hints⟩⟩ := hq i hlt
      have hcells := hcells0.keep (keep_of' hb (by omega))
      obtain ⟨hsl, hsm⟩ := sh.succs i hlt
      refine EC_skip ?_
      refine thenQ_normal ?_
      refine EC_seq ?_
      refine EC_block ?_
      refine EC_seq ?_
      refine EC_region ?_
      refine EL_v x_move rfl ?_
      refine EL_v (x_indexN (n := 4) rfl rfl (tab_sl rfl) hlt) rfl ?_
      refine EL_v (x_loadS rfl (tab_agg rfl) hcells) rfl ?_
      refine EL_v (x_alloc zero_sb) rfl ?_
      refine EL_v x_assign rfl ?_
      refine EL_s (x_storeNew rfl rfl (tab_sizeN rfl) rfl rfl) rfl ?_
      refine EL_nil ?_
      refine thenQ_normal ?_
      have ho : (f.blks.getD i default) = f.b i := rfl
      simp only [ho] at hcells hints ⊢
      have hBle : B ≤ wr.heap.size := by omega
      change EC _ _ _ _ _ (wr.alloc (.cells #[.int .i64 (f.b i).kind, .int .i64 (f.b i).ctrl, .slice sa (f.b i).succs.length sc, .int .i64 (f.b i).likely] 53))
      have hN3 := heap_alloc_new wr (.cells #[.int .i64 (f.b i).kind, .int .i64 (f.b i).ctrl, .slice sa (f.b i).succs.length sc, .int .i64 (f.b i).likely] 53)
      have hO3 : ∀ zz, zz < wr.heap.size → (wr.alloc (.cells #[.int .i64 (f.b i).kind, .int .i64 (f.b i).ctrl, .slice sa (f.b i).succs.length sc, .int .i64 (f.b i).likely] 53)).heap[zz]? = wr.heap[zz]? := fun _ hi => Below.heap_alloc _ _ _ hi
      have hZ3 := size_alloc wr (.cells #[.int .i64 (f.b i).kind, .int .i64 (f.b i).ctrl, .slice sa (f.b i).succs.length sc, .int .i64 (f.b i).likely] 53)
      have hB3 := (Below.refl B wr).alloc (by omega) (.cells #[.int .i64 (f.b i).kind, .int .i64 (f.b i).ctrl, .slice sa (f.b i).succs.length sc, .int .i64 (f.b i).likely] 53)
      have hK3 := Keep.alloc wr (.cells #[.int .i64 (f.b i).kind, .int .i64 (f.b i).ctrl, .slice sa (f.b i).succs.length sc, .int .i64 (f.b i).likely] 53)
      generalize wr.alloc (.cells #[.int .i64 (f.b i).kind, .int .i64 (f.b i).ctrl, .slice sa (f.b i).succs.length sc, .int .i64 (f.b i).likely] 53) = W at hN3 hO3 hZ3 hB3 hK3 ⊢
      have hl2 : W.cell? ⟨wr.heap.size, 0 + 2, none⟩ = some (.slice sa (f.b i).succs.length sc) := cell_block hN3 rfl
      have hSW := (hO3 G (by omega)).trans hS
      have hRW := hR.stay (w' := W) fun k _ hk => hO3 k hk
      have hbW : Below B w W := hb.trans hB3
      refine EC_seq ?_
      refine EC_region ?_
      refine EL_v (x_field rfl (tab_fld rfl)) rfl ?_
      refine EL_v (x_load rfl (tab_one rfl) (by with_reducible assumption)) rfl ?_
      refine EL_v (x_len rfl (tab_sl rfl)) rfl ?_
      refine EL_v x_move rfl ?_
      refine EL_nil ?_
      refine thenQ_normal ?_
      refine EC_block ?_
      refine EC_loop (fun m e wi => ∃ (k : Nat) (R : Nat → Value), k ≤ (f.b i).succs.length ∧ At e [(1, .pointer (some ⟨b1, 0, none⟩)), (3, .slice (some ⟨G, 0, none⟩) f.blks.length f.blks.length), (13, .slice (some ⟨bb, ob, none⟩) f.blks.length cb), (14, .int .i64 (f.blks.length : Int)), (15, .int .i64 (i : Int)), (4, .int .i64 (i : Int)), (21, .slice sa (f.b i).succs.length sc), (22, .int .i64 ((f.b i).succs.length : Int)), (23, .int .i64 (k : Int))] ∧ wi.heap[G]? = some (.cells (cellsOf R f.blks.length) 34 (0, 0)) ∧ Rows wi (G + 1) R f.blks.length (predsTo f i k) ∧ G + 1 ≤ wi.heap.size ∧ Below B w wi ∧ m = (f.b i).succs.length - k) (f.b i).succs.length
        ⟨0, R, Nat.zero_le _, at_of rfl ⟨rfl, rfl, rfl, rfl, rfl, rfl, rfl, rfl, rfl, trivial⟩, hSW, hRW, by omega, hbW, rfl⟩ ?_
      rintro m e wi ⟨k, R, hk, ⟨t, rfl⟩, hS, hR, hsz, hb, rfl⟩
      refine EC_seq ?_
      refine EC_region ?_
      refine EL_v (x_lss rfl rfl) rfl ?_
      refine EL_nil ?_
      refine thenQ_normal ?_
      refine EC_seq ?_
      refine EC_if rfl rfl (fun hlk => ?_) (fun hge => ?_)
      · have hlk : k < (f.b i).succs.length := by omega
        obtain ⟨_, _, e3, hintI⟩ : IntsV wi (.slice sa (f.b i).succs.length sc) (f.b i).succs := IntsV.keep ⟨sa, sc, rfl, hints⟩ (keep_of' hb (by omega))
        obtain ⟨bi, oi, rfl, hai⟩ := hintI.get hlk
        injection e3 with e4 e5 e6
        subst e4
        have hmem : (f.b i).succs.getD k 0 ∈ (f.b i).succs := by rw [List.getD_eq_getElem?_getD, List.getElem?_eq_getElem hlk]; simp
        obtain ⟨hy0, hy1⟩ := hsm _ hmem
        have hstep2 := predsTo_step f i k hlk ((f.b i).succs.getD k 0).toNat (by omega)
        generalize (f.b i).succs.getD k 0 = y at hai hy0 hy1 hstep2
        have hyy : y = ((y.toNat : Nat) : Int) := by omega
        have hyl : y.toNat < f.blks.length := by omega
        have hcy : wi.cell? ⟨G, 0 + y.toNat, none⟩ = some (R y.toNat) := cell_block hS (by rw [Nat.zero_add]; exact cellsOf_get _ hyl)
        refine EC_skip ?_
        refine thenQ_normal ?_
        refine EC_seq ?_
        refine EC_block ?_
        refine EC_seq ?_
        refine EC_region ?_
        refine EL_v (x_index1 rfl rfl (tab_sl rfl) (by omega)) rfl ?_
        refine EL_v (x_load rfl (tab_one rfl) (by with_reducible assumption)) rfl ?_
        refine EL_v x_assign rfl ?_
        refine EL_nil ?_
        refine thenQ_normal ?_
        refine EC_region ?_
        refine EL_v x_move rfl ?_
        refine EL_v x_move rfl ?_
        refine EL_v x_move rfl ?_
        refine EL_v x_move rfl ?_
        refine EL_v (x_indexZ1 rfl rfl hyy (tab_sl rfl) hyl) rfl ?_
        refine EL_v (x_load rfl (tab_one rfl) (by with_reducible assumption)) rfl ?_
        refine EL_v x_move rfl ?_
        refine EL_v (x_bslice1 (v := .int .i64 (i : Int)) rfl rfl Try.underlying34 (by kernel_rfl) (z := .int .i64 0) rfl) rfl ?_
        have hBle : B ≤ wi.heap.size := by omega
        change EL _ _ _ _ _ _ (wi.alloc (.cells #[.int .i64 (i : Int)] 3))
        have hN6 := heap_alloc_new wi (.cells #[.int .i64 (i : Int)] 3)
        have hO6 : ∀ zz, zz < wi.heap.size → (wi.alloc (.cells #[.int .i64 (i : Int)] 3)).heap[zz]? = wi.heap[zz]? := fun _ hi => Below.heap_alloc _ _ _ hi
        have hZ6 := size_alloc wi (.cells #[.int .i64 (i : Int)] 3)
        have hB6 := (Below.refl B wi).alloc (by omega) (.cells #[.int .i64 (i : Int)] 3)
        have hK6 := Keep.alloc wi (.cells #[.int .i64 (i : Int)] 3)
        generalize wi.alloc (.cells #[.int .i64 (i : Int)] 3) = w6 at hN6 hO6 hZ6 hB6 hK6 ⊢
        have hR6 := hR.stay (w' := w6) fun k _ hk => hO6 k hk
        have hlen : (predsTo f i k y.toNat).length ≤ 64 := by
          have := predsTo_len' f sh i k y.toNat hlt
          omega
        refine EL_append1 (hR6.row y.toNat hyl) (cell_block hN6 rfl) rfl (by omega) (by decide) (by omega) Try.underlying34 info3 rfl rfl rfl rfl ?_
        intro v7 w7 hrow7 hgr7 hwh7
        have hlow := ownsRow_lt (hR6.row y.toNat hyl)
        have hS7 : w7.heap[G]? = some (.cells (cellsOf R f.blks.length) 34 (0, 0)) := by
          rw [hgr7.block G (by omega) (fun e => by have := hlow G e.symm; omega), hO6 G (by omega)]; exact hS
        refine EL_v (x_indexZ1 rfl rfl hyy (tab_sl rfl) hyl) rfl ?_
        refine EL_s (x_store rfl rfl (ownsRow_one hrow7) (tab_size1 rfl) (cell_block hS7 (by rw [Nat.zero_add]; exact cellsOf_get _ hyl)) (free_block hS7)) rfl ?_
        refine EL_nil ?_
        refine blockQ_normal ?_
        refine thenQ_normal ?_
        have hS8 := heap_setCell_same (o := 0 + y.toNat) (u := v7) hS7
        rw [cellsOf_set] at hS8
        have hR8 := hR6.push hyl (g := G) (o := 0 + y.toNat) (x := i) (by omega) hrow7 hgr7 hwh7
        rw [hstep2] at hR8
        have hb8 : Below B w (w7.setCell ⟨G, 0 + y.toNat, none⟩ v7) := ((hb.trans hB6).grown hgr7 (by omega) (fun j e => by have := hlow j e; omega)).setCell (by show B ≤ G; omega) _
        refine EC_region ?_
        refine EL_v (x_inc rfl rfl (by omega)) rfl ?_
        refine EL_v x_move rfl ?_
        refine EL_nil ?_
        exact loopQ_next ((f.b i).succs.length - (k + 1)) (by omega) ⟨k + 1, _, by omega, at_of rfl ⟨rfl, rfl, rfl, rfl, rfl, rfl, rfl, rfl, rfl, trivial⟩, by rw [Nat.zero_add] at hS8 ⊢; exact hS8, hR8, by rw [size_setCell]; have := hgr7.size; omega, hb8, rfl⟩
      · have hk : k = (f.b i).succs.length := by omega
        subst hk
        refine EC_exit ?_
        refine thenQ_exit ?_
        refine loopQ_exit ?_
        refine blockQ_hit ?_
        refine blockQ_normal ?_
        refine thenQ_normal ?_
        rw [predsTo_next] at hR
        refine EC_region ?_
        refine EL_v (x_inc rfl rfl (by omega)) rfl ?_
        refine EL_v x_move rfl ?_
        refine EL_nil ?_
        exact loopQ_next (f.blks.length - (i + 1)) (by omega) ⟨i + 1, R, by omega, at_of rfl ⟨rfl, rfl, rfl, rfl, rfl, trivial⟩, hS, hR, hsz, hb, rfl⟩
    · have hi : i = f.blks.length := by omega
      subst hi
      refine EC_exit ?_
      refine thenQ_exit ?_
      refine loopQ_exit ?_
      refine blockQ_hit ?_
      exact onlyN_in ⟨R, at_of rfl ⟨rfl, trivial⟩, hS, hR, hb⟩
  rintro e wr ⟨R, ⟨t, rfl⟩, hS, hR, hb⟩
  refine EC_seq ?_
  refine EC_region ?_
  refine EL_v x_move rfl ?_
  refine EL_v x_assign rfl ?_
  refine EL_nil ?_
  refine thenQ_normal ?_
  refine EC_ret ?_
  refine post_tmp rfl rfl rfl ⟨G, R, rfl, hS, fun b hbn => ?_, by rw [hb1, ← hBd]; exact hb⟩
  have h1 := hR.row b hbn
  have h2 : predsTo f f.blks.length 0 b = predsOf f b := by simp [predsTo, predsOf]
  rw [h2] at h1
  exact ints_of_row (l := nats (predsOf f b)) (by simpa [nats] using h1)
end Go.Proofs.Yteepnepebilckaa
