/- Walk: data. -/
import Derived.Test.YteepnepebilckaaT2
import Derived.Test.YteepnepebilckaaQ1
import Derived.Test.YteepnepebilckaaW5
import Derived.Test.YteepnepebilckaaW4
namespace Go.Proofs.Yteepnepebilckaa
open Go Go.Eng Go.RowKit
set_option maxHeartbeats 4000000
attribute [local irreducible] EC EL DL Ret thenQ blockQ loopQ bodyQ onlyN execOp Sem.run World.cell? World.frozen? World.setCell World.alloc

def ctl (l : List Nat) : Int := match l with | [] => -1 | c :: _ => (c : Int)
def nats (l : List Nat) : List Int := l.map fun a => ((a : Nat) : Int)
def gv (g : Gph) (i : Nat) : Vl := ⟨g.op i, (g.blk i : Int), nats (g.args i), g.aux i⟩
def gb (g : Gph) (i : Nat) : Bk := ⟨g.kind i, ctl (g.ctrl i), nats (g.succs i), g.likely i⟩
/-- The function that a graph is. -/
def toF (g : Gph) : Fn := ⟨(List.range g.nv).map (gv g), (List.range g.nb).map (gb g)⟩

structure GOk (g : Gph) : Prop where
  nb : g.nb ≤ 9
  nv : g.nv ≤ 48
  blk : ∀ i, i < g.nv → g.blk i < g.nb
  args : ∀ i, i < g.nv → (g.args i).length ≤ 64 ∧ ∀ a ∈ g.args i, a < g.nv
  succs : ∀ i, i < g.nb → (g.succs i).length ≤ 2 ∧ ∀ a ∈ g.succs i, a < g.nb
  ctrl : ∀ i, i < g.nb → ∀ a ∈ g.ctrl i, a < g.nv
  likely : ∀ i, i < g.nb → -1 ≤ g.likely i ∧ g.likely i ≤ 1

theorem nats_take {l : List Nat} {k : Nat} (hk : k < l.length) : nats (l.take k) ++ [((l.getD k 0 : Nat) : Int)] = nats (l.take (k + 1)) := by
  unfold nats
  rw [List.take_succ_eq_append_getElem hk, List.map_append, List.getD_eq_getElem?_getD, List.getElem?_eq_getElem hk]; rfl
theorem getD_mem {l : List Nat} {k : Nat} (hk : k < l.length) : l.getD k 0 ∈ l := by
  rw [List.getD_eq_getElem?_getD, List.getElem?_eq_getElem hk]; simp

/-- data. -/
theorem data_ret {w : World} {B0 : Nat} {L : Lay} {g : Gph} (h : GRep w B0 L g) (ok : GOk g) :
    Ret Try.prog 37 #[L.fp] w fun v w' => Own w.heap.size w' v (toF g) ∧ Below w.heap.size w w' := by
  refine ret_of_EC Try.func37 rfl rfl ?_
  have oknb := ok.nb
  have oknv := ok.nv
  obtain ⟨B, hBd⟩ : ∃ B, B = w.heap.size := ⟨_, rfl⟩
  refine EC_seq ?_
  refine EC_region ?_
  refine EL_v (x_alloc zero_fn_a) rfl ?_
  change EL _ _ _ _ _ _ (w.alloc (.cells #[nilS, nilS] 58))
  have hN2 := heap_alloc_new w (.cells #[nilS, nilS] 58)
  have hO2 : ∀ zz, zz < w.heap.size → (w.alloc (.cells #[nilS, nilS] 58)).heap[zz]? = w.heap[zz]? := fun _ hi => Below.heap_alloc _ _ _ hi
  have hZ2 := size_alloc w (.cells #[nilS, nilS] 58)
  have hB2 := (Below.refl B w).alloc (by omega) (.cells #[nilS, nilS] 58)
  have hK2 := Keep.alloc w (.cells #[nilS, nilS] 58)
  generalize w.alloc (.cells #[nilS, nilS] 58) = wb at hN2 hO2 hZ2 hB2 hK2 ⊢
  refine EL_nil ?_
  refine thenQ_normal ?_
  refine EC_seq ?_
  refine EC_region ?_
  refine EL_v (x_alloc zero_fn_a) rfl ?_
  change EL _ _ _ _ _ _ (wb.alloc (.cells #[nilS, nilS] 58))
  have hN3 := heap_alloc_new wb (.cells #[nilS, nilS] 58)
  have hO3 : ∀ zz, zz < wb.heap.size → (wb.alloc (.cells #[nilS, nilS] 58)).heap[zz]? = wb.heap[zz]? := fun _ hi => Below.heap_alloc _ _ _ hi
  have hZ3 := size_alloc wb (.cells #[nilS, nilS] 58)
  have hB3 := (Below.refl B wb).alloc (by omega) (.cells #[nilS, nilS] 58)
  have hK3 := Keep.alloc wb (.cells #[nilS, nilS] 58)
  generalize wb.alloc (.cells #[nilS, nilS] 58) = W0 at hN3 hO3 hZ3 hB3 hK3 ⊢
  refine EL_nil ?_
  refine thenQ_normal ?_
  have hC0 : W0.heap[w.heap.size]? = some (.cells #[nilS, nilS] 58 (0, 0)) := (hO3 _ (by omega)).trans hN2
  have hbel0 : Below B w W0 := hB2.trans hB3
  obtain ⟨C, hCe⟩ : ∃ C, C = w.heap.size := ⟨_, rfl⟩
  obtain ⟨X, hXe⟩ : ∃ X, X = wb.heap.size := ⟨_, rfl⟩
  rw [← hCe] at hC0
  have hX0 : W0.heap[X]? = some (.cells #[nilS, nilS] 58 (0, 0)) := by rw [hXe]; exact hN3
  obtain ⟨S0, hS0⟩ : ∃ S0, S0 = W0.heap.size := ⟨_, rfl⟩
  have hG : ∀ {wr : World}, Below B w wr → GRep wr B0 L g := fun hb => h.keep fun k hk => hb.block k (by omega)
  obtain ⟨a, cap, ha⟩ := h.fvaluesV
  obtain ⟨a2, cap2, ha2⟩ := h.fblocksV
  -- the values
  refine EC_seq_cut (fun e wr => ∃ R, At e [(0, .pointer (some ⟨L.fb, 0, none⟩)), (2, .pointer (some ⟨C, 0, none⟩)), (3, .pointer (some ⟨X, 0, none⟩))] ∧ QRow wr S0 66 B X C R (((List.range g.nv).map (gv g)).map vq) ∧ wr.heap[X]? = some (.cells #[R, nilS] 58 (0, 0)) ∧ (∀ j, j < S0 → j ≠ X → wr.heap[j]? = W0.heap[j]?) ∧ S0 ≤ wr.heap.size ∧ Below B w wr) ?_ ?_
  · have g1 : W0.cell? ⟨L.fb, 0 + 2, none⟩ = some (.slice a g.nv cap) := by rw [← ha]; exact (hG hbel0).fValues
    rw [← hCe, ← hXe]
    refine EC_seq ?_
    refine EC_region ?_
    refine EL_v x_move rfl ?_
    refine EL_v (x_nil rfl) rfl ?_
    refine EL_v (x_field rfl (tab_fld rfl)) rfl ?_
    refine EL_v (x_load rfl (tab_one rfl) (by with_reducible assumption)) rfl ?_
    refine EL_v (x_len rfl (tab_sl rfl)) rfl ?_
    refine EL_v x_move rfl ?_
    refine EL_nil ?_
    refine thenQ_normal ?_
    refine EC_block ?_
    refine EC_loop (fun n e wr => ∃ (i : Nat) (R : Value), i ≤ g.nv ∧ At e [(0, .pointer (some ⟨L.fb, 0, none⟩)), (2, .pointer (some ⟨C, 0, none⟩)), (3, .pointer (some ⟨X, 0, none⟩)), (17, .slice a g.nv cap), (18, .int .i64 (g.nv : Int)), (19, .int .i64 (i : Int))] ∧ QRow wr S0 66 B X C R (((List.range i).map (gv g)).map vq) ∧ wr.heap[X]? = some (.cells #[R, nilS] 58 (0, 0)) ∧ (∀ j, j < S0 → j ≠ X → wr.heap[j]? = W0.heap[j]?) ∧ S0 ≤ wr.heap.size ∧ Below B w wr ∧ n = g.nv - i) g.nv
      ⟨0, nilS, Nat.zero_le _, at_of rfl ⟨rfl, rfl, rfl, rfl, rfl, rfl, trivial⟩, QRow.nil W0 S0 _ B X C (by omega), hX0, fun _ _ _ => rfl, Nat.le_of_eq hS0, hbel0, rfl⟩ ?_
    rintro n e wr ⟨i, R, hi, ⟨t, rfl⟩, hQ, hXr, hst, hsz, hb, rfl⟩
    refine EC_seq ?_
    refine EC_region ?_
    refine EL_v (x_lss rfl rfl) rfl ?_
    refine EL_nil ?_
    refine thenQ_normal ?_
    refine EC_seq ?_
    refine EC_if rfl rfl (fun hlt => ?_) (fun hge => ?_)
    · have hlt : i < g.nv := by omega
      have hGr := hG hb
      obtain ⟨bv, cap', e1, _, hei, _⟩ := hGr.fvaluesE (k := i) hlt
      rw [ha] at e1
      injection e1 with e1 e2 e3
      subst e1
      have hbi := ok.blk i hlt
      refine EC_skip ?_
      refine thenQ_normal ?_
      refine EC_seq ?_
      refine EC_block ?_
      refine EC_seq ?_
      refine EC_region ?_
      refine EL_v (x_index1 rfl rfl (tab_sl rfl) (by omega)) rfl ?_
      refine EL_v (x_load rfl (tab_one rfl) (by with_reducible assumption)) rfl ?_
      refine EL_v x_assign rfl ?_
      refine EL_nil ?_
      refine thenQ_normal ?_
      refine EC_seq ?_
      have hD := hGr.drew
      have f1 := hD.vOp (i := i) hlt
      have f2 := hD.vBlk (i := i) hlt
      have f3 := hD.bID (i := g.blk i) hbi
      have f4 := hD.vAux (i := i) hlt
      have hc0 : Cells [(⟨L.vb i, 0 + 1, none⟩, .int .i64 (g.op i)), (⟨L.vb i, 0 + 6, none⟩, L.bp (g.blk i)), (⟨L.bb (g.blk i), 0 + 0, none⟩, .int .i32 ((g.blk i : Int) + 1)), (⟨L.vb i, 0 + 3, none⟩, .int .i64 (g.aux i))] wr.drew := .cons f1 (.cons f2 (.cons f3 (.cons f4 (.nil _))))
      refine EC_draw mixed (Cells [(⟨L.vb i, 0 + 1, none⟩, .int .i64 (g.op i)), (⟨L.vb i, 0 + 6, none⟩, L.bp (g.blk i)), (⟨L.bb (g.blk i), 0 + 0, none⟩, .int .i32 ((g.blk i : Int) + 1)), (⟨L.vb i, 0 + 3, none⟩, .int .i64 (g.aux i))]) [(0, false), (1, false), (2, false), (3, false), (4, false), (5, false), (6, false), (7, false), (8, false), (9, false), (10, false), (11, false), (12, false), (13, false), (14, false), (15, false), (16, false), (17, false), (18, true), (19, true)] (by kernel_rfl) hc0 ?_
      have hQ := hQ.stay (w' := wr.drew) (fun _ _ _ _ _ => rfl) (Nat.le_refl _)
      have hXr : wr.drew.heap[X]? = some (.cells #[R, nilS] 58 (0, 0)) := hXr
      have hst : ∀ j, j < S0 → j ≠ X → wr.drew.heap[j]? = W0.heap[j]? := hst
      have hb := hb.drew
      have hsz : S0 ≤ wr.drew.heap.size := hsz
      generalize wr.drew = Wd at hc0 hQ hXr hst hb hsz ⊢
      refine DL_v rfl (fun _ _ => x_move) ?_
      refine DL_v rfl (fun _ _ => x_nil rfl) ?_
      refine DL_v rfl (fun _ _ => x_field rfl (tab_fld rfl)) ?_
      refine DL_v rfl (fun _ hS => x_load rfl (tab_one rfl) (hS.get (by first | exact .head _ | exact .tail _ (.head _) | exact .tail _ (.tail _ (.head _)) | exact .tail _ (.tail _ (.tail _ (.head _))) | exact .tail _ (.tail _ (.tail _ (.tail _ (.head _)))) | exact .tail _ (.tail _ (.tail _ (.tail _ (.tail _ (.head _))))) | exact .tail _ (.tail _ (.tail _ (.tail _ (.tail _ (.tail _ (.head _)))))) | exact .tail _ (.tail _ (.tail _ (.tail _ (.tail _ (.tail _ (.tail _ (.head _)))))))))) ?_
      refine DL_v rfl (fun _ _ => x_move) ?_
      refine DL_v rfl (fun _ _ => x_nil rfl) ?_
      refine DL_v rfl (fun _ _ => x_field rfl (tab_fld rfl)) ?_
      refine DL_v rfl (fun _ hS => x_load rfl (tab_one rfl) (hS.get (by first | exact .head _ | exact .tail _ (.head _) | exact .tail _ (.tail _ (.head _)) | exact .tail _ (.tail _ (.tail _ (.head _))) | exact .tail _ (.tail _ (.tail _ (.tail _ (.head _)))) | exact .tail _ (.tail _ (.tail _ (.tail _ (.tail _ (.head _))))) | exact .tail _ (.tail _ (.tail _ (.tail _ (.tail _ (.tail _ (.head _)))))) | exact .tail _ (.tail _ (.tail _ (.tail _ (.tail _ (.tail _ (.tail _ (.head _)))))))))) ?_
      refine DL_v rfl (fun _ _ => x_nil rfl) ?_
      refine DL_v rfl (fun _ _ => x_field rfl (tab_fld rfl)) ?_
      refine DL_v rfl (fun _ hS => x_load rfl (tab_one rfl) (hS.get (by first | exact .head _ | exact .tail _ (.head _) | exact .tail _ (.tail _ (.head _)) | exact .tail _ (.tail _ (.tail _ (.head _))) | exact .tail _ (.tail _ (.tail _ (.tail _ (.head _)))) | exact .tail _ (.tail _ (.tail _ (.tail _ (.tail _ (.head _))))) | exact .tail _ (.tail _ (.tail _ (.tail _ (.tail _ (.tail _ (.head _)))))) | exact .tail _ (.tail _ (.tail _ (.tail _ (.tail _ (.tail _ (.tail _ (.head _)))))))))) ?_
      refine DL_v rfl (fun _ _ => x_conv (m := (g.blk i : Int) + 1) rfl (by kernel_rfl) (tab_int rfl) (IntWalk.i64_in _ (by omega))) ?_
      refine DL_v rfl (fun _ _ => x_sub (c := (g.blk i : Int)) rfl rfl (by rw [IntWalk.i64_in _ (by omega)]; omega)) ?_
      refine DL_v rfl (fun _ _ => x_move) ?_
      refine DL_v rfl (fun _ _ => x_nil rfl) ?_
      refine DL_v rfl (fun _ _ => x_field rfl (tab_fld rfl)) ?_
      refine DL_v rfl (fun _ hS => x_load rfl (tab_one rfl) (hS.get (by first | exact .head _ | exact .tail _ (.head _) | exact .tail _ (.tail _ (.head _)) | exact .tail _ (.tail _ (.tail _ (.head _))) | exact .tail _ (.tail _ (.tail _ (.tail _ (.head _)))) | exact .tail _ (.tail _ (.tail _ (.tail _ (.tail _ (.head _))))) | exact .tail _ (.tail _ (.tail _ (.tail _ (.tail _ (.tail _ (.head _)))))) | exact .tail _ (.tail _ (.tail _ (.tail _ (.tail _ (.tail _ (.tail _ (.head _)))))))))) ?_
      refine DL_v rfl (fun _ _ => bld3_av rfl rfl rfl) ?_
      refine DL_wv rfl (x_alloc zero_av) (.inr (hc0.alloc _)) ?_
      refine DL_ws rfl (x_storeNew rfl rfl (tab_sizeN rfl) rfl rfl) (.inl rfl) ?_
      refine DL_nil ?_
      refine thenQ_normal ?_
      have hBle : B ≤ Wd.heap.size := by have := hb.size; omega
      change EC _ _ _ _ _ (Wd.alloc (.cells #[.int .i64 (g.op i), .int .i64 (g.blk i : Int), nilS, .int .i64 (g.aux i)] 66))
      have hN1 := heap_alloc_new Wd (.cells #[.int .i64 (g.op i), .int .i64 (g.blk i : Int), nilS, .int .i64 (g.aux i)] 66)
      have hO1 : ∀ zz, zz < Wd.heap.size → (Wd.alloc (.cells #[.int .i64 (g.op i), .int .i64 (g.blk i : Int), nilS, .int .i64 (g.aux i)] 66)).heap[zz]? = Wd.heap[zz]? := fun _ hi => Below.heap_alloc _ _ _ hi
      have hZ1 := size_alloc Wd (.cells #[.int .i64 (g.op i), .int .i64 (g.blk i : Int), nilS, .int .i64 (g.aux i)] 66)
      have hB1 := (Below.refl B Wd).alloc (by omega) (.cells #[.int .i64 (g.op i), .int .i64 (g.blk i : Int), nilS, .int .i64 (g.aux i)] 66)
      have hK1 := Keep.alloc Wd (.cells #[.int .i64 (g.op i), .int .i64 (g.blk i : Int), nilS, .int .i64 (g.aux i)] 66)
      generalize Wd.alloc (.cells #[.int .i64 (g.op i), .int .i64 (g.blk i : Int), nilS, .int .i64 (g.aux i)] 66) = W at hN1 hO1 hZ1 hB1 hK1 ⊢
      have hbW : Below B w W := hb.trans hB1
      have hQW := hQ.stay (w' := W) (fun j hj _ _ _ => hO1 j hj) (by omega)
      have hXlt : X < Wd.heap.size := (Array.getElem?_eq_some_iff.1 hXr).1
      have hClt : C < Wd.heap.size := by have := (Array.getElem?_eq_some_iff.1 hC0).1; omega
      have hXW : W.heap[X]? = some (.cells #[R, nilS] 58 (0, 0)) := (hO1 X hXlt).trans hXr
      have hstW : ∀ j, j < S0 → j ≠ X → W.heap[j]? = W0.heap[j]? := fun j hj hne => (hO1 j (by omega)).trans (hst j hj hne)
      obtain ⟨V, hV⟩ : ∃ V, V = Wd.heap.size := ⟨_, rfl⟩
      rw [← hV] at hN1 ⊢
      obtain ⟨S1, hS1⟩ : ∃ S1, S1 = W.heap.size := ⟨_, rfl⟩
      obtain ⟨hal, ham⟩ := ok.args i hlt
      have hown : ∀ j, R.ownBlock = some j → S0 ≤ j ∧ j < Wd.heap.size := by
        obtain ⟨_, _, _, ss, hss, hrow, _⟩ := hQ
        exact ownsRow_lt hrow
      obtain ⟨aa, capa, haa⟩ := h.argsV (i := i) hlt
      -- its arguments
      refine EC_seq_cut (fun e wi => ∃ s, At e [(0, .pointer (some ⟨L.fb, 0, none⟩)), (2, .pointer (some ⟨C, 0, none⟩)), (3, .pointer (some ⟨X, 0, none⟩)), (17, .slice (some ⟨bv, 0, none⟩) g.nv cap), (18, .int .i64 (g.nv : Int)), (19, .int .i64 (i : Int)), (6, .pointer (some ⟨V, 0, none⟩))] ∧ wi.ownsRow S1 3 1 s (g.args i).length ((nats (g.args i)).map (.int .i64)) ∧ wi.heap[V]? = some (.cells #[.int .i64 (g.op i), .int .i64 (g.blk i : Int), s, .int .i64 (g.aux i)] 66 (0, 0)) ∧ (∀ j, j < S1 → j ≠ V → wi.heap[j]? = W.heap[j]?) ∧ S1 ≤ wi.heap.size ∧ Below B w wi) ?_ ?_
      · have g2 : W.cell? ⟨L.vb i, 0 + 5, none⟩ = some (.slice aa (g.args i).length capa) := by rw [← haa]; exact (hG hbW).vArgs hlt
        refine EC_seq ?_
        refine EC_region ?_
        refine EL_v x_move rfl ?_
        refine EL_v (x_nil rfl) rfl ?_
        refine EL_v (x_field rfl (tab_fld rfl)) rfl ?_
        refine EL_v (x_load rfl (tab_one rfl) (by with_reducible assumption)) rfl ?_
        refine EL_v (x_len rfl (tab_sl rfl)) rfl ?_
        refine EL_v x_move rfl ?_
        refine EL_nil ?_
        refine thenQ_normal ?_
        refine EC_block ?_
        refine EC_loop (fun n e wi => ∃ (k : Nat) (s : Value), k ≤ (g.args i).length ∧ At e [(0, .pointer (some ⟨L.fb, 0, none⟩)), (2, .pointer (some ⟨C, 0, none⟩)), (3, .pointer (some ⟨X, 0, none⟩)), (17, .slice (some ⟨bv, 0, none⟩) g.nv cap), (18, .int .i64 (g.nv : Int)), (19, .int .i64 (i : Int)), (6, .pointer (some ⟨V, 0, none⟩)), (44, .slice aa (g.args i).length capa), (45, .int .i64 ((g.args i).length : Int)), (46, .int .i64 (k : Int))] ∧ wi.ownsRow S1 3 1 s k ((nats ((g.args i).take k)).map (.int .i64)) ∧ wi.heap[V]? = some (.cells #[.int .i64 (g.op i), .int .i64 (g.blk i : Int), s, .int .i64 (g.aux i)] 66 (0, 0)) ∧ (∀ j, j < S1 → j ≠ V → wi.heap[j]? = W.heap[j]?) ∧ S1 ≤ wi.heap.size ∧ Below B w wi ∧ n = (g.args i).length - k) (g.args i).length
          ⟨0, nilS, Nat.zero_le _, at_of rfl ⟨rfl, rfl, rfl, rfl, rfl, rfl, rfl, rfl, rfl, rfl, trivial⟩, World.ownsRow_nil _ _ _ _, hN1, fun _ _ _ => rfl, Nat.le_of_eq hS1, hbW, rfl⟩ ?_
        rintro n e wi ⟨k, s, hk, ⟨t, rfl⟩, hrow, hVr, hsti, hszi, hbi', rfl⟩
        refine EC_seq ?_
        refine EC_region ?_
        refine EL_v (x_lss rfl rfl) rfl ?_
        refine EL_nil ?_
        refine thenQ_normal ?_
        refine EC_seq ?_
        refine EC_if rfl rfl (fun hlk => ?_) (fun hge => ?_)
        · have hlk : k < (g.args i).length := by omega
          have hGi := hG hbi'
          obtain ⟨ba, capa', e4, _, hea, _⟩ := hGi.argsE (i := i) (k := k) hlt hlk
          rw [haa] at e4
          injection e4 with e4 e5 e6
          subst e4
          have hx := ham _ (getD_mem hlk)
          have htk := nats_take hlk
          generalize (g.args i).getD k 0 = x at hea hx htk
          refine EC_skip ?_
          refine thenQ_normal ?_
          refine EC_seq ?_
          refine EC_block ?_
          refine EC_seq ?_
          refine EC_region ?_
          refine EL_v (x_index1 rfl rfl (tab_sl rfl) (by omega)) rfl ?_
          refine EL_v (x_load rfl (tab_one rfl) (by with_reducible assumption)) rfl ?_
          refine EL_v x_assign rfl ?_
          refine EL_nil ?_
          refine thenQ_normal ?_
          have hD := hGi.drew
          have f1 := hD.vID (i := x) hx
          have f0 : wi.drew.cell? ⟨V, 0 + 2, none⟩ = some s := cell_block (w := wi.drew) hVr rfl
          have hc0 : Cells [(⟨V, 0 + 2, none⟩, s), (⟨L.vb x, 0 + 0, none⟩, .int .i32 ((x : Int) + 1))] wi.drew := .cons f0 (.cons f1 (.nil _))
          refine EC_draw mixed (Cells [(⟨V, 0 + 2, none⟩, s), (⟨L.vb x, 0 + 0, none⟩, .int .i32 ((x : Int) + 1))]) [(0, false), (1, false), (2, false), (3, false), (4, false), (5, false), (6, false), (7, false), (8, true), (9, true), (10, false), (11, true)] (by kernel_rfl) hc0 ?_
          have hrow : wi.drew.ownsRow S1 3 1 s k ((nats ((g.args i).take k)).map (.int .i64)) := hrow
          have hVr : wi.drew.heap[V]? = some (.cells #[.int .i64 (g.op i), .int .i64 (g.blk i : Int), s, .int .i64 (g.aux i)] 66 (0, 0)) := hVr
          have hsti : ∀ j, j < S1 → j ≠ V → wi.drew.heap[j]? = W.heap[j]? := hsti
          have hszi : S1 ≤ wi.drew.heap.size := hszi
          have hbi' := hbi'.drew
          generalize wi.drew = We at hc0 hrow hVr hsti hszi hbi' ⊢
          have hBle : B ≤ We.heap.size := by omega
          have hlow := ownsRow_lt hrow
          have hVx : L.vb x ≠ V := by have := h.valLt hx; omega
          refine DL_v rfl (fun _ _ => x_field rfl (tab_fld rfl)) ?_
          refine DL_v rfl (fun _ hS => x_load rfl (tab_one rfl) (hS.get (by first | exact .head _ | exact .tail _ (.head _) | exact .tail _ (.tail _ (.head _)) | exact .tail _ (.tail _ (.tail _ (.head _))) | exact .tail _ (.tail _ (.tail _ (.tail _ (.head _)))) | exact .tail _ (.tail _ (.tail _ (.tail _ (.tail _ (.head _))))) | exact .tail _ (.tail _ (.tail _ (.tail _ (.tail _ (.tail _ (.head _)))))) | exact .tail _ (.tail _ (.tail _ (.tail _ (.tail _ (.tail _ (.tail _ (.head _)))))))))) ?_
          refine DL_v rfl (fun _ _ => x_move) ?_
          refine DL_v rfl (fun _ _ => x_nil rfl) ?_
          refine DL_v rfl (fun _ _ => x_field rfl (tab_fld rfl)) ?_
          refine DL_v rfl (fun _ hS => x_load rfl (tab_one rfl) (hS.get (by first | exact .head _ | exact .tail _ (.head _) | exact .tail _ (.tail _ (.head _)) | exact .tail _ (.tail _ (.tail _ (.head _))) | exact .tail _ (.tail _ (.tail _ (.tail _ (.head _)))) | exact .tail _ (.tail _ (.tail _ (.tail _ (.tail _ (.head _))))) | exact .tail _ (.tail _ (.tail _ (.tail _ (.tail _ (.tail _ (.head _)))))) | exact .tail _ (.tail _ (.tail _ (.tail _ (.tail _ (.tail _ (.tail _ (.head _)))))))))) ?_
          refine DL_v rfl (fun _ _ => x_conv (m := (x : Int) + 1) rfl (by kernel_rfl) (tab_int rfl) (IntWalk.i64_in _ (by omega))) ?_
          refine DL_v rfl (fun _ _ => x_sub (c := (x : Int)) rfl rfl (by rw [IntWalk.i64_in _ (by omega)]; omega)) ?_
          refine DL_wv rfl (x_bslice1 rfl rfl Try.underlying34 (by kernel_rfl) (z := .int .i64 0) rfl) (.inr (hc0.alloc _)) ?_
          change DL _ _ _ _ _ _ (We.alloc (.cells #[.int .i64 (x : Int)] 3))
          have hN6 := heap_alloc_new We (.cells #[.int .i64 (x : Int)] 3)
          have hO6 : ∀ zz, zz < We.heap.size → (We.alloc (.cells #[.int .i64 (x : Int)] 3)).heap[zz]? = We.heap[zz]? := fun _ hi => Below.heap_alloc _ _ _ hi
          have hZ6 := size_alloc We (.cells #[.int .i64 (x : Int)] 3)
          have hB6 := (Below.refl B We).alloc (by omega) (.cells #[.int .i64 (x : Int)] 3)
          have hK6 := Keep.alloc We (.cells #[.int .i64 (x : Int)] 3)
          generalize We.alloc (.cells #[.int .i64 (x : Int)] 3) = W6 at hN6 hO6 hZ6 hB6 hK6 ⊢
          have hc6 := hK6.cells hc0
          have hrow6 := ownsRow_congr hrow (w' := W6) fun j e => hO6 j (hlow j e).2
          refine DL_append1 hrow6 (cell_block hN6 rfl) rfl (by omega) (by decide) (by omega) rfl Try.underlying34 info3 rfl rfl rfl ?_
          intro v7 W7 hrow7 hgr7 hwh7
          have hsV : s.ownBlock ≠ some V := fun e => by have := hlow _ e; omega
          have hc7 := hc6.grown hgr7 (by
            intro y hy
            simp only [List.mem_cons, List.not_mem_nil, or_false] at hy
            rcases hy with rfl | rfl
            · exact fun e => hsV e.symm
            · exact fun e => by have := hlow (L.vb x) e.symm; have := h.valLt hx; omega)
          refine ⟨.inr hc7, ?_⟩
          refine DL_v rfl (fun _ _ => x_field rfl (tab_fld rfl)) ?_
          have hV7 : W7.heap[V]? = some (.cells #[.int .i64 (g.op i), .int .i64 (g.blk i : Int), s, .int .i64 (g.aux i)] 66 (0, 0)) := by
            rw [hgr7.block V (by omega) (fun e => hsV e.symm), hO6 V (by omega)]; exact hVr
          refine DL_ws rfl (x_store rfl rfl (ownsRow_one hrow7) (tab_size1 rfl) (cell_block hV7 rfl) (free_block hV7)) (.inl rfl) ?_
          refine DL_nil ?_
          refine blockQ_normal ?_
          refine thenQ_normal ?_
          have hrow8 : (W7.setCell ⟨V, 0 + 2, none⟩ v7).ownsRow S1 3 1 v7 (k + 1) ((nats ((g.args i).take (k + 1))).map (.int .i64)) := by
            rw [← htk, List.map_append]
            refine ownsRow_congr hrow7 fun j e => Below.heap_setCell _ _ _ _ (fun e2 => ?_)
            have e2 : j = V := e2
            rcases hwh7 with e3 | e3
            · rw [e3] at e; exact hsV (e2 ▸ e)
            · rw [e3] at e; have := Option.some.inj e; omega
          have hV8 : (W7.setCell ⟨V, 0 + 2, none⟩ v7).heap[V]? = some (.cells #[.int .i64 (g.op i), .int .i64 (g.blk i : Int), v7, .int .i64 (g.aux i)] 66 (0, 0)) := heap_setCell_same (o := 0 + 2) (u := v7) hV7
          have hst8 : ∀ j, j < S1 → j ≠ V → (W7.setCell ⟨V, 0 + 2, none⟩ v7).heap[j]? = W.heap[j]? := fun j hj hne => by
            rw [Below.heap_setCell _ _ _ _ hne, hgr7.block j (by omega) (fun e => by have := hlow _ e.symm; omega), hO6 j (by omega)]
            exact hsti j hj hne
          have hsz8 : S1 ≤ (W7.setCell ⟨V, 0 + 2, none⟩ v7).heap.size := by rw [size_setCell]; have := hgr7.size; omega
          have hb8 : Below B w (W7.setCell ⟨V, 0 + 2, none⟩ v7) := ((hbi'.trans hB6).grown hgr7 (by omega) (fun j e => by have := hlow j e; omega)).setCell (by show B ≤ V; omega) v7
          refine EC_region ?_
          refine EL_v (x_inc rfl rfl (by omega)) rfl ?_
          refine EL_v x_move rfl ?_
          refine EL_nil ?_
          exact loopQ_next ((g.args i).length - (k + 1)) (by omega) ⟨k + 1, v7, by omega, at_of rfl ⟨rfl, rfl, rfl, rfl, rfl, rfl, rfl, rfl, rfl, rfl, trivial⟩, hrow8, hV8, hst8, hsz8, hb8, rfl⟩
        · have hk : k = (g.args i).length := by omega
          subst hk
          refine EC_exit ?_
          refine thenQ_exit ?_
          refine loopQ_exit ?_
          refine blockQ_hit ?_
          rw [List.take_length] at hrow
          exact onlyN_in ⟨s, at_of rfl ⟨rfl, rfl, rfl, rfl, rfl, rfl, rfl, trivial⟩, hrow, hVr, hsti, hszi, hbi'⟩
      rintro e W7 ⟨s, ⟨t, rfl⟩, hrowA, hV7, hst7, hsz7, hb7⟩
      have hownA := ownsRow_lt hrowA
      have hA : IntsV W7 s (nats (g.args i)) := ints_of_row (l := nats (g.args i)) (by simpa [nats] using hrowA)
      obtain ⟨pa, pc, rfl⟩ := row_slice hrowA
      have hX7 : W7.heap[X]? = some (.cells #[R, nilS] 58 (0, 0)) := (hst7 X (by omega) (by omega)).trans hXW
      have hQ7 := hQ.stay (w' := W7) (fun j hj _ _ _ => (hst7 j (by omega) (by omega)).trans (hO1 j (by omega))) (by omega)
      have hR7 : W7.cell? ⟨X, 0 + 0, none⟩ = some R := cell_block hX7 rfl
      have hlenA : (nats (g.args i)).length = (g.args i).length := by simp [nats]
      refine EC_region ?_
      refine EL_v (x_field rfl (tab_fld rfl)) rfl ?_
      refine EL_v (x_load rfl (tab_one rfl) (by with_reducible assumption)) rfl ?_
      refine EL_v (x_loadS rfl (tab_agg rfl) (cellsAt_block hV7)) rfl ?_
      refine EL_v (bsl_av rfl) rfl ?_
      have hBle : B ≤ W7.heap.size := by omega
      change EL _ _ _ _ _ _ (W7.alloc (.cells #[.int .i64 (g.op i), .int .i64 (g.blk i : Int), .slice pa (g.args i).length pc, .int .i64 (g.aux i)] 66))
      have hN8 := heap_alloc_new W7 (.cells #[.int .i64 (g.op i), .int .i64 (g.blk i : Int), .slice pa (g.args i).length pc, .int .i64 (g.aux i)] 66)
      have hO8 : ∀ zz, zz < W7.heap.size → (W7.alloc (.cells #[.int .i64 (g.op i), .int .i64 (g.blk i : Int), .slice pa (g.args i).length pc, .int .i64 (g.aux i)] 66)).heap[zz]? = W7.heap[zz]? := fun _ hi => Below.heap_alloc _ _ _ hi
      have hZ8 := size_alloc W7 (.cells #[.int .i64 (g.op i), .int .i64 (g.blk i : Int), .slice pa (g.args i).length pc, .int .i64 (g.aux i)] 66)
      have hB8 := (Below.refl B W7).alloc (by omega) (.cells #[.int .i64 (g.op i), .int .i64 (g.blk i : Int), .slice pa (g.args i).length pc, .int .i64 (g.aux i)] 66)
      have hK8 := Keep.alloc W7 (.cells #[.int .i64 (g.op i), .int .i64 (g.blk i : Int), .slice pa (g.args i).length pc, .int .i64 (g.aux i)] 66)
      generalize W7.alloc (.cells #[.int .i64 (g.op i), .int .i64 (g.blk i : Int), .slice pa (g.args i).length pc, .int .i64 (g.aux i)] 66) = W8 at hN8 hO8 hZ8 hB8 hK8 ⊢
      have hcell8 : ∀ j u, (q4 (vq (gv g i)) (.slice pa (g.args i).length pc))[j]? = some u → W8.cell? ((⟨W7.heap.size, 0, none⟩ : Addr).add j) = some u := fun j u hj => by
        rw [Addr.add_lit]
        exact cell_block hN8 (by simpa [q4, vq, gv] using hj)
      have hQ8 := hQ7.stay (w' := W8) (fun j hj _ _ _ => hO8 j hj) (by omega)
      have hst8 : ∀ j, j < S0 → j ≠ X → W8.heap[j]? = W0.heap[j]? := fun j hj hne => (hO8 j (by omega)).trans ((hst7 j (by omega) (by omega)).trans (hstW j hj hne))
      have hb8 : Below B w W8 := hb7.trans hB8
      have hLs : Loose W8 B X C R.ownBlock (.slice pa (g.args i).length pc) (vq (gv g i)).l :=
        ⟨hA.keep hK8, .inr fun j hj => by
          have h9 := hownA j hj
          exact ⟨by omega, by omega, by omega, by omega, fun e => by have := hown j e; omega⟩⟩
      have hXsz : X < W8.heap.size := by omega
      have hlen : (((List.range i).map (gv g)).map vq).length = i := by simp
      obtain ⟨hlo, hXR, hYR, ss, hss, hrow8, hloose⟩ := hQ8
      refine EL_append hrow8 hcell8 (by intro u hu; simp [q4] at hu; rcases hu with rfl | rfl | rfl | rfl <;> rfl) rfl (by rw [hlen]; omega) (by decide) (by omega) Try.underlying55 info66 rfl (by decide) rfl rfl rfl ?_
      intro v9 W9 hrow9 hgr9 hwh9
      have hX9' : W9.heap[X]? = some (.cells #[R, nilS] 58 (0, 0)) := by
        rw [hgr9.block X hXsz (fun e => hXR e.symm)]; exact (hO8 X (by omega)).trans hX7
      refine EL_v (x_field rfl (tab_fld rfl)) rfl ?_
      refine EL_s (x_store rfl rfl (ownsRow_one hrow9) (tab_size1 rfl) (cell_block hX9' rfl) (free_block hX9')) rfl ?_
      refine EL_nil ?_
      refine blockQ_normal ?_
      refine thenQ_normal ?_
      have htk : ((List.range (i + 1)).map (gv g)).map vq = ((List.range i).map (gv g)).map vq ++ [vq (gv g i)] := by
        rw [List.range_succ, List.map_append, List.map_append]; rfl
      have hQ9 := QRow.push (q := vq (gv g i)) (s := .slice pa (g.args i).length pc) hlo hXR hYR hss hloose hLs hrow9 hgr9 hwh9 hXsz (by omega) 0
      rw [← htk] at hQ9
      have hX9 : (W9.setCell ⟨X, 0 + 0, none⟩ v9).heap[X]? = some (.cells #[v9, nilS] 58 (0, 0)) := heap_setCell_same (o := 0 + 0) (u := v9) hX9'
      have hst9 : ∀ j, j < S0 → j ≠ X → (W9.setCell ⟨X, 0 + 0, none⟩ v9).heap[j]? = W0.heap[j]? := fun j hj hne => by
        rw [Below.heap_setCell _ _ _ _ hne, hgr9.block j (by omega) (fun e => by have := hown j e.symm; omega)]
        exact hst8 j hj hne
      have hb9 : Below B w (W9.setCell ⟨X, 0 + 0, none⟩ v9) := (hb8.grown hgr9 (by omega) (fun j e => by have := hown j e; omega)).setCell (by show B ≤ X; omega) v9
      have hsz9 : S0 ≤ (W9.setCell ⟨X, 0 + 0, none⟩ v9).heap.size := by
        rw [size_setCell]; have := hgr9.size; omega
      refine EC_region ?_
      refine EL_v (x_inc rfl rfl (by omega)) rfl ?_
      refine EL_v x_move rfl ?_
      refine EL_nil ?_
      exact loopQ_next (g.nv - (i + 1)) (by omega) ⟨i + 1, v9, by omega, at_of rfl ⟨rfl, rfl, rfl, rfl, rfl, rfl, trivial⟩, hQ9, hX9, hst9, hsz9, hb9, rfl⟩
    · have hi : i = g.nv := by omega
      subst hi
      refine EC_exit ?_
      refine thenQ_exit ?_
      refine loopQ_exit ?_
      refine blockQ_hit ?_
      exact onlyN_in ⟨R, at_of rfl ⟨rfl, rfl, rfl, trivial⟩, hQ, hXr, hst, hsz, hb⟩
  rintro e W1 ⟨R1, ⟨t, rfl⟩, hQ1, hX1, hst1, hsz1, hbel1⟩
  obtain ⟨S2, hS2⟩ : ∃ S2, S2 = W1.heap.size := ⟨_, rfl⟩
  have hC1 : W1.heap[C]? = some (.cells #[nilS, nilS] 58 (0, 0)) := (hst1 C (by omega) (by omega)).trans hC0
  -- the blocks
  refine EC_seq_cut (fun e wr => ∃ R, At e [(0, .pointer (some ⟨L.fb, 0, none⟩)), (2, .pointer (some ⟨C, 0, none⟩)), (3, .pointer (some ⟨X, 0, none⟩))] ∧ QRow wr S2 67 B X C R (((List.range g.nb).map (gb g)).map bq) ∧ wr.heap[X]? = some (.cells #[R1, R] 58 (0, 0)) ∧ (∀ j, j < S2 → j ≠ X → wr.heap[j]? = W1.heap[j]?) ∧ S2 ≤ wr.heap.size ∧ Below B w wr) ?_ ?_
  · have g1 : W1.cell? ⟨L.fb, 0 + 1, none⟩ = some (.slice a2 g.nb cap2) := by rw [← ha2]; exact (hG hbel1).fBlocks
    refine EC_seq ?_
    refine EC_region ?_
    refine EL_v x_move rfl ?_
    refine EL_v (x_nil rfl) rfl ?_
    refine EL_v (x_field rfl (tab_fld rfl)) rfl ?_
    refine EL_v (x_load rfl (tab_one rfl) (by with_reducible assumption)) rfl ?_
    refine EL_v (x_len rfl (tab_sl rfl)) rfl ?_
    refine EL_v x_move rfl ?_
    refine EL_nil ?_
    refine thenQ_normal ?_
    refine EC_block ?_
    refine EC_loop (fun n e wr => ∃ (i : Nat) (R : Value), i ≤ g.nb ∧ At e [(0, .pointer (some ⟨L.fb, 0, none⟩)), (2, .pointer (some ⟨C, 0, none⟩)), (3, .pointer (some ⟨X, 0, none⟩)), (72, .slice a2 g.nb cap2), (73, .int .i64 (g.nb : Int)), (74, .int .i64 (i : Int))] ∧ QRow wr S2 67 B X C R (((List.range i).map (gb g)).map bq) ∧ wr.heap[X]? = some (.cells #[R1, R] 58 (0, 0)) ∧ (∀ j, j < S2 → j ≠ X → wr.heap[j]? = W1.heap[j]?) ∧ S2 ≤ wr.heap.size ∧ Below B w wr ∧ n = g.nb - i) g.nb
      ⟨0, nilS, Nat.zero_le _, at_of rfl ⟨rfl, rfl, rfl, rfl, rfl, rfl, trivial⟩, QRow.nil W1 S2 _ B X C (by omega), hX1, fun _ _ _ => rfl, Nat.le_of_eq hS2, hbel1, rfl⟩ ?_
    rintro n e wr ⟨i, R, hi, ⟨t, rfl⟩, hQ, hXr, hst, hsz, hb, rfl⟩
    refine EC_seq ?_
    refine EC_region ?_
    refine EL_v (x_lss rfl rfl) rfl ?_
    refine EL_nil ?_
    refine thenQ_normal ?_
    refine EC_seq ?_
    refine EC_if rfl rfl (fun hlt => ?_) (fun hge => ?_)
    · have hlt : i < g.nb := by omega
      have hGr := hG hb
      obtain ⟨bv, cap', e1, _, hei, _⟩ := hGr.fblocksE (k := i) hlt
      rw [ha2] at e1
      injection e1 with e1 e2 e3
      subst e1
      obtain ⟨hlk1, hlk2⟩ := ok.likely i hlt
      refine EC_skip ?_
      refine thenQ_normal ?_
      refine EC_seq ?_
      refine EC_block ?_
      refine EC_seq ?_
      refine EC_region ?_
      refine EL_v (x_index1 rfl rfl (tab_sl rfl) (by omega)) rfl ?_
      refine EL_v (x_load rfl (tab_one rfl) (by with_reducible assumption)) rfl ?_
      refine EL_v x_assign rfl ?_
      refine EL_nil ?_
      refine thenQ_normal ?_
      refine EC_seq ?_
      have hD := hGr.drew
      have f1 := hD.bKind (i := i) hlt
      have f2 := hD.bLikely (i := i) hlt
      have hc0 : Cells [(⟨L.bb i, 0 + 1, none⟩, .int .i64 (g.kind i)), (⟨L.bb i, 0 + 2, none⟩, .int .i8 (g.likely i))] wr.drew := .cons f1 (.cons f2 (.nil _))
      refine EC_draw mixed (Cells [(⟨L.bb i, 0 + 1, none⟩, .int .i64 (g.kind i)), (⟨L.bb i, 0 + 2, none⟩, .int .i8 (g.likely i))]) [(0, false), (1, false), (2, false), (3, false), (4, false), (5, false), (6, false), (7, false), (8, false), (9, false), (10, true), (11, true)] (by kernel_rfl) hc0 ?_
      have hQ := hQ.stay (w' := wr.drew) (fun _ _ _ _ _ => rfl) (Nat.le_refl _)
      have hXr : wr.drew.heap[X]? = some (.cells #[R1, R] 58 (0, 0)) := hXr
      have hst : ∀ j, j < S2 → j ≠ X → wr.drew.heap[j]? = W1.heap[j]? := hst
      have hb := hb.drew
      have hsz : S2 ≤ wr.drew.heap.size := hsz
      generalize wr.drew = Wd at hc0 hQ hXr hst hb hsz ⊢
      refine DL_v rfl (fun _ _ => x_move) ?_
      refine DL_v rfl (fun _ _ => x_nil rfl) ?_
      refine DL_v rfl (fun _ _ => x_field rfl (tab_fld rfl)) ?_
      refine DL_v rfl (fun _ hS => x_load rfl (tab_one rfl) (hS.get (by first | exact .head _ | exact .tail _ (.head _) | exact .tail _ (.tail _ (.head _)) | exact .tail _ (.tail _ (.tail _ (.head _))) | exact .tail _ (.tail _ (.tail _ (.tail _ (.head _)))) | exact .tail _ (.tail _ (.tail _ (.tail _ (.tail _ (.head _))))) | exact .tail _ (.tail _ (.tail _ (.tail _ (.tail _ (.tail _ (.head _)))))) | exact .tail _ (.tail _ (.tail _ (.tail _ (.tail _ (.tail _ (.tail _ (.head _)))))))))) ?_
      refine DL_v rfl (fun _ _ => x_move) ?_
      refine DL_v rfl (fun _ _ => x_nil rfl) ?_
      refine DL_v rfl (fun _ _ => x_field rfl (tab_fld rfl)) ?_
      refine DL_v rfl (fun _ hS => x_load rfl (tab_one rfl) (hS.get (by first | exact .head _ | exact .tail _ (.head _) | exact .tail _ (.tail _ (.head _)) | exact .tail _ (.tail _ (.tail _ (.head _))) | exact .tail _ (.tail _ (.tail _ (.tail _ (.head _)))) | exact .tail _ (.tail _ (.tail _ (.tail _ (.tail _ (.head _))))) | exact .tail _ (.tail _ (.tail _ (.tail _ (.tail _ (.tail _ (.head _)))))) | exact .tail _ (.tail _ (.tail _ (.tail _ (.tail _ (.tail _ (.tail _ (.head _)))))))))) ?_
      refine DL_v rfl (fun _ _ => x_conv (m := g.likely i) rfl (by kernel_rfl) (tab_int rfl) (IntWalk.i64_in _ (by omega))) ?_
      refine DL_v rfl (fun _ _ => bld3_ab rfl rfl rfl) ?_
      refine DL_wv rfl (x_alloc zero_ab) (.inr (hc0.alloc _)) ?_
      refine DL_ws rfl (x_storeNew rfl rfl (tab_sizeN rfl) rfl rfl) (.inl rfl) ?_
      refine DL_nil ?_
      refine thenQ_normal ?_
      have hBle : B ≤ Wd.heap.size := by have := hb.size; omega
      change EC _ _ _ _ _ (Wd.alloc (.cells #[.int .i64 (g.kind i), .int .i64 (-1), nilS, .int .i64 (g.likely i)] 67))
      have hN1 := heap_alloc_new Wd (.cells #[.int .i64 (g.kind i), .int .i64 (-1), nilS, .int .i64 (g.likely i)] 67)
      have hO1 : ∀ zz, zz < Wd.heap.size → (Wd.alloc (.cells #[.int .i64 (g.kind i), .int .i64 (-1), nilS, .int .i64 (g.likely i)] 67)).heap[zz]? = Wd.heap[zz]? := fun _ hi => Below.heap_alloc _ _ _ hi
      have hZ1 := size_alloc Wd (.cells #[.int .i64 (g.kind i), .int .i64 (-1), nilS, .int .i64 (g.likely i)] 67)
      have hB1 := (Below.refl B Wd).alloc (by omega) (.cells #[.int .i64 (g.kind i), .int .i64 (-1), nilS, .int .i64 (g.likely i)] 67)
      have hK1 := Keep.alloc Wd (.cells #[.int .i64 (g.kind i), .int .i64 (-1), nilS, .int .i64 (g.likely i)] 67)
      generalize Wd.alloc (.cells #[.int .i64 (g.kind i), .int .i64 (-1), nilS, .int .i64 (g.likely i)] 67) = W at hN1 hO1 hZ1 hB1 hK1 ⊢
      have hbW : Below B w W := hb.trans hB1
      have hXlt : X < Wd.heap.size := (Array.getElem?_eq_some_iff.1 hXr).1
      have hClt : C < Wd.heap.size := by have := (Array.getElem?_eq_some_iff.1 hC1).1; omega
      have hXW : W.heap[X]? = some (.cells #[R1, R] 58 (0, 0)) := (hO1 X hXlt).trans hXr
      have hstW : ∀ j, j < S2 → j ≠ X → W.heap[j]? = W1.heap[j]? := fun j hj hne => (hO1 j (by omega)).trans (hst j hj hne)
      obtain ⟨V, hV⟩ : ∃ V, V = Wd.heap.size := ⟨_, rfl⟩
      rw [← hV] at hN1 ⊢
      obtain ⟨S1, hS1⟩ : ∃ S1, S1 = W.heap.size := ⟨_, rfl⟩
      obtain ⟨hal, ham⟩ := ok.succs i hlt
      have hown : ∀ j, R.ownBlock = some j → S2 ≤ j ∧ j < Wd.heap.size := by
        obtain ⟨_, _, _, ss, hss, hrow, _⟩ := hQ
        exact ownsRow_lt hrow
      obtain ⟨ac, capc, hac⟩ := h.ctrlV (i := i) hlt
      -- its control value
      refine EC_seq_cut (fun e wi => At e [(0, .pointer (some ⟨L.fb, 0, none⟩)), (2, .pointer (some ⟨C, 0, none⟩)), (3, .pointer (some ⟨X, 0, none⟩)), (72, .slice (some ⟨bv, 0, none⟩) g.nb cap2), (73, .int .i64 (g.nb : Int)), (74, .int .i64 (i : Int)), (10, L.bp i), (11, .pointer (some ⟨V, 0, none⟩))] ∧ wi.heap[V]? = some (.cells #[.int .i64 (g.kind i), .int .i64 (ctl (g.ctrl i)), nilS, .int .i64 (g.likely i)] 67 (0, 0)) ∧ (∀ j, j ≠ V → wi.heap[j]? = W.heap[j]?) ∧ wi.heap.size = W.heap.size ∧ Below B w wi) ?_ ?_
      · have g2 : W.cell? ⟨L.bb i, 0 + 6, none⟩ = some (.slice ac (g.ctrl i).length capc) := by rw [← hac]; exact (hG hbW).bCtrl hlt
        refine EC_seq ?_
        refine EC_region ?_
        refine EL_v x_move rfl ?_
        refine EL_v (x_nil rfl) rfl ?_
        refine EL_v (x_field rfl (tab_fld rfl)) rfl ?_
        refine EL_v (x_load rfl (tab_one rfl) (by with_reducible assumption)) rfl ?_
        refine EL_v (x_len rfl (tab_sl rfl)) rfl ?_
        refine EL_v (x_gtr rfl rfl) rfl ?_
        refine EL_nil ?_
        refine thenQ_normal ?_
        refine EC_if rfl rfl (fun hpos => ?_) (fun hneg => ?_)
        · have hpos : 0 < (g.ctrl i).length := by have : (0 : Int) < ((g.ctrl i).length : Int) := hpos; omega
          have hGW := hG hbW
          obtain ⟨ba, capa', e4, _, hea, _⟩ := hGW.ctrlE (i := i) (k := 0) hlt hpos
          rw [hac] at e4
          injection e4 with e4 e5 e6
          subst e4
          have hx := ok.ctrl i hlt _ (getD_mem hpos)
          have hctl : ctl (g.ctrl i) = (((g.ctrl i).getD 0 0 : Nat) : Int) := by
            cases hcc : g.ctrl i with
            | nil => rw [hcc] at hpos; simp at hpos
            | cons c l => rfl
          generalize (g.ctrl i).getD 0 0 = x at hea hx hctl
          have f3 := hGW.vID (i := x) hx
          have f4 : W.cell? ⟨V, 0 + 1, none⟩ = some (.int .i64 (-1)) := cell_block hN1 rfl
          refine EC_region ?_
          refine EL_v x_move rfl ?_
          refine EL_v (x_nil rfl) rfl ?_
          refine EL_v (x_field rfl (tab_fld rfl)) rfl ?_
          refine EL_v (x_load rfl (tab_one rfl) (by with_reducible assumption)) rfl ?_
          refine EL_v (x_index1 rfl rfl (tab_sl rfl) (by omega)) rfl ?_
          refine EL_v (x_load rfl (tab_one rfl) (by with_reducible assumption)) rfl ?_
          refine EL_v (x_nil rfl) rfl ?_
          refine EL_v (x_field rfl (tab_fld rfl)) rfl ?_
          refine EL_v (x_load rfl (tab_one rfl) (by with_reducible assumption)) rfl ?_
          refine EL_v (x_conv (m := (x : Int) + 1) rfl (by kernel_rfl) (tab_int rfl) (IntWalk.i64_in _ (by omega))) rfl ?_
          refine EL_v (x_sub (c := (x : Int)) rfl rfl (by rw [IntWalk.i64_in _ (by omega)]; omega)) rfl ?_
          refine EL_v (x_field rfl (tab_fld rfl)) rfl ?_
          refine EL_s (x_store rfl rfl rfl (tab_size1 rfl) f4 (free_block hN1)) rfl ?_
          refine EL_nil ?_
          have hV1 := heap_setCell_same (o := 0 + 1) (u := .int .i64 (x : Int)) hN1
          rw [← hctl] at hV1 ⊢
          exact onlyN_in ⟨at_of rfl ⟨rfl, rfl, rfl, rfl, rfl, rfl, rfl, rfl, trivial⟩, hV1, fun j hne => Below.heap_setCell _ _ _ _ hne, size_setCell _ _, hbW.setCell (by show B ≤ V; omega) _⟩
        · have hneg : ¬ 0 < (g.ctrl i).length := by have : ¬ (0 : Int) < ((g.ctrl i).length : Int) := hneg; omega
          have hctl : ctl (g.ctrl i) = -1 := by
            cases hcc : g.ctrl i with
            | nil => rfl
            | cons c l => rw [hcc] at hneg; simp at hneg
          refine EC_skip ?_
          exact onlyN_in ⟨at_of rfl ⟨rfl, rfl, rfl, rfl, rfl, rfl, rfl, rfl, trivial⟩, by rw [hctl]; exact hN1, fun j hne => rfl, rfl, hbW⟩
      rintro e W5 ⟨⟨t, rfl⟩, hN5, hst5, hsz5, hb5⟩
      obtain ⟨aa, capa, haa⟩ := h.succsV (i := i) hlt
      -- where it goes
      refine EC_seq_cut (fun e wi => ∃ s, At e [(0, .pointer (some ⟨L.fb, 0, none⟩)), (2, .pointer (some ⟨C, 0, none⟩)), (3, .pointer (some ⟨X, 0, none⟩)), (72, .slice (some ⟨bv, 0, none⟩) g.nb cap2), (73, .int .i64 (g.nb : Int)), (74, .int .i64 (i : Int)), (10, L.bp i), (11, .pointer (some ⟨V, 0, none⟩))] ∧ wi.ownsRow S1 3 1 s (g.succs i).length ((nats (g.succs i)).map (.int .i64)) ∧ wi.heap[V]? = some (.cells #[.int .i64 (g.kind i), .int .i64 (ctl (g.ctrl i)), s, .int .i64 (g.likely i)] 67 (0, 0)) ∧ (∀ j, j < S1 → j ≠ V → wi.heap[j]? = W.heap[j]?) ∧ S1 ≤ wi.heap.size ∧ Below B w wi) ?_ ?_
      · have g2 : W5.cell? ⟨L.bb i, 0 + 3, none⟩ = some (.slice aa (g.succs i).length capa) := by rw [← haa]; exact (hG hb5).bSuccs hlt
        refine EC_seq ?_
        refine EC_region ?_
        refine EL_v x_move rfl ?_
        refine EL_v (x_nil rfl) rfl ?_
        refine EL_v (x_field rfl (tab_fld rfl)) rfl ?_
        refine EL_v (x_load rfl (tab_one rfl) (by with_reducible assumption)) rfl ?_
        refine EL_v (x_len rfl (tab_sl rfl)) rfl ?_
        refine EL_v x_move rfl ?_
        refine EL_nil ?_
        refine thenQ_normal ?_
        refine EC_block ?_
        refine EC_loop (fun n e wi => ∃ (k : Nat) (s : Value), k ≤ (g.succs i).length ∧ At e [(0, .pointer (some ⟨L.fb, 0, none⟩)), (2, .pointer (some ⟨C, 0, none⟩)), (3, .pointer (some ⟨X, 0, none⟩)), (72, .slice (some ⟨bv, 0, none⟩) g.nb cap2), (73, .int .i64 (g.nb : Int)), (74, .int .i64 (i : Int)), (10, L.bp i), (11, .pointer (some ⟨V, 0, none⟩)), (109, .slice aa (g.succs i).length capa), (110, .int .i64 ((g.succs i).length : Int)), (111, .int .i64 (k : Int))] ∧ wi.ownsRow S1 3 1 s k ((nats ((g.succs i).take k)).map (.int .i64)) ∧ wi.heap[V]? = some (.cells #[.int .i64 (g.kind i), .int .i64 (ctl (g.ctrl i)), s, .int .i64 (g.likely i)] 67 (0, 0)) ∧ (∀ j, j < S1 → j ≠ V → wi.heap[j]? = W.heap[j]?) ∧ S1 ≤ wi.heap.size ∧ Below B w wi ∧ n = (g.succs i).length - k) (g.succs i).length
          ⟨0, nilS, Nat.zero_le _, at_of rfl ⟨rfl, rfl, rfl, rfl, rfl, rfl, rfl, rfl, rfl, rfl, rfl, trivial⟩, World.ownsRow_nil _ _ _ _, hN5, fun j _ hne => hst5 j hne, by omega, hb5, rfl⟩ ?_
        rintro n e wi ⟨k, s, hk, ⟨t, rfl⟩, hrow, hVr, hsti, hszi, hbi', rfl⟩
        refine EC_seq ?_
        refine EC_region ?_
        refine EL_v (x_lss rfl rfl) rfl ?_
        refine EL_nil ?_
        refine thenQ_normal ?_
        refine EC_seq ?_
        refine EC_if rfl rfl (fun hlk => ?_) (fun hge => ?_)
        · have hlk : k < (g.succs i).length := by omega
          have hGi := hG hbi'
          obtain ⟨ba, capa', e4, _, hea, _⟩ := hGi.succsE (i := i) (k := k) hlt hlk
          rw [haa] at e4
          injection e4 with e4 e5 e6
          subst e4
          have hx := ham _ (getD_mem hlk)
          have htk := nats_take hlk
          generalize (g.succs i).getD k 0 = x at hea hx htk
          refine EC_skip ?_
          refine thenQ_normal ?_
          refine EC_seq ?_
          refine EC_block ?_
          refine EC_seq ?_
          refine EC_region ?_
          refine EL_v (x_index1 rfl rfl (tab_sl rfl) (by omega)) rfl ?_
          refine EL_v (x_loadS (cs := [L.bp x]) rfl (tab_agg rfl) (fun j v hj => by
            cases j with
            | zero => simp at hj; subst hj; exact hea
            | succ j => simp at hj)) rfl ?_
          refine EL_v (x_alloc zero_edge) rfl ?_
          refine EL_s (x_storeNew rfl rfl (tab_sizeN rfl) rfl rfl) rfl ?_
          refine EL_nil ?_
          refine thenQ_normal ?_
          have hlow := ownsRow_lt hrow
          have hVlt : V < wi.heap.size := (Array.getElem?_eq_some_iff.1 hVr).1
          have hBle : B ≤ wi.heap.size := by omega
          change EC _ _ _ _ _ (wi.alloc (.cells #[L.bp x] 99))
          have hN2 := heap_alloc_new wi (.cells #[L.bp x] 99)
          have hO2 : ∀ zz, zz < wi.heap.size → (wi.alloc (.cells #[L.bp x] 99)).heap[zz]? = wi.heap[zz]? := fun _ hi => Below.heap_alloc _ _ _ hi
          have hZ2 := size_alloc wi (.cells #[L.bp x] 99)
          have hB2 := (Below.refl B wi).alloc (by omega) (.cells #[L.bp x] 99)
          have hK2 := Keep.alloc wi (.cells #[L.bp x] 99)
          generalize wi.alloc (.cells #[L.bp x] 99) = Wf at hN2 hO2 hZ2 hB2 hK2 ⊢
          have hbf : Below B w Wf := hbi'.trans hB2
          have hrow := ownsRow_congr hrow (w' := Wf) fun j e => hO2 j (hlow j e).2
          have hVr := (hO2 V hVlt).trans hVr
          have hsti : ∀ j, j < S1 → j ≠ V → Wf.heap[j]? = W.heap[j]? := fun j hj hne => (hO2 j (by omega)).trans (hsti j hj hne)
          obtain ⟨E, hE⟩ : ∃ E, E = wi.heap.size := ⟨_, rfl⟩
          rw [← hE] at hN2 ⊢
          have hD := (hG hbf).drew
          have f1 := hD.bID (i := x) hx
          have f0 : Wf.drew.cell? ⟨V, 0 + 2, none⟩ = some s := cell_block (w := Wf.drew) hVr rfl
          have f2 : Wf.drew.cell? ⟨E, 0 + 0, none⟩ = some (L.bp x) := cell_block (w := Wf.drew) hN2 rfl
          have hc0 : Cells [(⟨V, 0 + 2, none⟩, s), (⟨E, 0 + 0, none⟩, L.bp x), (⟨L.bb x, 0 + 0, none⟩, .int .i32 ((x : Int) + 1))] Wf.drew := .cons f0 (.cons f2 (.cons f1 (.nil _)))
          refine EC_draw mixed (Cells [(⟨V, 0 + 2, none⟩, s), (⟨E, 0 + 0, none⟩, L.bp x), (⟨L.bb x, 0 + 0, none⟩, .int .i32 ((x : Int) + 1))]) [(0, false), (1, false), (2, false), (3, false), (4, false), (5, false), (6, false), (7, false), (8, false), (9, true), (10, true), (11, false), (12, true)] (by kernel_rfl) hc0 ?_
          have hrow : Wf.drew.ownsRow S1 3 1 s k ((nats ((g.succs i).take k)).map (.int .i64)) := hrow
          have hVr : Wf.drew.heap[V]? = some (.cells #[.int .i64 (g.kind i), .int .i64 (ctl (g.ctrl i)), s, .int .i64 (g.likely i)] 67 (0, 0)) := hVr
          have hsti : ∀ j, j < S1 → j ≠ V → Wf.drew.heap[j]? = W.heap[j]? := hsti
          have hszf : wi.heap.size + 1 = Wf.drew.heap.size := hZ2.symm
          have hbi' := hbf.drew
          generalize Wf.drew = We at hc0 hrow hVr hsti hszf hbi' ⊢
          have hBle : B ≤ We.heap.size := by omega
          refine DL_v rfl (fun _ _ => x_field rfl (tab_fld rfl)) ?_
          refine DL_v rfl (fun _ hS => x_load rfl (tab_one rfl) (hS.get (by first | exact .head _ | exact .tail _ (.head _) | exact .tail _ (.tail _ (.head _)) | exact .tail _ (.tail _ (.tail _ (.head _))) | exact .tail _ (.tail _ (.tail _ (.tail _ (.head _)))) | exact .tail _ (.tail _ (.tail _ (.tail _ (.tail _ (.head _))))) | exact .tail _ (.tail _ (.tail _ (.tail _ (.tail _ (.tail _ (.head _)))))) | exact .tail _ (.tail _ (.tail _ (.tail _ (.tail _ (.tail _ (.tail _ (.head _)))))))))) ?_
          refine DL_v rfl (fun _ _ => x_field rfl (tab_fld rfl)) ?_
          refine DL_v rfl (fun _ hS => x_load rfl (tab_one rfl) (hS.get (by first | exact .head _ | exact .tail _ (.head _) | exact .tail _ (.tail _ (.head _)) | exact .tail _ (.tail _ (.tail _ (.head _))) | exact .tail _ (.tail _ (.tail _ (.tail _ (.head _)))) | exact .tail _ (.tail _ (.tail _ (.tail _ (.tail _ (.head _))))) | exact .tail _ (.tail _ (.tail _ (.tail _ (.tail _ (.tail _ (.head _)))))) | exact .tail _ (.tail _ (.tail _ (.tail _ (.tail _ (.tail _ (.tail _ (.head _)))))))))) ?_
          refine DL_v rfl (fun _ _ => x_nil rfl) ?_
          refine DL_v rfl (fun _ _ => x_field rfl (tab_fld rfl)) ?_
          refine DL_v rfl (fun _ hS => x_load rfl (tab_one rfl) (hS.get (by first | exact .head _ | exact .tail _ (.head _) | exact .tail _ (.tail _ (.head _)) | exact .tail _ (.tail _ (.tail _ (.head _))) | exact .tail _ (.tail _ (.tail _ (.tail _ (.head _)))) | exact .tail _ (.tail _ (.tail _ (.tail _ (.tail _ (.head _))))) | exact .tail _ (.tail _ (.tail _ (.tail _ (.tail _ (.tail _ (.head _)))))) | exact .tail _ (.tail _ (.tail _ (.tail _ (.tail _ (.tail _ (.tail _ (.head _)))))))))) ?_
          refine DL_v rfl (fun _ _ => x_conv (m := (x : Int) + 1) rfl (by kernel_rfl) (tab_int rfl) (IntWalk.i64_in _ (by omega))) ?_
          refine DL_v rfl (fun _ _ => x_sub (c := (x : Int)) rfl rfl (by rw [IntWalk.i64_in _ (by omega)]; omega)) ?_
          refine DL_wv rfl (x_bslice1 rfl rfl Try.underlying34 (by kernel_rfl) (z := .int .i64 0) rfl) (.inr (hc0.alloc _)) ?_
          change DL _ _ _ _ _ _ (We.alloc (.cells #[.int .i64 (x : Int)] 3))
          have hN6 := heap_alloc_new We (.cells #[.int .i64 (x : Int)] 3)
          have hO6 : ∀ zz, zz < We.heap.size → (We.alloc (.cells #[.int .i64 (x : Int)] 3)).heap[zz]? = We.heap[zz]? := fun _ hi => Below.heap_alloc _ _ _ hi
          have hZ6 := size_alloc We (.cells #[.int .i64 (x : Int)] 3)
          have hB6 := (Below.refl B We).alloc (by omega) (.cells #[.int .i64 (x : Int)] 3)
          have hK6 := Keep.alloc We (.cells #[.int .i64 (x : Int)] 3)
          generalize We.alloc (.cells #[.int .i64 (x : Int)] 3) = W6 at hN6 hO6 hZ6 hB6 hK6 ⊢
          have hc6 := hK6.cells hc0
          have hrow6 := ownsRow_congr hrow (w' := W6) fun j e => hO6 j (by have := hlow j e; omega)
          refine DL_append1 hrow6 (cell_block hN6 rfl) rfl (by omega) (by decide) (by omega) rfl Try.underlying34 info3 rfl rfl rfl ?_
          intro v7 W7 hrow7 hgr7 hwh7
          have hsV : s.ownBlock ≠ some V := fun e => by have := hlow _ e; omega
          have hc7 := hc6.grown hgr7 (by
            intro y hy
            simp only [List.mem_cons, List.not_mem_nil, or_false] at hy
            rcases hy with rfl | rfl | rfl
            · exact fun e => hsV e.symm
            · exact fun e => by have := hlow E e.symm; omega
            · exact fun e => by have := hlow (L.bb x) e.symm; have := h.blkLt hx; omega)
          refine ⟨.inr hc7, ?_⟩
          refine DL_v rfl (fun _ _ => x_field rfl (tab_fld rfl)) ?_
          have hV7 : W7.heap[V]? = some (.cells #[.int .i64 (g.kind i), .int .i64 (ctl (g.ctrl i)), s, .int .i64 (g.likely i)] 67 (0, 0)) := by
            rw [hgr7.block V (by omega) (fun e => hsV e.symm), hO6 V (by omega)]; exact hVr
          refine DL_ws rfl (x_store rfl rfl (ownsRow_one hrow7) (tab_size1 rfl) (cell_block hV7 rfl) (free_block hV7)) (.inl rfl) ?_
          refine DL_nil ?_
          refine blockQ_normal ?_
          refine thenQ_normal ?_
          have hrow8 : (W7.setCell ⟨V, 0 + 2, none⟩ v7).ownsRow S1 3 1 v7 (k + 1) ((nats ((g.succs i).take (k + 1))).map (.int .i64)) := by
            rw [← htk, List.map_append]
            refine ownsRow_congr hrow7 fun j e => Below.heap_setCell _ _ _ _ (fun e2 => ?_)
            have e2 : j = V := e2
            rcases hwh7 with e3 | e3
            · rw [e3] at e; exact hsV (e2 ▸ e)
            · rw [e3] at e; have := Option.some.inj e; omega
          have hV8 : (W7.setCell ⟨V, 0 + 2, none⟩ v7).heap[V]? = some (.cells #[.int .i64 (g.kind i), .int .i64 (ctl (g.ctrl i)), v7, .int .i64 (g.likely i)] 67 (0, 0)) := heap_setCell_same (o := 0 + 2) (u := v7) hV7
          have hst8 : ∀ j, j < S1 → j ≠ V → (W7.setCell ⟨V, 0 + 2, none⟩ v7).heap[j]? = W.heap[j]? := fun j hj hne => by
            rw [Below.heap_setCell _ _ _ _ hne, hgr7.block j (by omega) (fun e => by have := hlow _ e.symm; omega), hO6 j (by omega)]
            exact hsti j hj hne
          have hsz8 : S1 ≤ (W7.setCell ⟨V, 0 + 2, none⟩ v7).heap.size := by rw [size_setCell]; have := hgr7.size; omega
          have hb8 : Below B w (W7.setCell ⟨V, 0 + 2, none⟩ v7) := ((hbi'.trans hB6).grown hgr7 (by omega) (fun j e => by have := hlow j e; omega)).setCell (by show B ≤ V; omega) v7
          refine EC_region ?_
          refine EL_v (x_inc rfl rfl (by omega)) rfl ?_
          refine EL_v x_move rfl ?_
          refine EL_nil ?_
          exact loopQ_next ((g.succs i).length - (k + 1)) (by omega) ⟨k + 1, v7, by omega, at_of rfl ⟨rfl, rfl, rfl, rfl, rfl, rfl, rfl, rfl, rfl, rfl, rfl, trivial⟩, hrow8, hV8, hst8, hsz8, hb8, rfl⟩
        · have hk : k = (g.succs i).length := by omega
          subst hk
          refine EC_exit ?_
          refine thenQ_exit ?_
          refine loopQ_exit ?_
          refine blockQ_hit ?_
          rw [List.take_length] at hrow
          exact onlyN_in ⟨s, at_of rfl ⟨rfl, rfl, rfl, rfl, rfl, rfl, rfl, rfl, trivial⟩, hrow, hVr, hsti, hszi, hbi'⟩
      rintro e W7 ⟨s, ⟨t, rfl⟩, hrowA, hV7, hst7, hsz7, hb7⟩
      have hownA := ownsRow_lt hrowA
      have hA : IntsV W7 s (nats (g.succs i)) := ints_of_row (l := nats (g.succs i)) (by simpa [nats] using hrowA)
      obtain ⟨pa, pc, rfl⟩ := row_slice hrowA
      have hX7 : W7.heap[X]? = some (.cells #[R1, R] 58 (0, 0)) := (hst7 X (by omega) (by omega)).trans hXW
      have hQ7 := hQ.stay (w' := W7) (fun j hj _ _ _ => (hst7 j (by omega) (by omega)).trans (hO1 j (by omega))) (by omega)
      have hR7 : W7.cell? ⟨X, 0 + 1, none⟩ = some R := cell_block hX7 rfl
      refine EC_region ?_
      refine EL_v (x_field rfl (tab_fld rfl)) rfl ?_
      refine EL_v (x_load rfl (tab_one rfl) (by with_reducible assumption)) rfl ?_
      refine EL_v (x_loadS rfl (tab_agg rfl) (cellsAt_block hV7)) rfl ?_
      refine EL_v (bsl_ab rfl) rfl ?_
      have hBle : B ≤ W7.heap.size := by omega
      change EL _ _ _ _ _ _ (W7.alloc (.cells #[.int .i64 (g.kind i), .int .i64 (ctl (g.ctrl i)), .slice pa (g.succs i).length pc, .int .i64 (g.likely i)] 67))
      have hN8 := heap_alloc_new W7 (.cells #[.int .i64 (g.kind i), .int .i64 (ctl (g.ctrl i)), .slice pa (g.succs i).length pc, .int .i64 (g.likely i)] 67)
      have hO8 : ∀ zz, zz < W7.heap.size → (W7.alloc (.cells #[.int .i64 (g.kind i), .int .i64 (ctl (g.ctrl i)), .slice pa (g.succs i).length pc, .int .i64 (g.likely i)] 67)).heap[zz]? = W7.heap[zz]? := fun _ hi => Below.heap_alloc _ _ _ hi
      have hZ8 := size_alloc W7 (.cells #[.int .i64 (g.kind i), .int .i64 (ctl (g.ctrl i)), .slice pa (g.succs i).length pc, .int .i64 (g.likely i)] 67)
      have hB8 := (Below.refl B W7).alloc (by omega) (.cells #[.int .i64 (g.kind i), .int .i64 (ctl (g.ctrl i)), .slice pa (g.succs i).length pc, .int .i64 (g.likely i)] 67)
      have hK8 := Keep.alloc W7 (.cells #[.int .i64 (g.kind i), .int .i64 (ctl (g.ctrl i)), .slice pa (g.succs i).length pc, .int .i64 (g.likely i)] 67)
      generalize W7.alloc (.cells #[.int .i64 (g.kind i), .int .i64 (ctl (g.ctrl i)), .slice pa (g.succs i).length pc, .int .i64 (g.likely i)] 67) = W8 at hN8 hO8 hZ8 hB8 hK8 ⊢
      have hcell8 : ∀ j u, (q4 (bq (gb g i)) (.slice pa (g.succs i).length pc))[j]? = some u → W8.cell? ((⟨W7.heap.size, 0, none⟩ : Addr).add j) = some u := fun j u hj => by
        rw [Addr.add_lit]
        exact cell_block hN8 (by simpa [q4, bq, gb] using hj)
      have hQ8 := hQ7.stay (w' := W8) (fun j hj _ _ _ => hO8 j hj) (by omega)
      have hst8 : ∀ j, j < S2 → j ≠ X → W8.heap[j]? = W1.heap[j]? := fun j hj hne => (hO8 j (by omega)).trans ((hst7 j (by omega) (by omega)).trans (hstW j hj hne))
      have hb8 : Below B w W8 := hb7.trans hB8
      have hLs : Loose W8 B X C R.ownBlock (.slice pa (g.succs i).length pc) (bq (gb g i)).l :=
        ⟨hA.keep hK8, .inr fun j hj => by
          have h9 := hownA j hj
          exact ⟨by omega, by omega, by omega, by omega, fun e => by have := hown j e; omega⟩⟩
      have hXsz : X < W8.heap.size := by omega
      have hlen : (((List.range i).map (gb g)).map bq).length = i := by simp
      obtain ⟨hlo, hXR, hYR, ss, hss, hrow8, hloose⟩ := hQ8
      refine EL_append hrow8 hcell8 (by intro u hu; simp [q4] at hu; rcases hu with rfl | rfl | rfl | rfl <;> rfl) rfl (by rw [hlen]; omega) (by decide) (by omega) Try.underlying56 info67 rfl (by decide) rfl rfl rfl ?_
      intro v9 W9 hrow9 hgr9 hwh9
      have hX9' : W9.heap[X]? = some (.cells #[R1, R] 58 (0, 0)) := by
        rw [hgr9.block X hXsz (fun e => hXR e.symm)]; exact (hO8 X (by omega)).trans hX7
      refine EL_v (x_field rfl (tab_fld rfl)) rfl ?_
      refine EL_s (x_store rfl rfl (ownsRow_one hrow9) (tab_size1 rfl) (cell_block hX9' rfl) (free_block hX9')) rfl ?_
      refine EL_nil ?_
      refine blockQ_normal ?_
      refine thenQ_normal ?_
      have htk : ((List.range (i + 1)).map (gb g)).map bq = ((List.range i).map (gb g)).map bq ++ [bq (gb g i)] := by
        rw [List.range_succ, List.map_append, List.map_append]; rfl
      have hQ9 := QRow.push (q := bq (gb g i)) (s := .slice pa (g.succs i).length pc) hlo hXR hYR hss hloose hLs hrow9 hgr9 hwh9 hXsz (by omega) 1
      rw [← htk] at hQ9
      have hX9 : (W9.setCell ⟨X, 0 + 1, none⟩ v9).heap[X]? = some (.cells #[R1, v9] 58 (0, 0)) := heap_setCell_same (o := 0 + 1) (u := v9) hX9'
      have hst9 : ∀ j, j < S2 → j ≠ X → (W9.setCell ⟨X, 0 + 1, none⟩ v9).heap[j]? = W1.heap[j]? := fun j hj hne => by
        rw [Below.heap_setCell _ _ _ _ hne, hgr9.block j (by omega) (fun e => by have := hown j e.symm; omega)]
        exact hst8 j hj hne
      have hb9 : Below B w (W9.setCell ⟨X, 0 + 1, none⟩ v9) := (hb8.grown hgr9 (by omega) (fun j e => by have := hown j e; omega)).setCell (by show B ≤ X; omega) v9
      have hsz9 : S2 ≤ (W9.setCell ⟨X, 0 + 1, none⟩ v9).heap.size := by
        rw [size_setCell]; have := hgr9.size; omega
      refine EC_region ?_
      refine EL_v (x_inc rfl rfl (by omega)) rfl ?_
      refine EL_v x_move rfl ?_
      refine EL_nil ?_
      exact loopQ_next (g.nb - (i + 1)) (by omega) ⟨i + 1, v9, by omega, at_of rfl ⟨rfl, rfl, rfl, rfl, rfl, rfl, trivial⟩, hQ9, hX9, hst9, hsz9, hb9, rfl⟩
    · have hi : i = g.nb := by omega
      subst hi
      refine EC_exit ?_
      refine thenQ_exit ?_
      refine loopQ_exit ?_
      refine blockQ_hit ?_
      exact onlyN_in ⟨R, at_of rfl ⟨rfl, rfl, rfl, trivial⟩, hQ, hXr, hst, hsz, hb⟩
  rintro e W2 ⟨R2, ⟨t, rfl⟩, hQ2, hX2, hst2, hsz2, hbel2⟩
  have hC2 : W2.heap[C]? = some (.cells #[nilS, nilS] 58 (0, 0)) := (hst2 C (by omega) (by omega)).trans hC1
  refine EC_seq ?_
  refine EC_region ?_
  refine EL_v (x_loadS (cs := [R1, R2]) rfl (tab_agg rfl) (cellsAt_block hX2)) rfl ?_
  refine EL_s (x_storeS (cs := #[R1, R2]) rfl rfl hC2 (tab_sizeN rfl) rfl ?_) rfl ?_
  · obtain ⟨_, _, _, _, _, h1, _⟩ := hQ1
    obtain ⟨_, _, _, _, _, h2, _⟩ := hQ2
    simp [ownsRow_one h1, ownsRow_one h2]
  refine EL_nil ?_
  refine thenQ_normal ?_
  have hgC : (W2.setRow C #[R1, R2]).heap[C]? = some (.cells #[R1, R2] 58 (0, 0)) := setRow_heap _ _ _ _ _ _ hC2
  have hoC : ∀ j, j ≠ C → (W2.setRow C #[R1, R2]).heap[j]? = W2.heap[j]? := fun j hj => setRow_other _ _ _ _ hj
  have hszC : W2.heap.size ≤ (W2.setRow C #[R1, R2]).heap.size := by simp [World.setRow]
  have hOwn : Own B (W2.setRow C #[R1, R2]) (.agg #[R1, R2]) (toF g) := fun w'' hw hs =>
    ⟨R1, R2, rfl, (hQ1.stay (w' := w'') (fun j hj hlo hne hnc => (hw j hlo (by omega)).trans ((hoC j hnc).trans (hst2 j (by omega) hne))) (by omega)).vals,
      (hQ2.stay (w' := w'') (fun j hj hlo hne hnc => (hw j hlo (by omega)).trans (hoC j hnc)) (by omega)).blks⟩
  have hbF : Below B w (W2.setRow C #[R1, R2]) := below_setRow' hbel2 (by omega) _
  refine EC_ret ?_
  exact post_cell rfl rfl rfl rfl (run_loadVar_cells (cs := [R1, R2]) (tab_agg rfl) (cellsAt_block hgC)) (by rw [← hBd]; exact ⟨hOwn, hbF⟩)
end Go.Proofs.Yteepnepebilckaa
