/- Walks: sparse sets. -/
import Derived.Test.YteepnepebilckaaY0
namespace Go.Proofs.Yteepnepebilckaa
open Go Go.Eng Go.RowKit

def idv (i : Nat) : Value := .int .i32 ((i : Int) + 1)
def i32s (sp : Nat → Int) : Nat → Value := fun i => .int .i32 (sp i)
structure SS (w : World) (base s q m : Nat) (dv : Value) (ds : List Nat) (sp : Nat → Int) : Prop where
  cells : w.heap[s]? = some (.cells #[dv, .slice (some ⟨q, 0, none⟩) m m] 125 (0, 0))
  sparse : w.heap[q]? = some (.cells (cellsOf (i32s sp) m) 21 (0, 0))
  dense : w.ownsRow base 77 1 dv (ds.map idv).length (ds.map idv)
  sq : s < base ∧ q < base ∧ s ≠ q
  nn : ∀ i, 0 ≤ sp i ∧ sp i ≤ 1000
  lt : ∀ x ∈ ds, x + 1 < m
  short : ds.length ≤ 64
/-- Nothing is written but some blocks. -/
structure Only (A : Nat → Prop) (w w' : World) : Prop where
  os : w'.os = w.os
  tape : w'.tape = w.tape
  output : w'.output = w.output
  size : w.heap.size ≤ w'.heap.size
  block : ∀ j, j < w.heap.size → ¬ A j → w'.heap[j]? = w.heap[j]?
theorem Only.of_below {A : Nat → Prop} {w w' : World} (h : Below w.heap.size w w') : Only A w w' := ⟨h.os, h.tape, h.output, h.size, fun j hj _ => h.block j hj⟩
theorem Only.trans {A : Nat → Prop} {a b c : World} (h : Only A a b) (k : Only A b c) : Only A a c :=
  ⟨k.os.trans h.os, k.tape.trans h.tape, k.output.trans h.output, Nat.le_trans h.size k.size, fun j hj hA => (k.block j (Nat.lt_of_lt_of_le hj h.size) hA).trans (h.block j hj hA)⟩
theorem Only.set {A : Nat → Prop} {a b : World} (h : Only A a b) {s o : Nat} (u : Value) (hs : A s) : Only A a (b.setCell ⟨s, o, none⟩ u) := by
  have h1 : Below 0 b (b.setCell ⟨s, o, none⟩ u) := (Below.refl 0 b).setCell (Nat.zero_le _) u
  refine h.trans ⟨h1.os, h1.tape, h1.output, h1.size, fun j _ hA => Below.heap_setCell _ _ _ _ (fun e => hA (e ▸ hs))⟩
theorem Only.grown {A : Nat → Prop} {a b : World} {row : Option Nat} (h : a.grownBy b row) (hA : ∀ j, row = some j → A j) : Only A a b :=
  ⟨h.os, h.tape, h.output, h.size, fun j hj hn => h.block j hj fun e => hn (hA j e.symm)⟩
theorem Only.mono {A A' : Nat → Prop} {a b : World} (h : Only A a b) (hA : ∀ j, A j → A' j) : Only A' a b :=
  ⟨h.os, h.tape, h.output, h.size, fun j hj hn => h.block j hj fun e => hn (hA j e)⟩

theorem SS.own {w : World} {base s q m : Nat} {dv : Value} {ds : List Nat} {sp : Nat → Int} (h : SS w base s q m dv ds sp) : ∀ k, dv.ownBlock = some k → base ≤ k ∧ k < w.heap.size := ownsRow_lt h.dense
theorem SS.stay {w w' : World} {base s q m : Nat} {dv : Value} {ds : List Nat} {sp : Nat → Int} (h : SS w base s q m dv ds sp) (h1 : w'.heap[s]? = w.heap[s]?) (h2 : w'.heap[q]? = w.heap[q]?) (h3 : ∀ k, dv.ownBlock = some k → w'.heap[k]? = w.heap[k]?) : SS w' base s q m dv ds sp :=
  ⟨h1.trans h.cells, h2.trans h.sparse, ownsRow_congr h.dense h3, h.sq, h.nn, h.lt, h.short⟩
theorem SS.item {w : World} {base s q m : Nat} {dv : Value} {ds : List Nat} {sp : Nat → Int} (h : SS w base s q m dv ds sp) {k : Nat} (hk : k < ds.length) :
    ∃ g cap, dv = .slice (some ⟨g, 0, none⟩) ds.length cap ∧ base ≤ g ∧ g < w.heap.size ∧ ds.length ≤ cap ∧ w.cell? ⟨g, 0 + k, none⟩ = some (.int .i32 (((ds.getD k 0 : Nat) : Int) + 1)) := by
  obtain ⟨g, cap, h1, h2, h3, h4, h5⟩ := row_form h.dense (k := k) (by simpa using hk)
  have hl : (ds.map idv).length = ds.length := List.length_map ..
  rw [hl] at h1 h4
  refine ⟨g, cap, h1, h2, h3, h4, ?_⟩
  rw [h5, List.getElem_map, List.getD_eq_getElem?_getD, List.getElem?_eq_getElem hk]; rfl
set_option maxHeartbeats 4000000
attribute [local irreducible] EC EL DL Ret thenQ blockQ loopQ bodyQ onlyN execOp Sem.run World.cell? World.frozen? World.setCell World.alloc

theorem contains_ret {w : World} {base s q m : Nat} {sp : Nat → Int} (h : SS w base s q m nilS [] sp) {x : Nat} (hx : x + 1 < m) :
    Ret Try.prog 58 #[.pointer (some ⟨s, 0, none⟩), idv x] w fun v w' => v = .bool false ∧ w' = w := by
  refine ret_of_EC Try.func58 rfl rfl ?_
  have g1 : w.cell? ⟨s, 0 + 1, none⟩ = some (.slice (some ⟨q, 0, none⟩) m m) := cell_block h.cells rfl
  have g0 : w.cell? ⟨s, 0 + 0, none⟩ = some (.slice none 0 0) := cell_block h.cells rfl
  have hsp : w.cell? ⟨q, 0 + (x + 1), none⟩ = some (.int .i32 (sp (x + 1))) := cell_block h.sparse (by rw [Nat.zero_add]; exact cellsOf_get _ hx)
  have hn := h.nn (x + 1)
  refine EC_seq ?_
  refine EC_region ?_
  refine EL_v x_assign rfl ?_
  refine EL_nil ?_
  refine thenQ_normal ?_
  refine EC_seq ?_
  refine EC_region ?_
  refine EL_v x_move rfl ?_
  refine EL_v (x_nil rfl) rfl ?_
  refine EL_v (x_field rfl (tab_fld rfl)) rfl ?_
  refine EL_v (x_load rfl (tab_one rfl) (by with_reducible assumption)) rfl ?_
  refine EL_v x_move rfl ?_
  refine EL_v (x_index1 rfl rfl (tab_sl rfl) (by omega)) rfl ?_
  refine EL_v (x_load rfl (tab_one rfl) (by with_reducible assumption)) rfl ?_
  refine EL_v x_assign rfl ?_
  refine EL_nil ?_
  refine thenQ_normal ?_
  refine EC_seq ?_
  refine EC_region ?_
  refine EL_v x_move rfl ?_
  refine EL_v x_move rfl ?_
  refine EL_v (x_nil rfl) rfl ?_
  refine EL_v (x_field rfl (tab_fld rfl)) rfl ?_
  refine EL_v (x_load rfl (tab_one rfl) (by with_reducible assumption)) rfl ?_
  refine EL_v (x_len rfl (tab_sl rfl)) rfl ?_
  refine EL_v (x_conv (m := 0) rfl (by kernel_rfl) (tab_int rfl) (IntWalk.i32_in _ (by decide))) rfl ?_
  refine EL_v (x_lss rfl rfl) rfl ?_
  refine EL_v x_move rfl ?_
  rw [decide_eq_false (show ¬ sp (x + 1) < 0 by omega)]
  refine EL_no rfl rfl ?_
  refine EL_no rfl rfl ?_
  refine EL_no rfl rfl ?_
  refine EL_no rfl rfl ?_
  refine EL_no rfl rfl ?_
  refine EL_no rfl rfl ?_
  refine EL_no rfl rfl ?_
  refine EL_no rfl rfl ?_
  refine EL_no rfl rfl ?_
  refine EL_v (x_pick_f rfl) rfl ?_
  refine EL_v x_assign rfl ?_
  refine EL_nil ?_
  refine thenQ_normal ?_
  refine EC_ret ?_
  exact post_tmp rfl rfl rfl ⟨rfl, rfl⟩

theorem size_ret {w : World} {base s q m : Nat} {dv : Value} {ds : List Nat} {sp : Nat → Int} (h : SS w base s q m dv ds sp) :
    Ret Try.prog 60 #[.pointer (some ⟨s, 0, none⟩)] w fun v w' => v = .int .i64 (ds.length : Int) ∧ w' = w := by
  refine ret_of_EC Try.func60 rfl rfl ?_
  have g0 : w.cell? ⟨s, 0 + 0, none⟩ = some dv := cell_block h.cells rfl
  obtain ⟨a, c, hdv⟩ := row_slice h.dense
  have hl : (ds.map idv).length = ds.length := List.length_map ..
  rw [hl] at hdv
  subst hdv
  refine EC_seq ?_
  refine EC_region ?_
  refine EL_v x_assign rfl ?_
  refine EL_nil ?_
  refine thenQ_normal ?_
  refine EC_seq ?_
  refine EC_region ?_
  refine EL_v x_move rfl ?_
  refine EL_v (x_nil rfl) rfl ?_
  refine EL_v (x_field rfl (tab_fld rfl)) rfl ?_
  refine EL_v (x_load rfl (tab_one rfl) (by with_reducible assumption)) rfl ?_
  refine EL_v (x_len rfl (tab_sl rfl)) rfl ?_
  refine EL_v x_assign rfl ?_
  refine EL_nil ?_
  refine thenQ_normal ?_
  refine EC_ret ?_
  exact post_tmp rfl rfl rfl ⟨rfl, rfl⟩

theorem pop_ret {w : World} {base s q m : Nat} {dv : Value} {ys : List Nat} {u : Nat} {sp : Nat → Int} (h : SS w base s q m dv (ys ++ [u]) sp) :
    Ret Try.prog 61 #[.pointer (some ⟨s, 0, none⟩)] w fun v w' => v = idv u ∧ ∃ dv', SS w' base s q m dv' ys sp ∧ dv'.ownBlock = dv.ownBlock ∧ Only (fun j => j = s) w w' := by
  refine ret_of_EC Try.func61 rfl rfl ?_
  have hl : (ys ++ [u]).length = ys.length + 1 := by rw [List.length_append]; rfl
  obtain ⟨g, cap, rfl, hg1, hg2, hg3, hg4⟩ := h.item (k := ys.length) (by omega)
  have hu : (ys ++ [u]).getD ys.length 0 = u := by
    rw [List.getD_eq_getElem?_getD, List.getElem?_append_right (Nat.le_refl _), Nat.sub_self]; rfl
  rw [hu] at hg4
  have hsh := h.short
  have g0 : w.cell? ⟨s, 0 + 0, none⟩ = some (.slice (some ⟨g, 0, none⟩) (ys ++ [u]).length cap) := cell_block h.cells rfl
  refine EC_seq ?_
  refine EC_region ?_
  refine EL_v x_assign rfl ?_
  refine EL_nil ?_
  refine thenQ_normal ?_
  refine EC_seq ?_
  have hc : Cells [(⟨s, 0 + 0, none⟩, .slice (some ⟨g, 0, none⟩) (ys ++ [u]).length cap), (⟨g, 0 + ys.length, none⟩, .int .i32 ((u : Int) + 1))] w.drew := (Keep.drew w).cells (.cons g0 (.cons hg4 (.nil _)))
  refine EC_draw mixed (Cells [(⟨s, 0 + 0, none⟩, .slice (some ⟨g, 0, none⟩) (ys ++ [u]).length cap), (⟨g, 0 + ys.length, none⟩, .int .i32 ((u : Int) + 1))]) [(0, false), (1, false), (2, false), (3, false), (4, false), (5, false), (6, false), (7, false), (8, false), (9, false), (10, false), (11, false), (12, false)] (by kernel_rfl) hc ?_
  refine DL_v rfl (fun _ _ => x_move) ?_
  refine DL_v rfl (fun _ _ => x_nil rfl) ?_
  refine DL_v rfl (fun _ _ => x_field rfl (tab_fld rfl)) ?_
  refine DL_v rfl (fun _ hS => x_load rfl (tab_one rfl) (hS.get (by first | exact .head _ | exact .tail _ (.head _) | exact .tail _ (.tail _ (.head _)) | exact .tail _ (.tail _ (.tail _ (.head _))) | exact .tail _ (.tail _ (.tail _ (.tail _ (.head _)))) | exact .tail _ (.tail _ (.tail _ (.tail _ (.tail _ (.head _))))) | exact .tail _ (.tail _ (.tail _ (.tail _ (.tail _ (.tail _ (.head _)))))) | exact .tail _ (.tail _ (.tail _ (.tail _ (.tail _ (.tail _ (.tail _ (.head _)))))))))) ?_
  refine DL_v rfl (fun _ _ => x_move) ?_
  refine DL_v rfl (fun _ _ => x_nil rfl) ?_
  refine DL_v rfl (fun _ _ => x_field rfl (tab_fld rfl)) ?_
  refine DL_v rfl (fun _ hS => x_load rfl (tab_one rfl) (hS.get (by first | exact .head _ | exact .tail _ (.head _) | exact .tail _ (.tail _ (.head _)) | exact .tail _ (.tail _ (.tail _ (.head _))) | exact .tail _ (.tail _ (.tail _ (.tail _ (.head _)))) | exact .tail _ (.tail _ (.tail _ (.tail _ (.tail _ (.head _))))) | exact .tail _ (.tail _ (.tail _ (.tail _ (.tail _ (.tail _ (.head _)))))) | exact .tail _ (.tail _ (.tail _ (.tail _ (.tail _ (.tail _ (.tail _ (.head _)))))))))) ?_
  refine DL_v rfl (fun _ _ => x_len rfl (tab_sl rfl)) ?_
  refine DL_v rfl (fun _ _ => x_sub (c := (ys.length : Int)) rfl rfl (by rw [hl, IntWalk.i64_in _ (by omega)]; omega)) ?_
  refine DL_v rfl (fun _ _ => x_index1 rfl rfl (tab_sl rfl) (by omega)) ?_
  refine DL_v rfl (fun _ hS => x_load rfl (tab_one rfl) (hS.get (by first | exact .head _ | exact .tail _ (.head _) | exact .tail _ (.tail _ (.head _)) | exact .tail _ (.tail _ (.tail _ (.head _))) | exact .tail _ (.tail _ (.tail _ (.tail _ (.head _)))) | exact .tail _ (.tail _ (.tail _ (.tail _ (.tail _ (.head _))))) | exact .tail _ (.tail _ (.tail _ (.tail _ (.tail _ (.tail _ (.head _)))))) | exact .tail _ (.tail _ (.tail _ (.tail _ (.tail _ (.tail _ (.tail _ (.head _)))))))))) ?_
  refine DL_v rfl (fun _ _ => x_assign) ?_
  refine DL_nil ?_
  refine thenQ_normal ?_
  refine EC_seq ?_
  have hc2 : Cells [(⟨s, 0 + 0, none⟩, .slice (some ⟨g, 0, none⟩) (ys ++ [u]).length cap)] w.drew.drew := (Keep.drew w.drew).cells ((Keep.drew w).cells (.cons g0 (.nil _)))
  refine EC_draw mixed (Cells [(⟨s, 0 + 0, none⟩, .slice (some ⟨g, 0, none⟩) (ys ++ [u]).length cap)]) [(0, false), (1, false), (2, false), (3, false), (4, false), (5, false), (6, false), (7, false), (8, false), (9, false), (10, false), (11, false), (12, false), (13, false), (14, true)] (by kernel_rfl) hc2 ?_
  have hD : SS w.drew.drew base s q m (.slice (some ⟨g, 0, none⟩) (ys ++ [u]).length cap) (ys ++ [u]) sp := h.stay rfl rfl fun _ _ => rfl
  have hO : Only (fun j => j = s) w w.drew.drew := ⟨rfl, rfl, rfl, Nat.le_refl _, fun _ _ _ => rfl⟩
  generalize w.drew.drew = W at hc2 hD hO ⊢
  refine DL_v rfl (fun _ _ => x_move) ?_
  refine DL_v rfl (fun _ _ => x_move) ?_
  refine DL_v rfl (fun _ _ => x_nil rfl) ?_
  refine DL_v rfl (fun _ _ => x_field rfl (tab_fld rfl)) ?_
  refine DL_v rfl (fun _ hS => x_load rfl (tab_one rfl) (hS.get (by first | exact .head _ | exact .tail _ (.head _) | exact .tail _ (.tail _ (.head _)) | exact .tail _ (.tail _ (.tail _ (.head _))) | exact .tail _ (.tail _ (.tail _ (.tail _ (.head _)))) | exact .tail _ (.tail _ (.tail _ (.tail _ (.tail _ (.head _))))) | exact .tail _ (.tail _ (.tail _ (.tail _ (.tail _ (.tail _ (.head _)))))) | exact .tail _ (.tail _ (.tail _ (.tail _ (.tail _ (.tail _ (.tail _ (.head _)))))))))) ?_
  refine DL_v rfl (fun _ _ => x_move) ?_
  refine DL_v rfl (fun _ _ => x_nil rfl) ?_
  refine DL_v rfl (fun _ _ => x_field rfl (tab_fld rfl)) ?_
  refine DL_v rfl (fun _ hS => x_load rfl (tab_one rfl) (hS.get (by first | exact .head _ | exact .tail _ (.head _) | exact .tail _ (.tail _ (.head _)) | exact .tail _ (.tail _ (.tail _ (.head _))) | exact .tail _ (.tail _ (.tail _ (.tail _ (.head _)))) | exact .tail _ (.tail _ (.tail _ (.tail _ (.tail _ (.head _))))) | exact .tail _ (.tail _ (.tail _ (.tail _ (.tail _ (.tail _ (.head _)))))) | exact .tail _ (.tail _ (.tail _ (.tail _ (.tail _ (.tail _ (.tail _ (.head _)))))))))) ?_
  refine DL_v rfl (fun _ _ => x_len rfl (tab_sl rfl)) ?_
  refine DL_v rfl (fun _ _ => x_sub (c := (ys.length : Int)) rfl rfl (by rw [hl, IntWalk.i64_in _ (by omega)]; omega)) ?_
  refine DL_v rfl (fun _ _ => x_sliceTo (k := ys.length) Try.underlying116 info77 rfl rfl (by omega)) ?_
  refine DL_v rfl (fun _ _ => x_nil rfl) ?_
  refine DL_v rfl (fun _ _ => x_field rfl (tab_fld rfl)) ?_
  refine DL_ws rfl (x_store rfl rfl rfl (tab_size1 rfl) (cell_block hD.cells rfl) (free_block hD.cells)) (.inl rfl) ?_
  refine DL_nil ?_
  refine thenQ_normal ?_
  have hs0 := heap_setCell_same (o := 0 + 0) (u := .slice (some ⟨g, 0, none⟩) ys.length cap) hD.cells
  have hO2 : Only (fun j => j = s) w (W.setCell ⟨s, 0 + 0, none⟩ (.slice (some ⟨g, 0, none⟩) ys.length cap)) := hO.set _ rfl
  have hrow : W.ownsRow base 77 1 (.slice (some ⟨g, 0, none⟩) ys.length cap) (ys.map idv).length (ys.map idv) := by
    have h1 := hD.dense
    have e1 : (ys ++ [u]).length = (ys.map idv ++ [idv u]).length := by simp
    rw [List.map_append, e1] at h1
    have h2 := row_pop h1
    rwa [List.length_map] at h2 ⊢
  have hne : g ≠ s := by have := h.sq; omega
  have hSS : SS (W.setCell ⟨s, 0 + 0, none⟩ (.slice (some ⟨g, 0, none⟩) ys.length cap)) base s q m (.slice (some ⟨g, 0, none⟩) ys.length cap) ys sp :=
    ⟨hs0, (Below.heap_setCell _ _ _ _ (fun e => h.sq.2.2 e.symm)).trans hD.sparse, ownsRow_congr hrow (fun k e => by
      have e := Option.some.inj e
      subst e
      exact Below.heap_setCell _ _ _ _ hne), h.sq, h.nn, fun x hx => h.lt x (List.mem_append.2 (.inl hx)), by omega⟩
  refine EC_seq ?_
  refine EC_region ?_
  refine EL_v x_move rfl ?_
  refine EL_v x_assign rfl ?_
  refine EL_nil ?_
  refine thenQ_normal ?_
  refine EC_ret ?_
  exact post_tmp rfl rfl rfl ⟨rfl, _, hSS, rfl, hO2⟩

theorem add_ret {w : World} {base s q m : Nat} {dv : Value} {ds : List Nat} {sp : Nat → Int} (h : SS w base s q m dv ds sp) {x : Nat} (hx : x + 1 < m) (hlen : ds.length < 60) (hbase : base ≤ w.heap.size) :
    Ret Try.prog 56 #[.pointer (some ⟨s, 0, none⟩), idv x] w fun _ w' => ∃ dv' ds' sp', SS w' base s q m dv' ds' sp' ∧ x ∈ ds' ∧ (∀ y ∈ ds, y ∈ ds') ∧ ds'.length ≤ ds.length + 1 ∧
      (dv'.ownBlock = dv.ownBlock ∨ ∃ k, w.heap.size ≤ k ∧ dv'.ownBlock = some k) ∧ Only (fun j => j = s ∨ j = q ∨ dv.ownBlock = some j) w w' := by
  refine ret_of_EC Try.func56 rfl rfl ?_
  have g1 : w.cell? ⟨s, 0 + 1, none⟩ = some (.slice (some ⟨q, 0, none⟩) m m) := cell_block h.cells rfl
  have hsp : w.cell? ⟨q, 0 + (x + 1), none⟩ = some (.int .i32 (sp (x + 1))) := cell_block h.sparse (by rw [Nat.zero_add]; exact cellsOf_get _ hx)
  have hn := h.nn (x + 1)
  have hsh := h.short
  obtain ⟨da, dc, hdv⟩ := row_slice h.dense
  have hdl : (ds.map idv).length = ds.length := List.length_map ..
  rw [hdl] at hdv
  subst hdv
  have g0 : w.cell? ⟨s, 0 + 0, none⟩ = some (.slice da ds.length dc) := cell_block h.cells rfl
  refine EC_seq ?_
  refine EC_region ?_
  refine EL_v x_move rfl ?_
  refine EL_v (x_nil rfl) rfl ?_
  refine EL_v (x_field rfl (tab_fld rfl)) rfl ?_
  refine EL_v (x_load rfl (tab_one rfl) (by with_reducible assumption)) rfl ?_
  refine EL_v x_move rfl ?_
  refine EL_v (x_index1 rfl rfl (tab_sl rfl) (by omega)) rfl ?_
  refine EL_v (x_load rfl (tab_one rfl) (by with_reducible assumption)) rfl ?_
  refine EL_v x_assign rfl ?_
  refine EL_nil ?_
  refine thenQ_normal ?_
  refine EC_seq ?_
  refine EC_seq ?_
  refine EC_region ?_
  refine EL_cut 19 (fun e w' => w' = w ∧ ∃ b : Bool, (b = true → ∃ ii : Nat, sp (x + 1) = (ii : Int) ∧ ii < ds.length ∧ ds.getD ii 0 = x) ∧ At e [(30, .bool b), (0, .pointer (some ⟨s, 0, none⟩)), (1, idv x), (4, .int .i32 (sp (x + 1)))]) ?_ ?_
  · refine EL_v x_move rfl ?_
    refine EL_v x_move rfl ?_
    refine EL_v (x_nil rfl) rfl ?_
    refine EL_v (x_field rfl (tab_fld rfl)) rfl ?_
    refine EL_v (x_load rfl (tab_one rfl) (by with_reducible assumption)) rfl ?_
    refine EL_v (x_len rfl (tab_sl rfl)) rfl ?_
    refine EL_v (x_conv (m := (ds.length : Int)) rfl (by kernel_rfl) (tab_int rfl) (IntWalk.i32_in _ (by omega))) rfl ?_
    refine EL_v (x_lss rfl rfl) rfl ?_
    refine EL_v x_move rfl ?_
    by_cases hlt : sp (x + 1) < (ds.length : Int)
    · rw [decide_eq_true hlt]
      obtain ⟨ii, hii⟩ : ∃ ii : Nat, sp (x + 1) = (ii : Int) := ⟨_, (Int.toNat_of_nonneg hn.1).symm⟩
      have hil : ii < ds.length := by omega
      obtain ⟨g, cap, e, hg1, hg2, hg3, hg4⟩ := h.item hil
      injection e with e1 e2 e3
      subst e1
      refine EL_yes rfl rfl x_move rfl ?_
      refine EL_yes rfl rfl (x_nil rfl) rfl ?_
      refine EL_yes rfl rfl (x_field rfl (tab_fld rfl)) rfl ?_
      refine EL_yes rfl rfl (x_load rfl (tab_one rfl) (by with_reducible assumption)) rfl ?_
      refine EL_yes rfl rfl x_move rfl ?_
      refine EL_yes rfl rfl (x_indexZ1 (i := ii) rfl rfl hii (tab_sl rfl) hil) rfl ?_
      refine EL_yes rfl rfl (x_load rfl (tab_one rfl) (by with_reducible assumption)) rfl ?_
      refine EL_yes rfl rfl x_move rfl ?_
      refine EL_yes rfl rfl (x_eql rfl rfl) rfl ?_
      refine EL_v (x_pick_t rfl) rfl ?_
      refine EL_nil ?_
      refine ⟨rfl, _, fun hb => ⟨ii, hii, hil, ?_⟩, at_of rfl ⟨rfl, rfl, rfl, rfl, trivial⟩⟩
      have := of_decide_eq_true hb
      omega
    · rw [decide_eq_false hlt]
      refine EL_no rfl rfl ?_
      refine EL_no rfl rfl ?_
      refine EL_no rfl rfl ?_
      refine EL_no rfl rfl ?_
      refine EL_no rfl rfl ?_
      refine EL_no rfl rfl ?_
      refine EL_no rfl rfl ?_
      refine EL_no rfl rfl ?_
      refine EL_no rfl rfl ?_
      refine EL_v (x_pick_f rfl) rfl ?_
      refine EL_nil ?_
      exact ⟨rfl, false, fun hb => (by cases hb), at_of rfl ⟨rfl, rfl, rfl, rfl, trivial⟩⟩
  rintro e w' ⟨rfl, b, hb, t, rfl⟩
  refine EL_nil ?_
  refine thenQ_normal ?_
  cases b with
  | true =>
    refine EC_yes rfl rfl ?_
    obtain ⟨ii, _, h2, h3⟩ := hb rfl
    refine EC_ret ?_
    refine thenQ_ret ?_
    refine post_none_ret rfl rfl ⟨_, ds, sp, h, ?_, fun y hy => hy, by omega, .inl rfl, ⟨rfl, rfl, rfl, Nat.le_refl _, fun _ _ _ => rfl⟩⟩
    rw [← h3, List.getD_eq_getElem?_getD, List.getElem?_eq_getElem h2]; simp
  | false =>
  refine EC_no rfl rfl ?_
  refine EC_skip ?_
  refine thenQ_normal ?_
  obtain ⟨B, hBd⟩ : ∃ B, B = w'.heap.size := ⟨_, rfl⟩
  refine EC_seq ?_
  refine EC_region ?_
  refine EL_v x_move rfl ?_
  refine EL_v x_move rfl ?_
  refine EL_v (x_nil rfl) rfl ?_
  refine EL_v (x_field rfl (tab_fld rfl)) rfl ?_
  refine EL_v (x_load rfl (tab_one rfl) (by with_reducible assumption)) rfl ?_
  refine EL_v x_move rfl ?_
  refine EL_v (x_bslice1 (v := idv x) rfl rfl Try.underlying116 (by kernel_rfl) (z := .int .i32 0) rfl) rfl ?_
  change EL _ _ _ _ _ _ (w'.alloc (.cells #[idv x] 77))
  have hN6 := heap_alloc_new w' (.cells #[idv x] 77)
  have hO6 : ∀ zz, zz < w'.heap.size → (w'.alloc (.cells #[idv x] 77)).heap[zz]? = w'.heap[zz]? := fun _ hi => Below.heap_alloc _ _ _ hi
  have hZ6 := size_alloc w' (.cells #[idv x] 77)
  have hB6 := (Below.refl B w').alloc (by omega) (.cells #[idv x] 77)
  have hK6 := Keep.alloc w' (.cells #[idv x] 77)
  generalize w'.alloc (.cells #[idv x] 77) = w6 at hN6 hO6 hZ6 hB6 hK6 ⊢
  have hd6 := ownsRow_congr h.dense (w' := w6) fun k e => hO6 k (ownsRow_lt h.dense k e).2
  have hlow := ownsRow_lt hd6
  have hsq := h.sq
  have hslt : s < w'.heap.size := (Array.getElem?_eq_some_iff.1 h.cells).1
  have hqlt : q < w'.heap.size := (Array.getElem?_eq_some_iff.1 h.sparse).1
  rw [hdl] at hd6
  refine EL_append1 hd6 (cell_block hN6 rfl) rfl (by omega) (by decide) (by omega) Try.underlying116 info77 rfl rfl rfl rfl ?_
  intro v7 w7 hrow7 hgr7 hwh7
  refine EL_v (x_nil rfl) rfl ?_
  refine EL_v (x_field rfl (tab_fld rfl)) rfl ?_
  have hs7 : w7.heap[s]? = some (.cells #[.slice da ds.length dc, .slice (some ⟨q, 0, none⟩) m m] 125 (0, 0)) := by
    rw [hgr7.block s (by omega) (fun e => by have := (hlow s e.symm).1; omega), hO6 s hslt]; exact h.cells
  have hq7 : w7.heap[q]? = some (.cells (cellsOf (i32s sp) m) 21 (0, 0)) := by
    rw [hgr7.block q (by omega) (fun e => by have := (hlow q e.symm).1; omega), hO6 q hqlt]; exact h.sparse
  have hOn7 : Only (fun j => j = s ∨ j = q ∨ (Value.slice da ds.length dc).ownBlock = some j) w' w7 :=
    (Only.of_below (⟨hB6.os, hB6.tape, hB6.output, hB6.size, fun j hj => hO6 j hj⟩ : Below w'.heap.size w' w6)).trans (Only.grown hgr7 fun j e => .inr (.inr e))
  refine EL_s (x_store rfl rfl (ownsRow_one hrow7) (tab_size1 rfl) (cell_block hs7 rfl) (free_block hs7)) rfl ?_
  refine EL_nil ?_
  refine thenQ_normal ?_
  have hs8 := heap_setCell_same (o := 0 + 0) (u := v7) hs7
  have hq8 : (w7.setCell ⟨s, 0 + 0, none⟩ v7).heap[q]? = some (.cells (cellsOf (i32s sp) m) 21 (0, 0)) := (Below.heap_setCell _ _ _ _ (fun e => hsq.2.2 e.symm)).trans hq7
  have hv7 : ∀ k, v7.ownBlock = some k → k ≠ s ∧ k ≠ q := fun k e => by
    have := (ownsRow_lt hrow7 k e).1
    omega
  have hrow8 : (w7.setCell ⟨s, 0 + 0, none⟩ v7).ownsRow base 77 1 v7 (ds.length + 1) (ds.map idv ++ [idv x]) := ownsRow_congr hrow7 fun k e => Below.heap_setCell _ _ _ _ (hv7 k e).1
  have hOn8 := hOn7.set (s := s) (o := 0 + 0) v7 (.inl rfl)
  change EC _ _ _ _ _ (w7.setCell ⟨s, 0 + 0, none⟩ v7)
  generalize w7.setCell ⟨s, 0 + 0, none⟩ v7 = w8 at hs8 hq8 hrow8 hOn8 ⊢
  obtain ⟨a7, c7, hv⟩ := row_slice hrow8
  subst hv
  have hs8' : w8.heap[s]? = some (.cells #[.slice a7 (ds.length + 1) c7, .slice (some ⟨q, 0, none⟩) m m] 125 (0, 0)) := hs8
  have hc : Cells [(⟨s, 0 + 1, none⟩, .slice (some ⟨q, 0, none⟩) m m), (⟨s, 0 + 0, none⟩, .slice a7 (ds.length + 1) c7)] w8.drew := (Keep.drew w8).cells (.cons (cell_block hs8' rfl) (.cons (cell_block hs8' rfl) (.nil _)))
  refine EC_draw mixed (Cells [(⟨s, 0 + 1, none⟩, .slice (some ⟨q, 0, none⟩) m m), (⟨s, 0 + 0, none⟩, .slice a7 (ds.length + 1) c7)]) [(0, false), (1, false), (2, false), (3, false), (4, false), (5, false), (6, false), (7, false), (8, false), (9, false), (10, false), (11, false), (12, false), (13, true)] (by kernel_rfl) hc ?_
  have hq9 : w8.drew.heap[q]? = some (.cells (cellsOf (i32s sp) m) 21 (0, 0)) := hq8
  have hs9 : w8.drew.heap[s]? = some (.cells #[.slice a7 (ds.length + 1) c7, .slice (some ⟨q, 0, none⟩) m m] 125 (0, 0)) := hs8'
  have hrow9 : w8.drew.ownsRow base 77 1 (.slice a7 (ds.length + 1) c7) (ds.length + 1) (ds.map idv ++ [idv x]) := hrow8
  have hOn9 : Only (fun j => j = s ∨ j = q ∨ (Value.slice da ds.length dc).ownBlock = some j) w' w8.drew := hOn8.trans ⟨rfl, rfl, rfl, Nat.le_refl _, fun _ _ _ => rfl⟩
  generalize w8.drew = W at hc hq9 hs9 hrow9 hOn9 ⊢
  refine DL_v rfl (fun _ _ => x_move) ?_
  refine DL_v rfl (fun _ _ => x_nil rfl) ?_
  refine DL_v rfl (fun _ _ => x_field rfl (tab_fld rfl)) ?_
  refine DL_v rfl (fun _ hS => x_load rfl (tab_one rfl) (hS.get (by first | exact .head _ | exact .tail _ (.head _) | exact .tail _ (.tail _ (.head _)) | exact .tail _ (.tail _ (.tail _ (.head _))) | exact .tail _ (.tail _ (.tail _ (.tail _ (.head _)))) | exact .tail _ (.tail _ (.tail _ (.tail _ (.tail _ (.head _))))) | exact .tail _ (.tail _ (.tail _ (.tail _ (.tail _ (.tail _ (.head _)))))) | exact .tail _ (.tail _ (.tail _ (.tail _ (.tail _ (.tail _ (.tail _ (.head _)))))))))) ?_
  refine DL_v rfl (fun _ _ => x_move) ?_
  refine DL_v rfl (fun _ _ => x_move) ?_
  refine DL_v rfl (fun _ _ => x_nil rfl) ?_
  refine DL_v rfl (fun _ _ => x_field rfl (tab_fld rfl)) ?_
  refine DL_v rfl (fun _ hS => x_load rfl (tab_one rfl) (hS.get (by first | exact .head _ | exact .tail _ (.head _) | exact .tail _ (.tail _ (.head _)) | exact .tail _ (.tail _ (.tail _ (.head _))) | exact .tail _ (.tail _ (.tail _ (.tail _ (.head _)))) | exact .tail _ (.tail _ (.tail _ (.tail _ (.tail _ (.head _))))) | exact .tail _ (.tail _ (.tail _ (.tail _ (.tail _ (.tail _ (.head _)))))) | exact .tail _ (.tail _ (.tail _ (.tail _ (.tail _ (.tail _ (.tail _ (.head _)))))))))) ?_
  refine DL_v rfl (fun _ _ => x_len rfl (tab_sl rfl)) ?_
  refine DL_v rfl (fun _ _ => x_conv (m := (ds.length : Int) + 1) rfl (by kernel_rfl) (tab_int rfl) (by rw [IntWalk.i32_in _ (by omega)]; omega)) ?_
  refine DL_v rfl (fun _ _ => x_sub (c := (ds.length : Int)) rfl rfl (by rw [IntWalk.i32_in _ (by omega)]; omega)) ?_
  refine DL_v rfl (fun _ _ => x_index1 rfl rfl (tab_sl rfl) (by omega)) ?_
  refine DL_ws rfl (x_store rfl rfl rfl (tab_size1 rfl) (cell_block hq9 (by rw [Nat.zero_add]; exact cellsOf_get _ hx)) (free_block hq9)) (.inl rfl) ?_
  refine DL_nil ?_
  have hq10 := heap_setCell_same (o := 0 + (x + 1)) (u := .int .i32 (ds.length : Int)) hq9
  rw [cellsOf_set] at hq10
  have hOn10 := hOn9.set (s := q) (o := 0 + (x + 1)) (.int .i32 (ds.length : Int)) (.inr (.inl rfl))
  have hrowF := ownsRow_congr hrow9 (w' := W.setCell ⟨q, 0 + (x + 1), none⟩ (.int .i32 (ds.length : Int))) fun k e => Below.heap_setCell _ _ _ _ (hv7 k e).2
  have hdl2 : ((ds ++ [x]).map idv).length = ds.length + 1 := by simp
  refine post_none rfl rfl ⟨.slice a7 (ds.length + 1) c7, ds ++ [x], fun i => if i = x + 1 then (ds.length : Int) else sp i, ⟨?_, ?_, ?_, hsq, fun i => ?_, fun y hy => ?_, ?_⟩, List.mem_append.2 (.inr (.head _)), fun y hy => List.mem_append.2 (.inl hy), ?_, ?_, hOn10⟩
  · exact (Below.heap_setCell _ _ _ _ hsq.2.2).trans hs9
  · refine Eq.trans hq10 ?_
    congr 2
    refine cellsOf_congr fun i _ => ?_
    show (if i = 0 + (x + 1) then Value.int .i32 (ds.length : Int) else i32s sp i) = Value.int .i32 (if i = x + 1 then (ds.length : Int) else sp i)
    rw [Nat.zero_add]
    by_cases e : i = x + 1
    · rw [if_pos e, if_pos e]
    · rw [if_neg e, if_neg e]; rfl
  · rw [hdl2, List.map_append]
    exact hrowF
  · show 0 ≤ (if i = x + 1 then (ds.length : Int) else sp i) ∧ (if i = x + 1 then (ds.length : Int) else sp i) ≤ 1000
    have := h.nn i
    split <;> omega
  · rcases List.mem_append.1 hy with hy | hy
    · exact h.lt y hy
    · have : y = x := by simpa using hy
      subst this; exact hx
  · rw [List.length_append]
    have : [x].length = 1 := rfl
    omega
  · rw [List.length_append]
    have : [x].length = 1 := rfl
    omega
  · rcases hwh7 with e | e
    · exact .inl e
    · exact .inr ⟨_, by omega, e⟩

theorem remove_ret {w : World} {base s q m : Nat} {dv : Value} {ds : List Nat} {sp : Nat → Int} (h : SS w base s q m dv ds sp) {x : Nat} (hx : x + 1 < m) :
    Ret Try.prog 59 #[.pointer (some ⟨s, 0, none⟩), idv x] w fun _ w' => ∃ dv' ds' sp', SS w' base s q m dv' ds' sp' ∧ (∀ y ∈ ds, y ≠ x → y ∈ ds') ∧ dv'.ownBlock = dv.ownBlock ∧
      Only (fun j => j = s ∨ j = q ∨ dv.ownBlock = some j) w w' := by
  refine ret_of_EC Try.func59 rfl rfl ?_
  have g1 : w.cell? ⟨s, 0 + 1, none⟩ = some (.slice (some ⟨q, 0, none⟩) m m) := cell_block h.cells rfl
  have hsp : w.cell? ⟨q, 0 + (x + 1), none⟩ = some (.int .i32 (sp (x + 1))) := cell_block h.sparse (by rw [Nat.zero_add]; exact cellsOf_get _ hx)
  have hn := h.nn (x + 1)
  have hsh := h.short
  obtain ⟨da, dc, hdv⟩ := row_slice h.dense
  have hdl : (ds.map idv).length = ds.length := List.length_map ..
  rw [hdl] at hdv
  subst hdv
  have g0 : w.cell? ⟨s, 0 + 0, none⟩ = some (.slice da ds.length dc) := cell_block h.cells rfl
  refine EC_seq ?_
  refine EC_region ?_
  refine EL_v x_move rfl ?_
  refine EL_v (x_nil rfl) rfl ?_
  refine EL_v (x_field rfl (tab_fld rfl)) rfl ?_
  refine EL_v (x_load rfl (tab_one rfl) (by with_reducible assumption)) rfl ?_
  refine EL_v x_move rfl ?_
  refine EL_v (x_index1 rfl rfl (tab_sl rfl) (by omega)) rfl ?_
  refine EL_v (x_load rfl (tab_one rfl) (by with_reducible assumption)) rfl ?_
  refine EL_v x_assign rfl ?_
  refine EL_nil ?_
  refine thenQ_normal ?_
  skip
  refine EC_seq ?_
  refine EC_region ?_
  refine EL_cut 19 (fun e w' => w' = w ∧ ∃ b : Bool, (b = true → ∃ ii : Nat, sp (x + 1) = (ii : Int) ∧ ii < ds.length ∧ ds.getD ii 0 = x) ∧ At e [(31, .bool b), (0, .pointer (some ⟨s, 0, none⟩)), (1, idv x), (4, .int .i32 (sp (x + 1)))]) ?_ ?_
  · refine EL_v x_move rfl ?_
    refine EL_v x_move rfl ?_
    refine EL_v (x_nil rfl) rfl ?_
    refine EL_v (x_field rfl (tab_fld rfl)) rfl ?_
    refine EL_v (x_load rfl (tab_one rfl) (by with_reducible assumption)) rfl ?_
    refine EL_v (x_len rfl (tab_sl rfl)) rfl ?_
    refine EL_v (x_conv (m := (ds.length : Int)) rfl (by kernel_rfl) (tab_int rfl) (IntWalk.i32_in _ (by omega))) rfl ?_
    refine EL_v (x_lss rfl rfl) rfl ?_
    refine EL_v x_move rfl ?_
    by_cases hlt : sp (x + 1) < (ds.length : Int)
    · rw [decide_eq_true hlt]
      obtain ⟨ii, hii⟩ : ∃ ii : Nat, sp (x + 1) = (ii : Int) := ⟨_, (Int.toNat_of_nonneg hn.1).symm⟩
      have hil : ii < ds.length := by omega
      obtain ⟨g, cap, e, hg1, hg2, hg3, hg4⟩ := h.item hil
      injection e with e1 e2 e3
      subst e1
      refine EL_yes rfl rfl x_move rfl ?_
      refine EL_yes rfl rfl (x_nil rfl) rfl ?_
      refine EL_yes rfl rfl (x_field rfl (tab_fld rfl)) rfl ?_
      refine EL_yes rfl rfl (x_load rfl (tab_one rfl) (by with_reducible assumption)) rfl ?_
      refine EL_yes rfl rfl x_move rfl ?_
      refine EL_yes rfl rfl (x_indexZ1 (i := ii) rfl rfl hii (tab_sl rfl) hil) rfl ?_
      refine EL_yes rfl rfl (x_load rfl (tab_one rfl) (by with_reducible assumption)) rfl ?_
      refine EL_yes rfl rfl x_move rfl ?_
      refine EL_yes rfl rfl (x_eql rfl rfl) rfl ?_
      refine EL_v (x_pick_t rfl) rfl ?_
      refine EL_nil ?_
      refine ⟨rfl, _, fun hb => ⟨ii, hii, hil, ?_⟩, at_of rfl ⟨rfl, rfl, rfl, rfl, trivial⟩⟩
      have := of_decide_eq_true hb
      omega
    · rw [decide_eq_false hlt]
      refine EL_no rfl rfl ?_
      refine EL_no rfl rfl ?_
      refine EL_no rfl rfl ?_
      refine EL_no rfl rfl ?_
      refine EL_no rfl rfl ?_
      refine EL_no rfl rfl ?_
      refine EL_no rfl rfl ?_
      refine EL_no rfl rfl ?_
      refine EL_no rfl rfl ?_
      refine EL_v (x_pick_f rfl) rfl ?_
      refine EL_nil ?_
      exact ⟨rfl, false, fun hb => (by cases hb), at_of rfl ⟨rfl, rfl, rfl, rfl, trivial⟩⟩
  rintro e w' ⟨rfl, b, hb, t, rfl⟩
  refine EL_nil ?_
  refine thenQ_normal ?_
  cases b with
  | false =>
    refine EC_no rfl rfl ?_
    refine EC_skip ?_
    exact post_none rfl rfl ⟨_, ds, sp, h, fun y hy _ => hy, rfl, ⟨rfl, rfl, rfl, Nat.le_refl _, fun _ _ _ => rfl⟩⟩
  | true =>
  refine EC_yes rfl rfl ?_
  obtain ⟨ii, hii, hil, hix⟩ := hb rfl
  rw [hii]
  have hsq := h.sq
  have hpos : 0 < ds.length := by omega
  obtain ⟨y, hy⟩ : ∃ y, y = ds.getD (ds.length - 1) 0 := ⟨_, rfl⟩
  obtain ⟨g, cap, e, hg1, hg2, hg3, hg4⟩ := h.item (k := ds.length - 1) (by omega)
  injection e with e1 e2 e3
  subst e1
  subst e3
  rw [← hy] at hg4
  have hyd : y ∈ ds := by rw [hy, List.getD_eq_getElem?_getD, List.getElem?_eq_getElem (by omega)]; simp
  have hym := h.lt y hyd
  have hlen1 : ((ds.length - 1 : Nat) : Int) = (ds.length : Int) - 1 := by omega
  refine EC_seq ?_
  have hc : Cells [(⟨s, 0 + 0, none⟩, .slice (some ⟨g, 0, none⟩) ds.length dc), (⟨g, 0 + (ds.length - 1), none⟩, .int .i32 ((y : Int) + 1))] w'.drew := (Keep.drew w').cells (.cons g0 (.cons hg4 (.nil _)))
  refine EC_draw mixed (Cells [(⟨s, 0 + 0, none⟩, .slice (some ⟨g, 0, none⟩) ds.length dc), (⟨g, 0 + (ds.length - 1), none⟩, .int .i32 ((y : Int) + 1))]) [(0, false), (1, false), (2, false), (3, false), (4, false), (5, false), (6, false), (7, false), (8, false), (9, false), (10, false), (11, false), (12, false)] (by kernel_rfl) hc ?_
  have hD : SS w'.drew base s q m (.slice (some ⟨g, 0, none⟩) ds.length dc) ds sp := h.stay rfl rfl fun _ _ => rfl
  have hO : Only (fun j => j = s ∨ j = q ∨ (Value.slice (some ⟨g, 0, none⟩) ds.length dc).ownBlock = some j) w' w'.drew := ⟨rfl, rfl, rfl, Nat.le_refl _, fun _ _ _ => rfl⟩
  generalize w'.drew = W at hc hD hO ⊢
  refine DL_v rfl (fun _ _ => x_move) ?_
  refine DL_v rfl (fun _ _ => x_nil rfl) ?_
  refine DL_v rfl (fun _ _ => x_field rfl (tab_fld rfl)) ?_
  refine DL_v rfl (fun _ hS => x_load rfl (tab_one rfl) (hS.get (by first | exact .head _ | exact .tail _ (.head _) | exact .tail _ (.tail _ (.head _)) | exact .tail _ (.tail _ (.tail _ (.head _))) | exact .tail _ (.tail _ (.tail _ (.tail _ (.head _)))) | exact .tail _ (.tail _ (.tail _ (.tail _ (.tail _ (.head _))))) | exact .tail _ (.tail _ (.tail _ (.tail _ (.tail _ (.tail _ (.head _)))))) | exact .tail _ (.tail _ (.tail _ (.tail _ (.tail _ (.tail _ (.tail _ (.head _)))))))))) ?_
  refine DL_v rfl (fun _ _ => x_move) ?_
  refine DL_v rfl (fun _ _ => x_nil rfl) ?_
  refine DL_v rfl (fun _ _ => x_field rfl (tab_fld rfl)) ?_
  refine DL_v rfl (fun _ hS => x_load rfl (tab_one rfl) (hS.get (by first | exact .head _ | exact .tail _ (.head _) | exact .tail _ (.tail _ (.head _)) | exact .tail _ (.tail _ (.tail _ (.head _))) | exact .tail _ (.tail _ (.tail _ (.tail _ (.head _)))) | exact .tail _ (.tail _ (.tail _ (.tail _ (.tail _ (.head _))))) | exact .tail _ (.tail _ (.tail _ (.tail _ (.tail _ (.tail _ (.head _)))))) | exact .tail _ (.tail _ (.tail _ (.tail _ (.tail _ (.tail _ (.tail _ (.head _)))))))))) ?_
  refine DL_v rfl (fun _ _ => x_len rfl (tab_sl rfl)) ?_
  refine DL_v rfl (fun _ _ => x_sub (c := ((ds.length - 1 : Nat) : Int)) rfl rfl (by rw [IntWalk.i64_in _ (by omega)]; omega)) ?_
  refine DL_v rfl (fun _ _ => x_index1 rfl rfl (tab_sl rfl) (by omega)) ?_
  refine DL_v rfl (fun _ hS => x_load rfl (tab_one rfl) (hS.get (by first | exact .head _ | exact .tail _ (.head _) | exact .tail _ (.tail _ (.head _)) | exact .tail _ (.tail _ (.tail _ (.head _))) | exact .tail _ (.tail _ (.tail _ (.tail _ (.head _)))) | exact .tail _ (.tail _ (.tail _ (.tail _ (.tail _ (.head _))))) | exact .tail _ (.tail _ (.tail _ (.tail _ (.tail _ (.tail _ (.head _)))))) | exact .tail _ (.tail _ (.tail _ (.tail _ (.tail _ (.tail _ (.tail _ (.head _)))))))))) ?_
  refine DL_v rfl (fun _ _ => x_assign) ?_
  refine DL_nil ?_
  refine thenQ_normal ?_
  have a0 : W.cell? ⟨s, 0 + 0, none⟩ = some (.slice (some ⟨g, 0, none⟩) ds.length dc) := hc.get (.head _)
  refine EC_seq ?_
  refine EC_region ?_
  have hgs : g ≠ s := by omega
  have hgq : g ≠ q := by omega
  obtain ⟨g', cap', e, hh1, hh2, hh3, hh4⟩ := hD.item (k := ii) hil
  injection e with e1 e2 e3
  injection e1 with e1
  injection e1 with e1 _ _
  subst e1
  subst e3
  have hdl' : (ds.map idv).length = ds.length := hdl
  obtain ⟨cur, hcur⟩ : ∃ cur, W.heap[g]? = some (.cells cur 77 (0, 0)) := by
    rcases hD.dense.2 with ⟨h0, _⟩ | ⟨g'', cap'', cur, e, _, hgg, _⟩
    · cases h0
    · injection e with e1 e2 e3
      injection e1 with e1
      injection e1 with e1 _ _
      subst e1
      exact ⟨cur, hgg⟩
  refine EL_v x_move rfl ?_
  refine EL_v (x_nil rfl) rfl ?_
  refine EL_v (x_field rfl (tab_fld rfl)) rfl ?_
  refine EL_v (x_load rfl (tab_one rfl) (by with_reducible assumption)) rfl ?_
  refine EL_v x_move rfl ?_
  refine EL_v x_move rfl ?_
  refine EL_v (x_index1 rfl rfl (tab_sl rfl) (by omega)) rfl ?_
  refine EL_s (x_store rfl rfl rfl (tab_size1 rfl) hh4 (free_block hcur)) rfl ?_
  refine EL_nil ?_
  refine thenQ_normal ?_
  have hrow1 : (W.setCell ⟨g, 0 + ii, none⟩ (idv y)).ownsRow base 77 1 (.slice (some ⟨g, 0, none⟩) ds.length dc) ds.length ((ds.map idv).set ii (idv y)) := by
    have h1 := row_set (k := ii) (u := idv y) (xs := ds.map idv) (g := g) (cap := dc) (el := 77) (base := base) (w := W) (by have h0 := hD.dense; rw [hdl'] at h0 ⊢; exact h0) (by rw [hdl']; exact hil)
    rw [List.length_set, hdl'] at h1
    exact h1
  have hO1 := hO.set (s := g) (o := 0 + ii) (idv y) (.inr (.inr rfl))
  have hs1 : (W.setCell ⟨g, 0 + ii, none⟩ (idv y)).heap[s]? = some (.cells #[.slice (some ⟨g, 0, none⟩) ds.length dc, .slice (some ⟨q, 0, none⟩) m m] 125 (0, 0)) := (Below.heap_setCell _ _ _ _ (fun e => hgs e.symm)).trans hD.cells
  have hq1 : (W.setCell ⟨g, 0 + ii, none⟩ (idv y)).heap[q]? = some (.cells (cellsOf (i32s sp) m) 21 (0, 0)) := (Below.heap_setCell _ _ _ _ (fun e => hgq e.symm)).trans hD.sparse
  change EC _ _ _ _ _ (W.setCell ⟨g, 0 + ii, none⟩ (idv y))
  generalize W.setCell ⟨g, 0 + ii, none⟩ (idv y) = W1 at hrow1 hO1 hs1 hq1 ⊢
  have a1 : W1.cell? ⟨s, 0 + 1, none⟩ = some (.slice (some ⟨q, 0, none⟩) m m) := cell_block hs1 rfl
  refine EC_seq ?_
  refine EC_region ?_
  refine EL_v x_move rfl ?_
  refine EL_v (x_nil rfl) rfl ?_
  refine EL_v (x_field rfl (tab_fld rfl)) rfl ?_
  refine EL_v (x_load rfl (tab_one rfl) (by with_reducible assumption)) rfl ?_
  refine EL_v x_move rfl ?_
  refine EL_v x_move rfl ?_
  refine EL_v (x_index1 rfl rfl (tab_sl rfl) (by omega)) rfl ?_
  refine EL_s (x_store rfl rfl rfl (tab_size1 rfl) (cell_block hq1 (by rw [Nat.zero_add]; exact cellsOf_get _ hym)) (free_block hq1)) rfl ?_
  refine EL_nil ?_
  refine thenQ_normal ?_
  have hq2 := heap_setCell_same (o := 0 + (y + 1)) (u := .int .i32 (ii : Int)) hq1
  rw [cellsOf_set] at hq2
  have hO2 := hO1.set (s := q) (o := 0 + (y + 1)) (.int .i32 (ii : Int)) (.inr (.inl rfl))
  have hs2 : (W1.setCell ⟨q, 0 + (y + 1), none⟩ (.int .i32 (ii : Int))).heap[s]? = some (.cells #[.slice (some ⟨g, 0, none⟩) ds.length dc, .slice (some ⟨q, 0, none⟩) m m] 125 (0, 0)) := (Below.heap_setCell _ _ _ _ hsq.2.2).trans hs1
  have hrow2 : (W1.setCell ⟨q, 0 + (y + 1), none⟩ (.int .i32 (ii : Int))).ownsRow base 77 1 (.slice (some ⟨g, 0, none⟩) ds.length dc) ds.length ((ds.map idv).set ii (idv y)) := ownsRow_congr hrow1 fun k e => by
    have e := Option.some.inj e
    subst e
    exact Below.heap_setCell _ _ _ _ hgq
  change EC _ _ _ _ _ (W1.setCell ⟨q, 0 + (y + 1), none⟩ (.int .i32 (ii : Int)))
  generalize W1.setCell ⟨q, 0 + (y + 1), none⟩ (.int .i32 (ii : Int)) = W2 at hq2 hO2 hs2 hrow2 ⊢
  have hc2 : Cells [(⟨s, 0 + 0, none⟩, .slice (some ⟨g, 0, none⟩) ds.length dc)] W2.drew := (Keep.drew W2).cells (.cons (cell_block hs2 rfl) (.nil _))
  refine EC_draw mixed (Cells [(⟨s, 0 + 0, none⟩, .slice (some ⟨g, 0, none⟩) ds.length dc)]) [(0, false), (1, false), (2, false), (3, false), (4, false), (5, false), (6, false), (7, false), (8, false), (9, false), (10, false), (11, false), (12, false), (13, false), (14, true)] (by kernel_rfl) hc2 ?_
  have hs3 : W2.drew.heap[s]? = some (.cells #[.slice (some ⟨g, 0, none⟩) ds.length dc, .slice (some ⟨q, 0, none⟩) m m] 125 (0, 0)) := hs2
  have hq3 : W2.drew.heap[q]? = _ := hq2
  have hrow3 : W2.drew.ownsRow base 77 1 (.slice (some ⟨g, 0, none⟩) ds.length dc) ds.length ((ds.map idv).set ii (idv y)) := hrow2
  have hO3 : Only (fun j => j = s ∨ j = q ∨ (Value.slice (some ⟨g, 0, none⟩) ds.length dc).ownBlock = some j) w' W2.drew := hO2.trans ⟨rfl, rfl, rfl, Nat.le_refl _, fun _ _ _ => rfl⟩
  generalize W2.drew = W3 at hc2 hs3 hq3 hrow3 hO3 ⊢
  refine DL_v rfl (fun _ _ => x_move) ?_
  refine DL_v rfl (fun _ _ => x_move) ?_
  refine DL_v rfl (fun _ _ => x_nil rfl) ?_
  refine DL_v rfl (fun _ _ => x_field rfl (tab_fld rfl)) ?_
  refine DL_v rfl (fun _ hS => x_load rfl (tab_one rfl) (hS.get (by first | exact .head _ | exact .tail _ (.head _) | exact .tail _ (.tail _ (.head _)) | exact .tail _ (.tail _ (.tail _ (.head _))) | exact .tail _ (.tail _ (.tail _ (.tail _ (.head _)))) | exact .tail _ (.tail _ (.tail _ (.tail _ (.tail _ (.head _))))) | exact .tail _ (.tail _ (.tail _ (.tail _ (.tail _ (.tail _ (.head _)))))) | exact .tail _ (.tail _ (.tail _ (.tail _ (.tail _ (.tail _ (.tail _ (.head _)))))))))) ?_
  refine DL_v rfl (fun _ _ => x_move) ?_
  refine DL_v rfl (fun _ _ => x_nil rfl) ?_
  refine DL_v rfl (fun _ _ => x_field rfl (tab_fld rfl)) ?_
  refine DL_v rfl (fun _ hS => x_load rfl (tab_one rfl) (hS.get (by first | exact .head _ | exact .tail _ (.head _) | exact .tail _ (.tail _ (.head _)) | exact .tail _ (.tail _ (.tail _ (.head _))) | exact .tail _ (.tail _ (.tail _ (.tail _ (.head _)))) | exact .tail _ (.tail _ (.tail _ (.tail _ (.tail _ (.head _))))) | exact .tail _ (.tail _ (.tail _ (.tail _ (.tail _ (.tail _ (.head _)))))) | exact .tail _ (.tail _ (.tail _ (.tail _ (.tail _ (.tail _ (.tail _ (.head _)))))))))) ?_
  refine DL_v rfl (fun _ _ => x_len rfl (tab_sl rfl)) ?_
  refine DL_v rfl (fun _ _ => x_sub (c := ((ds.length - 1 : Nat) : Int)) rfl rfl (by rw [IntWalk.i64_in _ (by omega)]; omega)) ?_
  refine DL_v rfl (fun _ _ => x_sliceTo (k := ds.length - 1) Try.underlying116 info77 rfl rfl (by omega)) ?_
  refine DL_v rfl (fun _ _ => x_nil rfl) ?_
  refine DL_v rfl (fun _ _ => x_field rfl (tab_fld rfl)) ?_
  refine DL_ws rfl (x_store rfl rfl rfl (tab_size1 rfl) (cell_block hs3 rfl) (free_block hs3)) (.inl rfl) ?_
  refine DL_nil ?_
  have hs4 := heap_setCell_same (o := 0 + 0) (u := .slice (some ⟨g, 0, none⟩) (ds.length - 1) dc) hs3
  have hO4 := hO3.set (s := s) (o := 0 + 0) (.slice (some ⟨g, 0, none⟩) (ds.length - 1) dc) (.inl rfl)
  have hq4 := (Below.heap_setCell W3 ⟨s, 0 + 0, none⟩ (.slice (some ⟨g, 0, none⟩) (ds.length - 1) dc) q (fun e => hsq.2.2 e.symm)).trans hq3
  have hset : (ds.map idv).set ii (idv y) = (ds.set ii y).map idv := List.map_set.symm
  have hnil : ds.set ii y ≠ [] := fun e => by
    have := congrArg List.length e
    rw [List.length_set] at this
    simp at this
    subst this
    simp at hpos
  have hcat : ds.set ii y = (ds.set ii y).dropLast ++ [(ds.set ii y).getLast hnil] := (List.dropLast_concat_getLast hnil).symm
  have hdrop : (ds.set ii y).dropLast.length = ds.length - 1 := by rw [List.length_dropLast, List.length_set]
  have hrow4 : W3.ownsRow base 77 1 (.slice (some ⟨g, 0, none⟩) (ds.length - 1) dc) (ds.length - 1) ((ds.set ii y).dropLast.map idv) := by
    rw [hset, hcat, List.map_append] at hrow3
    have hl2 : ((ds.set ii y).dropLast.map idv ++ [(ds.set ii y).getLast hnil].map idv).length = ds.length := by
      rw [List.length_append, List.length_map, List.length_map, hdrop]
      have : [(ds.set ii y).getLast hnil].length = 1 := rfl
      omega
    have h1 := row_pop (w := W3) (base := base) (el := 77) (g := g) (cap := dc) (ys := (ds.set ii y).dropLast.map idv) (u := idv ((ds.set ii y).getLast hnil)) (by
      have e2 : [(ds.set ii y).getLast hnil].map idv = [idv ((ds.set ii y).getLast hnil)] := rfl
      rw [e2] at hl2 hrow3
      rw [hl2]; exact hrow3)
    rw [List.length_map, hdrop] at h1
    exact h1
  have hsub : ∀ z ∈ (ds.set ii y).dropLast, z ∈ ds := fun z hz => by
    rcases List.mem_or_eq_of_mem_set ((List.dropLast_sublist _).subset hz) with h5 | h5
    · exact h5
    · rw [h5]; exact hyd
  refine post_none rfl rfl ⟨.slice (some ⟨g, 0, none⟩) (ds.length - 1) dc, (ds.set ii y).dropLast, fun i => if i = y + 1 then (ii : Int) else sp i, ⟨hs4, ?_, ?_, hsq, fun i => ?_, fun z hz => h.lt z (hsub z hz), by omega⟩, fun z hz hne => ?_, rfl, hO4⟩
  · refine Eq.trans hq4 ?_
    congr 2
    refine cellsOf_congr fun i _ => ?_
    show (if i = 0 + (y + 1) then Value.int .i32 (ii : Int) else i32s sp i) = Value.int .i32 (if i = y + 1 then (ii : Int) else sp i)
    rw [Nat.zero_add]
    by_cases e : i = y + 1
    · rw [if_pos e, if_pos e]
    · rw [if_neg e, if_neg e]; rfl
  · rw [List.length_map, hdrop]
    exact ownsRow_congr hrow4 fun k e => by
      have e := Option.some.inj e
      subst e
      exact Below.heap_setCell _ _ _ _ hgs
  · show 0 ≤ (if i = y + 1 then (ii : Int) else sp i) ∧ (if i = y + 1 then (ii : Int) else sp i) ≤ 1000
    have := h.nn i
    split <;> omega
  · obtain ⟨j, hj, rfl⟩ := List.getElem_of_mem hz
    have hji : j ≠ ii := fun e => by
      subst e
      rw [List.getD_eq_getElem?_getD, List.getElem?_eq_getElem hj] at hix
      exact hne hix
    by_cases hjl : j = ds.length - 1
    · have hyz : ds[j] = y := by
        rw [hy, ← hjl, List.getD_eq_getElem?_getD, List.getElem?_eq_getElem hj]; rfl
      rw [hyz]
      have : ii < (ds.set ii y).dropLast.length := by omega
      refine List.mem_iff_getElem.2 ⟨ii, this, ?_⟩
      rw [List.getElem_dropLast, List.getElem_set_self]
    · have : j < (ds.set ii y).dropLast.length := by omega
      refine List.mem_iff_getElem.2 ⟨j, this, ?_⟩
      rw [List.getElem_dropLast, List.getElem_set_ne (fun e => hji e.symm)]
end Go.Proofs.Yteepnepebilckaa
