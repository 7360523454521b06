/- Walks: Layout. -/
import Derived.Test.YteepnepebilckaaY4
import Derived.Test.YteepnepebilckaaP4
import Derived.Test.YteepnepebilckaaW8
namespace Go.Proofs.Yteepnepebilckaa
open Go Go.Eng Go.RowKit

theorem layOk {T : Nat → Bool} {g : Gph} (h : GoodG T g) : LayOk g := by
  refine ⟨h.one, h.nb, fun b hb e => ?_, fun b hb => ⟨h.slen hb, fun s hs => (h.succs b hb s hs).2⟩, fun b hb => h.plen hb, fun b hb => ?_⟩
  · have := (h.kind b hb).2.1
    omega
  · have h1 := h.likely b hb
    have h2 := (h.kind b hb).2.2
    have h3 : g.likely b ≠ 0 → (g.succs b).length = 2 := fun e => by
      by_cases hk : g.kind b = 1
      · rw [hk] at h2
        have : ways 1 = 2 := rfl
        omega
      · exact absurd (h1.2.2 hk) e
    exact ⟨fun e => by have := h3 (by omega); omega, fun e => by have := h3 (by omega); omega⟩
/-- An order of n blocks. -/
structure Order (n : Nat) (lo : List Nat) : Prop where
  len : lo.length = n
  nd : lo.Nodup
  lt : ∀ x ∈ lo, x < n
  hd : lo.head? = some 0
set_option maxHeartbeats 4000000
attribute [local irreducible] EC EL DL Ret thenQ blockQ loopQ bodyQ onlyN execOp Sem.run World.cell? World.frozen? World.setCell World.alloc

theorem ssaLayout_ret {w : World} {x : Value} {f : Fn} (hx : FnV w x f) (wf : Wf f) (ok : LayOk (toG f)) :
    Ret Try.prog 30 #[x] w fun v w' => (∃ lo, Order f.blks.length lo ∧ IntsV w' v (nats lo)) ∧ Below w.heap.size w w' := by
  obtain ⟨xv, xb, rfl, hvals, hblks⟩ := hx
  refine ret_of_EC Try.func30 rfl rfl ?_
  obtain ⟨B, hBd⟩ : ∃ B, B = w.heap.size := ⟨_, rfl⟩
  have hnb := wf.nb
  refine EC_seq ?_
  refine EC_region ?_
  refine EL_v (x_box (v := .agg #[xv, xb]) rfl) rfl ?_
  change EL _ _ _ _ _ _ (w.alloc (.cells #[xv, xb] 58))
  have hN1 := heap_alloc_new w (.cells #[xv, xb] 58)
  have hO1 : ∀ zz, zz < w.heap.size → (w.alloc (.cells #[xv, xb] 58)).heap[zz]? = w.heap[zz]? := fun _ hi => Below.heap_alloc _ _ _ hi
  have hZ1 := size_alloc w (.cells #[xv, xb] 58)
  have hB1 := (Below.refl B w).alloc (by omega) (.cells #[xv, xb] 58)
  have hK1 := Keep.alloc w (.cells #[xv, xb] 58)
  generalize w.alloc (.cells #[xv, xb] 58) = wa at hN1 hO1 hZ1 hB1 hK1 ⊢
  refine EL_v x_assign rfl ?_
  refine EL_nil ?_
  refine thenQ_normal ?_
  have hx' : FnV wa (.agg #[xv, xb]) f := ⟨xv, xb, rfl, hvals.keep hK1, hblks.keep hK1⟩
  refine EC_seq ?_
  refine EC_region ?_
  refine EL_v x_assign rfl ?_
  refine EL_nil ?_
  refine thenQ_normal ?_
  refine EC_seq ?_
  refine EC_seq ?_
  refine EC_region ?_
  refine EL_v (x_loadS (cs := [xv, xb]) rfl (tab_agg rfl) (cellsAt_block hN1)) rfl ?_
  refine EL_c (x_call Try.func35 rfl rfl rfl rfl) rfl (build_ret hx' wf) ?_
  rintro _ w1 ⟨B1, L, hB1g, rfl, hent, hG, hbl1⟩
  refine EL_c (x_call Try.func40 rfl rfl rfl rfl) rfl (layoutOrder_ret hG hent ok) ?_
  rintro v2 w2 ⟨lo, hrow, hlen, hnd, hlt, hhd, hID, hbl2⟩
  obtain ⟨oa, oc, rfl⟩ := row_slice hrow
  have hlen : lo.length = f.blks.length := hlen
  have hml : (lo.map L.bp).length = lo.length := List.length_map ..
  have hbw2 : Below B w w2 := by
    have h1 := hbl1.size
    exact (hB1.trans (hbl1.mono (by omega))).trans (hbl2.mono (by omega))
  obtain ⟨S, hS⟩ : ∃ S, S = w2.heap.size := ⟨_, rfl⟩
  have hBS : B ≤ S := by have := hbw2.size; omega
  have hID2 : ∀ i, i < f.blks.length → w2.cell? ⟨L.bb i, 0 + 0, none⟩ = some (.int .i32 ((i : Int) + 1)) := hID
  refine EL_v (x_len rfl (tab_sl rfl)) rfl ?_
  refine EL_v x_move rfl ?_
  refine EL_nil ?_
  refine thenQ_normal ?_
  refine EC_block ?_
  refine EC_loop (fun n e wr => ∃ k rv, k ≤ lo.length ∧ At e [(3, rv), (8, .slice oa lo.length oc), (9, .int .i64 (lo.length : Int)), (10, .int .i64 (k : Int))] ∧ wr.ownsRow S 3 1 rv k ((nats (lo.take k)).map (.int .i64)) ∧ Below S w2 wr ∧ n = lo.length - k) lo.length
    ⟨0, _, Nat.zero_le _, at_of rfl ⟨rfl, rfl, rfl, rfl, trivial⟩, World.ownsRow_nil w2 S _ 1, Below.refl _ _, rfl⟩ ?_
  rintro n e wr ⟨k, rv, hk, ⟨t, rfl⟩, hown, hb, rfl⟩
  have hszr := hb.size
  refine EC_seq ?_
  refine EC_region ?_
  refine EL_v (x_lss rfl rfl) rfl ?_
  refine EL_nil ?_
  refine thenQ_normal ?_
  refine EC_seq ?_
  refine EC_if rfl rfl (fun hl => ?_) (fun hg => ?_)
  · have hkl : k < lo.length := by omega
    have hrowr := ownsRow_congr (w' := wr) hrow fun j hj => hb.block j (by have := (ownsRow_lt hrow j hj).2; omega)
    rw [← hml] at hrowr
    obtain ⟨gz, cap, hz1, _, _, _, hz5⟩ := row_form hrowr (k := k) (by omega)
    rw [hml] at hz1
    injection hz1 with e1 e2 e3
    subst e1
    obtain ⟨b, hbk⟩ : ∃ b, lo.getD k 0 = b := ⟨_, rfl⟩
    have hb5 : wr.cell? ⟨gz, 0 + k, none⟩ = some (L.bp b) := by
      rw [hz5, List.getElem_map, ← hbk, List.getD_eq_getElem?_getD, List.getElem?_eq_getElem hkl]; rfl
    clear hz5
    have hbn : b < f.blks.length := by
      rw [List.getD_eq_getElem?_getD, List.getElem?_eq_getElem hkl] at hbk
      have h2 : lo[k] = b := hbk
      rw [← h2]
      exact hlt _ (List.getElem_mem hkl)
    have hIDb : wr.cell? ⟨L.bb b, 0 + 0, none⟩ = some (.int .i32 ((b : Int) + 1)) := (Keep.of_below hb (by omega)) _ _ (hID2 b hbn)
    have htk : (nats (lo.take (k + 1))).map (Value.int .i64) = (nats (lo.take k)).map (Value.int .i64) ++ [.int .i64 (b : Int)] := by
      have h3 : lo.take (k + 1) = lo.take k ++ [b] := by
        rw [List.take_add_one, List.getElem?_eq_getElem hkl]
        rw [List.getD_eq_getElem?_getD, List.getElem?_eq_getElem hkl] at hbk
        have h2 : lo[k] = b := hbk
        rw [h2]; rfl
      rw [h3]
      simp [nats]
    refine EC_skip ?_
    refine thenQ_normal ?_
    refine EC_seq ?_
    refine EC_block ?_
    refine EC_seq ?_
    refine EC_region ?_
    refine EL_v (x_index1 rfl rfl (tab_sl rfl) (by omega)) rfl ?_
    refine EL_v (x_load rfl (tab_one rfl) (by with_reducible assumption)) rfl ?_
    refine EL_v x_assign rfl ?_
    refine EL_nil ?_
    refine thenQ_normal ?_
    refine EC_region ?_
    refine EL_v x_move rfl ?_
    refine EL_v x_move rfl ?_
    refine EL_v (x_nil rfl) rfl ?_
    refine EL_v (x_field rfl (tab_fld rfl)) rfl ?_
    refine EL_v (x_load rfl (tab_one rfl) (by with_reducible assumption)) rfl ?_
    refine EL_v (x_conv (m := (b : Int) + 1) rfl (by kernel_rfl) (tab_int rfl) (IntWalk.i64_in _ (by omega))) rfl ?_
    refine EL_v (x_sub (c := (b : Int)) rfl rfl (by rw [IntWalk.i64_in _ (by omega)]; omega)) rfl ?_
    refine EL_v (x_bslice1 (v := .int .i64 (b : Int)) rfl rfl Try.underlying34 (by kernel_rfl) (z := .int .i64 0) rfl) rfl ?_
    have hSle : S ≤ wr.heap.size := by omega
    change EL _ _ _ _ _ _ (wr.alloc (.cells #[.int .i64 (b : Int)] 3))
    have hN6 := heap_alloc_new wr (.cells #[.int .i64 (b : Int)] 3)
    have hO6 : ∀ zz, zz < wr.heap.size → (wr.alloc (.cells #[.int .i64 (b : Int)] 3)).heap[zz]? = wr.heap[zz]? := fun _ hi => Below.heap_alloc _ _ _ hi
    have hZ6 := size_alloc wr (.cells #[.int .i64 (b : Int)] 3)
    have hB6 := (Below.refl wr.heap.size wr).alloc (Nat.le_refl _) (.cells #[.int .i64 (b : Int)] 3)
    have hK6 := Keep.alloc wr (.cells #[.int .i64 (b : Int)] 3)
    generalize wr.alloc (.cells #[.int .i64 (b : Int)] 3) = w6 at hN6 hO6 hZ6 hB6 hK6 ⊢
    refine EL_append1 (u := .int .i64 (b : Int)) (ownsRow_congr (w' := w6) hown fun j hj => hO6 j (ownsRow_lt hown j hj).2) (cell_block hN6 rfl) rfl (by omega) (by decide) (by omega) Try.underlying34 info3 rfl rfl rfl rfl ?_
    intro v7 w7 hrow7 hgr7 hwh7
    have hb7 : Below S w2 w7 := (hb.trans (hB6.mono hSle)).grown hgr7 (by omega) (fun j e => (ownsRow_lt hown j e).1)
    rw [← htk] at hrow7
    refine EL_v x_assign rfl ?_
    refine EL_nil ?_
    refine blockQ_normal ?_
    refine thenQ_normal ?_
    refine EC_region ?_
    refine EL_v (x_inc rfl rfl (by omega)) rfl ?_
    refine EL_v x_move rfl ?_
    refine EL_nil ?_
    exact loopQ_next (lo.length - (k + 1)) (by omega) ⟨k + 1, v7, by omega, at_of rfl ⟨rfl, rfl, rfl, rfl, trivial⟩, hrow7, hb7, rfl⟩
  · have hk : k = lo.length := by omega
    subst hk
    rw [List.take_length] at hown
    refine EC_exit ?_
    refine thenQ_exit ?_
    refine loopQ_exit ?_
    refine blockQ_hit ?_
    refine thenQ_normal ?_
    refine EC_seq ?_
    refine EC_region ?_
    refine EL_v x_move rfl ?_
    refine EL_v x_assign rfl ?_
    refine EL_nil ?_
    refine thenQ_normal ?_
    refine EC_ret ?_
    refine post_tmp rfl rfl rfl ⟨⟨lo, ⟨hlen, hnd, hlt, hhd⟩, ints_of_row (base := S) (el := 3) ?_⟩, ?_⟩
    · have : (nats lo).length = lo.length := List.length_map ..
      rw [this]; exact hown
    · rw [← hBd]; exact hbw2.trans (hb.mono hBS)

theorem implLayout_ret {w : World} {x : Value} {f : Fn} (hx : FnV w x f) (wf : Wf f) (ok : LayOk (toG f)) :
    Ret Try.prog 17 #[x] w fun v w' => (∃ lo, Order f.blks.length lo ∧ IntsV w' v (nats lo)) ∧ Below w.heap.size w w' := by
  obtain ⟨xv, xb, rfl, hvals, hblks⟩ := hx
  refine ret_of_EC Try.func17 rfl rfl ?_
  obtain ⟨B, hBd⟩ : ∃ B, B = w.heap.size := ⟨_, rfl⟩
  refine EC_seq ?_
  refine EC_region ?_
  refine EL_v (x_box (v := .agg #[xv, xb]) rfl) rfl ?_
  change EL _ _ _ _ _ _ (w.alloc (.cells #[xv, xb] 25))
  have hN1 := heap_alloc_new w (.cells #[xv, xb] 25)
  have hO1 : ∀ zz, zz < w.heap.size → (w.alloc (.cells #[xv, xb] 25)).heap[zz]? = w.heap[zz]? := fun _ hi => Below.heap_alloc _ _ _ hi
  have hZ1 := size_alloc w (.cells #[xv, xb] 25)
  have hB1 := (Below.refl B w).alloc (by omega) (.cells #[xv, xb] 25)
  have hK1 := Keep.alloc w (.cells #[xv, xb] 25)
  generalize w.alloc (.cells #[xv, xb] 25) = wa at hN1 hO1 hZ1 hB1 hK1 ⊢
  refine EL_v x_assign rfl ?_
  refine EL_nil ?_
  refine thenQ_normal ?_
  have hx' : FnV wa (.agg #[xv, xb]) f := ⟨xv, xb, rfl, hvals.keep hK1, hblks.keep hK1⟩
  refine EC_seq ?_
  refine EC_region ?_
  refine EL_v (x_loadS (cs := [xv, xb]) rfl (tab_agg rfl) (cellsAt_block hN1)) rfl ?_
  refine EL_c (x_call Try.func27 rfl rfl rfl rfl) rfl (impl_conv_ret hx' wf) ?_
  rintro v1 w1 ⟨hv1, hbl1⟩
  refine EL_c (x_call Try.func30 rfl rfl rfl rfl) rfl (ssaLayout_ret hv1.at wf ok) ?_
  rintro v2 w2 ⟨hv2, hbl2⟩
  refine EL_v x_assign rfl ?_
  refine EL_nil ?_
  refine thenQ_normal ?_
  refine EC_ret ?_
  refine post_tmp rfl rfl rfl ⟨hv2, ?_⟩
  have := hbl1.size
  exact ((show Below w.heap.size w wa from by rw [← hBd]; exact hB1).trans (hbl1.mono (by omega))).trans (hbl2.mono (by omega))
end Go.Proofs.Yteepnepebilckaa
