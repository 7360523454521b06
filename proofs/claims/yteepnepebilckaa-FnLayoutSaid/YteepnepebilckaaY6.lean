/- The law FnLayout. -/
import Derived.Test.YteepnepebilckaaL2
import Derived.Test.YteepnepebilckaaY5
namespace Go.Proofs.Yteepnepebilckaa
open Go Go.Eng Go.RowKit
set_option maxHeartbeats 4000000
attribute [local irreducible] EC EL DL Ret thenQ blockQ loopQ bodyQ onlyN execOp Sem.run World.cell? World.frozen? World.setCell World.alloc

theorem FnLayout_ret {w : World} {x : Value} {f : Fn} (hx : FnV w x f) :
    Ret Try.prog 10 #[x] w fun v w' => v = .bool true ∧ Below w.heap.size w w' := by
  obtain ⟨xv, xb, rfl, hvals, hblks⟩ := hx
  refine ret_of_EC Try.func10 rfl rfl ?_
  have hx0 : FnV w (.agg #[xv, xb]) f := ⟨xv, xb, rfl, hvals, hblks⟩
  obtain ⟨ab, cb, rfl, hbl⟩ := hblks
  obtain ⟨av, cv, rfl, hvl⟩ := hvals
  obtain ⟨B, hBd⟩ : ∃ B, B = w.heap.size := ⟨_, rfl⟩
  refine EC_seq ?_
  refine EC_region ?_
  refine EL_v (x_box (v := .agg #[.slice av f.vals.length cv, .slice ab f.blks.length cb]) rfl) rfl ?_
  change EL _ _ _ _ _ _ (w.alloc (.cells #[.slice av f.vals.length cv, .slice ab f.blks.length cb] 25))
  have hN1 := heap_alloc_new w (.cells #[.slice av f.vals.length cv, .slice ab f.blks.length cb] 25)
  have hO1 : ∀ zz, zz < w.heap.size → (w.alloc (.cells #[.slice av f.vals.length cv, .slice ab f.blks.length cb] 25)).heap[zz]? = w.heap[zz]? := fun _ hi => Below.heap_alloc _ _ _ hi
  have hZ1 := size_alloc w (.cells #[.slice av f.vals.length cv, .slice ab f.blks.length cb] 25)
  have hB1 := (Below.refl B w).alloc (by omega) (.cells #[.slice av f.vals.length cv, .slice ab f.blks.length cb] 25)
  have hK1 := Keep.alloc w (.cells #[.slice av f.vals.length cv, .slice ab f.blks.length cb] 25)
  generalize w.alloc (.cells #[.slice av f.vals.length cv, .slice ab f.blks.length cb] 25) = wa at hN1 hO1 hZ1 hB1 hK1 ⊢
  refine EL_v x_assign rfl ?_
  refine EL_nil ?_
  refine thenQ_normal ?_
  obtain ⟨b1, hb1⟩ : ∃ b1, b1 = w.heap.size := ⟨_, rfl⟩
  rw [← hb1] at hN1 ⊢
  have hbw : Below b1 w wa := by rw [hb1, ← hBd]; exact hB1
  refine EC_seq ?_
  refine EC_seq ?_
  refine EC_region ?_
  refine EL_v (x_loadS (cs := [.slice av f.vals.length cv, .slice ab f.blks.length cb]) rfl (tab_agg rfl) (cellsAt_block hN1)) rfl ?_
  refine EL_c (x_call Try.func11 rfl rfl rfl rfl) rfl (fits1_ret (hx0.keep hK1)) ?_
  rintro _ w1 ⟨sb, rfl, hfit, hbs⟩
  refine EL_v (x_not rfl) rfl ?_
  refine EL_nil ?_
  refine thenQ_normal ?_
  have hb1w : Below b1 w w1 := hbw.trans (hbs.mono (by omega))
  cases sb with
  | false =>
    refine EC_yes rfl rfl ?_
    refine EC_seq ?_
    refine EC_region ?_
    refine EL_v x_assign rfl ?_
    refine EL_nil ?_
    refine thenQ_normal ?_
    refine EC_ret ?_
    refine thenQ_ret ?_
    exact post_tmp rfl rfl rfl ⟨rfl, hb1w⟩
  | true =>
  refine EC_no rfl rfl ?_
  refine EC_skip ?_
  refine thenQ_normal ?_
  obtain ⟨hf1, hf2⟩ := hfit rfl
  have hbx1 : w1.heap[b1]? = some (.cells #[.slice av f.vals.length cv, .slice ab f.blks.length cb] 25 (0, 0)) := (hbs.block b1 (by omega)).trans hN1
  have hsz1 := hbs.size
  have hKe1 : Keep w w1 := hK1.trans (Keep.of_below hbs (Nat.le_refl _))
  refine EC_seq ?_
  refine EC_seq ?_
  refine EC_region ?_
  refine EL_v (x_loadS (cs := [.slice av f.vals.length cv, .slice ab f.blks.length cb]) rfl (tab_agg rfl) (cellsAt_block hbx1)) rfl ?_
  refine EL_c (x_call Try.func13 rfl rfl rfl rfl) rfl (laws_conv_ret (hx0.keep hKe1) hf1 hf2) ?_
  rintro vc w2 ⟨hvc, hbl2⟩
  refine EL_c (x_call Try.func12 rfl rfl rfl rfl) rfl (Good_ret hvc) ?_
  rintro _ w3 ⟨gb, rfl, hgood, hbl3⟩
  refine EL_v (x_not rfl) rfl ?_
  refine EL_nil ?_
  refine thenQ_normal ?_
  have hsz2 := hbl2.size
  have hsz3 := hbl3.size
  have hb3w : Below b1 w w3 := (hb1w.trans (hbl2.mono (by omega))).trans (hbl3.mono (by omega))
  cases gb with
  | false =>
    refine EC_yes rfl rfl ?_
    refine EC_seq ?_
    refine EC_region ?_
    refine EL_v x_assign rfl ?_
    refine EL_nil ?_
    refine thenQ_normal ?_
    refine EC_ret ?_
    refine thenQ_ret ?_
    exact post_tmp rfl rfl rfl ⟨rfl, hb3w⟩
  | true =>
  refine EC_no rfl rfl ?_
  refine EC_skip ?_
  refine thenQ_normal ?_
  have hgd := hgood.1 rfl
  have hKe3 : Keep w w3 := (hKe1.trans (Keep.of_below hbl2 (Nat.le_refl _))).trans (Keep.of_below hbl3 (Nat.le_refl _))
  have hx3 := hx0.keep hKe3
  have hbx3 : w3.heap[b1]? = some (.cells #[.slice av f.vals.length cv, .slice ab f.blks.length cb] 25 (0, 0)) := (hbl3.block b1 (by omega)).trans ((hbl2.block b1 (by omega)).trans hbx1)
  have hsz13 : b1 + 1 ≤ w3.heap.size := by omega
  refine EC_seq ?_
  refine EC_region ?_
  refine EL_v (x_loadS (cs := [.slice av f.vals.length cv, .slice ab f.blks.length cb]) rfl (tab_agg rfl) (cellsAt_block hbx3)) rfl ?_
  refine EL_c (x_call Try.func17 rfl rfl rfl rfl) rfl (implLayout_ret hx3 hgd.wf (layOk hgd.good)) ?_
  rintro v4 w4 ⟨⟨lo, ord, hints⟩, hbl4⟩
  obtain ⟨la, lc, rfl, hlI⟩ := hints
  have hnl : (nats lo).length = lo.length := List.length_map ..
  have hget : ∀ k, k < lo.length → ∃ b o, la = some ⟨b, o, none⟩ ∧ w4.cell? ⟨b, o + k, none⟩ = some (.int .i64 ((lo.getD k 0 : Nat) : Int)) := fun k hk => by
    obtain ⟨b, o, h1, h2⟩ := hlI.get (k := k) (by omega)
    refine ⟨b, o, h1, ?_⟩
    rw [h2]
    simp [nats, List.getD_eq_getElem?_getD, List.getElem?_eq_getElem hk]
  rw [hnl]
  obtain ⟨hol, hnd, hlt, hhd⟩ := ord
  have hnb := hgd.wf.nb
  have hone := hgd.wf.one
  have hsz4 := hbl4.size
  have hbw4 : Below b1 w w4 := hb3w.trans (hbl4.mono (by omega))
  have hbx4 : w4.heap[b1]? = some (.cells #[.slice av f.vals.length cv, .slice ab f.blks.length cb] 25 (0, 0)) := (hbl4.block b1 (by omega)).trans hbx3
  have f1 : w4.cell? ⟨b1, 0 + 1, none⟩ = some (.slice ab f.blks.length cb) := cell_block hbx4 rfl
  clear hvl hbl hx0 hx3 hgd hgood hlI
  refine EL_v x_assign rfl ?_
  refine EL_nil ?_
  refine thenQ_normal ?_
  refine EC_seq_cutQ (fun e wr => wr = w4 ∧ At e [(3, .slice la lo.length lc)]) ?_ ?_
  · obtain ⟨b0, o0, hla, hc0⟩ := hget 0 (by omega)
    have h00 : lo.getD 0 0 = 0 := by
      cases lo with
      | nil => cases hhd
      | cons a r => exact Option.some.inj hhd
    rw [h00] at hc0
    subst hla
    have hc1 : w4.cell? ⟨b0, o0, none⟩ = some (.int .i64 ((0 : Nat) : Int)) := hc0
    refine EC_seq ?_
    refine EC_region ?_
    refine EL_v x_move rfl ?_
    refine EL_v (x_len rfl (tab_sl rfl)) rfl ?_
    refine EL_v (x_field rfl (tab_fld rfl)) rfl ?_
    refine EL_v (x_load rfl (tab_one rfl) (by with_reducible assumption)) rfl ?_
    refine EL_v (x_len rfl (tab_sl rfl)) rfl ?_
    refine EL_v (x_neq rfl rfl) rfl ?_
    refine EL_v x_move rfl ?_
    rw [decide_eq_false (fun hh => hh (by rw [hol]) : ¬ ((lo.length : Int) ≠ (f.blks.length : Int)))]
    refine EL_yes rfl rfl x_move rfl ?_
    refine EL_yes rfl rfl (x_index0 rfl rfl (tab_sl rfl) (by omega)) rfl ?_
    refine EL_yes rfl rfl (x_load rfl (tab_one rfl) (by with_reducible assumption)) rfl ?_
    refine EL_yes rfl rfl (x_neq rfl rfl) rfl ?_
    refine EL_v (x_pick_f rfl) rfl ?_
    refine EL_nil ?_
    refine thenQ_normal ?_
    refine EC_no (congrArg Value.bool (decide_eq_false (fun hh => hh rfl : ¬ (((0 : Nat) : Int) ≠ 0)))) rfl ?_
    refine EC_skip ?_
    exact orN_in ⟨rfl, at_of rfl ⟨rfl, trivial⟩⟩
  rintro e wr ⟨hwr, t, he⟩
  subst he
  rw [hwr]
  clear hwr wr
  refine EC_seq ?_
  refine EC_region ?_
  refine EL_v x_move rfl ?_
  refine EL_v (x_len rfl (tab_sl rfl)) rfl ?_
  refine EL_v (x_make Try.underlying43 info4 rfl rfl rfl (by omega) (by omega)) rfl ?_
  rw [made_false]
  change EL _ _ _ _ _ _ (w4.alloc (.cells (bools (fun _ => false) lo.length) 4))
  have hN2 := heap_alloc_new w4 (.cells (bools (fun _ => false) lo.length) 4)
  have hO2 : ∀ zz, zz < w4.heap.size → (w4.alloc (.cells (bools (fun _ => false) lo.length) 4)).heap[zz]? = w4.heap[zz]? := fun _ hi => Below.heap_alloc _ _ _ hi
  have hZ2 := size_alloc w4 (.cells (bools (fun _ => false) lo.length) 4)
  have hB2 := (Below.refl w4.heap.size w4).alloc (Nat.le_refl _) (.cells (bools (fun _ => false) lo.length) 4)
  have hK2 := Keep.alloc w4 (.cells (bools (fun _ => false) lo.length) 4)
  generalize w4.alloc (.cells (bools (fun _ => false) lo.length) 4) = wb at hN2 hO2 hZ2 hB2 hK2 ⊢
  obtain ⟨G, hG⟩ : ∃ G, G = w4.heap.size := ⟨_, rfl⟩
  rw [← hG] at hN2 hB2 ⊢
  refine EL_v x_assign rfl ?_
  refine EL_nil ?_
  refine thenQ_normal ?_
  refine EC_seq_cutQ (fun e wr => At e [(3, .slice la lo.length lc)] ∧ Below G w4 wr) ?_ ?_
  · refine EC_seq ?_
    refine EC_region ?_
    refine EL_v x_move rfl ?_
    refine EL_v (x_len rfl (tab_sl rfl)) rfl ?_
    refine EL_v x_move rfl ?_
    refine EL_nil ?_
    refine thenQ_normal ?_
    refine EC_block ?_
    refine EC_loop (fun n e wr => ∃ k S, k ≤ lo.length ∧ At e [(3, .slice la lo.length lc), (4, .slice (some ⟨G, 0, none⟩) lo.length lo.length), (31, .slice la lo.length lc), (32, .int .i64 (lo.length : Int)), (33, .int .i64 (k : Int))] ∧ wr.heap[G]? = some (.cells (bools S lo.length) 4 (0, 0)) ∧ (∀ i, S i = true → i ∈ lo.take k) ∧ Below G w4 wr ∧ n = lo.length - k) lo.length
      ⟨0, _, Nat.zero_le _, at_of rfl ⟨rfl, rfl, rfl, rfl, rfl, trivial⟩, hN2, fun i hi => (by cases hi), hB2, rfl⟩ ?_
    rintro n e wr ⟨k, S, hk, ⟨t, rfl⟩, hS, hin, hb, rfl⟩
    refine EC_seq ?_
    refine EC_region ?_
    refine EL_v (x_lss rfl rfl) rfl ?_
    refine EL_nil ?_
    refine thenQ_normal ?_
    refine EC_seq ?_
    refine EC_if rfl rfl (fun hl => ?_) (fun hg => ?_)
    · have hkl : k < lo.length := by omega
      obtain ⟨bz, oz, rfl, hcz⟩ := hget k hkl
      have hcz := (Keep.of_below hb (by omega)) _ _ hcz
      have hgd2 : lo.getD k 0 = lo[k] := by rw [List.getD_eq_getElem?_getD, List.getElem?_eq_getElem hkl]; rfl
      have hxl : lo.getD k 0 < lo.length := by rw [hgd2, hol]; exact hlt _ (List.getElem_mem hkl)
      have hxn : lo.getD k 0 ∉ lo.take k := by
        rw [hgd2]
        intro hm
        obtain ⟨i, hi, e⟩ := List.getElem_of_mem hm
        rw [List.getElem_take] at e
        have hik : i < k := by rw [List.length_take] at hi; omega
        have := (List.getElem_inj (h₀ := by omega) (h₁ := hkl) hnd).1 e
        omega
      have htk : lo.take (k + 1) = lo.take k ++ [lo.getD k 0] := by
        rw [List.take_add_one, List.getElem?_eq_getElem hkl, hgd2]; rfl
      generalize lo.getD k 0 = x at hcz hxl hxn htk
      have hSx : S x = false := by
        rcases Bool.eq_false_or_eq_true (S x) with e | e
        · exact absurd (hin x e) hxn
        · exact e
      have hcs : wr.cell? ⟨G, 0 + x, none⟩ = some (.bool false) := (cell_block hS (by rw [Nat.zero_add]; exact bools_get _ hxl)).trans (by rw [hSx])
      refine EC_skip ?_
      refine thenQ_normal ?_
      refine EC_seq ?_
      refine EC_block ?_
      refine EC_seq ?_
      refine EC_region ?_
      refine EL_v (x_index1 rfl rfl (tab_sl rfl) (by omega)) rfl ?_
      refine EL_v (x_load rfl (tab_one rfl) (by with_reducible assumption)) rfl ?_
      refine EL_v x_assign rfl ?_
      refine EL_nil ?_
      refine thenQ_normal ?_
      refine EC_seq ?_
      refine EC_seq ?_
      refine EC_region ?_
      refine EL_v x_move rfl ?_
      refine EL_v (x_lss rfl rfl) rfl ?_
      refine EL_v x_move rfl ?_
      rw [decide_eq_false (by omega : ¬ ((x : Int) < 0))]
      refine EL_yes rfl rfl x_move rfl ?_
      refine EL_yes rfl rfl x_move rfl ?_
      refine EL_yes rfl rfl (x_len rfl (tab_sl rfl)) rfl ?_
      refine EL_yes rfl rfl (x_geq rfl rfl) rfl ?_
      refine EL_v (x_pick_f rfl) rfl ?_
      refine EL_v x_move rfl ?_
      rw [decide_eq_false (by omega : ¬ ((x : Int) ≥ (lo.length : Int)))]
      refine EL_yes rfl rfl x_move rfl ?_
      refine EL_yes rfl rfl x_move rfl ?_
      refine EL_yes rfl rfl (x_index1 rfl rfl (tab_sl rfl) (by omega)) rfl ?_
      refine EL_yes rfl rfl (x_load rfl (tab_one rfl) (by with_reducible assumption)) rfl ?_
      refine EL_v (x_pick_f rfl) rfl ?_
      refine EL_nil ?_
      refine thenQ_normal ?_
      refine EC_no rfl rfl ?_
      refine EC_skip ?_
      refine thenQ_normal ?_
      refine EC_region ?_
      refine EL_v x_move rfl ?_
      refine EL_v x_move rfl ?_
      refine EL_v (x_index1 rfl rfl (tab_sl rfl) (by omega)) rfl ?_
      refine EL_s (x_store rfl rfl rfl (tab_size1 rfl) (cell_block (o := 0 + x) hS (by rw [Nat.zero_add]; exact bools_get _ hxl)) (free_block hS)) rfl ?_
      refine EL_nil ?_
      refine blockQ_normal ?_
      refine thenQ_normal ?_
      have hs7 := heap_setCell_same (o := 0 + x) (u := .bool true) hS
      rw [bools_set] at hs7
      have hb7 : Below G w4 (wr.setCell ⟨G, 0 + x, none⟩ (.bool true)) := hb.setCell (show G ≤ G by omega) _
      change EC _ _ _ _ _ (wr.setCell ⟨G, 0 + x, none⟩ (.bool true))
      generalize wr.setCell ⟨G, 0 + x, none⟩ (.bool true) = W at hs7 hb7 ⊢
      refine EC_region ?_
      refine EL_v (x_inc rfl rfl (by omega)) rfl ?_
      refine EL_v x_move rfl ?_
      refine EL_nil ?_
      refine loopQ_next (lo.length - (k + 1)) (by omega) ⟨k + 1, _, by omega, at_of rfl ⟨rfl, rfl, rfl, rfl, rfl, trivial⟩, hs7, fun i hi => ?_, hb7, rfl⟩
      rw [htk]
      by_cases e : i = 0 + x
      · exact List.mem_append.2 (.inr (by rw [e, Nat.zero_add]; exact List.mem_singleton.2 rfl))
      · rw [if_neg e] at hi
        exact List.mem_append.2 (.inl (hin i hi))
    · refine EC_exit ?_
      refine thenQ_exit ?_
      refine loopQ_exit ?_
      refine blockQ_hit ?_
      exact orN_in ⟨at_of rfl ⟨rfl, trivial⟩, hb⟩
  rintro e wr ⟨⟨t, rfl⟩, hb⟩
  refine EC_seq ?_
  refine EC_region ?_
  refine EL_v x_assign rfl ?_
  refine EL_nil ?_
  refine thenQ_normal ?_
  refine EC_ret ?_
  refine post_tmp rfl rfl rfl ⟨rfl, ?_⟩
  exact hbw4.trans (hb.mono (by omega))
end Go.Proofs.Yteepnepebilckaa
