/- Walks: copyelim. -/
import Derived.Test.YteepnepebilckaaW3
namespace Go.Proofs.Yteepnepebilckaa
open Go Go.Eng Go.RowKit
set_option maxHeartbeats 4000000
attribute [local irreducible] EC EL DL Ret thenQ blockQ loopQ bodyQ onlyN execOp Sem.run World.cell? World.frozen? World.setCell World.alloc

theorem controlValues_ret {w : World} {B : Nat} {L : Lay} {g : Gph} (h : GRep w B L g) {b : Nat} (hb : b < g.nb) :
    Ret Try.prog 45 #[L.bp b] w fun v w' => v = L.sl (.ctrl b) ∧ w' = w := by
  have f1 := h.bCtrl hb
  refine ret_of_EC Try.func45 rfl rfl ?_
  refine EC_seq ?_
  refine EC_region ?_
  refine EL_v x_assign rfl ?_
  refine EL_nil ?_
  refine thenQ_normal ?_
  refine EC_seq ?_
  refine EC_region ?_
  refine EL_v x_move rfl ?_
  refine EL_v (x_nil rfl) rfl ?_
  refine EL_v (x_field rfl (tab_fld rfl)) rfl ?_
  refine EL_v (x_load rfl (tab_one rfl) (by with_reducible assumption)) rfl ?_
  refine EL_v x_assign rfl ?_
  refine EL_nil ?_
  refine thenQ_normal ?_
  refine EC_ret ?_
  exact post_tmp rfl rfl rfl ⟨rfl, rfl⟩

theorem replaceControl_ret {w : World} {B : Nat} {L : Lay} {g : Gph} (h : GRep w B L g) {b k j : Nat} (hb : b < g.nb) (hk : k < (g.ctrl b).length) :
    Ret Try.prog 46 #[L.bp b, .int .i64 (k : Int), L.vp j] w fun _ w' => GRep w' B L (g.setCtrl b k j) ∧ Below B w w' := by
  obtain ⟨b1, cap, hv, hob, hc, hf⟩ := h.ctrlE hb hk
  have h1 := h.bCtrl hb
  rw [hv] at h1
  have hlt := (h.slLt (τ := .ctrl b) rfl hb b1 hob).1
  refine ret_of_EC Try.func46 rfl rfl ?_
  refine EC_region ?_
  refine EL_v x_move rfl ?_
  refine EL_v (x_nil rfl) rfl ?_
  refine EL_v (x_field rfl (tab_fld rfl)) rfl ?_
  refine EL_v (x_load rfl (tab_one rfl) (by with_reducible assumption)) rfl ?_
  refine EL_v x_move rfl ?_
  refine EL_v x_move rfl ?_
  refine EL_v (x_index1 rfl rfl (tab_sl rfl) (by omega)) rfl ?_
  refine EL_s (x_store rfl rfl rfl (tab_size1 rfl) hc (hf _)) rfl ?_
  refine EL_nil ?_
  refine post_none rfl rfl ⟨?_, below_setCell hlt⟩
  rw [Nat.zero_add]
  exact h.setCtrl hb hk hob

/-- What decides a block's end, a copy giving way to its source. -/
def fixC (g : Gph) (c : Nat) : Nat := if g.op c = 14 then (g.args c).getD 0 0 else c

/-- copyelim. -/
theorem copyelim_ret {w : World} {B : Nat} {L : Lay} {g : Gph} {r : Nat → Nat} {Inv : Gph → Prop} (p : PInv r Inv) (h : GRep w B L g) (hI : Inv g)
    (hctrl : ∀ b, b < g.nb → (g.ctrl b).length < 4294967296 ∧ ∀ c ∈ g.ctrl b, c < g.nv) :
    Ret Try.prog 39 #[L.fp] w fun _ w' => ∃ g1 c2 L', GRep w' B L' { g1 with ctrl := c2 } ∧ L'.vp = L.vp ∧ L'.bp = L.bp ∧ L'.fb = L.fb ∧ Steps g g1 ∧ (∀ v, v < g1.nv → Fine g1 v) ∧
      (∀ b, b < g1.nb → c2 b = (g1.ctrl b).map (fixC g1)) ∧ Below B w w' ∧ ((∀ v, v < g.nv → g.op v ≠ 13) → Red g g1) := by
  refine ret_of_EC Try.func39 rfl rfl ?_
  refine EC_seq ?_
  refine EC_region ?_
  refine EL_v x_move rfl ?_
  refine EL_c (x_call Try.func36 rfl rfl rfl rfl) rfl (phielim_ret p h hI) ?_
  rintro _ w1 ⟨g1, L1, h1, hvp1, hbp1, hfb1, hst, hfine, hb1, hnp⟩
  refine EL_nil ?_
  refine thenQ_normal ?_
  have hfp1 : L.fp = L1.fp := by unfold Lay.fp; rw [hfb1]
  have hI1 := p.steps hI hst
  have hc1 := p.cinv g1 hI1
  have hsm := hst.same
  have hnb := p.nb g1 hI1
  obtain ⟨ab, cb, hfbl⟩ := h1.fblocksV
  have f1 := h1.fBlocks
  rw [hfbl, ← hfb1.symm] at f1
  refine EC_seq ?_
  refine EC_region ?_
  rw [hfp1]
  have f1 : w1.cell? ⟨L1.fb, 0 + 1, none⟩ = some (.slice ab g1.nb cb) := by rw [← hfbl]; exact h1.fBlocks
  refine EL_v x_move rfl ?_
  refine EL_v (x_nil rfl) rfl ?_
  refine EL_v (x_field rfl (tab_fld rfl)) rfl ?_
  refine EL_v (x_load rfl (tab_one rfl) (by with_reducible assumption)) rfl ?_
  refine EL_v (x_len rfl (tab_sl rfl)) rfl ?_
  refine EL_v x_move rfl ?_
  refine EL_nil ?_
  refine thenQ_normal ?_
  refine EC_block ?_
  refine EC_loop (fun n e w2 => ∃ (bi : Nat) (c2 : Nat → List Nat), bi ≤ g1.nb ∧ At e [(11, .slice ab g1.nb cb), (12, .int .i64 (g1.nb : Int)), (13, .int .i64 (bi : Int))] ∧ GRep w2 B L1 { g1 with ctrl := c2 } ∧ Below B w w2 ∧
      (∀ b, b < bi → c2 b = (g1.ctrl b).map (fixC g1)) ∧ (∀ b, bi ≤ b → c2 b = g1.ctrl b) ∧ n = g1.nb - bi) (g1.nb)
    ⟨0, g1.ctrl, Nat.zero_le _, at_of rfl ⟨rfl, rfl, rfl, trivial⟩, h1, hb1, fun b hb => absurd hb (Nat.not_lt_zero _), fun _ _ => rfl, rfl⟩ ?_
  rintro n e w2 ⟨bi, c2, hbi, ⟨t, rfl⟩, h2, hb2, hdone, htodo, rfl⟩
  refine EC_seq ?_
  refine EC_region ?_
  refine EL_v (x_lss rfl rfl) rfl ?_
  refine EL_nil ?_
  refine thenQ_normal ?_
  refine EC_seq ?_
  refine EC_if rfl rfl (fun hlt => ?_) (fun hge => ?_)
  · have hlt : bi < g1.nb := by omega
    obtain ⟨b1, c1, hs1, _, f2, _⟩ := h2.fblocksE hlt
    rw [hfbl] at hs1
    injection hs1 with e1 e2 e3
    subst e1
    obtain ⟨hcl, hcm⟩ := hctrl bi (by rw [← hsm.2.1]; exact hlt)
    have hcc : g1.ctrl = g.ctrl := hsm.2.2.2.2.2.2.2.2.2.2
    rw [← hcc] at hcl hcm
    rw [← hsm.1] at hcm
    obtain ⟨av, cv, hbv⟩ := h2.ctrlV (i := bi) hlt
    have hlen2 : (c2 bi).length = (g1.ctrl bi).length := by rw [htodo bi (Nat.le_refl _)]
    refine EC_skip ?_
    refine thenQ_normal ?_
    refine EC_seq ?_
    refine EC_block ?_
    refine EC_seq ?_
    refine EC_region ?_
    refine EL_v (x_index1 rfl rfl (tab_sl rfl) (by omega)) rfl ?_
    refine EL_v (x_load rfl (tab_one rfl) (by with_reducible assumption)) rfl ?_
    refine EL_v x_assign rfl ?_
    refine EL_nil ?_
    refine thenQ_normal ?_
    refine EC_seq ?_
    refine EC_region ?_
    refine EL_v x_move rfl ?_
    refine EL_c (x_call Try.func45 rfl rfl rfl rfl) rfl (controlValues_ret h2 (b := bi) hlt) ?_
    rintro _ _ ⟨rfl, rfl⟩
    rw [hbv]
    refine EL_v (x_len rfl (tab_sl rfl)) rfl ?_
    refine EL_v x_move rfl ?_
    refine EL_nil ?_
    refine thenQ_normal ?_
    refine EC_block ?_
    refine EC_loop (fun n e w3 => ∃ (k : Nat) (c3 : Nat → List Nat), k ≤ (c2 bi).length ∧ At e [(11, .slice (some ⟨b1, 0, none⟩) g1.nb cb), (12, .int .i64 (g1.nb : Int)), (13, .int .i64 (bi : Int)), (3, L1.bp bi), (18, .slice av (c2 bi).length cv), (19, .int .i64 ((c2 bi).length : Int)), (20, .int .i64 (k : Int))] ∧ GRep w3 B L1 { g1 with ctrl := c3 } ∧ Below B w w3 ∧
        (∀ b, b < bi → c3 b = (g1.ctrl b).map (fixC g1)) ∧ (∀ b, bi < b → c3 b = g1.ctrl b) ∧ c3 bi = ((g1.ctrl bi).take k).map (fixC g1) ++ (g1.ctrl bi).drop k ∧ n = (c2 bi).length - k) ((c2 bi).length)
      ⟨0, c2, Nat.zero_le _, at_of rfl ⟨rfl, rfl, rfl, rfl, rfl, rfl, rfl, trivial⟩, h2, hb2, hdone, fun b hb => htodo b (by omega), by simpa using htodo bi (Nat.le_refl _), rfl⟩ ?_
    rintro n e w3 ⟨k, c3, hk, ⟨t, rfl⟩, h3, hb3, hd3, ht3, hc3, rfl⟩
    refine EC_seq ?_
    refine EC_region ?_
    refine EL_v (x_lss rfl rfl) rfl ?_
    refine EL_nil ?_
    refine thenQ_normal ?_
    refine EC_seq ?_
    refine EC_if rfl rfl (fun hlk => ?_) (fun hge => ?_)
    · have hlk : k < (g1.ctrl bi).length := by omega
      have hlk3 : k < (c3 bi).length := by rw [hc3]; simp; omega
      have hl3 : (c3 bi).length = (c2 bi).length := by rw [hc3, hlen2]; simp; omega
      obtain ⟨b4, c4, hs4, _, f4, _⟩ := h3.ctrlE (i := bi) hlt hlk3
      rw [hbv] at hs4
      injection hs4 with e4 e5 e6
      subst e4
      have hck : (c3 bi).getD k 0 = (g1.ctrl bi)[k] := by
        rw [hc3, List.getD_eq_getElem?_getD, List.getElem?_append_right (by simp; omega)]
        simp [show min k (g1.ctrl bi).length = k by omega, hlk]
      have f4' : w3.cell? ⟨b4, 0 + k, none⟩ = some (L1.vp ((g1.ctrl bi)[k])) := by rw [← hck]; exact f4
      have hcv : (g1.ctrl bi)[k] < g1.nv := hcm _ (by simp)
      clear f4
      generalize hcg : (g1.ctrl bi)[k] = c at f4' hcv
      have f5 := h3.vOp (i := c) hcv
      have hfix : ∀ d, d = fixC g1 c → (c3 bi).set k d = ((g1.ctrl bi).take (k + 1)).map (fixC g1) ++ (g1.ctrl bi).drop (k + 1) := by
        intro d hd
        rw [hc3, List.set_append_right _ _ (by simp; omega)]
        have h6 : k - (((g1.ctrl bi).take k).map (fixC g1)).length = 0 := by simp; omega
        rw [h6, List.drop_eq_getElem_cons hlk, List.set_cons_zero, List.take_succ_eq_append_getElem hlk, hd, hcg]
        simp
      refine EC_skip ?_
      refine thenQ_normal ?_
      refine EC_seq ?_
      refine EC_block ?_
      refine EC_seq ?_
      refine EC_region ?_
      refine EL_v x_move rfl ?_
      refine EL_v (x_index1 rfl rfl (tab_sl rfl) (by omega)) rfl ?_
      refine EL_v (x_load rfl (tab_one rfl) (by with_reducible assumption)) rfl ?_
      refine EL_v x_assign rfl ?_
      refine EL_v x_assign rfl ?_
      refine EL_nil ?_
      refine thenQ_normal ?_
      refine EC_seq ?_
      refine EC_region ?_
      refine EL_v x_move rfl ?_
      refine EL_v (x_nil rfl) rfl ?_
      refine EL_v (x_field rfl (tab_fld rfl)) rfl ?_
      refine EL_v (x_load rfl (tab_one rfl) (by with_reducible assumption)) rfl ?_
      refine EL_v (x_eql rfl rfl) rfl ?_
      refine EL_nil ?_
      refine thenQ_normal ?_
      refine EC_if rfl rfl (fun hoc => ?_) (fun hoc => ?_)
      · obtain ⟨j, hj, _⟩ := hc1.copy c hcv hoc
        obtain ⟨b7, c7, hs7, _, f7, _⟩ := h3.argsE (i := c) (k := 0) hcv (by show 0 < (g1.args c).length; rw [hj]; simp)
        have f8 := h3.vArgs (i := c) hcv
        rw [hs7] at f8
        have hargs : ({ g1 with ctrl := c3 } : Gph).args c = [j] := hj
        rw [hargs] at f7 f8
        simp only [List.length_singleton] at f8
        refine EC_region ?_
        refine EL_v x_move rfl ?_
        refine EL_v x_move rfl ?_
        refine EL_v x_move rfl ?_
        refine EL_v (x_nil rfl) rfl ?_
        refine EL_v (x_field rfl (tab_fld rfl)) rfl ?_
        refine EL_v (x_load rfl (tab_one rfl) (by with_reducible assumption)) rfl ?_
        refine EL_v (x_index0 rfl rfl (tab_sl rfl) (by omega)) rfl ?_
        refine EL_v (x_load rfl (tab_one rfl) (by with_reducible assumption)) rfl ?_
        refine EL_c (x_call Try.func46 rfl rfl rfl rfl) rfl (replaceControl_ret (b := bi) (k := k) (j := j) h3 hlt hlk3) ?_
        rintro _ w5 ⟨h5, hb5⟩
        refine EL_nil ?_
        refine blockQ_normal ?_
        refine thenQ_normal ?_
        refine EC_region ?_
        refine EL_v (x_inc rfl rfl (by omega)) rfl ?_
        refine EL_v x_move rfl ?_
        refine EL_nil ?_
        refine loopQ_next ((c2 bi).length - (k + 1)) (by omega) ⟨k + 1, fun x => if x = bi then (c3 bi).set k j else c3 x, by omega, at_of rfl ⟨rfl, rfl, rfl, rfl, rfl, rfl, rfl, trivial⟩, h5, hb3.trans hb5, fun b hb => ?_, fun b hb => ?_, ?_, rfl⟩
        · dsimp only; rw [if_neg (by omega)]; exact hd3 b hb
        · dsimp only; rw [if_neg (by omega)]; exact ht3 b hb
        · dsimp only; rw [if_pos rfl]
          apply hfix
          unfold fixC
          rw [if_pos hoc, hj]; rfl
      · refine EC_skip ?_
        refine blockQ_normal ?_
        refine thenQ_normal ?_
        refine EC_region ?_
        refine EL_v (x_inc rfl rfl (by omega)) rfl ?_
        refine EL_v x_move rfl ?_
        refine EL_nil ?_
        refine loopQ_next ((c2 bi).length - (k + 1)) (by omega) ⟨k + 1, c3, by omega, at_of rfl ⟨rfl, rfl, rfl, rfl, rfl, rfl, rfl, trivial⟩, h3, hb3, hd3, ht3, ?_, rfl⟩
        have h7 := hfix c (by unfold fixC; rw [if_neg hoc])
        rw [← h7]
        apply List.ext_getElem (by simp)
        intro n h8 h9
        rw [List.getElem_set]
        split
        · rename_i e; subst e
          rw [List.getD_eq_getElem?_getD, List.getElem?_eq_getElem h8] at hck
          simpa [hcg] using hck
        · rfl
    · have hk : k = (c2 bi).length := by omega
      subst hk
      refine EC_exit ?_
      refine thenQ_exit ?_
      refine loopQ_exit ?_
      refine blockQ_hit ?_
      refine blockQ_normal ?_
      refine thenQ_normal ?_
      refine EC_region ?_
      refine EL_v (x_inc rfl rfl (by omega)) rfl ?_
      refine EL_v x_move rfl ?_
      refine EL_nil ?_
      refine loopQ_next (g1.nb - (bi + 1)) (by omega) ⟨bi + 1, c3, by omega, at_of rfl ⟨rfl, rfl, rfl, trivial⟩, h3, hb3, fun b hb => ?_, fun b hb => ht3 b (by omega), rfl⟩
      by_cases e : b = bi
      · subst e
        rw [hc3, hlen2]; simp
      · exact hd3 b (by omega)
  · have hbi : bi = g1.nb := by omega
    subst hbi
    refine EC_exit ?_
    refine thenQ_exit ?_
    refine loopQ_exit ?_
    refine blockQ_hit ?_
    exact post_none rfl rfl ⟨g1, c2, L1, h2, hvp1, hbp1, hfb1, hst, hfine, hdone, hb2, hnp⟩
end Go.Proofs.Yteepnepebilckaa
