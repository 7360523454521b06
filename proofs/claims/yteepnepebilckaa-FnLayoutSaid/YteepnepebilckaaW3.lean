/- Walks: phielim, copyelim. -/
import Derived.Test.YteepnepebilckaaW2
namespace Go.Proofs.Yteepnepebilckaa
open Go Go.Eng Go.RowKit
set_option maxHeartbeats 4000000
attribute [local irreducible] EC EL DL Ret thenQ blockQ loopQ bodyQ onlyN execOp Sem.run World.cell? World.frozen? World.setCell World.alloc

theorem GRep.baseLe {w : World} {B : Nat} {L : Lay} {g : Gph} (h : GRep w B L g) : B ≤ w.heap.size := by
  have h1 := comp_lt h
  have h2 := h.tags.fbB
  omega

def Lay.fp (L : Lay) : Value := .pointer (some ⟨L.fb, 0, none⟩)

/-- A value that a pass has seen and left. -/
def Fine (g : Gph) (v : Nat) : Prop := NoCopy g v ∧ (g.op v = 13 → ¬ Needless g v)

theorem Red.fine {g g' : Gph} (h : Red g g') {v : Nat} (hf : Fine g v) : Fine g' v := by
  have ha := h.noCopy hf.1
  have ho := h.same.2.2.1
  refine ⟨fun a hm => ?_, fun h13 hn => ?_⟩
  · rw [ho]; rw [ha] at hm; exact hf.1 a hm
  · rw [ho] at h13
    apply hf.2 h13
    unfold Needless at *
    rw [ha] at hn; exact hn

def nphi (g : Gph) : Nat := (List.range g.nv).countP fun i => g.op i == 13

theorem nphi_red {g g' : Gph} (h : Red g g') : nphi g' = nphi g := by
  unfold nphi
  rw [h.same.1, h.same.2.2.1]

theorem nphi_phi {g : Gph} {v : Nat} {l : List Nat} (hv : v < g.nv) (h : g.op v = 13) : nphi ((g.setOp v 14).setArgs v l) < nphi g := by
  have key : ∀ n, (v < n → (List.range n).countP (fun i => (if i = v then (14 : Int) else g.op i) == 13) < (List.range n).countP fun i => g.op i == 13) ∧
      (List.range n).countP (fun i => (if i = v then (14 : Int) else g.op i) == 13) ≤ (List.range n).countP fun i => g.op i == 13 := by
    intro n
    induction n with
    | zero => simp
    | succ n ih =>
      rw [List.range_succ, List.countP_append, List.countP_append]
      by_cases e : n = v
      · subst e
        simp [h]
        have := ih.2
        omega
      · have e' : ¬ v = n := fun h => e h.symm
        simp [e]
        refine ⟨fun hlt => ?_, ih.2⟩
        exact ih.1 (by omega)
  exact (key g.nv).1 hv

/-- What a pass over phis and copies asks of a graph, and keeps. -/
structure PInv (r : Nat → Nat) (Inv : Gph → Prop) : Prop where
  step : ∀ g g', Inv g → Step g g' → Inv g'
  cinv : ∀ g, Inv g → CInv g r
  small : ∀ g, Inv g → ∀ v, v < g.nv → (g.args v).length < 4294967296
  bv : ∀ g, Inv g → ∀ b, b < g.nb → (g.bvals b).length < 4294967296 ∧ ∀ v ∈ g.bvals b, v < g.nv
  cov : ∀ g, Inv g → ∀ v, v < g.nv → ∃ b, b < g.nb ∧ v ∈ g.bvals b
  nb : ∀ g, Inv g → g.nb < 4294967296

theorem PInv.steps {r : Nat → Nat} {Inv : Gph → Prop} (p : PInv r Inv) {g g' : Gph} (h : Inv g) (s : Steps g g') : Inv g' := by
  induction s with
  | refl => exact h
  | step _ s ih => exact p.step _ _ ih s

theorem Step.same {g g' : Gph} (h : Step g g') : g'.nv = g.nv ∧ g'.nb = g.nb ∧ g'.ty = g.ty ∧ g'.aux = g.aux ∧ g'.blk = g.blk ∧ g'.kind = g.kind ∧ g'.likely = g.likely ∧ g'.succs = g.succs ∧ g'.preds = g.preds ∧ g'.bvals = g.bvals ∧ g'.ctrl = g.ctrl := by
  cases h <;> simp [Gph.setArg, Gph.setOp, Gph.setArgs]
theorem Steps.same {g g' : Gph} (h : Steps g g') : g'.nv = g.nv ∧ g'.nb = g.nb ∧ g'.ty = g.ty ∧ g'.aux = g.aux ∧ g'.blk = g.blk ∧ g'.kind = g.kind ∧ g'.likely = g.likely ∧ g'.succs = g.succs ∧ g'.preds = g.preds ∧ g'.bvals = g.bvals ∧ g'.ctrl = g.ctrl := by
  induction h with
  | refl => simp
  | step _ s ih =>
    have := s.same
    simp_all

/-- phielim. -/
theorem phielim_ret {w : World} {B : Nat} {L : Lay} {g : Gph} {r : Nat → Nat} {Inv : Gph → Prop} (p : PInv r Inv) (h : GRep w B L g) (hI : Inv g) :
    Ret Try.prog 36 #[L.fp] w fun _ w' => ∃ g' L', GRep w' B L' g' ∧ L'.vp = L.vp ∧ L'.bp = L.bp ∧ L'.fb = L.fb ∧ Steps g g' ∧ (∀ v, v < g'.nv → Fine g' v) ∧ Below B w w' ∧ ((∀ v, v < g.nv → g.op v ≠ 13) → Red g g') := by
  refine ret_of_EC Try.func36 rfl rfl ?_
  refine EC_block ?_
  refine EC_loop (fun n e w1 => ∃ g1 L1, At e [(0, L.fp)] ∧ GRep w1 B L1 g1 ∧ L1.vp = L.vp ∧ L1.bp = L.bp ∧ L1.fb = L.fb ∧ Steps g g1 ∧ Inv g1 ∧ Below B w w1 ∧ ((∀ v, v < g.nv → g.op v ≠ 13) → Red g g1) ∧ n = nphi g1) (nphi g)
    ⟨g, L, at_of rfl ⟨rfl, trivial⟩, h, rfl, rfl, rfl, .refl, hI, Below.refl _ _, fun _ => .refl, rfl⟩ ?_
  rintro n e w1 ⟨g1, L1, ⟨t, rfl⟩, h1, hvp1, hbp1, hfb1, hst, hI1, hb, hnophi, rfl⟩
  have hfp1 : L.fp = L1.fp := by unfold Lay.fp; rw [hfb1]
  rw [hfp1]
  have hnb := p.nb g1 hI1
  obtain ⟨ab, cb, hfbl⟩ := h1.fblocksV
  have f1 := h1.fBlocks
  rw [hfbl] at f1
  refine EC_block ?_
  refine EC_seq ?_
  refine EC_region ?_
  refine EL_v x_assign rfl ?_
  refine EL_nil ?_
  refine thenQ_normal ?_
  refine EC_seq ?_
  refine EC_seq ?_
  refine EC_region ?_
  refine EL_v x_move rfl ?_
  refine EL_v (x_nil rfl) rfl ?_
  refine EL_v (x_field rfl (tab_fld rfl)) rfl ?_
  refine EL_v (x_load rfl (tab_one rfl) (by with_reducible assumption)) rfl ?_
  refine EL_v (x_len rfl (tab_sl rfl)) rfl ?_
  refine EL_v x_move rfl ?_
  refine EL_nil ?_
  refine thenQ_normal ?_
  refine EC_block ?_
  refine EC_loop (fun n e w2 => ∃ (bi : Nat) (g2 : Gph) (L2 : Lay) (ch : Bool), bi ≤ g1.nb ∧ At e [(0, L1.fp), (2, .bool ch), (10, .slice ab g1.nb cb), (11, .int .i64 (g1.nb : Int)), (12, .int .i64 (bi : Int))] ∧ GRep w2 B L2 g2 ∧ L2.vp = L.vp ∧ L2.bp = L.bp ∧ L2.fb = L.fb ∧ L2.sl .fblocks = .slice ab g1.nb cb ∧ Steps g1 g2 ∧ Inv g2 ∧ Below B w w2 ∧
      ((∀ v, v < g.nv → g.op v ≠ 13) → Red g g2) ∧ nphi g2 ≤ nphi g1 ∧ (ch = true → nphi g2 < nphi g1) ∧ (ch = false → ∀ b, b < bi → ∀ v ∈ g2.bvals b, Fine g2 v) ∧ n = g1.nb - bi) (g1.nb)
    ⟨0, g1, L1, false, Nat.zero_le _, at_of rfl ⟨rfl, rfl, rfl, rfl, rfl, trivial⟩, h1, hvp1, hbp1, hfb1, hfbl, .refl, hI1, hb, hnophi, Nat.le_refl _, (fun h => by cases h), fun _ b hb => absurd hb (Nat.not_lt_zero _), rfl⟩ ?_
  rintro n e w2 ⟨bi, g2, L2, ch, hbi, ⟨t, rfl⟩, h2, hvp2, hbp2, hfb2, hfbl2, hst2, hI2, hb2, hnp2, hle2, hlt2, hfine2, rfl⟩
  have hsm2 := hst2.same
  refine EC_seq ?_
  refine EC_region ?_
  refine EL_v (x_lss rfl rfl) rfl ?_
  refine EL_nil ?_
  refine thenQ_normal ?_
  refine EC_seq ?_
  refine EC_if rfl rfl (fun hlt => ?_) (fun hge => ?_)
  · have hlt : bi < g2.nb := by omega
    obtain ⟨b1, c1, hs1, _, f2, _⟩ := h2.fblocksE hlt
    rw [hfbl2] at hs1
    injection hs1 with e1 e2 e3
    subst e1
    have f3 := h2.bVals hlt
    obtain ⟨av, cv, hbv⟩ := h2.bvalsV hlt
    rw [hbv] at f3
    obtain ⟨hbl, hbm⟩ := p.bv g2 hI2 bi hlt
    refine EC_skip ?_
    refine thenQ_normal ?_
    refine EC_seq ?_
    refine EC_block ?_
    refine EC_seq ?_
    refine EC_region ?_
    refine EL_v (x_index1 rfl rfl (tab_sl rfl) (by omega)) rfl ?_
    refine EL_v (x_load rfl (tab_one rfl) (by with_reducible assumption)) rfl ?_
    refine EL_v x_assign rfl ?_
    refine EL_nil ?_
    refine thenQ_normal ?_
    refine EC_seq ?_
    refine EC_region ?_
    refine EL_v x_move rfl ?_
    refine EL_v (x_nil rfl) rfl ?_
    refine EL_v (x_field rfl (tab_fld rfl)) rfl ?_
    refine EL_v (x_load rfl (tab_one rfl) (by with_reducible assumption)) rfl ?_
    refine EL_v (x_len rfl (tab_sl rfl)) rfl ?_
    refine EL_v x_move rfl ?_
    refine EL_nil ?_
    refine thenQ_normal ?_
    refine EC_block ?_
    refine EC_loop (fun n e w3 => ∃ (vi : Nat) (g3 : Gph) (L3 : Lay) (ch3 : Bool), vi ≤ (g2.bvals bi).length ∧ At e [(0, L1.fp), (2, .bool ch3), (10, .slice (some ⟨b1, 0, none⟩) g1.nb cb), (11, .int .i64 (g1.nb : Int)), (12, .int .i64 (bi : Int)), (19, .slice av (g2.bvals bi).length cv), (20, .int .i64 ((g2.bvals bi).length : Int)), (21, .int .i64 (vi : Int))] ∧ GRep w3 B L3 g3 ∧ L3.vp = L.vp ∧ L3.bp = L.bp ∧ L3.fb = L.fb ∧ L3.sl .fblocks = .slice (some ⟨b1, 0, none⟩) g1.nb cb ∧ L3.sl (.bvals bi) = .slice av (g2.bvals bi).length cv ∧ Steps g2 g3 ∧ Inv g3 ∧ Below B w w3 ∧
      ((∀ v, v < g.nv → g.op v ≠ 13) → Red g g3) ∧ nphi g3 ≤ nphi g1 ∧ (ch3 = true → nphi g3 < nphi g1) ∧ (ch3 = false → (∀ b, b < bi → ∀ v ∈ g3.bvals b, Fine g3 v) ∧ ∀ k, k < vi → Fine g3 ((g2.bvals bi).getD k 0)) ∧ n = (g2.bvals bi).length - vi) ((g2.bvals bi).length)
      ⟨0, g2, L2, ch, Nat.zero_le _, at_of rfl ⟨rfl, rfl, rfl, rfl, rfl, rfl, rfl, rfl, trivial⟩, h2, hvp2, hbp2, hfb2, hfbl2, hbv, .refl, hI2, hb2, hnp2, hle2, hlt2, fun hc => ⟨hfine2 hc, fun k hk => absurd hk (Nat.not_lt_zero _)⟩, rfl⟩ ?_
    rintro n e w3 ⟨vi, g3, L3, ch3, hvi, ⟨t, rfl⟩, h3, hvp3, hbp3, hfb3, hfbl3, hbv3, hst3, hI3, hb3, hnp3, hle3, hlt3, hfine3, rfl⟩
    have hsm3 := hst3.same
    refine EC_seq ?_
    refine EC_region ?_
    refine EL_v (x_lss rfl rfl) rfl ?_
    refine EL_nil ?_
    refine thenQ_normal ?_
    refine EC_seq ?_
    refine EC_if rfl rfl (fun hlv => ?_) (fun hge => ?_)
    · have hlv : vi < (g3.bvals bi).length := by rw [hsm3.2.2.2.2.2.2.2.2.2.1]; omega
      have hbi3 : bi < g3.nb := by omega
      obtain ⟨b4, c4, hs4, _, f4, _⟩ := h3.bvalsE hbi3 hlv
      rw [hbv3] at hs4
      injection hs4 with e4 e5 e6
      subst e4
      have hveq : (g3.bvals bi).getD vi 0 = (g2.bvals bi).getD vi 0 := by rw [hsm3.2.2.2.2.2.2.2.2.2.1]
      have hmem : (g3.bvals bi).getD vi 0 ∈ g3.bvals bi := by rw [List.getD_eq_getElem?_getD, List.getElem?_eq_getElem hlv]; simp
      generalize hvg : (g3.bvals bi).getD vi 0 = v at f4 hmem hveq
      have hv : v < g3.nv := (p.bv g3 hI3 bi hbi3).2 v hmem
      have hlt' : vi < (g2.bvals bi).length := by rw [← hsm3.2.2.2.2.2.2.2.2.2.1]; exact hlv
      refine EC_skip ?_
      refine thenQ_normal ?_
      refine EC_seq ?_
      refine EC_block ?_
      refine EC_seq ?_
      refine EC_region ?_
      refine EL_v (x_index1 rfl rfl (tab_sl rfl) (by omega)) rfl ?_
      refine EL_v (x_load rfl (tab_one rfl) (by with_reducible assumption)) rfl ?_
      refine EL_v x_assign rfl ?_
      refine EL_nil ?_
      refine thenQ_normal ?_
      refine EC_seq ?_
      refine EC_region ?_
      refine EL_v x_move rfl ?_
      refine EL_c (x_call Try.func41 rfl rfl rfl rfl) rfl (copyelimValue_ret h3 (p.cinv g3 hI3) hv (p.small g3 hI3 v hv)) ?_
      rintro _ w4 ⟨g4, h4, hred, hno, _, hb4⟩
      refine EL_nil ?_
      refine thenQ_normal ?_
      refine EC_region ?_
      refine EL_v x_move rfl ?_
      have hI4 := p.steps hI3 hred.steps
      have hsm4 := hred.same
      have hv4 : v < g4.nv := by rw [hsm4.1]; exact hv
      refine EL_c (x_call Try.func42 rfl rfl rfl rfl) rfl (phielimValue_ret h4 h4.baseLe hv4 ((p.cinv g4 hI4).closed v hv4) (p.small g4 hI4 v hv4)) ?_
      rintro _ w5 ⟨bb, rfl, hb5, (⟨rfl, h5, hnn⟩ | ⟨rfl, hop, x, L5, hx1, hx2, hx3, hvp5, hbp5, hfb5, hsl5, h5⟩)⟩
      · refine EL_v x_move rfl ?_
        refine EL_yes rfl rfl x_move rfl ?_
        refine EL_v (x_pick_f rfl) rfl ?_
        refine EL_v x_assign rfl ?_
        refine EL_nil ?_
        refine blockQ_normal ?_
        refine thenQ_normal ?_
        refine EC_region ?_
        refine EL_v (x_inc rfl rfl (by omega)) rfl ?_
        refine EL_v x_move rfl ?_
        refine EL_nil ?_
        refine loopQ_next ((g2.bvals bi).length - (vi + 1)) (by omega) ⟨vi + 1, g4, L3, ch3, by omega, at_of rfl ⟨rfl, rfl, rfl, rfl, rfl, rfl, rfl, rfl, trivial⟩, h5, hvp3, hbp3, hfb3, hfbl3, hbv3, hst3.trans hred.steps, hI4, (hb3.trans hb4).trans hb5, fun hn => (hnp3 hn).trans hred, by rw [nphi_red hred]; exact hle3, fun hc => by rw [nphi_red hred]; exact hlt3 hc, fun hc => ⟨?_, ?_⟩, rfl⟩
        · intro b hbb u hu
          rw [hsm4.2.2.2.2.2.2.2.2.2.2.1] at hu
          exact hred.fine ((hfine3 hc).1 b hbb u hu)
        · intro k hk
          by_cases e : k = vi
          · subst e
            rw [← hveq]
            exact ⟨hno, hnn⟩
          · exact hred.fine ((hfine3 hc).2 k (by omega))
      · refine EL_v x_move rfl ?_
        refine EL_no rfl rfl ?_
        refine EL_v (x_pick_t rfl) rfl ?_
        refine EL_v x_assign rfl ?_
        refine EL_nil ?_
        refine blockQ_normal ?_
        refine thenQ_normal ?_
        refine EC_region ?_
        refine EL_v (x_inc rfl rfl (by omega)) rfl ?_
        refine EL_v x_move rfl ?_
        refine EL_nil ?_
        have hphi := nphi_phi (l := [x]) hv4 hop
        have hst5 : Step g4 ((g4.setOp v 14).setArgs v [x]) := .phi hv4 hop hx1 hx2 hx3
        have hl5 : L5.sl .fblocks = L3.sl .fblocks ∧ L5.sl (.bvals bi) = L3.sl (.bvals bi) := ⟨hsl5 _ (by simp), hsl5 _ (by simp)⟩
        refine loopQ_next ((g2.bvals bi).length - (vi + 1)) (by omega) ⟨vi + 1, (g4.setOp v 14).setArgs v [x], L5, true, by omega, at_of rfl ⟨rfl, rfl, rfl, rfl, rfl, rfl, rfl, rfl, trivial⟩, h5, by rw [hvp5, hvp3], by rw [hbp5, hbp3], by rw [hfb5, hfb3], by rw [hl5.1, hfbl3], by rw [hl5.2, hbv3], (hst3.trans hred.steps).step hst5, p.step _ _ hI4 hst5, (hb3.trans hb4).trans hb5, fun hn => ?_, ?_, fun _ => ?_, (fun hc => by cases hc), rfl⟩
        · exfalso
          have h6 := (hnp3 hn).same
          have h7 := (hnp3 hn).trans hred
          exact hn v (by rw [← h7.same.1]; exact hv4) (by rw [← h7.same.2.2.1]; exact hop)
        · rw [nphi_red hred] at hphi; omega
        · rw [nphi_red hred] at hphi; omega
    · refine EC_exit ?_
      refine thenQ_exit ?_
      refine loopQ_exit ?_
      refine blockQ_hit ?_
      refine blockQ_normal ?_
      refine thenQ_normal ?_
      refine EC_region ?_
      refine EL_v (x_inc rfl rfl (by omega)) rfl ?_
      refine EL_v x_move rfl ?_
      refine EL_nil ?_
      refine loopQ_next (g1.nb - (bi + 1)) (by omega) ⟨bi + 1, g3, L3, ch3, by omega, at_of rfl ⟨rfl, rfl, rfl, rfl, rfl, trivial⟩, h3, hvp3, hbp3, hfb3, hfbl3, hst2.trans hst3, hI3, hb3, hnp3, hle3, hlt3, fun hc b hbb u hu => ?_, rfl⟩
      by_cases e : b = bi
      · subst e
        rw [hsm3.2.2.2.2.2.2.2.2.2.1] at hu
        obtain ⟨k, hk, rfl⟩ := List.getElem_of_mem hu
        have := (hfine3 hc).2 k (by omega)
        rwa [List.getD_eq_getElem?_getD, List.getElem?_eq_getElem hk] at this
      · exact (hfine3 hc).1 b (by omega) u hu
  · have hbi : bi = g1.nb := by omega
    subst hbi
    refine EC_exit ?_
    refine thenQ_exit ?_
    refine loopQ_exit ?_
    refine blockQ_hit ?_
    refine thenQ_normal ?_
    refine EC_seq ?_
    refine EC_region ?_
    refine EL_v x_move rfl ?_
    refine EL_v (x_not rfl) rfl ?_
    refine EL_nil ?_
    refine thenQ_normal ?_
    refine EC_cond rfl rfl (fun hc => ?_) (fun hc => ?_)
    · have hc : ch = false := by simpa using hc
      refine EC_exit ?_
      refine blockQ_miss rfl ?_
      refine loopQ_exit ?_
      refine blockQ_hit ?_
      refine post_none rfl rfl ⟨g2, L2, h2, hvp2, hbp2, hfb2, hst.trans hst2, fun v hv => ?_, hb2, hnp2⟩
      obtain ⟨b, hbb, hvb⟩ := p.cov g2 hI2 v hv
      exact hfine2 hc b (by omega) v hvb
    · have hc : ch = true := by simpa using hc
      refine EC_skip ?_
      refine blockQ_normal ?_
      refine loopQ_next (nphi g2) (hlt2 hc) ⟨g2, L2, at_of rfl ⟨by rw [← hfp1]; rfl, trivial⟩, h2, hvp2, hbp2, hfb2, hst.trans hst2, hI2, hb2, hnp2, rfl⟩
end Go.Proofs.Yteepnepebilckaa
