/- Walks: the small functions on values, and copySource. -/
import Derived.Test.YteepnepebilckaaS1
import Derived.Test.YteepnepebilckaaE4
namespace Go.Proofs.Yteepnepebilckaa
open Go Go.Eng Go.RowKit
set_option maxHeartbeats 4000000
attribute [local irreducible] EC EL DL Ret thenQ blockQ loopQ bodyQ onlyN execOp Sem.run World.cell? World.frozen? World.setCell World.alloc

theorem below_setCell {B : Nat} {w : World} {p : Addr} {u : Value} (h : B ≤ p.block) : Below B w (w.setCell p u) := (Below.refl B w).setCell h u

/-- Value.SetArg. -/
theorem setArg_ret {w : World} {B : Nat} {L : Lay} {g : Gph} (h : GRep w B L g) {i k j : Nat} (hi : i < g.nv) (hk : k < (g.args i).length) :
    Ret Try.prog 62 #[L.vp i, .int .i64 (k : Int), L.vp j] w fun _ w' => GRep w' B L (g.setArg i k j) ∧ Below B w w' := by
  obtain ⟨b, cap, hv, hob, hc, hf⟩ := h.argsE hi hk
  have h1 := h.vArgs hi
  rw [hv] at h1
  have hlt := (h.slLt (τ := .args i) rfl hi b hob).1
  refine ret_of_EC Try.func62 rfl rfl ?_
  refine EC_region ?_
  refine EL_v x_move rfl ?_
  refine EL_v (x_nil rfl) rfl ?_
  refine EL_v (x_field rfl (tab_fld rfl)) rfl ?_
  refine EL_v (x_load rfl (tab_one rfl) (by with_reducible assumption)) rfl ?_
  refine EL_v x_move rfl ?_
  refine EL_v x_move rfl ?_
  refine EL_v (x_index1 rfl rfl (tab_sl rfl) (by omega)) rfl ?_
  refine EL_s (x_store rfl rfl rfl (tab_size1 rfl) hc (hf _)) rfl ?_
  refine EL_nil ?_
  refine post_none rfl rfl ⟨?_, below_setCell hlt⟩
  rw [Nat.zero_add]
  exact h.setArg hi hk hob

/-- Value.SetArgs1. -/
theorem setArgs1_ret {w : World} {B : Nat} {L : Lay} {g : Gph} (h : GRep w B L g) {i j : Nat} (hi : i < g.nv) (hB : B ≤ w.heap.size) :
    Ret Try.prog 64 #[L.vp i, L.vp j] w fun _ w' => ∃ L', L'.vp = L.vp ∧ L'.bp = L.bp ∧ L'.fb = L.fb ∧ (∀ τ, τ ≠ .args i → L'.sl τ = L.sl τ) ∧ GRep w' B L' (g.setArgs i [j]) ∧ Below B w w' := by
  have h0 := h.alloc (.cells #[L.vp j] 93)
  have h1 := h0.vArgs hi
  have hnew : (w.alloc (.cells #[L.vp j] 93)).heap[w.heap.size]? = some (.cells #[L.vp j] 93) := heap_alloc_new w _
  refine ret_of_EC Try.func64 rfl rfl ?_
  refine EC_region ?_
  refine EL_v x_move rfl ?_
  refine EL_v x_move rfl ?_
  refine EL_v (x_bslice1 rfl rfl Try.underlying82 (by kernel_rfl) (z := .pointer none) rfl) rfl ?_
  refine EL_v (x_nil rfl) rfl ?_
  refine EL_v (x_field rfl (tab_fld rfl)) rfl ?_
  refine EL_s (x_store rfl rfl rfl (tab_size1 rfl) h1 (h0.vFree hi)) rfl ?_
  refine EL_nil ?_
  refine post_none rfl rfl ⟨L.setSl (.args i) (.slice (some ⟨w.heap.size, 0, none⟩) 1 1) w.heap.size, rfl, rfl, rfl, fun τ hτ => if_neg hτ, ?_, ?_⟩
  · refine GRep.setL (τ := .args i) (ys := [j]) (w1 := w.alloc (.cells #[L.vp j] 93)) h rfl hi ?_ (fun k hk _ => Below.heap_alloc _ _ _ hk) (fun k hk => .inr ?_)
    · exact ⟨rfl, .inr ⟨w.heap.size, 1, #[L.vp j], rfl, hB, hnew, Nat.le_refl _, by decide, rfl, rfl⟩⟩
    · have : w.heap.size = k := Option.some.inj hk
      omega
  · exact ((Below.refl B w).alloc hB _).setCell (h.tags.vbB i hi) _

/-- copySource: the value behind a chain of copies; the chain's copies may be turned to point to it. -/
theorem copySource_ret {w : World} {B : Nat} {L : Lay} {g : Gph} {r : Nat → Nat} (h : GRep w B L g) (hc : CInv g r) {i : Nat} (hi : i < g.nv) (ho : g.op i = 14) :
    Ret Try.prog 63 #[L.vp i] w fun v w' => ∃ s g', v = L.vp s ∧ GRep w' B L g' ∧ Red g g' ∧ Src g' i s ∧ s < g.nv ∧ g.op s ≠ 14 ∧
      (∀ u, g'.args u ≠ g.args u → g.op u = 14 ∧ r u ≤ r i) ∧ Below B w w' := by
  obtain ⟨j, ha, hr⟩ := hc.copy i hi ho
  have hj : j < g.nv := hc.closed i hi j (by rw [ha]; simp)
  -- the one argument of a copy
  have arg1 : ∀ {w : World} {g : Gph}, GRep w B L g → ∀ {x y : Nat}, x < g.nv → g.args x = [y] → ∃ b cap, w.cell? ⟨L.vb x, 0 + 5, none⟩ = some (.slice (some ⟨b, 0, none⟩) 1 cap) ∧ w.cell? ⟨b, 0 + 0, none⟩ = some (L.vp y) := by
    intro w g h x y hx hy
    obtain ⟨b, cap, hv, _, hcell, _⟩ := h.argsE hx (k := 0) (by rw [hy]; simp)
    have h1 := h.vArgs hx
    rw [hv, hy] at h1
    rw [hy] at hcell
    exact ⟨b, cap, h1, hcell⟩
  obtain ⟨b0, c0, f1, f2⟩ := arg1 h hi ha
  refine ret_of_EC Try.func63 rfl rfl ?_
  refine EC_seq ?_
  refine EC_region ?_
  refine EL_v x_assign rfl ?_
  refine EL_nil ?_
  refine thenQ_normal ?_
  refine EC_seq ?_
  refine EC_region ?_
  refine EL_v x_move rfl ?_
  refine EL_v (x_nil rfl) rfl ?_
  refine EL_v (x_field rfl (tab_fld rfl)) rfl ?_
  refine EL_v (x_load rfl (tab_one rfl) (by with_reducible assumption)) rfl ?_
  refine EL_v (x_index0 rfl rfl (tab_sl rfl) (by omega)) rfl ?_
  refine EL_v (x_load rfl (tab_one rfl) (by with_reducible assumption)) rfl ?_
  refine EL_v x_assign rfl ?_
  refine EL_nil ?_
  refine thenQ_normal ?_
  refine EC_seq ?_
  refine EC_region ?_
  refine EL_v x_move rfl ?_
  refine EL_v x_assign rfl ?_
  refine EL_nil ?_
  refine thenQ_normal ?_
  refine EC_seq ?_
  refine EC_region ?_
  refine EL_v x_assign rfl ?_
  refine EL_nil ?_
  refine thenQ_normal ?_
  refine EC_seq ?_
  refine EC_block ?_
  refine EC_loop (fun n e w' => ∃ x y b, w' = w ∧ At e [(0, L.vp i), (3, L.vp x), (4, L.vp y), (5, .bool b)] ∧ Chain g j y ∧ Chain g y x ∧ n = r x) (r j)
    ⟨j, j, false, rfl, at_of rfl ⟨rfl, rfl, rfl, rfl, trivial⟩, .refl j, .refl j, rfl⟩ ?_
  rintro n e w' ⟨x, y, b, rfl, ⟨t, rfl⟩, hjy, hyx, rfl⟩
  have hy : y < g.nv := (hjy.rank hc hj).1
  have hx : x < g.nv := (hyx.rank hc hy).1
  have fx := h.vOp hx
  refine EC_seq ?_
  refine EC_seq ?_
  refine EC_region ?_
  refine EL_v x_move rfl ?_
  refine EL_v (x_nil rfl) rfl ?_
  refine EL_v (x_field rfl (tab_fld rfl)) rfl ?_
  refine EL_v (x_load rfl (tab_one rfl) (by with_reducible assumption)) rfl ?_
  refine EL_v (x_eql rfl rfl) rfl ?_
  refine EL_nil ?_
  refine thenQ_normal ?_
  refine EC_if rfl rfl (fun hox => ?_) (fun hox => ?_)
  · -- one step on
    obtain ⟨x', hx', hrx⟩ := hc.copy x hx hox
    have hx'l : x' < g.nv := hc.closed x hx x' (by rw [hx']; simp)
    obtain ⟨b1, c1, f3, f4⟩ := arg1 h hx hx'
    refine EC_skip ?_
    refine thenQ_normal ?_
    refine EC_block ?_
    refine EC_seq ?_
    refine EC_region ?_
    refine EL_v x_move rfl ?_
    refine EL_v (x_nil rfl) rfl ?_
    refine EL_v (x_field rfl (tab_fld rfl)) rfl ?_
    refine EL_v (x_load rfl (tab_one rfl) (by with_reducible assumption)) rfl ?_
    refine EL_v (x_index0 rfl rfl (tab_sl rfl) (by omega)) rfl ?_
    refine EL_v (x_load rfl (tab_one rfl) (by with_reducible assumption)) rfl ?_
    refine EL_v x_assign rfl ?_
    refine EL_nil ?_
    refine thenQ_normal ?_
    have hne : x' ≠ y := by
      intro e
      have h1 := (hyx.rank hc hy).2.1
      rw [← e] at h1; omega
    refine EC_seq ?_
    refine EC_seq ?_
    refine EC_region ?_
    refine EL_v x_move rfl ?_
    refine EL_v x_move rfl ?_
    refine EL_v (x_eqlp rfl rfl (tab_ptr rfl) (h.vPlain hx'l) (h.vPlain hy)) rfl ?_
    refine EL_nil ?_
    refine thenQ_normal ?_
    refine EC_if rfl rfl (fun hp => ?_) (fun _ => ?_)
    · exfalso
      injection hp with hp
      exact hne (vb_inj h hx'l hy hp)
    · refine EC_skip ?_
      refine thenQ_normal ?_
      refine EC_seq ?_
      refine EC_seq ?_
      refine EC_region ?_
      refine EL_v x_move rfl ?_
      refine EL_nil ?_
      refine thenQ_normal ?_
      refine EC_cond rfl rfl (fun hb => ?_) (fun hb => ?_)
      · -- the slow one goes on, too
        have hoy : g.op y = 14 ∧ ∃ y', g.args y = [y'] ∧ Chain g y' x' := by
          cases hyx with
          | refl => exact ⟨hox, x', hx', .refl x'⟩
          | step h1 h2 h3 => exact ⟨h1, _, h2, h3.trans (.step hox hx' (.refl x'))⟩
        obtain ⟨hoy, y', hy', hch⟩ := hoy
        obtain ⟨b2, c2, f5, f6⟩ := arg1 h hy hy'
        refine EC_region ?_
        refine EL_v x_move rfl ?_
        refine EL_v (x_nil rfl) rfl ?_
        refine EL_v (x_field rfl (tab_fld rfl)) rfl ?_
        refine EL_v (x_load rfl (tab_one rfl) (by with_reducible assumption)) rfl ?_
        refine EL_v (x_index0 rfl rfl (tab_sl rfl) (by omega)) rfl ?_
        refine EL_v (x_load rfl (tab_one rfl) (by with_reducible assumption)) rfl ?_
        refine EL_v x_assign rfl ?_
        refine EL_nil ?_
        refine thenQ_normal ?_
        refine EC_region ?_
        refine EL_v x_move rfl ?_
        refine EL_v (x_not rfl) rfl ?_
        refine EL_v x_assign rfl ?_
        refine EL_nil ?_
        refine blockQ_normal ?_
        refine loopQ_next (r x') hrx ⟨x', y', !b, rfl, at_of rfl ⟨rfl, rfl, rfl, rfl, trivial⟩, hjy.trans (.step hoy hy' (.refl y')), hch, rfl⟩
      · refine EC_skip ?_
        refine thenQ_normal ?_
        refine EC_region ?_
        refine EL_v x_move rfl ?_
        refine EL_v (x_not rfl) rfl ?_
        refine EL_v x_assign rfl ?_
        refine EL_nil ?_
        refine blockQ_normal ?_
        refine loopQ_next (r x') hrx ⟨x', y, !b, rfl, at_of rfl ⟨rfl, rfl, rfl, rfl, trivial⟩, hjy, hyx.trans (.step hox hx' (.refl x')), rfl⟩
  · refine EC_exit ?_
    refine thenQ_exit ?_
    refine loopQ_exit ?_
    refine blockQ_hit ?_
    refine thenQ_normal ?_
    -- the source is found: the chain is turned
    refine EC_seq ?_
    refine EC_block ?_
    have hsrc0 : Src g i x := .step ho ha ((hjy.trans hyx).src (.here hox))
    refine EC_loop (fun n e w1 => ∃ u g1, At e [(0, L.vp u), (3, L.vp x)] ∧ GRep w1 B L g1 ∧ Red g g1 ∧ u < g.nv ∧ Src g1 u x ∧ (Src g1 i x) ∧ (∀ z, g1.args z ≠ g.args z → g.op z = 14 ∧ r z ≤ r i) ∧ r u ≤ r i ∧ (u ≠ i → g1.args i = [x]) ∧ Below B w' w1 ∧ n = r u) (r i)
      ⟨i, g, at_of rfl ⟨rfl, rfl, trivial⟩, h, .refl, hi, hsrc0, hsrc0, fun z hz => absurd rfl hz, Nat.le_refl _, fun h => absurd rfl h, Below.refl _ _, rfl⟩ ?_
    rintro n e w1 ⟨u, g1, ⟨t, rfl⟩, h1, hred, hu, hsrc, hsrci, hch, hri, hti, hb, rfl⟩
    have hc1 := hc.reds hred
    have hsm := hred.same
    have hu1 : u < g1.nv := by rw [hsm.1]; exact hu
    have hx1 : x < g1.nv := by rw [hsm.1]; exact hx
    refine EC_seq ?_
    refine EC_seq ?_
    refine EC_region ?_
    refine EL_v x_move rfl ?_
    refine EL_v x_move rfl ?_
    refine EL_v (x_neqp rfl rfl (tab_ptr rfl) (h1.vPlain hu1) (h1.vPlain hx1)) rfl ?_
    refine EL_nil ?_
    refine thenQ_normal ?_
    refine EC_cond rfl rfl (fun hp => ?_) (fun hp => ?_)
    · have hne : u ≠ x := by
        intro e; subst e; simp at hp
      have hstep : g1.op u = 14 ∧ ∃ u', g1.args u = [u'] ∧ Src g1 u' x := by
        cases hsrc with
        | here h => exact absurd rfl hne
        | step h1 h2 h3 => exact ⟨h1, _, h2, h3⟩
      obtain ⟨hou, u', hu', hsrc'⟩ := hstep
      obtain ⟨hul, hur⟩ := hc1.next hu1 hou hu'
      obtain ⟨b3, c3, f7, f8⟩ := arg1 h1 hu1 hu'
      refine EC_skip ?_
      refine thenQ_normal ?_
      refine EC_block ?_
      refine EC_seq ?_
      refine EC_region ?_
      refine EL_v x_move rfl ?_
      refine EL_v (x_nil rfl) rfl ?_
      refine EL_v (x_field rfl (tab_fld rfl)) rfl ?_
      refine EL_v (x_load rfl (tab_one rfl) (by with_reducible assumption)) rfl ?_
      refine EL_v (x_index0 rfl rfl (tab_sl rfl) (by omega)) rfl ?_
      refine EL_v (x_load rfl (tab_one rfl) (by with_reducible assumption)) rfl ?_
      refine EL_v x_assign rfl ?_
      refine EL_nil ?_
      refine thenQ_normal ?_
      refine EC_seq ?_
      refine EC_region ?_
      refine EL_v x_move rfl ?_
      refine EL_v x_move rfl ?_
      refine EL_c (x_call Try.func62 rfl rfl rfl rfl) rfl (setArg_ret (k := 0) (j := x) h1 hu1 (by rw [hu']; simp)) ?_
      rintro _ w2 ⟨h2, hb2⟩
      refine EL_nil ?_
      refine thenQ_normal ?_
      refine EC_region ?_
      refine EL_v x_move rfl ?_
      refine EL_v x_assign rfl ?_
      refine EL_nil ?_
      refine blockQ_normal ?_
      have hargs : ∀ z, (g1.setArg u 0 x).args z = if z = u then [x] else g1.args z := by
        intro z
        rw [setArg_args, hu']; rfl
      have hred2 : Red g (g1.setArg u 0 x) := hred.trans (Red.toSrc hc1 hu1 (by rw [hu']; simp) rfl (by rw [hu']; exact hsrc') (fun _ => by rw [hu']; exact hur))
      refine loopQ_next (r u') (by omega) ⟨u', g1.setArg u 0 x, at_of rfl ⟨rfl, rfl, trivial⟩, h2, hred2, by rw [← hsm.1]; exact hul, hsrc'.setArg hc1 hul hur, ?_, ?_, by omega, ?_, hb.trans hb2, rfl⟩
      · by_cases e : i = u
        · subst e
          exact .step hou (by rw [hargs, if_pos rfl]) (.here (by rw [setArg_op, hsm.2.2.1]; exact hox))
        · have := hti (fun e' => e e'.symm)
          exact .step (by rw [setArg_op, hsm.2.2.1]; exact ho) (by rw [hargs, if_neg e]; exact this) (.here (by rw [setArg_op, hsm.2.2.1]; exact hox))
      · intro z hz
        rw [hargs] at hz
        by_cases e : z = u
        · subst e
          exact ⟨by rw [← hsm.2.2.1]; exact hou, hri⟩
        · rw [if_neg e] at hz
          exact hch z hz
      · intro _
        rw [hargs]
        by_cases e : i = u
        · rw [if_pos e]
        · rw [if_neg e]; exact hti (fun e' => e e'.symm)
    · refine EC_exit ?_
      refine thenQ_exit ?_
      refine loopQ_exit ?_
      refine blockQ_hit ?_
      refine thenQ_normal ?_
      refine EC_seq ?_
      refine EC_region ?_
      refine EL_v x_move rfl ?_
      refine EL_v x_assign rfl ?_
      refine EL_nil ?_
      refine thenQ_normal ?_
      refine EC_ret ?_
      exact post_tmp rfl rfl rfl ⟨x, g1, rfl, h1, hred, hsrci, hx, hox, hch, hb⟩
end Go.Proofs.Yteepnepebilckaa
