/- Walks: copyelimValue, phielimValue, phielim, copyelim. -/
import Derived.Test.YteepnepebilckaaW1
namespace Go.Proofs.Yteepnepebilckaa
open Go Go.Eng Go.RowKit
set_option maxHeartbeats 4000000
attribute [local irreducible] EC EL DL Ret thenQ blockQ loopQ bodyQ onlyN execOp Sem.run World.cell? World.frozen? World.setCell World.alloc

/-- No argument of a value is a copy. -/
def NoCopy (g : Gph) (v : Nat) : Prop := ∀ a ∈ g.args v, g.op a ≠ 14

theorem Red.noCopy {g g' : Gph} (h : Red g g') {v : Nat} (hn : NoCopy g v) : g'.args v = g.args v := by
  apply List.ext_getElem (h.len v)
  intro k h1 h2
  have := h.stay (x := v) (k := k) (by
    rw [List.getD_eq_getElem?_getD, List.getElem?_eq_getElem h2]
    exact hn _ (by simp))
  rw [List.getD_eq_getElem?_getD, List.getElem?_eq_getElem h1, List.getD_eq_getElem?_getD, List.getElem?_eq_getElem h2] at this
  simpa using this

/-- copyelimValue. -/
theorem copyelimValue_ret {w : World} {B : Nat} {L : Lay} {g : Gph} {r : Nat → Nat} (h : GRep w B L g) (hc : CInv g r) {v : Nat} (hv : v < g.nv) (hlen : (g.args v).length < 4294967296) :
    Ret Try.prog 41 #[L.vp v] w fun _ w' => ∃ g', GRep w' B L g' ∧ Red g g' ∧ NoCopy g' v ∧ (∀ k, k < (g.args v).length → Src g ((g.args v).getD k 0) ((g'.args v).getD k 0)) ∧ Below B w w' := by
  have fa := h.vArgs hv
  obtain ⟨a0, c0, hsl⟩ := h.argsV hv
  rw [hsl] at fa
  refine ret_of_EC Try.func41 rfl rfl ?_
  refine EC_seq ?_
  refine EC_region ?_
  refine EL_v x_move rfl ?_
  refine EL_v (x_nil rfl) rfl ?_
  refine EL_v (x_field rfl (tab_fld rfl)) rfl ?_
  refine EL_v (x_load rfl (tab_one rfl) (by with_reducible assumption)) rfl ?_
  refine EL_v (x_len rfl (tab_sl rfl)) rfl ?_
  refine EL_v x_move rfl ?_
  refine EL_nil ?_
  refine thenQ_normal ?_
  refine EC_block ?_
  refine EC_loop (fun n e w1 => ∃ k g1, k ≤ (g.args v).length ∧ At e [(0, L.vp v), (7, .slice a0 (g.args v).length c0), (8, .int .i64 ((g.args v).length : Int)), (9, .int .i64 (k : Int))] ∧ GRep w1 B L g1 ∧ Red g g1 ∧
      (∀ k', k' < k → g1.op ((g1.args v).getD k' 0) ≠ 14) ∧ (∀ k', k' < k → Src g ((g.args v).getD k' 0) ((g1.args v).getD k' 0)) ∧ (∀ k', k ≤ k' → (g1.args v).getD k' 0 = (g.args v).getD k' 0) ∧ Below B w w1 ∧ n = (g.args v).length - k) ((g.args v).length)
    ⟨0, g, Nat.zero_le _, at_of rfl ⟨rfl, rfl, rfl, rfl, trivial⟩, h, .refl, fun k' hk => absurd hk (Nat.not_lt_zero _), fun k' hk => absurd hk (Nat.not_lt_zero _), fun _ _ => rfl, Below.refl _ _, rfl⟩ ?_
  rintro n e w1 ⟨k, g1, hk, ⟨t, rfl⟩, h1, hred, hdone, hsrcd, htodo, hb, rfl⟩
  have hc1 := hc.reds hred
  have hsm := hred.same
  have hv1 : v < g1.nv := by rw [hsm.1]; exact hv
  have hl1 := hred.len v
  refine EC_seq ?_
  refine EC_region ?_
  refine EL_v (x_lss rfl rfl) rfl ?_
  refine EL_nil ?_
  refine thenQ_normal ?_
  refine EC_seq ?_
  refine EC_if rfl rfl (fun hlt => ?_) (fun hge => ?_)
  · have hlt : k < (g.args v).length := by omega
    have hk1 : k < (g1.args v).length := by omega
    obtain ⟨b1, c1, hs1, _, f2, _⟩ := h1.argsE hv1 hk1
    rw [hsl] at hs1
    injection hs1 with e1 e2 e3
    subst e1
    have hmem : (g1.args v).getD k 0 ∈ g1.args v := by rw [List.getD_eq_getElem?_getD, List.getElem?_eq_getElem hk1]; simp
    generalize hag : (g1.args v).getD k 0 = a at f2 hmem
    have ha : a < g1.nv := hc1.closed v hv1 a hmem
    have f3 := h1.vOp ha
    have htk : (g.args v).getD k 0 = a := by rw [← htodo k (Nat.le_refl _)]; exact hag
    refine EC_skip ?_
    refine thenQ_normal ?_
    refine EC_seq ?_
    refine EC_block ?_
    refine EC_seq ?_
    refine EC_region ?_
    refine EL_v x_move rfl ?_
    refine EL_v (x_index1 rfl rfl (tab_sl rfl) (by omega)) rfl ?_
    refine EL_v (x_load rfl (tab_one rfl) (by with_reducible assumption)) rfl ?_
    refine EL_v x_assign rfl ?_
    refine EL_v x_assign rfl ?_
    refine EL_nil ?_
    refine thenQ_normal ?_
    refine EC_seq ?_
    refine EC_region ?_
    refine EL_v x_move rfl ?_
    refine EL_v (x_nil rfl) rfl ?_
    refine EL_v (x_field rfl (tab_fld rfl)) rfl ?_
    refine EL_v (x_load rfl (tab_one rfl) (by with_reducible assumption)) rfl ?_
    refine EL_v (x_eql rfl rfl) rfl ?_
    refine EL_nil ?_
    refine thenQ_normal ?_
    refine EC_if rfl rfl (fun hoa => ?_) (fun hoa => ?_)
    · refine EC_region ?_
      refine EL_v x_move rfl ?_
      refine EL_v x_move rfl ?_
      refine EL_v x_move rfl ?_
      refine EL_c (x_call Try.func63 rfl rfl rfl rfl) rfl (copySource_ret h1 hc1 ha hoa) ?_
      rintro _ w2 ⟨s, g2, rfl, h2, hred2, hsrc2, hs, hos, hch, hb2⟩
      have hc2 := hc1.reds hred2
      have hsm2 := hred2.same
      have hv2 : v < g2.nv := by rw [hsm2.1]; exact hv1
      have hl2 := hred2.len v
      have hlow : g1.op v = 14 → r a < r v := by
        intro hov
        obtain ⟨j, hj, hrj⟩ := hc1.copy v hv1 hov
        rw [hj] at hmem
        have : a = j := by simpa using hmem
        rw [this]; exact hrj
      have hsame : g2.args v = g1.args v := by
        by_cases e : g2.args v = g1.args v
        · exact e
        · obtain ⟨ho, hr⟩ := hch v e
          have := hlow ho; omega
      have hk2 : k < (g2.args v).length := by rw [hsame]; exact hk1
      refine EL_c (x_call Try.func62 rfl rfl rfl rfl) rfl (setArg_ret (k := k) (j := s) h2 hv2 hk2) ?_
      rintro _ w3 ⟨h3, hb3⟩
      refine EL_nil ?_
      refine blockQ_normal ?_
      refine thenQ_normal ?_
      refine EC_region ?_
      refine EL_v (x_inc rfl rfl (by omega)) rfl ?_
      refine EL_v x_move rfl ?_
      refine EL_nil ?_
      have hag2 : (g2.args v).getD k 0 = a := by rw [hsame]; exact hag
      have hred3 : Red g1 (g2.setArg v k s) := hred2.trans (Red.toSrc hc2 hv2 hk2 hag2 hsrc2 (fun ho => hlow (by rw [← hsm2.2.2.1]; exact ho)))
      have hargs : (g2.setArg v k s).args v = (g1.args v).set k s := by rw [setArg_args, if_pos rfl, hsame]
      have hget : ∀ k', k' ≠ k → ((g2.setArg v k s).args v).getD k' 0 = (g1.args v).getD k' 0 := by
        intro k' hne
        rw [hargs, List.getD_eq_getElem?_getD, List.getElem?_set_ne (fun e => hne e.symm), ← List.getD_eq_getElem?_getD]
      have hgetk : ((g2.setArg v k s).args v).getD k 0 = s := by
        rw [hargs, List.getD_eq_getElem?_getD, List.getElem?_set_self hk1]; rfl
      have hop2 : (g2.setArg v k s).op = g1.op := by
        show g2.op = _
        exact hsm2.2.2.1
      refine loopQ_next ((g.args v).length - (k + 1)) (by omega) ⟨k + 1, g2.setArg v k s, by omega, at_of rfl ⟨rfl, rfl, rfl, rfl, trivial⟩, h3, hred.trans hred3, ?_, ?_, ?_, (hb.trans hb2).trans hb3, rfl⟩
      · intro k' hk'
        rw [hop2]
        by_cases e : k' = k
        · subst e; rw [hgetk]; exact hos
        · rw [hget k' e]; exact hdone k' (by omega)
      · intro k' hk'
        by_cases e : k' = k
        · subst e
          rw [hgetk, htk]
          exact (hred.trans hred2).back hsrc2
        · rw [hget k' e]; exact hsrcd k' (by omega)
      · intro k' hk'
        rw [hget k' (by omega)]
        exact htodo k' (by omega)
    · refine EC_skip ?_
      refine blockQ_normal ?_
      refine thenQ_normal ?_
      refine EC_region ?_
      refine EL_v (x_inc rfl rfl (by omega)) rfl ?_
      refine EL_v x_move rfl ?_
      refine EL_nil ?_
      refine loopQ_next ((g.args v).length - (k + 1)) (by omega) ⟨k + 1, g1, by omega, at_of rfl ⟨rfl, rfl, rfl, rfl, trivial⟩, h1, hred, ?_, ?_, fun k' hk' => htodo k' (by omega), hb, rfl⟩
      · intro k' hk'
        by_cases e : k' = k
        · subst e; rw [hag]; exact hoa
        · exact hdone k' (by omega)
      · intro k' hk'
        by_cases e : k' = k
        · subst e
          rw [hag, htk]
          exact .here (by rw [← hsm.2.2.1]; exact hoa)
        · exact hsrcd k' (by omega)
  · refine EC_exit ?_
    refine thenQ_exit ?_
    refine loopQ_exit ?_
    refine blockQ_hit ?_
    refine post_none rfl rfl ⟨g1, h1, hred, ?_, ?_, hb⟩
    · intro a ha
      obtain ⟨k', hk', rfl⟩ := List.getElem_of_mem ha
      have := hdone k' (by omega)
      rwa [List.getD_eq_getElem?_getD, List.getElem?_eq_getElem hk'] at this
    · intro k' hk'
      exact hsrcd k' (by omega)

/-- A phi that has one source beside itself. -/
def Needless (g : Gph) (v : Nat) : Prop := ∃ x ∈ g.args v, x ≠ v ∧ ∀ a ∈ g.args v, a = v ∨ a = x

/-- phielimValue. -/
theorem phielimValue_ret {w : World} {B : Nat} {L : Lay} {g : Gph} (h : GRep w B L g) (hB : B ≤ w.heap.size) {v : Nat} (hv : v < g.nv) (hcl : ∀ a ∈ g.args v, a < g.nv) (hlen : (g.args v).length < 4294967296) :
    Ret Try.prog 42 #[L.vp v] w fun u w' => ∃ b, u = .bool b ∧ Below B w w' ∧
      ((b = false ∧ GRep w' B L g ∧ (g.op v = 13 → ¬ Needless g v)) ∨
       (b = true ∧ g.op v = 13 ∧ ∃ x L', x ∈ g.args v ∧ x ≠ v ∧ (∀ a ∈ g.args v, a = v ∨ a = x) ∧ L'.vp = L.vp ∧ L'.bp = L.bp ∧ L'.fb = L.fb ∧ (∀ τ, τ ≠ .args v → L'.sl τ = L.sl τ) ∧ GRep w' B L' ((g.setOp v 14).setArgs v [x]))) := by
  have fo := h.vOp hv
  have fa := h.vArgs hv
  obtain ⟨a0, c0, hsl⟩ := h.argsV hv
  rw [hsl] at fa
  refine ret_of_EC Try.func42 rfl rfl ?_
  refine EC_seq ?_
  refine EC_region ?_
  refine EL_v x_assign rfl ?_
  refine EL_nil ?_
  refine thenQ_normal ?_
  refine EC_seq ?_
  refine EC_seq ?_
  refine EC_region ?_
  refine EL_v x_move rfl ?_
  refine EL_v (x_nil rfl) rfl ?_
  refine EL_v (x_field rfl (tab_fld rfl)) rfl ?_
  refine EL_v (x_load rfl (tab_one rfl) (by with_reducible assumption)) rfl ?_
  refine EL_v (x_neq rfl rfl) rfl ?_
  refine EL_nil ?_
  refine thenQ_normal ?_
  refine EC_if rfl rfl (fun hno => ?_) (fun hno => ?_)
  · refine EC_seq ?_
    refine EC_region ?_
    refine EL_v x_assign rfl ?_
    refine EL_nil ?_
    refine thenQ_normal ?_
    refine EC_ret ?_
    refine thenQ_ret ?_
    exact post_tmp rfl rfl rfl ⟨false, rfl, Below.refl _ _, .inl ⟨rfl, h, fun ho => absurd ho hno⟩⟩
  have hop : g.op v = 13 := Decidable.of_not_not hno
  refine EC_skip ?_
  refine thenQ_normal ?_
  refine EC_seq ?_
  refine EC_region ?_
  refine EL_v x_assign rfl ?_
  refine EL_nil ?_
  refine thenQ_normal ?_
  refine EC_seq ?_
  refine EC_seq ?_
  refine EC_region ?_
  refine EL_v x_move rfl ?_
  refine EL_v (x_nil rfl) rfl ?_
  refine EL_v (x_field rfl (tab_fld rfl)) rfl ?_
  refine EL_v (x_load rfl (tab_one rfl) (by with_reducible assumption)) rfl ?_
  refine EL_v (x_len rfl (tab_sl rfl)) rfl ?_
  refine EL_v x_move rfl ?_
  refine EL_nil ?_
  refine thenQ_normal ?_
  refine EC_block ?_
  refine EC_loop (fun n e w1 => ∃ (k : Nat) (o : Option Nat), w1 = w ∧ k ≤ (g.args v).length ∧ At e [(0, L.vp v), (14, .slice a0 (g.args v).length c0), (15, .int .i64 ((g.args v).length : Int)), (16, .int .i64 (k : Int)), (3, .pointer (o.map fun x => ⟨L.vb x, 0, none⟩))] ∧
      (∀ k', k' < k → (g.args v).getD k' 0 = v ∨ o = some ((g.args v).getD k' 0)) ∧ (∀ x, o = some x → x ∈ g.args v ∧ x ≠ v) ∧ n = (g.args v).length - k) ((g.args v).length)
    ⟨0, none, rfl, Nat.zero_le _, at_of rfl ⟨rfl, rfl, rfl, rfl, rfl, trivial⟩, fun k' hk => absurd hk (Nat.not_lt_zero _), fun x hx => (by cases hx), rfl⟩ ?_
  rintro n e w1 ⟨k, o, rfl, hk, ⟨t, rfl⟩, hdone, ho, rfl⟩
  refine EC_seq ?_
  refine EC_region ?_
  refine EL_v (x_lss rfl rfl) rfl ?_
  refine EL_nil ?_
  refine thenQ_normal ?_
  refine EC_seq ?_
  refine EC_if rfl rfl (fun hlt => ?_) (fun hge => ?_)
  · have hlt : k < (g.args v).length := by omega
    obtain ⟨b1, c1, hs1, _, f2, _⟩ := h.argsE hv hlt
    rw [hsl] at hs1
    injection hs1 with e1 e2 e3
    subst e1
    have hmem : (g.args v).getD k 0 ∈ g.args v := by rw [List.getD_eq_getElem?_getD, List.getElem?_eq_getElem hlt]; simp
    generalize hag : (g.args v).getD k 0 = a at f2 hmem
    have ha : a < g.nv := hcl a hmem
    refine EC_skip ?_
    refine thenQ_normal ?_
    refine EC_seq ?_
    refine EC_block ?_
    refine EC_seq ?_
    refine EC_region ?_
    refine EL_v (x_index1 rfl rfl (tab_sl rfl) (by omega)) rfl ?_
    refine EL_v (x_load rfl (tab_one rfl) (by with_reducible assumption)) rfl ?_
    refine EL_v x_assign rfl ?_
    refine EL_nil ?_
    refine thenQ_normal ?_
    refine EC_seq ?_
    refine EC_seq ?_
    refine EC_region ?_
    refine EL_v x_move rfl ?_
    refine EL_v x_move rfl ?_
    refine EL_v (x_eqlp rfl rfl (tab_ptr rfl) (h.vPlain ha) (h.vPlain hv)) rfl ?_
    refine EL_nil ?_
    refine thenQ_normal ?_
    refine EC_if rfl rfl (fun hp => ?_) (fun hp => ?_)
    · -- the phi itself
      have hav : a = v := by
        injection hp with hp
        exact vb_inj h ha hv hp
      refine EC_exit ?_
      refine thenQ_exit ?_
      refine blockQ_hit ?_
      refine thenQ_normal ?_
      refine EC_region ?_
      refine EL_v (x_inc rfl rfl (by omega)) rfl ?_
      refine EL_v x_move rfl ?_
      refine EL_nil ?_
      refine loopQ_next ((g.args v).length - (k + 1)) (by omega) ⟨k + 1, o, rfl, by omega, at_of rfl ⟨rfl, rfl, rfl, rfl, rfl, trivial⟩, ?_, ho, rfl⟩
      intro k' hk'
      by_cases e : k' = k
      · subst e; left; rw [hag]; exact hav
      · exact hdone k' (by omega)
    · have hav : a ≠ v := fun e => hp (by rw [e])
      refine EC_skip ?_
      refine thenQ_normal ?_
      refine EC_seq ?_
      cases o with
      | none =>
        refine EC_seq ?_
        refine EC_region ?_
        refine EL_v x_move rfl ?_
        refine EL_v x_move rfl ?_
        refine EL_v (x_eqlpn (p := some ⟨L.vb a, 0, none⟩) rfl rfl (tab_ptr rfl)) rfl ?_
        refine EL_nil ?_
        refine thenQ_normal ?_
        refine EC_no rfl rfl ?_
        refine EC_skip ?_
        refine thenQ_normal ?_
        refine EC_seq ?_
        refine EC_seq ?_
        refine EC_region ?_
        refine EL_v x_move rfl ?_
        refine EL_v (x_neqpn (p := none) rfl rfl (tab_ptr rfl)) rfl ?_
        refine EL_nil ?_
        refine thenQ_normal ?_
        refine EC_no rfl rfl ?_
        refine EC_skip ?_
        refine thenQ_normal ?_
        refine EC_region ?_
        refine EL_v x_move rfl ?_
        refine EL_v x_assign rfl ?_
        refine EL_nil ?_
        refine blockQ_normal ?_
        refine thenQ_normal ?_
        refine EC_region ?_
        refine EL_v (x_inc rfl rfl (by omega)) rfl ?_
        refine EL_v x_move rfl ?_
        refine EL_nil ?_
        refine loopQ_next ((g.args v).length - (k + 1)) (by omega) ⟨k + 1, some a, rfl, by omega, at_of rfl ⟨rfl, rfl, rfl, rfl, rfl, trivial⟩, ?_, ?_, rfl⟩
        · intro k' hk'
          by_cases e : k' = k
          · subst e; right; rw [hag]
          · rcases hdone k' (by omega) with h1 | h1
            · exact .inl h1
            · cases h1
        · intro x hx
          cases hx
          exact ⟨hmem, hav⟩
      | some y =>
        obtain ⟨hym, hyv⟩ := ho y rfl
        have hy := hcl y hym
        refine EC_seq ?_
        refine EC_region ?_
        refine EL_v x_move rfl ?_
        refine EL_v x_move rfl ?_
        refine EL_v (x_eqlp (a := ⟨L.vb a, 0, none⟩) (b := ⟨L.vb y, 0, none⟩) rfl rfl (tab_ptr rfl) (h.vPlain ha) (h.vPlain hy)) rfl ?_
        refine EL_nil ?_
        refine thenQ_normal ?_
        refine EC_if rfl rfl (fun hp2 => ?_) (fun hp2 => ?_)
        · have hay : a = y := by
            injection hp2 with hp2
            exact vb_inj h ha hy hp2
          refine EC_exit ?_
          refine thenQ_exit ?_
          refine blockQ_hit ?_
          refine thenQ_normal ?_
          refine EC_region ?_
          refine EL_v (x_inc rfl rfl (by omega)) rfl ?_
          refine EL_v x_move rfl ?_
          refine EL_nil ?_
          refine loopQ_next ((g.args v).length - (k + 1)) (by omega) ⟨k + 1, some y, rfl, by omega, at_of rfl ⟨rfl, rfl, rfl, rfl, rfl, trivial⟩, ?_, ho, rfl⟩
          intro k' hk'
          by_cases e : k' = k
          · subst e; right; rw [hag, hay]
          · exact hdone k' (by omega)
        · have hay : a ≠ y := fun e => hp2 (by rw [e])
          refine EC_skip ?_
          refine thenQ_normal ?_
          refine EC_seq ?_
          refine EC_seq ?_
          refine EC_region ?_
          refine EL_v x_move rfl ?_
          refine EL_v (x_neqpn (p := some ⟨L.vb y, 0, none⟩) rfl rfl (tab_ptr rfl)) rfl ?_
          refine EL_nil ?_
          refine thenQ_normal ?_
          refine EC_yes rfl rfl ?_
          refine EC_seq ?_
          refine EC_region ?_
          refine EL_v x_assign rfl ?_
          refine EL_nil ?_
          refine thenQ_normal ?_
          refine EC_ret ?_
          refine thenQ_ret ?_
          refine blockQ_ret ?_
          refine thenQ_ret ?_
          refine loopQ_ret ?_
          refine blockQ_ret ?_
          refine thenQ_ret ?_
          refine post_tmp rfl rfl rfl ⟨false, rfl, Below.refl _ _, .inl ⟨rfl, h, fun _ hn => ?_⟩⟩
          obtain ⟨x, _, _, hx⟩ := hn
          have h1 := (hx a hmem).resolve_left hav
          have h2 := (hx y hym).resolve_left hyv
          exact hay (h1.trans h2.symm)
  · have hk : k = (g.args v).length := by omega
    subst hk
    refine EC_exit ?_
    refine thenQ_exit ?_
    refine loopQ_exit ?_
    refine blockQ_hit ?_
    refine thenQ_normal ?_
    refine EC_seq ?_
    cases o with
    | none =>
      refine EC_seq ?_
      refine EC_region ?_
      refine EL_v x_move rfl ?_
      refine EL_v (x_eqlpn (p := none) rfl rfl (tab_ptr rfl)) rfl ?_
      refine EL_nil ?_
      refine thenQ_normal ?_
      refine EC_yes rfl rfl ?_
      refine EC_seq ?_
      refine EC_region ?_
      refine EL_v x_assign rfl ?_
      refine EL_nil ?_
      refine thenQ_normal ?_
      refine EC_ret ?_
      refine thenQ_ret ?_
      refine post_tmp rfl rfl rfl ⟨false, rfl, Below.refl _ _, .inl ⟨rfl, h, fun _ hn => ?_⟩⟩
      obtain ⟨x, hxm, hxv, _⟩ := hn
      obtain ⟨k', hk', rfl⟩ := List.getElem_of_mem hxm
      rcases hdone k' hk' with h1 | h1
      · rw [List.getD_eq_getElem?_getD, List.getElem?_eq_getElem hk'] at h1
        exact hxv h1
      · cases h1
    | some x =>
      obtain ⟨hxm, hxv⟩ := ho x rfl
      refine EC_seq ?_
      refine EC_region ?_
      refine EL_v x_move rfl ?_
      refine EL_v (x_eqlpn (p := some ⟨L.vb x, 0, none⟩) rfl rfl (tab_ptr rfl)) rfl ?_
      refine EL_nil ?_
      refine thenQ_normal ?_
      refine EC_no rfl rfl ?_
      refine EC_skip ?_
      refine thenQ_normal ?_
      refine EC_seq ?_
      refine EC_region ?_
      refine EL_v x_move rfl ?_
      refine EL_v (x_nil rfl) rfl ?_
      refine EL_v (x_field rfl (tab_fld rfl)) rfl ?_
      refine EL_s (x_store rfl rfl rfl (tab_size1 rfl) fo (h.vFree hv)) rfl ?_
      refine EL_nil ?_
      refine thenQ_normal ?_
      have h1 := h.setOp (o := 14) hv
      refine EC_seq ?_
      refine EC_region ?_
      refine EL_v x_move rfl ?_
      refine EL_v x_move rfl ?_
      refine EL_c (x_call Try.func64 rfl rfl rfl rfl) rfl (setArgs1_ret (j := x) h1 hv (by rw [size_setCell]; exact hB)) ?_
      rintro _ w2 ⟨L', hL1, hL2, hL3, hL4, h2, hb2⟩
      refine EL_nil ?_
      refine thenQ_normal ?_
      refine EC_seq ?_
      refine EC_region ?_
      refine EL_v x_assign rfl ?_
      refine EL_nil ?_
      refine thenQ_normal ?_
      refine EC_ret ?_
      refine post_tmp rfl rfl rfl ⟨true, rfl, (below_setCell (h.tags.vbB v hv)).trans hb2, .inr ⟨rfl, hop, x, L', hxm, hxv, ?_, hL1, hL2, hL3, hL4, h2⟩⟩
      intro a ha
      obtain ⟨k', hk', rfl⟩ := List.getElem_of_mem ha
      have h3 := hdone k' hk'
      rw [List.getD_eq_getElem?_getD, List.getElem?_eq_getElem hk'] at h3
      rcases h3 with h3 | h3
      · exact .inl h3
      · right
        have : x = (g.args v)[k'] := by simpa using h3
        exact this.symm
end Go.Proofs.Yteepnepebilckaa
