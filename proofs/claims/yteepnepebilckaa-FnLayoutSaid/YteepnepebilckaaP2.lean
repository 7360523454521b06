/- Steps keep a graph good. -/
import Derived.Test.YteepnepebilckaaP1
namespace Go.Proofs.Yteepnepebilckaa
open Go Go.Eng

section
variable {T : Nat → Bool} {g : Gph}

theorem GoodG.red (h : GoodG T g) {i k c d : Nat} (hi : i < g.nv) (hk : k < (g.args i).length) (hc : (g.args i).getD k 0 = c) (ho : g.op c = 14) (hd : g.args c = [d]) : GoodG T (g.setArg i k d) := by
  have hcn : c < g.nv := by rw [← hc]; exact (h.args i hi k hk).1
  obtain ⟨hdn, hdk⟩ := h.copy2 hcn ho hd
  have hdD := h.copyD hcn ho hd
  have hT : T c = T d := by
    rw [h.tr c hcn, if_neg (by rw [ho]; decide), if_pos ho, hd]; rfl
  have hlen : ∀ x, ((g.setArg i k d).args x).length = (g.args x).length := fun x => by
    rw [setArg_args]
    split
    · rename_i e; subst e; simp
    · rfl
  have hget : ∀ x y, y < (g.args x).length → ((g.setArg i k d).args x).getD y 0 = if x = i ∧ y = k then d else (g.args x).getD y 0 := fun x y hy => by
    rw [setArg_args]
    by_cases e : x = i
    · subst e
      rw [if_pos rfl]
      by_cases e2 : y = k
      · subst e2
        rw [if_pos ⟨rfl, rfl⟩, List.getD_eq_getElem?_getD, List.getElem?_set_self hy]; rfl
      · rw [if_neg (fun h => e2 h.2), List.getD_eq_getElem?_getD, List.getElem?_set_ne (fun h => e2 h.symm), ← List.getD_eq_getElem?_getD]
    · rw [if_neg e, if_neg (fun h => e h.1)]
  refine { toGoodA := { toFrm := ⟨h.one, h.nb, h.nv, h.blk, h.kind, h.likely, h.succs, h.rch, h.preds, h.bvals⟩, ops := fun x hx => ?_, aux := fun x hx => ?_, args := fun x hx y hy => ?_ }, tru := fun x hx hxo y hy => ?_, tr := fun x hx => ?_, ctrl := h.ctrl }
  · rw [hlen]; exact h.ops x hx
  · rw [hlen]; exact h.aux x hx
  · rw [hlen] at hy
    rw [hget x y hy]
    obtain ⟨h1, h2⟩ := h.args x hx y hy
    by_cases e : x = i ∧ y = k
    · rw [if_pos e]
      obtain ⟨rfl, rfl⟩ := e
      rw [hc] at h2
      refine ⟨hdn, ?_⟩
      unfold KnownG at h2 ⊢
      show if g.op x = 13 then Dom g.succs (g.blk d) ((g.preds (g.blk x)).getD y 0) else (g.blk d ≠ g.blk x ∧ Dom g.succs (g.blk d) (g.blk x)) ∨ (g.blk d = g.blk x ∧ d < x)
      split
      · rename_i hp
        rw [if_pos hp] at h2
        exact hdD.trans h2
      · rename_i hp
        rw [if_neg hp] at h2
        rcases hdk with ⟨h3, h4⟩ | ⟨h3, h4⟩
        · left
          rcases h2 with ⟨h5, h6⟩ | ⟨h5, h6⟩
          · refine ⟨fun e => ?_, h4.trans h6⟩
            rw [e] at h3 h4
            exact h3 (h.anti (h.blk x hx) h4 h6)
          · rw [← h5]; exact ⟨h3, h4⟩
        · rcases h2 with ⟨h5, h6⟩ | ⟨h5, h6⟩
          · left; rw [h3]; exact ⟨h5, h6⟩
          · right; exact ⟨h3.trans h5, by omega⟩
    · rw [if_neg e]
      exact ⟨h1, h2⟩
  · rw [hlen] at hy
    rw [hget x y hy]
    have h1 := h.tru x hx hxo y hy
    by_cases e : x = i ∧ y = k
    · rw [if_pos e]
      obtain ⟨rfl, rfl⟩ := e
      rw [← hT, ← hc]; exact h1
    · rw [if_neg e]; exact h1
  · have h1 := h.tr x hx
    rw [h1]
    show _ = if isT (g.op x) then true else if g.op x = 14 then T (((g.setArg i k d).args x).getD 0 0) else false
    by_cases e1 : isT (g.op x)
    · rw [if_pos e1, if_pos e1]
    · rw [if_neg e1, if_neg e1]
      by_cases e2 : g.op x = 14
      · rw [if_pos e2, if_pos e2]
        obtain ⟨z, hz⟩ := h.copy1 hx e2
        rw [hget x 0 (by rw [hz]; exact Nat.one_pos)]
        by_cases e : x = i ∧ 0 = k
        · rw [if_pos e]
          obtain ⟨rfl, rfl⟩ := e
          rw [hc, hT]
        · rw [if_neg e]
      · rw [if_neg e2, if_neg e2]

theorem GoodG.phi (h : GoodG T g) {i x : Nat} (hi : i < g.nv) (ho : g.op i = 13) (hx : x ∈ g.args i) (hne : x ≠ i) (hall : ∀ a ∈ g.args i, a = i ∨ a = x) : GoodG T ((g.setOp i 14).setArgs i [x]) := by
  have hxn := h.args_lt hi hx
  obtain ⟨hxb, hxD⟩ := h.phiD hi ho hx hall
  have hTx : T x = false := by
    obtain ⟨k, hk, he⟩ := h.args_mem hi hx
    have := h.tru i hi (by rw [ho]; decide) k hk
    rw [he, ho] at this
    rw [this]; rfl
  have hTi : T i = false := by
    rw [h.tr i hi, ho]; rfl
  have hop : ∀ y, ((g.setOp i 14).setArgs i [x]).op y = if y = i then 14 else g.op y := fun y => rfl
  have har : ∀ y, ((g.setOp i 14).setArgs i [x]).args y = if y = i then [x] else g.args y := fun y => rfl
  refine { toGoodA := { toFrm := ⟨h.one, h.nb, h.nv, h.blk, h.kind, h.likely, h.succs, h.rch, h.preds, h.bvals⟩, ops := fun y hy => ?_, aux := fun y hy => ?_, args := fun y hy k hk => ?_ }, tru := fun y hy hyo k hk => ?_, tr := fun y hy => ?_, ctrl := h.ctrl }
  · rw [hop, har]
    by_cases e : y = i
    · rw [if_pos e, if_pos e]
      exact ⟨by decide, by decide, rfl⟩
    · rw [if_neg e, if_neg e]; exact h.ops y hy
  · rw [hop, har]
    by_cases e : y = i
    · rw [if_pos e, if_pos e]
      subst e
      exact ⟨fun h => absurd h (by decide), fun _ => (h.aux y hy).2.1 (by rw [ho]; decide), fun h => absurd h (by decide)⟩
    · rw [if_neg e, if_neg e]; exact h.aux y hy
  · rw [har] at hk ⊢
    unfold KnownG
    rw [hop]
    by_cases e : y = i
    · subst e
      rw [if_pos rfl] at hk ⊢
      rw [if_pos rfl, if_neg (by decide)]
      have hk0 : k = 0 := by simp at hk; exact hk
      subst hk0
      exact ⟨hxn, .inl ⟨hxb, hxD⟩⟩
    · rw [if_neg e] at hk ⊢
      rw [if_neg e]
      exact h.args y hy k hk
  · rw [har] at hk ⊢
    rw [hop] at hyo ⊢
    by_cases e : y = i
    · rw [if_pos e] at hyo; exact absurd rfl hyo
    · rw [if_neg e] at hk hyo ⊢
      rw [if_neg e]
      exact h.tru y hy hyo k hk
  · rw [har, hop]
    by_cases e : y = i
    · subst e
      rw [if_pos rfl, if_pos rfl, hTi, if_neg (by decide), if_pos rfl]
      exact hTx.symm
    · rw [if_neg e, if_neg e]; exact h.tr y hy

theorem GoodG.step {g g' : Gph} (h : GoodG T g) (s : Step g g') : GoodG T g' := by
  cases s with
  | red h1 h2 h3 h4 h5 => exact h.red h1 h2 h3 h4 h5
  | phi h1 h2 h3 h4 h5 => exact h.phi h1 h2 h3 h4 h5

/-- Controls that are copies give way to their sources. -/
theorem GoodG.ctrls (h : GoodG T g) {c2 : Nat → List Nat} (hc : ∀ b, b < g.nb → c2 b = (g.ctrl b).map (fixC g)) : GoodG T { g with ctrl := c2 } := by
  refine { toGoodA := { toFrm := ⟨h.one, h.nb, h.nv, h.blk, h.kind, h.likely, h.succs, h.rch, h.preds, h.bvals⟩, ops := h.ops, aux := h.aux, args := h.args }, tru := h.tru, tr := h.tr, ctrl := fun b hb => ?_ }
  show (g.kind b = 0 ∧ c2 b = []) ∨ ∃ c, c2 b = [c] ∧ _
  rw [hc b hb]
  rcases h.ctrl b hb with ⟨h1, h2⟩ | ⟨c, h1, h2, h3, h4, h5⟩
  · left; rw [h2]; exact ⟨h1, rfl⟩
  · right
    rw [h1]
    refine ⟨fixC g c, rfl, h2, ?_⟩
    unfold fixC
    split
    · rename_i ho
      obtain ⟨d, hd⟩ := h.copy1 h3 ho
      rw [hd]
      refine ⟨(h.copy2 h3 ho hd).1, (h.copyD h3 ho hd).trans h4, ?_⟩
      rw [← h5, h.tr c h3, if_neg (by rw [ho]; decide), if_pos ho, hd]
    · exact ⟨h3, h4, h5⟩

/-- Good, and of one shape. -/
structure GInv (T : Nat → Bool) (g0 g : Gph) : Prop where
  good : GoodG T g
  nb : g.nb = g0.nb
  blk : g.blk = g0.blk
  succs : g.succs = g0.succs

theorem ginv_pinv (T : Nat → Bool) (g0 : Gph) : PInv (rk g0) (GInv T g0) := by
  have hbv : ∀ g, GInv T g0 g → ∀ b, b < g.nb → ∀ v, v ∈ g.bvals b ↔ v < g.nv ∧ g.blk v = b := fun g h b hb v => by
    rw [h.good.bvals b hb, List.mem_filter, List.mem_range]
    simp
  refine ⟨fun g g' h s => ?_, fun g h => ?_, fun g h v hv => ?_, fun g h b hb => ⟨?_, fun v hv => ((hbv g h b hb v).1 hv).1⟩, fun g h v hv => ⟨g.blk v, h.good.blk v hv, (hbv g h _ (h.good.blk v hv) v).2 ⟨hv, rfl⟩⟩, fun g h => ?_⟩
  · have := s.same
    exact ⟨h.good.step s, this.2.1.trans h.nb, this.2.2.2.2.1.trans h.blk, this.2.2.2.2.2.2.2.1.trans h.succs⟩
  · have h1 := h.good.cinv
    have h2 : rk g = rk g0 := by
      funext i
      unfold rk
      rw [h.nb, h.blk, h.succs]
    rw [← h2]; exact h1
  · have := h.good.alen hv; omega
  · rw [h.good.bvals b hb]
    have h1 := List.length_filter_le (fun i => g.blk i == b) (List.range g.nv)
    have h2 := h.good.nv
    rw [List.length_range] at h1
    omega
  · have := h.good.nb; omega
end
end Go.Proofs.Yteepnepebilckaa
