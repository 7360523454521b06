/- How a graph runs; steps keep it. -/
import Derived.Test.YteepnepebilckaaP2
namespace Go.Proofs.Yteepnepebilckaa
open Go Go.Eng

abbrev St := Nat → Int
def upd (now : St) (i : Nat) (v : Int) : St := fun j => if j = i then v else now j
def phisN (g : Gph) (b edge : Nat) (old : St) (n : Nat) : St := fun i => if i < n ∧ g.blk i = b ∧ g.op i = 13 then old ((g.args i).getD edge 0) else old i
def valsN (g : Gph) (E : Int → Int → List Int → Int) (b : Nat) : Nat → St → St
  | 0, now => now
  | n + 1, now => if g.blk n = b ∧ g.op n ≠ 13 then upd (valsN g E b n now) n (E (g.op n) (g.aux n) ((g.args n).map (valsN g E b n now))) else valsN g E b n now
def exec (g : Gph) (E : Int → Int → List Int → Int) (b edge : Nat) (old : St) : St := valsN g E b g.nv (phisN g b edge old g.nv)
def alongG (g : Gph) (b k : Nat) : Nat := (g.preds ((g.succs b).getD k 0)).idxOf b + ((g.succs b).take k).count ((g.succs b).getD k 0)
def wayG (g : Gph) (b : Nat) (c : Int) : Nat := if g.kind b = 1 ∧ c = 0 then 1 else 0
def runG (g : Gph) (E : Int → Int → List Int → Int) : Nat → Nat → Nat → St → List Nat × Int
  | 0, _, _, _ => ([], 0)
  | n + 1, b, edge, old =>
    if g.kind b = 2 then ([b], exec g E b edge old ((g.ctrl b).getD 0 0)) else
    (b :: (runG g E n ((g.succs b).getD (wayG g b (exec g E b edge old ((g.ctrl b).getD 0 0))) 0) (alongG g b (wayG g b (exec g E b edge old ((g.ctrl b).getD 0 0)))) (exec g E b edge old)).1,
      (runG g E n ((g.succs b).getD (wayG g b (exec g E b edge old ((g.ctrl b).getD 0 0))) 0) (alongG g b (wayG g b (exec g E b edge old ((g.ctrl b).getD 0 0)))) (exec g E b edge old)).2)

structure StepR (g : Gph) (E : Int → Int → List Int → Int) (b edge : Nat) (old now : St) : Prop where
  out : ∀ i, (i < g.nv → g.blk i ≠ b) → now i = old i
  phi : ∀ i, i < g.nv → g.blk i = b → g.op i = 13 → now i = old ((g.args i).getD edge 0)
  val : ∀ i, i < g.nv → g.blk i = b → g.op i ≠ 13 → now i = E (g.op i) (g.aux i) ((g.args i).map now)

section
variable {T : Nat → Bool} {g : Gph} {E : Int → Int → List Int → Int} {b edge : Nat} {old now : St}

theorem valsN_ge : ∀ n m i, n ≤ i → valsN g E b n m i = m i
  | 0, _, _, _ => rfl
  | n + 1, m, i, h => by
    show (if g.blk n = b ∧ g.op n ≠ 13 then upd (valsN g E b n m) n _ else valsN g E b n m) i = _
    have hne : ¬ i = n := by omega
    split
    · show (if i = n then _ else valsN g E b n m i) = _
      rw [if_neg hne]; exact valsN_ge n m i (by omega)
    · exact valsN_ge n m i (by omega)
theorem valsN_lt {m : St} {i : Nat} : ∀ n, i < n → valsN g E b n m i = valsN g E b (i + 1) m i
  | 0, h => absurd h (Nat.not_lt_zero _)
  | n + 1, h => by
    by_cases e : i = n
    · subst e; rfl
    · have ih := valsN_lt (m := m) n (show i < n by omega)
      show (if g.blk n = b ∧ g.op n ≠ 13 then upd (valsN g E b n m) n _ else valsN g E b n m) i = _
      split
      · show (if i = n then _ else valsN g E b n m i) = _
        rw [if_neg e]; exact ih
      · exact ih
theorem valsN_not {m : St} {i : Nat} (h : g.blk i ≠ b ∨ g.op i = 13) : ∀ n, valsN g E b n m i = m i
  | 0 => rfl
  | n + 1 => by
    have ih := valsN_not (m := m) h n
    show (if g.blk n = b ∧ g.op n ≠ 13 then upd (valsN g E b n m) n _ else valsN g E b n m) i = _
    split
    · rename_i hc
      show (if i = n then _ else valsN g E b n m i) = _
      rw [if_neg (fun e => by subst e; exact h.elim (fun h => h hc.1) hc.2)]; exact ih
    · exact ih

theorem exec_stepR (h : GoodG T g) : StepR g E b edge old (exec g E b edge old) := by
  refine ⟨fun i hi => ?_, fun i hi hb ho => ?_, fun i hi hb ho => ?_⟩
  · unfold exec
    by_cases hin : i < g.nv
    · rw [valsN_not (.inl (hi hin))]
      show (if i < g.nv ∧ g.blk i = b ∧ g.op i = 13 then _ else old i) = _
      rw [if_neg fun h => hi hin h.2.1]
    · rw [valsN_ge _ _ _ (by omega)]
      show (if i < g.nv ∧ g.blk i = b ∧ g.op i = 13 then _ else old i) = _
      rw [if_neg fun h => hin h.1]
  · unfold exec
    rw [valsN_not (.inr ho)]
    show (if i < g.nv ∧ g.blk i = b ∧ g.op i = 13 then _ else old i) = _
    rw [if_pos ⟨hi, hb, ho⟩]
  · unfold exec
    rw [valsN_lt _ hi]
    show (if g.blk i = b ∧ g.op i ≠ 13 then upd _ i _ else _) i = _
    rw [if_pos ⟨hb, ho⟩]
    show (if i = i then E (g.op i) (g.aux i) ((g.args i).map (valsN g E b i (phisN g b edge old g.nv))) else _) = _
    rw [if_pos rfl]
    congr 1
    refine List.map_congr_left fun a ha => ?_
    obtain ⟨k, hk, rfl⟩ := h.args_mem hi ha
    obtain ⟨h1, h2⟩ := h.args i hi k hk
    unfold KnownG at h2
    rw [if_neg ho] at h2
    rcases h2 with ⟨h3, _⟩ | ⟨_, h4⟩
    · rw [valsN_not (.inl (by rw [← hb]; exact h3)), valsN_not (.inl (by rw [← hb]; exact h3))]
    · rw [valsN_lt _ h4, valsN_lt _ h1]

theorem StepR.uniq (h : GoodG T g) {n1 n2 : St} (h1 : StepR g E b edge old n1) (h2 : StepR g E b edge old n2) : n1 = n2 := by
  funext i
  induction i using Nat.strongRecOn with
  | ind i ih =>
    by_cases hi : i < g.nv
    · by_cases hb : g.blk i = b
      · by_cases ho : g.op i = 13
        · rw [h1.phi i hi hb ho, h2.phi i hi hb ho]
        · rw [h1.val i hi hb ho, h2.val i hi hb ho]
          congr 1
          refine List.map_congr_left fun a ha => ?_
          obtain ⟨k, hk, rfl⟩ := h.args_mem hi ha
          obtain ⟨h3, h4⟩ := h.args i hi k hk
          unfold KnownG at h4
          rw [if_neg ho] at h4
          rcases h4 with ⟨h5, _⟩ | ⟨_, h6⟩
          · rw [h1.out _ fun _ => by rw [← hb]; exact h5, h2.out _ fun _ => by rw [← hb]; exact h5]
          · exact ih _ h6
      · rw [h1.out i fun _ => hb, h2.out i fun _ => hb]
    · rw [h1.out i fun h => absurd h hi, h2.out i fun h => absurd h hi]

theorem StepR.exec (h : GoodG T g) (h1 : StepR g E b edge old now) : exec g E b edge old = now := StepR.uniq h (exec_stepR h) h1

theorem idxOf_not {p : Nat} : ∀ {l r : List Nat}, p ∉ l → (l ++ r).idxOf p = l.length + r.idxOf p
  | [], _, _ => by simp
  | a :: l, r, h => by
    have h1 : a ≠ p := fun e => h (e ▸ .head _)
    have h2 := idxOf_not (l := l) (r := r) fun h3 => h (.tail _ h3)
    rw [List.cons_append, List.idxOf_cons]
    have h3 : (a == p) = false := by simpa using h1
    rw [h3, h2, List.length_cons]
    simp only [cond_false]
    omega
theorem range_split {p n : Nat} (h : p < n) : ∃ l, List.range n = List.range p ++ p :: l := by
  refine ⟨(List.range (n - p - 1)).map (p + 1 + ·), ?_⟩
  have h1 : n = (p + 1) + (n - p - 1) := by omega
  conv => lhs; rw [h1, List.range_add]
  rw [List.range_succ, List.append_assoc]
  rfl

/-- A way leads to its place among the ways to a block. -/
theorem along_ok (h : Frm g) {p k : Nat} (hp : p < g.nb) (hk : k < (g.succs p).length) :
    alongG g p k < (g.preds ((g.succs p).getD k 0)).length ∧ (g.preds ((g.succs p).getD k 0)).getD (alongG g p k) 0 = p := by
  unfold alongG
  obtain ⟨to, hto⟩ : ∃ to, to = (g.succs p).getD k 0 := ⟨_, rfl⟩
  rw [← hto]
  have hmem : to ∈ g.succs p := by rw [hto]; exact getD_mem hk
  have hton := (h.succs p hp to hmem).2
  rw [h.preds to hton]
  obtain ⟨l, hl⟩ := range_split hp
  have hsplit : predsL g.succs g.nb to = predsL g.succs p to ++ ((((g.succs p).filter fun s => s == to).map fun _ => p) ++ l.flatMap fun i => ((g.succs i).filter fun s => s == to).map fun _ => i) := by
    unfold predsL
    rw [hl, List.flatMap_append, List.flatMap_cons]
  have hrep : (((g.succs p).filter fun s => s == to).map fun _ => p) = List.replicate ((g.succs p).count to) p := by
    rw [List.map_const', ← List.countP_eq_length_filter]
    rfl
  have hcnt : ((g.succs p).take k).count to < (g.succs p).count to := by
    have e : g.succs p = (g.succs p).take k ++ (g.succs p).drop k := (List.take_append_drop k _).symm
    have h2 : (g.succs p).count to = ((g.succs p).take k).count to + ((g.succs p).drop k).count to := by
      conv => lhs; rw [e]
      exact List.count_append
    have h3 : 0 < ((g.succs p).drop k).count to := by
      rw [List.count_pos_iff, hto, List.getD_eq_getElem?_getD, List.getElem?_eq_getElem hk, List.drop_eq_getElem_cons hk]
      exact .head _
    omega
  have hnot : p ∉ predsL g.succs p to := fun h => by
    have := (mem_predsL.1 h).1
    omega
  rw [hsplit, hrep]
  obtain ⟨c, hc⟩ : ∃ c, (g.succs p).count to = c + 1 := ⟨(g.succs p).count to - 1, by omega⟩
  have hidx : (predsL g.succs p to ++ (List.replicate ((g.succs p).count to) p ++ l.flatMap fun i => ((g.succs i).filter fun s => s == to).map fun _ => i)).idxOf p = (predsL g.succs p to).length := by
    rw [idxOf_not hnot, hc, List.replicate_succ, List.cons_append, List.idxOf_cons_self]
    rfl
  rw [hidx]
  refine ⟨by rw [List.length_append, List.length_append, List.length_replicate]; omega, ?_⟩
  rw [List.getD_eq_getElem?_getD, List.getElem?_append_right (by omega), List.getElem?_append_left (by rw [List.length_replicate]; omega), List.getElem?_replicate, if_pos (by omega)]
  rfl

/-- How one comes to a block. -/
def Came (g : Gph) (K : St → Nat → Prop) (b edge : Nat) (old : St) : Prop :=
  b = 0 ∨ ∃ p, p < g.nb ∧ edge < (g.preds b).length ∧ (g.preds b).getD edge 0 = p ∧ K old p

theorem wayG_lt (h : Frm g) (hb : b < g.nb) (hk : g.kind b ≠ 2) (c : Int) : wayG g b c < (g.succs b).length := by
  obtain ⟨h1, h2, h3⟩ := h.kind b hb
  unfold ways at h3
  unfold wayG
  split
  · rename_i hc
    rw [if_neg (by omega), if_pos hc.1] at h3
    omega
  · split at h3
    · omega
    · split at h3
      · omega
      · omega

/-- Two graphs that take the same steps run alike. -/
theorem run_eq {T' : Nat → Bool} {g' : Gph} {K : St → Nat → Prop} (h : GoodG T g) (h' : GoodG T' g') (e1 : ∀ b, b < g.nb → g'.kind b = g.kind b) (e2 : ∀ b, b < g.nb → g'.succs b = g.succs b) (e3 : ∀ b, b < g.nb → g'.preds b = g.preds b)
    (H : ∀ b edge old now, b < g.nb → Came g K b edge old → StepR g E b edge old now → K now b ∧ StepR g' E b edge old now ∧ (g.kind b ≠ 0 → now ((g.ctrl b).getD 0 0) = now ((g'.ctrl b).getD 0 0))) :
    ∀ n b edge old, b < g.nb → Came g K b edge old → runG g E n b edge old = runG g' E n b edge old
  | 0, _, _, _, _, _ => rfl
  | n + 1, b, edge, old, hb, hc => by
    obtain ⟨h1, h2, h3⟩ := H b edge old _ hb hc (exec_stepR h)
    have h4 := h2.exec h'
    unfold runG
    rw [h4, e1 b hb]
    by_cases hk : g.kind b = 2
    · rw [if_pos hk, if_pos hk, h3 (by omega)]
    · rw [if_neg hk, if_neg hk]
      have hw : wayG g' b (Go.Proofs.Yteepnepebilckaa.exec g E b edge old ((g'.ctrl b).getD 0 0)) = wayG g b (Go.Proofs.Yteepnepebilckaa.exec g E b edge old ((g.ctrl b).getD 0 0)) := by
        unfold wayG
        rw [e1 b hb]
        by_cases hk1 : g.kind b = 1
        · rw [h3 (by omega)]
        · rw [if_neg (fun h => hk1 h.1), if_neg (fun h => hk1 h.1)]
      rw [hw]
      have hlt := wayG_lt h.toFrm hb hk (Go.Proofs.Yteepnepebilckaa.exec g E b edge old ((g.ctrl b).getD 0 0))
      have hto := (h.succs b hb _ (getD_mem hlt)).2
      have ha : alongG g' b (wayG g b (Go.Proofs.Yteepnepebilckaa.exec g E b edge old ((g.ctrl b).getD 0 0))) = alongG g b (wayG g b (Go.Proofs.Yteepnepebilckaa.exec g E b edge old ((g.ctrl b).getD 0 0))) := by
        unfold alongG
        rw [e2 b hb, e3 _ hto]
      rw [ha, e2 b hb]
      obtain ⟨a1, a2⟩ := along_ok h.toFrm hb hlt
      have ih := run_eq h h' e1 e2 e3 H n ((g.succs b).getD (wayG g b (Go.Proofs.Yteepnepebilckaa.exec g E b edge old ((g.ctrl b).getD 0 0))) 0) (alongG g b (wayG g b (Go.Proofs.Yteepnepebilckaa.exec g E b edge old ((g.ctrl b).getD 0 0)))) (Go.Proofs.Yteepnepebilckaa.exec g E b edge old)
        hto (.inr ⟨b, hb, a1, a2, h1⟩)
      rw [ih]

/-- A copy and its source, and a phi that is as good as a copy. -/
def Pair (g : Gph) (u x : Nat) : Prop := (g.op u = 14 ∧ g.args u = [x]) ∨ (g.op u = 13 ∧ x ∈ g.args u ∧ x ≠ u ∧ ∀ a ∈ g.args u, a = u ∨ a = x)
/-- Copies equal their sources, where they are known. -/
def KC (g : Gph) (now : St) (p : Nat) : Prop := ∀ u x, u < g.nv → Pair g u x → Dom g.succs (g.blk u) p → now u = now x

theorem GoodG.came (h : GoodG T g) {K : St → Nat → Prop} {i : Nat} (hi : i < g.nv) (hb : g.blk i = b) (ho : g.op i = 13) (hc : Came g K b edge old) :
    edge < (g.args i).length ∧ ∃ p, p < g.nb ∧ (g.preds b).getD edge 0 = p ∧ K old p ∧ Dom g.succs (g.blk ((g.args i).getD edge 0)) p := by
  have hlen : (g.args i).length = (g.preds (g.blk i)).length := by
    have := (h.ops i hi).2.2
    rw [ho] at this
    have h2 : manyI 13 ((g.preds (g.blk i)).length : Nat) = ((g.preds (g.blk i)).length : Nat) := rfl
    omega
  have hbn := h.blk i hi
  rcases hc with e | ⟨p, h1, h2, h3, h4⟩
  · exfalso
    have h1 := (h.aux i hi).2.2 ho
    have h3 := getD_mem (l := g.preds (g.blk i)) (k := 0) (by omega)
    rw [h.preds _ hbn, mem_predsL] at h3
    have := h.succs _ h3.1 _ h3.2
    omega
  · subst hb
    refine ⟨by omega, p, h1, h3, h4, ?_⟩
    obtain ⟨_, h5⟩ := h.args i hi edge (by omega)
    unfold KnownG at h5
    rw [if_pos ho, h3] at h5
    exact h5

theorem KC_step (h : GoodG T g) (hE : ∀ a l, E 14 a l = l.getD 0 0) (hb : b < g.nb) (hc : Came g (KC g) b edge old) (hs : StepR g E b edge old now) : KC g now b := by
  intro u x hu hp hD
  have hux : Dom g.succs (g.blk x) (g.blk u) := by
    rcases hp with ⟨h1, h2⟩ | ⟨h1, h2, h3, h4⟩
    · exact h.copyD hu h1 h2
    · exact (h.phiD hu h1 h2 h4).2
  by_cases hub : g.blk u = b
  · rcases hp with ⟨h1, h2⟩ | ⟨h1, h2, h3, h4⟩
    · rw [hs.val u hu hub (by rw [h1]; decide), h1, hE, h2]
      rfl
    · obtain ⟨h5, p, h6, h7, h8, h9⟩ := h.came hu hub h1 hc
      have hxb := (h.phiD hu h1 h2 h4).1
      have hxo : now x = old x := hs.out x fun _ => by rw [← hub]; exact hxb
      rw [hs.phi u hu hub h1, hxo]
      rcases h4 _ (getD_mem h5) with e | e
      · rw [e] at h9 ⊢
        exact h8 u x hu (.inr ⟨h1, h2, h3, h4⟩) h9
      · rw [e]
  · rcases hc with e | ⟨p, h1, h2, h3, h4⟩
    · subst e
      exact absurd (RchS.entry hub) hD
    · have hbs : b ∈ g.succs p := by
        have := getD_mem h2
        rw [h3, h.preds b hb, mem_predsL] at this
        exact this.2
      have hDp : Dom g.succs (g.blk u) p := hD.pred hbs fun e => hub e.symm
      have hxn : x < g.nv := by
        rcases hp with ⟨h1, h2⟩ | ⟨h1, h2, h3, h4⟩
        · exact (h.copy2 hu h1 h2).1
        · exact h.args_lt hu h2
      have hxb : g.blk x ≠ b := fun e => by
        rw [e] at hux
        exact hub (h.anti (h.blk u hu) hD hux)
      rw [hs.out u fun _ => hub, hs.out x fun _ => hxb]
      exact h4 u x hu hp hDp

theorem run_red (h : GoodG T g) (hE : ∀ a l, E 14 a l = l.getD 0 0) {i k c d : Nat} (hi : i < g.nv) (hk : k < (g.args i).length) (hc : (g.args i).getD k 0 = c) (ho : g.op c = 14) (hd : g.args c = [d]) :
    ∀ n b edge old, b < g.nb → Came g (KC g) b edge old → runG g E n b edge old = runG (g.setArg i k d) E n b edge old := by
  refine run_eq h (h.red hi hk hc ho hd) (fun _ _ => rfl) (fun _ _ => rfl) (fun _ _ => rfl) fun b edge old now hb hcm hs => ?_
  have hK := KC_step h hE hb hcm hs
  have hcn : c < g.nv := by rw [← hc]; exact (h.args i hi k hk).1
  have hkn := (h.args i hi k hk).2
  rw [hc] at hkn
  refine ⟨hK, ⟨hs.out, fun x hx hxb hxo => ?_, fun x hx hxb hxo => ?_⟩, fun _ => rfl⟩
  · rw [hs.phi x hx hxb hxo, setArg_args]
    by_cases e : x = i
    · subst e
      rw [if_pos rfl]
      by_cases e2 : k = edge
      · subst e2
        rw [hc, List.getD_eq_getElem?_getD, List.getElem?_set_self hk]
        obtain ⟨_, p, _, _, h3, h4⟩ := h.came hx hxb hxo hcm
        rw [hc] at h4
        exact h3 c d hcn (.inl ⟨ho, hd⟩) h4
      · rw [List.getD_eq_getElem?_getD (l := (g.args x).set k d), List.getElem?_set_ne e2, ← List.getD_eq_getElem?_getD]
    · rw [if_neg e]
  · rw [hs.val x hx hxb hxo, setArg_args]
    show E (g.op x) (g.aux x) _ = E (g.op x) (g.aux x) _
    by_cases e : x = i
    · subst e
      rw [if_pos rfl]
      congr 1
      have hcd : now c = now d := by
        refine hK c d hcn (.inl ⟨ho, hd⟩) ?_
        unfold KnownG at hkn
        rw [if_neg (show ¬ g.op x = 13 from hxo), show g.blk x = b from hxb] at hkn
        rcases hkn with h1 | h1
        · exact h1.2
        · rw [h1.1]; exact Dom.rfl' _
      apply List.ext_getElem (by simp)
      intro y h1 h2
      rw [List.getElem_map, List.getElem_map, List.getElem_set]
      split
      · rename_i e2; subst e2
        rw [← hcd, ← hc, List.getD_eq_getElem?_getD, List.getElem?_eq_getElem hk]; rfl
      · rfl
    · rw [if_neg e]

theorem run_phi (h : GoodG T g) (hE : ∀ a l, E 14 a l = l.getD 0 0) {i x : Nat} (hi : i < g.nv) (ho : g.op i = 13) (hx : x ∈ g.args i) (hne : x ≠ i) (hall : ∀ a ∈ g.args i, a = i ∨ a = x) :
    ∀ n b edge old, b < g.nb → Came g (KC g) b edge old → runG g E n b edge old = runG ((g.setOp i 14).setArgs i [x]) E n b edge old := by
  refine run_eq h (h.phi hi ho hx hne hall) (fun _ _ => rfl) (fun _ _ => rfl) (fun _ _ => rfl) fun b edge old now hb hcm hs => ?_
  have hK := KC_step h hE hb hcm hs
  have hop : ∀ y, ((g.setOp i 14).setArgs i [x]).op y = if y = i then 14 else g.op y := fun y => rfl
  have har : ∀ y, ((g.setOp i 14).setArgs i [x]).args y = if y = i then [x] else g.args y := fun y => rfl
  refine ⟨hK, ⟨hs.out, fun y hy hyb hyo => ?_, fun y hy hyb hyo => ?_⟩, fun _ => rfl⟩
  · rw [hop] at hyo
    rw [har]
    by_cases e : y = i
    · rw [if_pos e] at hyo; exact absurd hyo (by decide)
    · rw [if_neg e] at hyo ⊢
      exact hs.phi y hy hyb hyo
  · rw [hop] at hyo ⊢
    rw [har]
    by_cases e : y = i
    · subst e
      rw [if_pos rfl, if_pos rfl, hE]
      refine hK y x hy (.inr ⟨ho, hx, hne, hall⟩) ?_
      rw [show g.blk y = b from hyb]; exact Dom.rfl' _
    · rw [if_neg e] at hyo ⊢
      rw [if_neg e]
      exact hs.val y hy hyb hyo

theorem run_steps (h : GoodG T g) (hE : ∀ a l, E 14 a l = l.getD 0 0) {g' : Gph} (s : Steps g g') : GoodG T g' ∧ ∀ n old, runG g E n 0 0 old = runG g' E n 0 0 old := by
  induction s with
  | refl => exact ⟨h, fun _ _ => rfl⟩
  | @step g1 g2 _ s ih =>
    obtain ⟨h1, h2⟩ := ih
    refine ⟨h1.step s, fun n old => (h2 n old).trans ?_⟩
    cases s with
    | red a1 a2 a3 a4 a5 => exact run_red h1 hE a1 a2 a3 a4 a5 n 0 0 old h1.one (.inl rfl)
    | phi a1 a2 a3 a4 a5 => exact run_phi h1 hE a1 a2 a3 a4 a5 n 0 0 old h1.one (.inl rfl)

theorem run_ctrls (h : GoodG T g) (hE : ∀ a l, E 14 a l = l.getD 0 0) {c2 : Nat → List Nat} (hc : ∀ b, b < g.nb → c2 b = (g.ctrl b).map (fixC g)) (n : Nat) (old : St) :
    runG g E n 0 0 old = runG { g with ctrl := c2 } E n 0 0 old := by
  refine run_eq (K := KC g) h (h.ctrls hc) (fun _ _ => rfl) (fun _ _ => rfl) (fun _ _ => rfl) (fun b edge old now hb hcm hs => ?_) n 0 0 old h.one (.inl rfl)
  have hK := KC_step h hE hb hcm hs
  refine ⟨hK, ⟨hs.out, hs.phi, hs.val⟩, fun hk => ?_⟩
  show now ((g.ctrl b).getD 0 0) = now ((c2 b).getD 0 0)
  rw [hc b hb]
  rcases h.ctrl b hb with ⟨h1, h2⟩ | ⟨c, h1, h2, h3, h4, h5⟩
  · exact absurd h1 hk
  · rw [h1]
    show now c = now (fixC g c)
    unfold fixC
    split
    · rename_i ho
      obtain ⟨d, hd⟩ := h.copy1 h3 ho
      rw [hd]
      exact hK c d h3 (.inl ⟨ho, hd⟩) h4
    · rfl

/-- Graphs that say the same run alike. -/
structure Like (g g' : Gph) : Prop where
  nv : g'.nv = g.nv
  nb : g'.nb = g.nb
  val : ∀ i, i < g.nv → g'.op i = g.op i ∧ g'.aux i = g.aux i ∧ g'.blk i = g.blk i ∧ g'.args i = g.args i
  blk : ∀ b, b < g.nb → g'.kind b = g.kind b ∧ g'.succs b = g.succs b ∧ g'.preds b = g.preds b ∧ g'.ctrl b = g.ctrl b

theorem run_like {T' : Nat → Bool} {g' : Gph} (h : GoodG T g) (h' : GoodG T' g') (e : Like g g') (n : Nat) (old : St) : runG g E n 0 0 old = runG g' E n 0 0 old := by
  refine run_eq (K := fun _ _ => True) h h' (fun b hb => (e.blk b hb).1) (fun b hb => (e.blk b hb).2.1) (fun b hb => (e.blk b hb).2.2.1) (fun b edge old now hb _ hs => ?_) n 0 0 old h.one (.inl rfl)
  refine ⟨trivial, ⟨fun i hi => hs.out i fun hin => ?_, fun i hi hbi ho => ?_, fun i hi hbi ho => ?_⟩, fun _ => ?_⟩
  · rw [← (e.val i hin).2.2.1]; exact hi (by rw [e.nv]; exact hin)
  · rw [e.nv] at hi
    obtain ⟨e1, e2, e3, e4⟩ := e.val i hi
    rw [e4]
    exact hs.phi i hi (by rw [← e3]; exact hbi) (by rw [← e1]; exact ho)
  · rw [e.nv] at hi
    obtain ⟨e1, e2, e3, e4⟩ := e.val i hi
    rw [e4, e1, e2]
    exact hs.val i hi (by rw [← e3]; exact hbi) (by rw [← e1]; exact ho)
  · rw [(e.blk b hb).2.2.2]
end
end Go.Proofs.Yteepnepebilckaa
