/- Steps on a graph, plainly: a copy among the arguments gives way to its source; a phi of one source becomes a copy. -/
import Derived.Test.YteepnepebilckaaG1
namespace Go.Proofs.Yteepnepebilckaa
open Go Go.Eng

/-- The copies' sources stand higher. -/
structure CInv (g : Gph) (r : Nat → Nat) : Prop where
  closed : ∀ i, i < g.nv → ∀ a ∈ g.args i, a < g.nv
  copy : ∀ i, i < g.nv → g.op i = 14 → ∃ j, g.args i = [j] ∧ r j < r i

/-- From copy to source. -/
inductive Src (g : Gph) : Nat → Nat → Prop where
  | here {i : Nat} : g.op i ≠ 14 → Src g i i
  | step {i j s : Nat} : g.op i = 14 → g.args i = [j] → Src g j s → Src g i s

/-- Some steps from copy to source. -/
inductive Chain (g : Gph) : Nat → Nat → Prop where
  | refl (i : Nat) : Chain g i i
  | step {i j s : Nat} : g.op i = 14 → g.args i = [j] → Chain g j s → Chain g i s

inductive Step (g : Gph) : Gph → Prop where
  | red {i k c d : Nat} : i < g.nv → k < (g.args i).length → (g.args i).getD k 0 = c → g.op c = 14 → g.args c = [d] → Step g (g.setArg i k d)
  | phi {i x : Nat} : i < g.nv → g.op i = 13 → x ∈ g.args i → x ≠ i → (∀ a ∈ g.args i, a = i ∨ a = x) → Step g ((g.setOp i 14).setArgs i [x])

inductive Red (g : Gph) : Gph → Prop where
  | refl : Red g g
  | step {g' : Gph} {i k c d : Nat} : Red g g' → i < g'.nv → k < (g'.args i).length → (g'.args i).getD k 0 = c → g'.op c = 14 → g'.args c = [d] → Red g (g'.setArg i k d)

inductive Steps (g : Gph) : Gph → Prop where
  | refl : Steps g g
  | step {g' g'' : Gph} : Steps g g' → Step g' g'' → Steps g g''

theorem Steps.trans {a b c : Gph} (h : Steps a b) (k : Steps b c) : Steps a c := by
  induction k with
  | refl => exact h
  | step _ s ih => exact .step ih s
theorem Red.trans {a b c : Gph} (h : Red a b) (k : Red b c) : Red a c := by
  induction k with
  | refl => exact h
  | step _ h1 h2 h3 h4 h5 ih => exact .step ih h1 h2 h3 h4 h5
theorem Red.steps {a b : Gph} (h : Red a b) : Steps a b := by
  induction h with
  | refl => exact .refl
  | step _ h1 h2 h3 h4 h5 ih => exact .step ih (.red h1 h2 h3 h4 h5)

section
variable {g g' : Gph} {r : Nat → Nat}

theorem Chain.trans {a b c : Nat} (h : Chain g a b) (k : Chain g b c) : Chain g a c := by
  induction h with
  | refl => exact k
  | step h1 h2 _ ih => exact .step h1 h2 (ih k)
theorem Chain.src {a b s : Nat} (h : Chain g a b) (k : Src g b s) : Src g a s := by
  induction h with
  | refl => exact k
  | step h1 h2 _ ih => exact .step h1 h2 (ih k)
theorem CInv.next (hc : CInv g r) {i j : Nat} (hi : i < g.nv) (h1 : g.op i = 14) (h2 : g.args i = [j]) : j < g.nv ∧ r j < r i := by
  obtain ⟨j', h3, h4⟩ := hc.copy i hi h1
  rw [h2] at h3
  have : j = j' := by simpa using h3
  subst this
  exact ⟨hc.closed i hi j (by rw [h2]; simp), h4⟩
theorem Chain.rank (hc : CInv g r) {a b : Nat} (h : Chain g a b) (ha : a < g.nv) : b < g.nv ∧ r b ≤ r a ∧ (a ≠ b → r b < r a) := by
  induction h with
  | refl => exact ⟨ha, Nat.le_refl _, fun h => absurd rfl h⟩
  | step h1 h2 _ ih =>
    obtain ⟨hj, h4⟩ := hc.next ha h1 h2
    obtain ⟨k1, k2, _⟩ := ih hj
    exact ⟨k1, by omega, fun _ => by omega⟩
theorem Src.rank (hc : CInv g r) {a s : Nat} (h : Src g a s) (ha : a < g.nv) : s < g.nv ∧ r s ≤ r a ∧ g.op s ≠ 14 := by
  induction h with
  | here h => exact ⟨ha, Nat.le_refl _, h⟩
  | step h1 h2 _ ih =>
    obtain ⟨hj, h4⟩ := hc.next ha h1 h2
    obtain ⟨k1, k2, k3⟩ := ih hj
    exact ⟨k1, by omega, k3⟩

theorem setArg_args (i k d x : Nat) : (g.setArg i k d).args x = if x = i then (g.args i).set k d else g.args x := rfl
theorem setArg_op (i k d x : Nat) : (g.setArg i k d).op x = g.op x := rfl

/-- A source that stands lower than a value does not pass it. -/
theorem Src.setArg (hc : CInv g r) {a s u k d : Nat} (h : Src g a s) (ha : a < g.nv) (hu : r a < r u) : Src (g.setArg u k d) a s := by
  induction h with
  | here h => exact .here h
  | @step i j s h1 h2 _ ih =>
    obtain ⟨hj, h4⟩ := hc.next ha h1 h2
    have hne : i ≠ u := fun e => by rw [e] at hu; omega
    exact .step h1 (by rw [setArg_args, if_neg hne]; exact h2) (ih hj (by omega))

theorem CInv.red (hc : CInv g r) {i k c d : Nat} (hi : i < g.nv) (hk : k < (g.args i).length) (hcd : (g.args i).getD k 0 = c) (h1 : g.op c = 14) (h2 : g.args c = [d]) : CInv (g.setArg i k d) r := by
  have hcm : c ∈ g.args i := by rw [← hcd, List.getD_eq_getElem?_getD, List.getElem?_eq_getElem hk]; simp
  have hcl := hc.closed i hi c hcm
  obtain ⟨hd, h4⟩ := hc.next hcl h1 h2
  refine ⟨fun x hx a ha => ?_, fun x hx hox => ?_⟩
  · rw [setArg_args] at ha
    by_cases e : x = i
    · rw [if_pos e] at ha
      rcases List.mem_or_eq_of_mem_set ha with h | h
      · exact hc.closed i hi a h
      · rw [h]; exact hd
    · rw [if_neg e] at ha
      exact hc.closed x hx a ha
  · obtain ⟨j, h5, h6⟩ := hc.copy x hx hox
    rw [setArg_args]
    by_cases e : x = i
    · subst e
      rw [if_pos rfl, h5]
      rw [h5] at hk hcd
      have hk0 : k = 0 := by simp at hk; exact hk
      subst hk0
      have hjc : j = c := by simpa using hcd
      exact ⟨d, rfl, by rw [← hjc] at h4; omega⟩
    · rw [if_neg e]
      exact ⟨j, h5, h6⟩

theorem CInv.reds (hc : CInv g r) (h : Red g g') : CInv g' r := by
  induction h with
  | refl => exact hc
  | step _ h1 h2 h3 h4 h5 ih => exact ih.red h1 h2 h3 h4 h5

/-- What a chain of reductions keeps. -/
theorem Red.same (h : Red g g') : g'.nv = g.nv ∧ g'.nb = g.nb ∧ g'.op = g.op ∧ g'.ty = g.ty ∧ g'.aux = g.aux ∧ g'.blk = g.blk ∧ g'.kind = g.kind ∧ g'.likely = g.likely ∧ g'.succs = g.succs ∧ g'.preds = g.preds ∧ g'.bvals = g.bvals ∧ g'.ctrl = g.ctrl := by
  induction h with
  | refl => simp
  | step _ _ _ _ _ _ ih => exact ih
theorem Red.len (h : Red g g') (x : Nat) : (g'.args x).length = (g.args x).length := by
  induction h with
  | refl => rfl
  | step _ _ _ _ _ _ ih =>
    rw [setArg_args]
    split
    · rename_i e; subst e; simpa using ih
    · exact ih
/-- An argument that is no copy stays. -/
theorem Red.stay (h : Red g g') {x k : Nat} (hx : g.op ((g.args x).getD k 0) ≠ 14) : (g'.args x).getD k 0 = (g.args x).getD k 0 := by
  induction h with
  | refl => rfl
  | @step g1 i k' c d h0 h1 h2 h3 h4 h5 ih =>
    rw [setArg_args]
    by_cases e : x = i
    · subst e
      rw [if_pos rfl]
      by_cases ek : k' = k
      · subst ek
        exfalso
        rw [ih] at h3
        rw [h3] at hx
        rw [h0.same.2.2.1] at h4
        exact hx h4
      · rw [List.getD_eq_getElem?_getD, List.getElem?_set_ne ek, ← List.getD_eq_getElem?_getD]
        exact ih
    · rw [if_neg e]; exact ih

/-- A source behind a chain of reductions was one before. -/
theorem Red.back (h : Red g g') {a s : Nat} (hs : Src g' a s) : Src g a s := by
  induction h generalizing a s with
  | refl => exact hs
  | @step g1 i k c d h0 h1 h2 h3 h4 h5 ih =>
    apply ih
    clear ih
    induction hs with
    | here h => exact .here h
    | @step x y s hx hy _ ih2 =>
      rw [setArg_args] at hy
      by_cases e : x = i
      · subst e
        rw [if_pos rfl] at hy
        have hlen : (g1.args x).length = 1 := by
          have := congrArg List.length hy
          simpa using this
        have hk0 : k = 0 := by omega
        subst hk0
        obtain ⟨z, hz⟩ := List.length_eq_one_iff.1 hlen
        rw [hz] at hy h3
        have hdy : d = y := by simpa using hy
        have hzc : z = c := by simpa using h3
        subst hdy; subst hzc
        exact .step hx hz (.step h4 h5 ih2)
      · rw [if_neg e] at hy
        exact .step hx hy ih2

theorem setArg_set (i k a b : Nat) : (g.setArg i k a).setArg i k b = g.setArg i k b := by
  simp only [Gph.setArg]
  congr 1
  funext x
  by_cases e : x = i
  · simp [e]
  · simp [e]
theorem setArg_id {i k a : Nat} (hk : k < (g.args i).length) (h : (g.args i).getD k 0 = a) : g.setArg i k a = g := by
  cases g
  simp only [Gph.setArg]
  congr 1
  funext x
  by_cases e : x = i
  · subst e
    rw [if_pos rfl]
    dsimp only at h hk
    apply List.ext_getElem (by simp)
    intro n h1 h2
    rw [List.getElem_set]
    split
    · rename_i e; subst e
      rw [← h, List.getD_eq_getElem?_getD, List.getElem?_eq_getElem h2]; rfl
    · rfl
  · rw [if_neg e]

/-- An argument may give way to its source at once. -/
theorem Red.toSrc (hc : CInv g r) {i k a s : Nat} (hi : i < g.nv) (hk : k < (g.args i).length) (ha : (g.args i).getD k 0 = a) (hsrc : Src g a s) (hia : g.op i = 14 → r a < r i) : Red g (g.setArg i k s) := by
  have key : ∀ {a s : Nat}, Src g a s → a < g.nv → (g.op i = 14 → r a < r i) → ∀ g1, Red g g1 → g1 = g.setArg i k a → Red g (g.setArg i k s) := by
    intro a s h
    induction h with
    | here _ => intro _ _ g1 h1 e; rw [← e]; exact h1
    | @step a j s h1 h2 _ ih =>
      intro hal hr g1 hg1 e
      obtain ⟨hj, h4⟩ := hc.next hal h1 h2
      refine ih hj (fun h => by have := hr h; omega) (g1.setArg i k j) ?_ (by rw [e, setArg_set])
      have hne : a ≠ i := by
        intro e; subst e
        have := hr h1; omega
      refine .step hg1 (by rw [e]; exact hi) ?_ (c := a) ?_ (by rw [e]; exact h1) ?_
      · rw [e, setArg_args, if_pos rfl]; simpa using hk
      · rw [e, setArg_args, if_pos rfl, List.getD_eq_getElem?_getD, List.getElem?_set_self hk]; rfl
      · rw [e, setArg_args, if_neg hne]; exact h2
  have hcm : a ∈ g.args i := by rw [← ha, List.getD_eq_getElem?_getD, List.getElem?_eq_getElem hk]; simp
  exact key hsrc (hc.closed i hi a hcm) hia g .refl (setArg_id hk ha).symm
end
end Go.Proofs.Yteepnepebilckaa
