/- The graph in memory: a block more, a value more. -/
import Derived.Test.YteepnepebilckaaG1
namespace Go.Proofs.Yteepnepebilckaa
open Go Go.Eng Go.RowKit

section
variable {w : World} {B : Nat} {L : Lay} {g : Gph}

theorem GRep.baseLe' (h : GRep w B L g) : B ≤ w.heap.size := by
  have h1 := comp_lt h
  have h2 := h.tags.fbB
  omega

def nilS : Value := .slice none 0 0
theorem nilS_own : nilS.ownBlock = none := rfl
theorem Row.nil (w : World) (B : Nat) (el : TypeId) : Row w B el nilS [] := World.ownsRow_nil w B el 1

/-- The layout with a block more. -/
def Lay.addB (L : Lay) (nb n : Nat) (v : Value) : Lay :=
  { L with bb := fun i => if i = nb then n else L.bb i
           tag := fun k => if k < n then L.tag k else if k = n then .blk nb else .fblocks
           sl := fun τ => if τ = .fblocks then v else if τ = .succs nb ∨ τ = .preds nb ∨ τ = .bvals nb ∨ τ = .ctrl nb then nilS else L.sl τ }

/-- A block more: it lies at the heap's end; then the list of blocks is laid anew and stored. -/
theorem GRep.addB {w1 : World} {v : Value} (h : GRep w B L g) (h0 : g.nv = 0) (hs : ∀ i, g.succs i = []) (hp : ∀ i, g.preds i = []) (hv0 : ∀ i, g.bvals i = []) (hc : ∀ i, g.ctrl i = [])
    (hnew : w1.heap[w.heap.size]? = some (.cells #[.int .i32 ((g.nb : Int) + 1), .int .i64 (g.kind g.nb), .int .i8 (g.likely g.nb), nilS, nilS, nilS, nilS, .pointer (some ⟨L.fb, 0, none⟩)] 84 (0, 0)))
    (hw : ∀ k, k < w.heap.size → (L.sl .fblocks).ownBlock ≠ some k → w1.heap[k]? = w.heap[k]?)
    (hrow : Row w1 B 76 v ((List.range g.nb).map L.bp ++ [.pointer (some ⟨w.heap.size, 0, none⟩)]))
    (hv : ∀ k, v.ownBlock = some k → (L.sl .fblocks).ownBlock = some k ∨ w.heap.size < k) :
    GRep (w1.setCell ⟨L.fb, 0 + 1, none⟩ v) B (L.addB g.nb w.heap.size v) { g with nb := g.nb + 1 } := by
  have hbb : ∀ i, i < g.nb → (L.addB g.nb w.heap.size v).bb i = L.bb i := fun i hi => if_neg (by omega)
  have hbn : (L.addB g.nb w.heap.size v).bb g.nb = w.heap.size := if_pos rfl
  have hBs : B ≤ w.heap.size := by have h1 := comp_lt h; have h2 := h.tags.fbB; omega
  -- old blocks that are not the list's own
  have keep : ∀ k, k < w.heap.size → L.tag k ≠ .fblocks → k ≠ L.fb → (w1.setCell ⟨L.fb, 0 + 1, none⟩ v).heap[k]? = w.heap[k]? := by
    intro k hk ht hne
    rw [Below.heap_setCell _ _ _ _ hne]
    exact hw k hk fun e => ht (h.tags.sl .fblocks rfl trivial k e)
  have htag : ∀ k, k < w.heap.size → (L.addB g.nb w.heap.size v).tag k = L.tag k := fun k hk => if_pos hk
  refine ⟨fun τ => ?_, ?_⟩
  · cases τ with
    | fn =>
      have h1 : w.heap[L.fb]? = _ := h.comp .fn
      have h2 : w1.heap[L.fb]? = _ := (hw L.fb (comp_lt h) (fun e => by have := h.tags.sl .fblocks rfl trivial _ e; rw [h.tags.fb] at this; cases this)).trans h1
      exact heap_setCell_same (o := 0 + 1) (u := v) h2
    | fblocks =>
      have hl : (List.range (g.nb + 1)).map (L.addB g.nb w.heap.size v).bp = (List.range g.nb).map L.bp ++ [.pointer (some ⟨w.heap.size, 0, none⟩)] := by
        rw [List.range_succ, List.map_append]
        congr 1
        · apply List.map_congr_left
          intro i hi
          show Value.pointer (some ⟨(L.addB g.nb w.heap.size v).bb i, 0, none⟩) = _
          rw [hbb i (List.mem_range.1 hi)]; rfl
        · show [Value.pointer (some ⟨(L.addB g.nb w.heap.size v).bb g.nb, 0, none⟩)] = _
          rw [hbn]
      show Row _ B _ v ((List.range (g.nb + 1)).map (L.addB g.nb w.heap.size v).bp)
      rw [hl]
      refine hrow.congr fun k hk => Below.heap_setCell _ _ _ _ fun e => ?_
      have e : k = L.fb := e
      rcases hv k hk with h1 | h1
      · have := h.tags.sl .fblocks rfl trivial k h1
        rw [e, h.tags.fb] at this; cases this
      · have := comp_lt h; omega
    | fvalues =>
      have h1 : Row w B 93 (L.sl .fvalues) ((List.range g.nv).map L.vp) := h.comp .fvalues
      refine Row.congr h1 fun k hk => ?_
      have ht := h.tags.sl .fvalues rfl trivial k hk
      exact keep k (h1.lt k hk).2 (by rw [ht]; simp) (fun e => by rw [e, h.tags.fb] at ht; cases ht)
    | blk i =>
      intro hi
      by_cases e : i = g.nb
      · subst e
        show (w1.setCell _ v).heap[(L.addB g.nb w.heap.size v).bb g.nb]? = _
        rw [hbn, Below.heap_setCell _ _ _ _ (by have := comp_lt h; show w.heap.size ≠ L.fb; omega), hnew]
        simp [bcs, Lay.addB]
      · have hi' : i < g.nb := by have : i < g.nb + 1 := hi; omega
        show (w1.setCell _ v).heap[(L.addB g.nb w.heap.size v).bb i]? = _
        have ht := h.tags.bb i hi'
        rw [hbb i hi', keep _ (h.blkLt hi') (by rw [ht]; simp) (fun e => by rw [e, h.tags.fb] at ht; cases ht), h.blk hi']
        simp [bcs, Lay.addB, e]
    | val i => intro hi; exact absurd hi (by show ¬ i < g.nv; omega)
    | args i => intro hi; exact absurd hi (by show ¬ i < g.nv; omega)
    | succs i =>
      intro hi
      by_cases e : i = g.nb
      · subst e
        simpa [Lay.addB, hs] using Row.nil _ B _
      · have hi' : i < g.nb := by have : i < g.nb + 1 := hi; omega
        have h1 := h.row (τ := .succs i) rfl hi'
        have hsl : (L.addB g.nb w.heap.size v).sl (.succs i) = L.sl (.succs i) := by simp [Lay.addB, e]
        show Row _ B _ ((L.addB g.nb w.heap.size v).sl (.succs i)) ((g.succs i).map _)
        rw [hsl, hs i]
        have h2 : (g.lst (.succs i)) = [] := hs i
        rw [h2] at h1
        refine Row.congr h1 fun k hk => ?_
        have ht := h.tags.sl (.succs i) rfl hi' k hk
        exact keep k (h1.lt k hk).2 (by rw [ht]; simp) (fun e => by rw [e, h.tags.fb] at ht; cases ht)
    | preds i =>
      intro hi
      by_cases e : i = g.nb
      · subst e
        simpa [Lay.addB, hp] using Row.nil _ B _
      · have hi' : i < g.nb := by have : i < g.nb + 1 := hi; omega
        have h1 := h.row (τ := .preds i) rfl hi'
        have hsl : (L.addB g.nb w.heap.size v).sl (.preds i) = L.sl (.preds i) := by simp [Lay.addB, e]
        show Row _ B _ ((L.addB g.nb w.heap.size v).sl (.preds i)) ((g.preds i).map _)
        rw [hsl, hp i]
        have h2 : (g.lst (.preds i)) = [] := hp i
        rw [h2] at h1
        refine Row.congr h1 fun k hk => ?_
        have ht := h.tags.sl (.preds i) rfl hi' k hk
        exact keep k (h1.lt k hk).2 (by rw [ht]; simp) (fun e => by rw [e, h.tags.fb] at ht; cases ht)
    | bvals i =>
      intro hi
      by_cases e : i = g.nb
      · subst e
        simpa [Lay.addB, hv0] using Row.nil _ B _
      · have hi' : i < g.nb := by have : i < g.nb + 1 := hi; omega
        have h1 := h.row (τ := .bvals i) rfl hi'
        have hsl : (L.addB g.nb w.heap.size v).sl (.bvals i) = L.sl (.bvals i) := by simp [Lay.addB, e]
        show Row _ B _ ((L.addB g.nb w.heap.size v).sl (.bvals i)) ((g.bvals i).map _)
        rw [hsl, hv0 i]
        have h2 : (g.lst (.bvals i)) = [] := hv0 i
        rw [h2] at h1
        refine Row.congr h1 fun k hk => ?_
        have ht := h.tags.sl (.bvals i) rfl hi' k hk
        exact keep k (h1.lt k hk).2 (by rw [ht]; simp) (fun e => by rw [e, h.tags.fb] at ht; cases ht)
    | ctrl i =>
      intro hi
      by_cases e : i = g.nb
      · subst e
        simpa [Lay.addB, hc] using Row.nil _ B _
      · have hi' : i < g.nb := by have : i < g.nb + 1 := hi; omega
        have h1 := h.row (τ := .ctrl i) rfl hi'
        have hsl : (L.addB g.nb w.heap.size v).sl (.ctrl i) = L.sl (.ctrl i) := by simp [Lay.addB, e]
        show Row _ B _ ((L.addB g.nb w.heap.size v).sl (.ctrl i)) ((g.ctrl i).map _)
        rw [hsl, hc i]
        have h2 : (g.lst (.ctrl i)) = [] := hc i
        rw [h2] at h1
        refine Row.congr h1 fun k hk => ?_
        have ht := h.tags.sl (.ctrl i) rfl hi' k hk
        exact keep k (h1.lt k hk).2 (by rw [ht]; simp) (fun e => by rw [e, h.tags.fb] at ht; cases ht)
    | other => trivial
  · refine ⟨?_, fun i hi => ?_, fun i hi => ?_, fun σ hq hσ k hk => ?_, h.tags.fbB, fun i hi => ?_, fun i hi => ?_⟩
    · show (L.addB g.nb w.heap.size v).tag L.fb = _
      rw [htag _ (comp_lt h)]; exact h.tags.fb
    · by_cases e : i = g.nb
      · subst e
        show (L.addB g.nb w.heap.size v).tag ((L.addB g.nb w.heap.size v).bb g.nb) = _
        rw [hbn]
        show (if w.heap.size < w.heap.size then _ else if w.heap.size = w.heap.size then Tag.blk g.nb else Tag.fblocks) = _
        rw [if_neg (Nat.lt_irrefl _), if_pos rfl]
      · have hi' : i < g.nb := by have : i < g.nb + 1 := hi; omega
        rw [hbb i hi', htag _ (h.blkLt hi')]; exact h.tags.bb i hi'
    · exact absurd hi (by show ¬ i < g.nv; omega)
    · have hk1 : (if σ = .fblocks then v else if σ = .succs g.nb ∨ σ = .preds g.nb ∨ σ = .bvals g.nb ∨ σ = .ctrl g.nb then nilS else L.sl σ).ownBlock = some k := hk
      by_cases e : σ = .fblocks
      · subst e
        rw [if_pos rfl] at hk1
        rcases hv k hk1 with h1 | h1
        · have hlt := h.slLt (τ := .fblocks) rfl trivial k h1
          rw [htag k hlt.2]
          exact h.tags.sl .fblocks rfl trivial k h1
        · show (if k < w.heap.size then _ else if k = w.heap.size then _ else Tag.fblocks) = _
          rw [if_neg (by omega), if_neg (by omega)]
      · rw [if_neg e] at hk1
        by_cases e2 : σ = .succs g.nb ∨ σ = .preds g.nb ∨ σ = .bvals g.nb ∨ σ = .ctrl g.nb
        · rw [if_pos e2] at hk1; cases hk1
        · rw [if_neg e2] at hk1
          have hσ' : Live g σ := by
            cases σ <;> simp only [Live] at hσ ⊢ <;> first
              | (simp [IsLst] at hq; done)
              | omega
              | (rename_i i
                 have : i ≠ g.nb := by intro e3; apply e2; simp [e3]
                 omega)
          rw [htag k (h.slLt hq hσ' k hk1).2]
          exact h.tags.sl σ hq hσ' k hk1
    · by_cases e : i = g.nb
      · subst e; rw [hbn]; exact hBs
      · have hi' : i < g.nb := by have : i < g.nb + 1 := hi; omega
        rw [hbb i hi']; exact h.tags.bbB i hi'
    · exact absurd hi (by show ¬ i < g.nv; omega)

/-- The layout with a value more. -/
def Lay.addV (L : Lay) (nv n : Nat) (v : Value) : Lay :=
  { L with vb := fun i => if i = nv then n else L.vb i
           tag := fun k => if k < n then L.tag k else if k = n then .val nv else .fvalues
           sl := fun τ => if τ = .fvalues then v else if τ = .args nv then nilS else L.sl τ }

/-- A value more: it lies at the heap's end; then the list of values is laid anew and stored. -/
theorem GRep.addV {w1 : World} {v : Value} (h : GRep w B L g) (ha : ∀ i, g.args i = []) (hc : ∀ i, g.ctrl i = []) (hbv : ∀ b, ∀ x ∈ g.bvals b, x < g.nv)
    (hnew : w1.heap[w.heap.size]? = some (.cells #[.int .i32 ((g.nv : Int) + 1), .int .i64 (g.op g.nv), .int .i64 (g.ty g.nv), .int .i64 (g.aux g.nv), .pointer none, nilS, L.bp (g.blk g.nv)] 97 (0, 0)))
    (hw : ∀ k, k < w.heap.size → (L.sl .fvalues).ownBlock ≠ some k → w1.heap[k]? = w.heap[k]?)
    (hrow : Row w1 B 93 v ((List.range g.nv).map L.vp ++ [.pointer (some ⟨w.heap.size, 0, none⟩)]))
    (hv : ∀ k, v.ownBlock = some k → (L.sl .fvalues).ownBlock = some k ∨ w.heap.size < k) :
    GRep (w1.setCell ⟨L.fb, 0 + 2, none⟩ v) B (L.addV g.nv w.heap.size v) { g with nv := g.nv + 1 } := by
  have hvb : ∀ i, i < g.nv → (L.addV g.nv w.heap.size v).vb i = L.vb i := fun i hi => if_neg (by omega)
  have hvn : (L.addV g.nv w.heap.size v).vb g.nv = w.heap.size := if_pos rfl
  have hBs : B ≤ w.heap.size := by have h1 := comp_lt h; have h2 := h.tags.fbB; omega
  have keep : ∀ k, k < w.heap.size → L.tag k ≠ .fvalues → k ≠ L.fb → (w1.setCell ⟨L.fb, 0 + 2, none⟩ v).heap[k]? = w.heap[k]? := by
    intro k hk ht hne
    rw [Below.heap_setCell _ _ _ _ hne]
    exact hw k hk fun e => ht (h.tags.sl .fvalues rfl trivial k e)
  have htag : ∀ k, k < w.heap.size → (L.addV g.nv w.heap.size v).tag k = L.tag k := fun k hk => if_pos hk
  have hvp : ∀ i, i < g.nv → (L.addV g.nv w.heap.size v).vp i = L.vp i := fun i hi => by
    show Value.pointer (some ⟨(L.addV g.nv w.heap.size v).vb i, 0, none⟩) = _
    rw [hvb i hi]; rfl
  refine ⟨fun τ => ?_, ?_⟩
  · cases τ with
    | fn =>
      have h1 : w.heap[L.fb]? = _ := h.comp .fn
      have h2 : w1.heap[L.fb]? = _ := (hw L.fb (comp_lt h) (fun e => by have := h.tags.sl .fvalues rfl trivial _ e; rw [h.tags.fb] at this; cases this)).trans h1
      exact heap_setCell_same (o := 0 + 2) (u := v) h2
    | fvalues =>
      have hl : (List.range (g.nv + 1)).map (L.addV g.nv w.heap.size v).vp = (List.range g.nv).map L.vp ++ [.pointer (some ⟨w.heap.size, 0, none⟩)] := by
        rw [List.range_succ, List.map_append]
        congr 1
        · apply List.map_congr_left
          intro i hi
          exact hvp i (List.mem_range.1 hi)
        · show [Value.pointer (some ⟨(L.addV g.nv w.heap.size v).vb g.nv, 0, none⟩)] = _
          rw [hvn]
      show Row _ B _ v ((List.range (g.nv + 1)).map (L.addV g.nv w.heap.size v).vp)
      rw [hl]
      refine hrow.congr fun k hk => Below.heap_setCell _ _ _ _ fun e => ?_
      have e : k = L.fb := e
      rcases hv k hk with h1 | h1
      · have := h.tags.sl .fvalues rfl trivial k h1
        rw [e, h.tags.fb] at this; cases this
      · have := comp_lt h; omega
    | fblocks =>
      have h1 : Row w B 76 (L.sl .fblocks) ((List.range g.nb).map L.bp) := h.comp .fblocks
      refine Row.congr h1 fun k hk => ?_
      have ht := h.tags.sl .fblocks rfl trivial k hk
      exact keep k (h1.lt k hk).2 (by rw [ht]; simp) (fun e => by rw [e, h.tags.fb] at ht; cases ht)
    | blk i =>
      intro hi
      have ht := h.tags.bb i hi
      show (w1.setCell _ v).heap[L.bb i]? = _
      rw [keep _ (h.blkLt hi) (by rw [ht]; simp) (fun e => by rw [e, h.tags.fb] at ht; cases ht), h.blk hi]
      simp [bcs, Lay.addV]
    | val i =>
      intro hi
      by_cases e : i = g.nv
      · subst e
        show (w1.setCell _ v).heap[(L.addV g.nv w.heap.size v).vb g.nv]? = _
        rw [hvn, Below.heap_setCell _ _ _ _ (by have := comp_lt h; show w.heap.size ≠ L.fb; omega), hnew]
        simp [vcs, Lay.addV, Lay.bp]
      · have hi' : i < g.nv := by have : i < g.nv + 1 := hi; omega
        show (w1.setCell _ v).heap[(L.addV g.nv w.heap.size v).vb i]? = _
        have ht := h.tags.vb i hi'
        rw [hvb i hi', keep _ (h.valLt hi') (by rw [ht]; simp) (fun e => by rw [e, h.tags.fb] at ht; cases ht), h.val hi']
        simp [vcs, Lay.addV, e, Lay.bp]
    | args i =>
      intro hi
      by_cases e : i = g.nv
      · subst e
        simpa [Lay.addV, ha] using Row.nil _ B _
      · have hi' : i < g.nv := by have : i < g.nv + 1 := hi; omega
        have h1 := h.row (τ := .args i) rfl hi'
        have hsl : (L.addV g.nv w.heap.size v).sl (.args i) = L.sl (.args i) := by simp [Lay.addV, e]
        show Row _ B _ ((L.addV g.nv w.heap.size v).sl (.args i)) ((g.args i).map _)
        rw [hsl, ha i]
        have h2 : (g.lst (.args i)) = [] := ha i
        rw [h2] at h1
        refine Row.congr h1 fun k hk => ?_
        have ht := h.tags.sl (.args i) rfl hi' k hk
        exact keep k (h1.lt k hk).2 (by rw [ht]; simp) (fun e => by rw [e, h.tags.fb] at ht; cases ht)
    | succs i =>
      intro hi
      have h1 := h.row (τ := .succs i) rfl hi
      refine Row.congr h1 fun k hk => ?_
      have ht := h.tags.sl (.succs i) rfl hi k hk
      exact keep k (h1.lt k hk).2 (by rw [ht]; simp) (fun e => by rw [e, h.tags.fb] at ht; cases ht)
    | preds i =>
      intro hi
      have h1 := h.row (τ := .preds i) rfl hi
      refine Row.congr h1 fun k hk => ?_
      have ht := h.tags.sl (.preds i) rfl hi k hk
      exact keep k (h1.lt k hk).2 (by rw [ht]; simp) (fun e => by rw [e, h.tags.fb] at ht; cases ht)
    | bvals i =>
      intro hi
      have h1 := h.row (τ := .bvals i) rfl hi
      have hl : (g.bvals i).map (L.addV g.nv w.heap.size v).vp = (g.bvals i).map L.vp := List.map_congr_left fun x hx => hvp x (hbv i x hx)
      show Row _ B _ (L.sl (.bvals i)) ((g.bvals i).map _)
      rw [hl]
      refine Row.congr h1 fun k hk => ?_
      have ht := h.tags.sl (.bvals i) rfl hi k hk
      exact keep k (h1.lt k hk).2 (by rw [ht]; simp) (fun e => by rw [e, h.tags.fb] at ht; cases ht)
    | ctrl i =>
      intro hi
      have h1 := h.row (τ := .ctrl i) rfl hi
      have h2 : (g.lst (.ctrl i)) = [] := hc i
      show Row _ B _ (L.sl (.ctrl i)) ((g.ctrl i).map _)
      rw [hc i]
      rw [h2] at h1
      refine Row.congr h1 fun k hk => ?_
      have ht := h.tags.sl (.ctrl i) rfl hi k hk
      exact keep k (h1.lt k hk).2 (by rw [ht]; simp) (fun e => by rw [e, h.tags.fb] at ht; cases ht)
    | other => trivial
  · refine ⟨?_, fun i hi => ?_, fun i hi => ?_, fun σ hq hσ k hk => ?_, h.tags.fbB, h.tags.bbB, fun i hi => ?_⟩
    · show (L.addV g.nv w.heap.size v).tag L.fb = _
      rw [htag _ (comp_lt h)]; exact h.tags.fb
    · show (L.addV g.nv w.heap.size v).tag (L.bb i) = _
      rw [htag _ (h.blkLt hi)]; exact h.tags.bb i hi
    · by_cases e : i = g.nv
      · subst e
        rw [hvn]
        show (if w.heap.size < w.heap.size then _ else if w.heap.size = w.heap.size then Tag.val g.nv else Tag.fvalues) = _
        rw [if_neg (Nat.lt_irrefl _), if_pos rfl]
      · have hi' : i < g.nv := by have : i < g.nv + 1 := hi; omega
        rw [hvb i hi', htag _ (h.valLt hi')]; exact h.tags.vb i hi'
    · have hk1 : (if σ = .fvalues then v else if σ = .args g.nv then nilS else L.sl σ).ownBlock = some k := hk
      by_cases e : σ = .fvalues
      · subst e
        rw [if_pos rfl] at hk1
        rcases hv k hk1 with h1 | h1
        · have hlt := h.slLt (τ := .fvalues) rfl trivial k h1
          rw [htag k hlt.2]
          exact h.tags.sl .fvalues rfl trivial k h1
        · show (if k < w.heap.size then _ else if k = w.heap.size then _ else Tag.fvalues) = _
          rw [if_neg (by omega), if_neg (by omega)]
      · rw [if_neg e] at hk1
        by_cases e2 : σ = .args g.nv
        · rw [if_pos e2] at hk1; cases hk1
        · rw [if_neg e2] at hk1
          have hσ' : Live g σ := by
            cases σ <;> simp only [Live] at hσ ⊢ <;> first
              | omega
              | (rename_i i
                 have : i ≠ g.nv := by intro e3; apply e2; simp [e3]
                 omega)
              | (simp [IsLst] at hq; done)
          rw [htag k (h.slLt hq hσ' k hk1).2]
          exact h.tags.sl σ hq hσ' k hk1
    · by_cases e : i = g.nv
      · subst e; rw [hvn]; exact hBs
      · have hi' : i < g.nv := by have : i < g.nv + 1 := hi; omega
        rw [hvb i hi']; exact h.tags.vbB i hi'

/-- The entry is stored. -/
theorem GRep.setEntry (h : GRep w B L g) (p : Option Addr) : GRep (w.setCell ⟨L.fb, 0 + 0, none⟩ (.pointer p)) B { L with entry := p } g := by
  refine ⟨fun τ => ?_, ⟨h.tags.fb, h.tags.bb, h.tags.vb, h.tags.sl, h.tags.fbB, h.tags.bbB, h.tags.vbB⟩⟩
  by_cases e : τ = .fn
  · subst e
    exact heap_setCell_same (o := 0 + 0) (u := .pointer p) (show w.heap[L.fb]? = _ from h.comp .fn)
  · have := comp_other (o := 0 + 0) (u := .pointer p) h h.tags.fb e
    cases τ <;> first
      | exact absurd rfl e
      | exact this

/-- The block of one of the five lists is none of the others'. -/
theorem isLst_of {τ : Tag} (hτ : IsRow τ = true) : IsLst τ = true := by
  cases τ <;> first | rfl | (simp [IsRow] at hτ; done)
theorem GRep.own_bb (h : GRep w B L g) {τ : Tag} (hτ : IsRow τ = true) (hl : Live g τ) {i : Nat} (hi : i < g.nb) : (L.sl τ).ownBlock ≠ some (L.bb i) := fun e => by
  have := h.tags.sl τ (isLst_of hτ) hl _ e
  rw [h.tags.bb i hi] at this
  subst this; simp [IsRow] at hτ
theorem GRep.own_vb (h : GRep w B L g) {τ : Tag} (hτ : IsRow τ = true) (hl : Live g τ) {i : Nat} (hi : i < g.nv) : (L.sl τ).ownBlock ≠ some (L.vb i) := fun e => by
  have := h.tags.sl τ (isLst_of hτ) hl _ e
  rw [h.tags.vb i hi] at this
  subst this; simp [IsRow] at hτ
theorem GRep.own_fb (h : GRep w B L g) {τ : Tag} (hτ : IsRow τ = true) (hl : Live g τ) : (L.sl τ).ownBlock ≠ some L.fb := fun e => by
  have := h.tags.sl τ (isLst_of hτ) hl _ e
  rw [h.tags.fb] at this
  subst this; simp [IsRow] at hτ
theorem GRep.own_sl (h : GRep w B L g) {τ σ : Tag} (hτ : IsRow τ = true) (hl : Live g τ) (hσ : IsLst σ = true) (hls : Live g σ) (hne : σ ≠ τ) {b : Nat} (hb : (L.sl σ).ownBlock = some b) : (L.sl τ).ownBlock ≠ some b := fun e => by
  have h1 := h.tags.sl τ (isLst_of hτ) hl _ e
  have h2 := h.tags.sl σ hσ hls _ hb
  exact hne (h2.symm.trans h1)

/-- One element more at the end of one of the five lists: an append, then the store. -/
theorem GRep.app {W6 W7 : World} {v7 : Value} {x : Nat} (h : GRep w B L g) {τ : Tag} (hτ : IsRow τ = true) (hl : Live g τ)
    (hO : ∀ i, i < w.heap.size → W6.heap[i]? = w.heap[i]?) (hZ : W6.heap.size = w.heap.size + 1) (hB6 : Below B w W6)
    (hrow : W7.ownsRow B (elT τ) 1 v7 (((g.lst τ).map (L.pf τ)).length + 1) ((g.lst τ).map (L.pf τ) ++ [L.pf τ x])) (hgr : W6.grownBy W7 (L.sl τ).ownBlock)
    (hwh : v7.ownBlock = (L.sl τ).ownBlock ∨ v7.ownBlock = some W6.heap.size) :
    GRep (W7.setCell ⟨(L.home τ).1, (L.home τ).2, none⟩ v7) B (L.setSl τ v7 w.heap.size) (g.setL τ (g.lst τ ++ [x])) ∧
    Below B w (W7.setCell ⟨(L.home τ).1, (L.home τ).2, none⟩ v7) ∧
    (∀ p v, w.cell? p = some v → (L.sl τ).ownBlock ≠ some p.block → W7.cell? p = some v) ∧
    (∀ o, W7.frozen? ⟨(L.home τ).1, o, none⟩ = false) := by
  have hr := h.row hτ hl
  have hlow : ∀ i, (L.sl τ).ownBlock = some i → i < w.heap.size := fun i hi => (hr.lt i hi).2
  have hBs := h.baseLe'
  have hold : ∀ i, i < w.heap.size → (L.sl τ).ownBlock ≠ some i → W7.heap[i]? = w.heap[i]? := fun i hi hne => by
    rw [hgr.block i (by omega) (fun e => hne e.symm), hO i hi]
  obtain ⟨σ0, ht0, hr0, _, _, _⟩ := home_tag h.tags hτ hl
  have hhome : (L.home τ).1 < w.heap.size := by cases τ <;> first | exact h.valLt hl | exact h.blkLt hl | (simp [IsRow] at hτ; done)
  have hhB : B ≤ (L.home τ).1 := by cases τ <;> first | exact h.tags.vbB _ hl | exact h.tags.bbB _ hl | (simp [IsRow] at hτ; done)
  have hne0 : (L.sl τ).ownBlock ≠ some (L.home τ).1 := by
    cases τ <;> first | exact h.own_vb hτ hl hl | exact h.own_bb hτ hl hl | (simp [IsRow] at hτ; done)
  refine ⟨GRep.setL (w1 := W7) h hτ hl (show Row W7 B (elT τ) v7 ((g.lst τ ++ [x]).map (L.pf τ)) from by simpa [Row] using hrow) hold (fun i hi => ?_), ?_, fun p v hp hne => ?_, fun o => ?_⟩
  · rcases hwh with h5 | h5
    · left; rw [← h5]; exact hi
    · right; rw [h5] at hi; have : W6.heap.size = i := Option.some.inj hi; omega
  · exact (hB6.grown hgr (by omega) (fun i hi => (hr.lt i hi).1)).setCell hhB v7
  · rw [World.cell?_of_block (w := w) (hold p.block (World.block_lt_of_cell? w p hp) hne)]; exact hp
  · have h1 := hold _ hhome hne0
    have h2 : ∃ cs T, w.heap[(L.home τ).1]? = some (.cells cs T (0, 0)) := by
      cases τ <;> first | exact ⟨_, _, h.val hl⟩ | exact ⟨_, _, h.blk hl⟩ | (simp [IsRow] at hτ; done)
    obtain ⟨cs, T, h3⟩ := h2
    exact free_block (h1.trans h3)
end
end Go.Proofs.Yteepnepebilckaa
