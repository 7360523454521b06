/- For every input in which the opcode table reads as laid the law FnPartitionMost returns true, and its argument reads as it did, the table being tied to the text of the program. -/
import Derived.Test.YteepnepebilckaaGreatDoorCT05
namespace Go.Proofs.YteepnepebilckaaGreatDoor
open Go Go.Eng Go.RowKit
section
variable {w : World} {B : Nat} {L : Lay} {g : Gph}
theorem GRep.baseLe' (h : GRep w B L g) : B ≤ w.heap.size := by
 have h1 := Bq h
 have h2 := h.tags.fbB
 omega
def nilS : Value := .slice none 0 0
theorem Row.nil (w : World) (B : Nat) (el : TypeId) : Row w B el nilS [] := World.ownsRow_nil w B el 1
def Lay.addB (L : Lay) (nb n : Nat) (v : Value) : Lay :=
 { L with bb := fun i => if i = nb then n else L.bb i
          tag := fun k => if k < n then L.tag k else if k = n then .blk nb else .fblocks
          sl := fun τ => if τ = .fblocks then v else if τ = .succs nb ∨ τ = .preds nb ∨ τ = .bvals nb ∨ τ = .ctrl nb then nilS else L.sl τ }
theorem GRep.addB {w1 : World} {v : Value} (h : GRep w B L g) (h0 : g.nv = 0) (hs : ∀ i, g.succs i = []) (hp : ∀ i, g.preds i = []) (hv0 : ∀ i, g.bvals i = []) (hc : ∀ i, g.ctrl i = [])
 (hnew : w1.heap[w.heap.size]? = some (.cells #[.int .i32 ((g.nb : Int) + 1), .int .i64 (g.kind g.nb), .int .i8 (g.likely g.nb), nilS, nilS, nilS, nilS, .pointer (some ⟨L.fb, 0, none⟩)] 94 (0, 0)))
 (hw : ∀ k, k < w.heap.size → (L.sl .fblocks).ownBlock ≠ some k → w1.heap[k]? = w.heap[k]?)
 (hrow : Row w1 B 74 v ((List.range g.nb).map L.bp ++ [.pointer (some ⟨w.heap.size, 0, none⟩)]))
 (hv : ∀ k, v.ownBlock = some k → (L.sl .fblocks).ownBlock = some k ∨ w.heap.size < k) :
 GRep (w1.setCell ⟨L.fb, 0 + 1, none⟩ v) B (L.addB g.nb w.heap.size v) { g with nb := g.nb + 1 } := by
 have hbb : ∀ i, i < g.nb → (L.addB g.nb w.heap.size v).bb i = L.bb i := fun i hi => if_neg (by omega)
 have hbn : (L.addB g.nb w.heap.size v).bb g.nb = w.heap.size := if_pos rfl
 have hBs : B ≤ w.heap.size := by have h1 := Bq h; have h2 := h.tags.fbB; omega
 have keep : ∀ k, k < w.heap.size → L.tag k ≠ .fblocks → k ≠ L.fb → (w1.setCell ⟨L.fb, 0 + 1, none⟩ v).heap[k]? = w.heap[k]? := by
  intro k hk ht hne
  rw [Below.heap_setCell _ _ _ _ hne]
  exact hw k hk fun e => ht (h.tags.sl .fblocks rfl trivial k e)
 have htag : ∀ k, k < w.heap.size → (L.addB g.nb w.heap.size v).tag k = L.tag k := fun k hk => if_pos hk
 refine ⟨fun τ => ?_, ?_⟩
 ·cases τ with
  | fn =>
    have h1 : w.heap[L.fb]? = _ := h.comp .fn
    have h2 : w1.heap[L.fb]? = _ := (hw L.fb (Bq h) (fun e => by have := h.tags.sl .fblocks rfl trivial _ e; rw [h.tags.fb] at this; cases this)).trans h1
    exact AE (o := 0 + 1) (u := v) h2
  | fblocks =>
    have hl : (List.range (g.nb + 1)).map (L.addB g.nb w.heap.size v).bp = (List.range g.nb).map L.bp ++ [.pointer (some ⟨w.heap.size, 0, none⟩)] := by
     rw [List.range_succ, List.map_append]
     congr 1
     ·apply List.map_congr_left
      intro i hi
      show Value.pointer (some ⟨(L.addB g.nb w.heap.size v).bb i, 0, none⟩) = _
      rw [hbb i (List.mem_range.1 hi)]; rfl
     show [Value.pointer (some ⟨(L.addB g.nb w.heap.size v).bb g.nb, 0, none⟩)] = _
     rw [hbn]
    show Row _ B _ v ((List.range (g.nb + 1)).map (L.addB g.nb w.heap.size v).bp)
    rw [hl]
    refine hrow.congr fun k hk => Below.heap_setCell _ _ _ _ fun e => ?_
    have e : k = L.fb := e
    rcases hv k hk with h1 | h1
    ·have := h.tags.sl .fblocks rfl trivial k h1
     rw [e, h.tags.fb] at this; cases this
    have := Bq h; omega
  | fvalues =>
    have h1 : Row w B 97 (L.sl .fvalues) ((List.range g.nv).map L.vp) := h.comp .fvalues
    refine Row.congr h1 fun k hk => ?_
    have ht := h.tags.sl .fvalues rfl trivial k hk
    exact keep k (h1.lt k hk).2 (by rw [ht]; simp) (fun e => by rw [e, h.tags.fb] at ht; cases ht)
  | blk i =>
    intro hi
    by_cases e : i = g.nb
    ·subst e
     show (w1.setCell _ v).heap[(L.addB g.nb w.heap.size v).bb g.nb]? = _
     rw [hbn, Below.heap_setCell _ _ _ _ (by have := Bq h; show w.heap.size ≠ L.fb; omega), hnew]
     simp [bcs, Lay.addB]
    have hi' : i < g.nb := by have : i < g.nb + 1 := hi; omega
    show (w1.setCell _ v).heap[(L.addB g.nb w.heap.size v).bb i]? = _
    have ht := h.tags.bb i hi'
    rw [hbb i hi', keep _ (h.blkLt hi') (by rw [ht]; simp) (fun e => by rw [e, h.tags.fb] at ht; cases ht), h.blk hi']
    simp [bcs, Lay.addB, e]
  | val i => intro hi; exact absurd hi (by show ¬ i < g.nv; omega)
  | args i => intro hi; exact absurd hi (by show ¬ i < g.nv; omega)
  | succs i =>
    intro hi
    by_cases e : i = g.nb
    ·subst e
     simpa [Lay.addB, hs] using Row.nil _ B _
    have hi' : i < g.nb := by have : i < g.nb + 1 := hi; omega
    have h1 := h.row (τ := .succs i) rfl hi'
    have hsl : (L.addB g.nb w.heap.size v).sl (.succs i) = L.sl (.succs i) := by simp [Lay.addB, e]
    show Row _ B _ ((L.addB g.nb w.heap.size v).sl (.succs i)) ((g.succs i).map _)
    rw [hsl, hs i]
    have h2 : (g.lst (.succs i)) = [] := hs i
    rw [h2] at h1
    refine Row.congr h1 fun k hk => ?_
    have ht := h.tags.sl (.succs i) rfl hi' k hk
    exact keep k (h1.lt k hk).2 (by rw [ht]; simp) (fun e => by rw [e, h.tags.fb] at ht; cases ht)
  | preds i =>
    intro hi
    by_cases e : i = g.nb
    ·subst e
     simpa [Lay.addB, hp] using Row.nil _ B _
    have hi' : i < g.nb := by have : i < g.nb + 1 := hi; omega
    have h1 := h.row (τ := .preds i) rfl hi'
    have hsl : (L.addB g.nb w.heap.size v).sl (.preds i) = L.sl (.preds i) := by simp [Lay.addB, e]
    show Row _ B _ ((L.addB g.nb w.heap.size v).sl (.preds i)) ((g.preds i).map _)
    rw [hsl, hp i]
    have h2 : (g.lst (.preds i)) = [] := hp i
    rw [h2] at h1
    refine Row.congr h1 fun k hk => ?_
    have ht := h.tags.sl (.preds i) rfl hi' k hk
    exact keep k (h1.lt k hk).2 (by rw [ht]; simp) (fun e => by rw [e, h.tags.fb] at ht; cases ht)
  | bvals i =>
    intro hi
    by_cases e : i = g.nb
    ·subst e
     simpa [Lay.addB, hv0] using Row.nil _ B _
    have hi' : i < g.nb := by have : i < g.nb + 1 := hi; omega
    have h1 := h.row (τ := .bvals i) rfl hi'
    have hsl : (L.addB g.nb w.heap.size v).sl (.bvals i) = L.sl (.bvals i) := by simp [Lay.addB, e]
    show Row _ B _ ((L.addB g.nb w.heap.size v).sl (.bvals i)) ((g.bvals i).map _)
    rw [hsl, hv0 i]
    have h2 : (g.lst (.bvals i)) = [] := hv0 i
    rw [h2] at h1
    refine Row.congr h1 fun k hk => ?_
    have ht := h.tags.sl (.bvals i) rfl hi' k hk
    exact keep k (h1.lt k hk).2 (by rw [ht]; simp) (fun e => by rw [e, h.tags.fb] at ht; cases ht)
  | ctrl i =>
    intro hi
    by_cases e : i = g.nb
    ·subst e
     simpa [Lay.addB, hc] using Row.nil _ B _
    have hi' : i < g.nb := by have : i < g.nb + 1 := hi; omega
    have h1 := h.row (τ := .ctrl i) rfl hi'
    have hsl : (L.addB g.nb w.heap.size v).sl (.ctrl i) = L.sl (.ctrl i) := by simp [Lay.addB, e]
    show Row _ B _ ((L.addB g.nb w.heap.size v).sl (.ctrl i)) ((g.ctrl i).map _)
    rw [hsl, hc i]
    have h2 : (g.lst (.ctrl i)) = [] := hc i
    rw [h2] at h1
    refine Row.congr h1 fun k hk => ?_
    have ht := h.tags.sl (.ctrl i) rfl hi' k hk
    exact keep k (h1.lt k hk).2 (by rw [ht]; simp) (fun e => by rw [e, h.tags.fb] at ht; cases ht)
  | other => trivial
 refine ⟨?_, fun i hi => ?_, fun i hi => ?_, fun σ hq hσ k hk => ?_, h.tags.fbB, fun i hi => ?_, fun i hi => ?_⟩
 ·show (L.addB g.nb w.heap.size v).tag L.fb = _
  rw [htag _ (Bq h)]; exact h.tags.fb
 ·by_cases e : i = g.nb
  ·subst e
   show (L.addB g.nb w.heap.size v).tag ((L.addB g.nb w.heap.size v).bb g.nb) = _
   rw [hbn]
   show (if w.heap.size < w.heap.size then _ else if w.heap.size = w.heap.size then Tag.blk g.nb else Tag.fblocks) = _
   rw [if_neg (Nat.lt_irrefl _), if_pos rfl]
  have hi' : i < g.nb := by have : i < g.nb + 1 := hi; omega
  rw [hbb i hi', htag _ (h.blkLt hi')]; exact h.tags.bb i hi'
 ·exact absurd hi (by show ¬ i < g.nv; omega)
 ·have hk1 : (if σ = .fblocks then v else if σ = .succs g.nb ∨ σ = .preds g.nb ∨ σ = .bvals g.nb ∨ σ = .ctrl g.nb then nilS else L.sl σ).ownBlock = some k := hk
  by_cases e : σ = .fblocks
  ·subst e
   rw [if_pos rfl] at hk1
   rcases hv k hk1 with h1 | h1
   ·have hlt := h.slLt (τ := .fblocks) rfl trivial k h1
    rw [htag k hlt.2]
    exact h.tags.sl .fblocks rfl trivial k h1
   show (if k < w.heap.size then _ else if k = w.heap.size then _ else Tag.fblocks) = _
   rw [if_neg (by omega), if_neg (by omega)]
  rw [if_neg e] at hk1
  by_cases e2 : σ = .succs g.nb ∨ σ = .preds g.nb ∨ σ = .bvals g.nb ∨ σ = .ctrl g.nb
  ·rw [if_pos e2] at hk1; cases hk1
  rw [if_neg e2] at hk1
  have hσ' : Live g σ := by
   cases σ <;> simp only [Live] at hσ ⊢ <;> first
    | (simp [IsLst] at hq; done)
    | omega
    | (rename_i i
       have : i ≠ g.nb := by intro e3; apply e2; simp [e3]
       omega)
  rw [htag k (h.slLt hq hσ' k hk1).2]
  exact h.tags.sl σ hq hσ' k hk1
 ·by_cases e : i = g.nb
  ·subst e; rw [hbn]; exact hBs
  have hi' : i < g.nb := by have : i < g.nb + 1 := hi; omega
  rw [hbb i hi']; exact h.tags.bbB i hi'
 exact absurd hi (by show ¬ i < g.nv; omega)
def Lay.addV (L : Lay) (nv n : Nat) (v : Value) : Lay :=
 { L with vb := fun i => if i = nv then n else L.vb i
          tag := fun k => if k < n then L.tag k else if k = n then .val nv else .fvalues
          sl := fun τ => if τ = .fvalues then v else if τ = .args nv then nilS else L.sl τ }
theorem GRep.addV {w1 : World} {v : Value} (h : GRep w B L g) (ha : ∀ i, g.args i = []) (hc : ∀ i, g.ctrl i = []) (hbv : ∀ b, ∀ x ∈ g.bvals b, x < g.nv)
 (hnew : w1.heap[w.heap.size]? = some (.cells #[.int .i32 ((g.nv : Int) + 1), .int .i64 (g.op g.nv), .int .i64 (g.ty g.nv), .int .i64 (g.aux g.nv), .pointer none, nilS, L.bp (g.blk g.nv)] 101 (0, 0)))
 (hw : ∀ k, k < w.heap.size → (L.sl .fvalues).ownBlock ≠ some k → w1.heap[k]? = w.heap[k]?)
 (hrow : Row w1 B 97 v ((List.range g.nv).map L.vp ++ [.pointer (some ⟨w.heap.size, 0, none⟩)]))
 (hv : ∀ k, v.ownBlock = some k → (L.sl .fvalues).ownBlock = some k ∨ w.heap.size < k) :
 GRep (w1.setCell ⟨L.fb, 0 + 2, none⟩ v) B (L.addV g.nv w.heap.size v) { g with nv := g.nv + 1 } := by
 have hvb : ∀ i, i < g.nv → (L.addV g.nv w.heap.size v).vb i = L.vb i := fun i hi => if_neg (by omega)
 have hvn : (L.addV g.nv w.heap.size v).vb g.nv = w.heap.size := if_pos rfl
 have hBs : B ≤ w.heap.size := by have h1 := Bq h; have h2 := h.tags.fbB; omega
 have keep : ∀ k, k < w.heap.size → L.tag k ≠ .fvalues → k ≠ L.fb → (w1.setCell ⟨L.fb, 0 + 2, none⟩ v).heap[k]? = w.heap[k]? := by
  intro k hk ht hne
  rw [Below.heap_setCell _ _ _ _ hne]
  exact hw k hk fun e => ht (h.tags.sl .fvalues rfl trivial k e)
 have htag : ∀ k, k < w.heap.size → (L.addV g.nv w.heap.size v).tag k = L.tag k := fun k hk => if_pos hk
 have hvp : ∀ i, i < g.nv → (L.addV g.nv w.heap.size v).vp i = L.vp i := fun i hi => by
  show Value.pointer (some ⟨(L.addV g.nv w.heap.size v).vb i, 0, none⟩) = _
  rw [hvb i hi]; rfl
 refine ⟨fun τ => ?_, ?_⟩
 ·cases τ with
  | fn =>
    have h1 : w.heap[L.fb]? = _ := h.comp .fn
    have h2 : w1.heap[L.fb]? = _ := (hw L.fb (Bq h) (fun e => by have := h.tags.sl .fvalues rfl trivial _ e; rw [h.tags.fb] at this; cases this)).trans h1
    exact AE (o := 0 + 2) (u := v) h2
  | fvalues =>
    have hl : (List.range (g.nv + 1)).map (L.addV g.nv w.heap.size v).vp = (List.range g.nv).map L.vp ++ [.pointer (some ⟨w.heap.size, 0, none⟩)] := by
     rw [List.range_succ, List.map_append]
     congr 1
     ·apply List.map_congr_left
      intro i hi
      exact hvp i (List.mem_range.1 hi)
     show [Value.pointer (some ⟨(L.addV g.nv w.heap.size v).vb g.nv, 0, none⟩)] = _
     rw [hvn]
    show Row _ B _ v ((List.range (g.nv + 1)).map (L.addV g.nv w.heap.size v).vp)
    rw [hl]
    refine hrow.congr fun k hk => Below.heap_setCell _ _ _ _ fun e => ?_
    have e : k = L.fb := e
    rcases hv k hk with h1 | h1
    ·have := h.tags.sl .fvalues rfl trivial k h1
     rw [e, h.tags.fb] at this; cases this
    have := Bq h; omega
  | fblocks =>
    have h1 : Row w B 74 (L.sl .fblocks) ((List.range g.nb).map L.bp) := h.comp .fblocks
    refine Row.congr h1 fun k hk => ?_
    have ht := h.tags.sl .fblocks rfl trivial k hk
    exact keep k (h1.lt k hk).2 (by rw [ht]; simp) (fun e => by rw [e, h.tags.fb] at ht; cases ht)
  | blk i =>
    intro hi
    have ht := h.tags.bb i hi
    show (w1.setCell _ v).heap[L.bb i]? = _
    rw [keep _ (h.blkLt hi) (by rw [ht]; simp) (fun e => by rw [e, h.tags.fb] at ht; cases ht), h.blk hi]
    simp [bcs, Lay.addV]
  | val i =>
    intro hi
    by_cases e : i = g.nv
    ·subst e
     show (w1.setCell _ v).heap[(L.addV g.nv w.heap.size v).vb g.nv]? = _
     rw [hvn, Below.heap_setCell _ _ _ _ (by have := Bq h; show w.heap.size ≠ L.fb; omega), hnew]
     simp [vcs, Lay.addV, Lay.bp]
    have hi' : i < g.nv := by have : i < g.nv + 1 := hi; omega
    show (w1.setCell _ v).heap[(L.addV g.nv w.heap.size v).vb i]? = _
    have ht := h.tags.vb i hi'
    rw [hvb i hi', keep _ (h.valLt hi') (by rw [ht]; simp) (fun e => by rw [e, h.tags.fb] at ht; cases ht), h.val hi']
    simp [vcs, Lay.addV, e, Lay.bp]
  | args i =>
    intro hi
    by_cases e : i = g.nv
    ·subst e
     simpa [Lay.addV, ha] using Row.nil _ B _
    have hi' : i < g.nv := by have : i < g.nv + 1 := hi; omega
    have h1 := h.row (τ := .args i) rfl hi'
    have hsl : (L.addV g.nv w.heap.size v).sl (.args i) = L.sl (.args i) := by simp [Lay.addV, e]
    show Row _ B _ ((L.addV g.nv w.heap.size v).sl (.args i)) ((g.args i).map _)
    rw [hsl, ha i]
    have h2 : (g.lst (.args i)) = [] := ha i
    rw [h2] at h1
    refine Row.congr h1 fun k hk => ?_
    have ht := h.tags.sl (.args i) rfl hi' k hk
    exact keep k (h1.lt k hk).2 (by rw [ht]; simp) (fun e => by rw [e, h.tags.fb] at ht; cases ht)
  | succs i =>
    intro hi
    have h1 := h.row (τ := .succs i) rfl hi
    refine Row.congr h1 fun k hk => ?_
    have ht := h.tags.sl (.succs i) rfl hi k hk
    exact keep k (h1.lt k hk).2 (by rw [ht]; simp) (fun e => by rw [e, h.tags.fb] at ht; cases ht)
  | preds i =>
    intro hi
    have h1 := h.row (τ := .preds i) rfl hi
    refine Row.congr h1 fun k hk => ?_
    have ht := h.tags.sl (.preds i) rfl hi k hk
    exact keep k (h1.lt k hk).2 (by rw [ht]; simp) (fun e => by rw [e, h.tags.fb] at ht; cases ht)
  | bvals i =>
    intro hi
    have h1 := h.row (τ := .bvals i) rfl hi
    have hl : (g.bvals i).map (L.addV g.nv w.heap.size v).vp = (g.bvals i).map L.vp := List.map_congr_left fun x hx => hvp x (hbv i x hx)
    show Row _ B _ (L.sl (.bvals i)) ((g.bvals i).map _)
    rw [hl]
    refine Row.congr h1 fun k hk => ?_
    have ht := h.tags.sl (.bvals i) rfl hi k hk
    exact keep k (h1.lt k hk).2 (by rw [ht]; simp) (fun e => by rw [e, h.tags.fb] at ht; cases ht)
  | ctrl i =>
    intro hi
    have h1 := h.row (τ := .ctrl i) rfl hi
    have h2 : (g.lst (.ctrl i)) = [] := hc i
    show Row _ B _ (L.sl (.ctrl i)) ((g.ctrl i).map _)
    rw [hc i]
    rw [h2] at h1
    refine Row.congr h1 fun k hk => ?_
    have ht := h.tags.sl (.ctrl i) rfl hi k hk
    exact keep k (h1.lt k hk).2 (by rw [ht]; simp) (fun e => by rw [e, h.tags.fb] at ht; cases ht)
  | other => trivial
 refine ⟨?_, fun i hi => ?_, fun i hi => ?_, fun σ hq hσ k hk => ?_, h.tags.fbB, h.tags.bbB, fun i hi => ?_⟩
 ·show (L.addV g.nv w.heap.size v).tag L.fb = _
  rw [htag _ (Bq h)]; exact h.tags.fb
 ·show (L.addV g.nv w.heap.size v).tag (L.bb i) = _
  rw [htag _ (h.blkLt hi)]; exact h.tags.bb i hi
 ·by_cases e : i = g.nv
  ·subst e
   rw [hvn]
   show (if w.heap.size < w.heap.size then _ else if w.heap.size = w.heap.size then Tag.val g.nv else Tag.fvalues) = _
   rw [if_neg (Nat.lt_irrefl _), if_pos rfl]
  have hi' : i < g.nv := by have : i < g.nv + 1 := hi; omega
  rw [hvb i hi', htag _ (h.valLt hi')]; exact h.tags.vb i hi'
 ·have hk1 : (if σ = .fvalues then v else if σ = .args g.nv then nilS else L.sl σ).ownBlock = some k := hk
  by_cases e : σ = .fvalues
  ·subst e
   rw [if_pos rfl] at hk1
   rcases hv k hk1 with h1 | h1
   ·have hlt := h.slLt (τ := .fvalues) rfl trivial k h1
    rw [htag k hlt.2]
    exact h.tags.sl .fvalues rfl trivial k h1
   show (if k < w.heap.size then _ else if k = w.heap.size then _ else Tag.fvalues) = _
   rw [if_neg (by omega), if_neg (by omega)]
  rw [if_neg e] at hk1
  by_cases e2 : σ = .args g.nv
  ·rw [if_pos e2] at hk1; cases hk1
  rw [if_neg e2] at hk1
  have hσ' : Live g σ := by
   cases σ <;> simp only [Live] at hσ ⊢ <;> first
    | omega
    | (rename_i i
       have : i ≠ g.nv := by intro e3; apply e2; simp [e3]
       omega)
    | (simp [IsLst] at hq; done)
  rw [htag k (h.slLt hq hσ' k hk1).2]
  exact h.tags.sl σ hq hσ' k hk1
 by_cases e : i = g.nv
 ·subst e; rw [hvn]; exact hBs
 have hi' : i < g.nv := by have : i < g.nv + 1 := hi; omega
 rw [hvb i hi']; exact h.tags.vbB i hi'
theorem GRep.setEntry (h : GRep w B L g) (p : Option Addr) : GRep (w.setCell ⟨L.fb, 0 + 0, none⟩ (.pointer p)) B { L with entry := p } g := by
 refine ⟨fun τ => ?_, ⟨h.tags.fb, h.tags.bb, h.tags.vb, h.tags.sl, h.tags.fbB, h.tags.bbB, h.tags.vbB⟩⟩
 by_cases e : τ = .fn
 ·subst e
  exact AE (o := 0 + 0) (u := .pointer p) (show w.heap[L.fb]? = _ from h.comp .fn)
 have := CM (o := 0 + 0) (u := .pointer p) h h.tags.fb e
 cases τ <;> first
  | exact absurd rfl e
  | exact this
theorem C2 {τ : Tag} (hτ : IsRow τ = true) : IsLst τ = true := by
 cases τ <;> first | rfl | (simp [IsRow] at hτ; done)
theorem GRep.own_bb (h : GRep w B L g) {τ : Tag} (hτ : IsRow τ = true) (hl : Live g τ) {i : Nat} (hi : i < g.nb) : (L.sl τ).ownBlock ≠ some (L.bb i) := fun e => by
 have := h.tags.sl τ (C2 hτ) hl _ e
 rw [h.tags.bb i hi] at this
 subst this; simp [IsRow] at hτ
theorem GRep.own_vb (h : GRep w B L g) {τ : Tag} (hτ : IsRow τ = true) (hl : Live g τ) {i : Nat} (hi : i < g.nv) : (L.sl τ).ownBlock ≠ some (L.vb i) := fun e => by
 have := h.tags.sl τ (C2 hτ) hl _ e
 rw [h.tags.vb i hi] at this
 subst this; simp [IsRow] at hτ
theorem GRep.own_fb (h : GRep w B L g) {τ : Tag} (hτ : IsRow τ = true) (hl : Live g τ) : (L.sl τ).ownBlock ≠ some L.fb := fun e => by
 have := h.tags.sl τ (C2 hτ) hl _ e
 rw [h.tags.fb] at this
 subst this; simp [IsRow] at hτ
theorem GRep.own_sl (h : GRep w B L g) {τ σ : Tag} (hτ : IsRow τ = true) (hl : Live g τ) (hσ : IsLst σ = true) (hls : Live g σ) (hne : σ ≠ τ) {b : Nat} (hb : (L.sl σ).ownBlock = some b) : (L.sl τ).ownBlock ≠ some b := fun e => by
 have h1 := h.tags.sl τ (C2 hτ) hl _ e
 have h2 := h.tags.sl σ hσ hls _ hb
 exact hne (h2.symm.trans h1)
theorem GRep.app {W6 W7 : World} {v7 : Value} {x : Nat} (h : GRep w B L g) {τ : Tag} (hτ : IsRow τ = true) (hl : Live g τ)
 (hO : ∀ i, i < w.heap.size → W6.heap[i]? = w.heap[i]?) (hZ : W6.heap.size = w.heap.size + 1) (hB6 : Below B w W6)
 (hrow : W7.ownsRow B (elT τ) 1 v7 (((g.lst τ).map (L.pf τ)).length + 1) ((g.lst τ).map (L.pf τ) ++ [L.pf τ x])) (hgr : W6.grownBy W7 (L.sl τ).ownBlock)
 (hwh : v7.ownBlock = (L.sl τ).ownBlock ∨ v7.ownBlock = some W6.heap.size) :
 GRep (W7.setCell ⟨(L.home τ).1, (L.home τ).2, none⟩ v7) B (L.setSl τ v7 w.heap.size) (g.setL τ (g.lst τ ++ [x])) ∧
 Below B w (W7.setCell ⟨(L.home τ).1, (L.home τ).2, none⟩ v7) ∧
 (∀ p v, w.cell? p = some v → (L.sl τ).ownBlock ≠ some p.block → W7.cell? p = some v) ∧
 (∀ o, W7.frozen? ⟨(L.home τ).1, o, none⟩ = false) := by
 have hr := h.row hτ hl
 have hlow : ∀ i, (L.sl τ).ownBlock = some i → i < w.heap.size := fun i hi => (hr.lt i hi).2
 have hBs := h.baseLe'
 have hold : ∀ i, i < w.heap.size → (L.sl τ).ownBlock ≠ some i → W7.heap[i]? = w.heap[i]? := fun i hi hne => by
  rw [hgr.block i (by omega) (fun e => hne e.symm), hO i hi]
 obtain ⟨σ0, ht0, hr0, _, _, _⟩ := E0 h.tags hτ hl
 have hhome : (L.home τ).1 < w.heap.size := by cases τ <;> first | exact h.valLt hl | exact h.blkLt hl | (simp [IsRow] at hτ; done)
 have hhB : B ≤ (L.home τ).1 := by cases τ <;> first | exact h.tags.vbB _ hl | exact h.tags.bbB _ hl | (simp [IsRow] at hτ; done)
 have hne0 : (L.sl τ).ownBlock ≠ some (L.home τ).1 := by
  cases τ <;> first | exact h.own_vb hτ hl hl | exact h.own_bb hτ hl hl | (simp [IsRow] at hτ; done)
 refine ⟨GRep.setL (w1 := W7) h hτ hl (show Row W7 B (elT τ) v7 ((g.lst τ ++ [x]).map (L.pf τ)) from by simpa [Row] using hrow) hold (fun i hi => ?_), ?_, fun p v hp hne => ?_, fun o => ?_⟩
 ·rcases hwh with h5 | h5
  ·left; rw [← h5]; exact hi
  right; rw [h5] at hi; have : W6.heap.size = i := Option.some.inj hi; omega
 ·exact (hB6.grown hgr (by omega) (fun i hi => (hr.lt i hi).1)).setCell hhB v7
 ·rw [World.cell?_of_block (w := w) (hold p.block (World.block_lt_of_cell? w p hp) hne)]; exact hp
 have h1 := hold _ hhome hne0
 have h2 : ∃ cs T, w.heap[(L.home τ).1]? = some (.cells cs T (0, 0)) := by
  cases τ <;> first | exact ⟨_, _, h.val hl⟩ | exact ⟨_, _, h.blk hl⟩ | (simp [IsRow] at hτ; done)
 obtain ⟨cs, T, h3⟩ := h2
 exact AT (h1.trans h3)
end
end Go.Proofs.YteepnepebilckaaGreatDoor
namespace Go.Proofs.YteepnepebilckaaGreatDoor
open Go Go.Eng Go.RowKit
structure Vl where
 op : Int
 blk : Int
 args : List Int
 aux : Int
structure Bk where
 kind : Int
 ctrl : Int
 succs : List Int
 likely : Int
structure Fn where
 vals : List Vl
 blks : List Bk
instance : Inhabited Vl := ⟨⟨0, 0, [], 0⟩⟩
instance : Inhabited Bk := ⟨⟨0, -1, [], 0⟩⟩
def Fn.v (f : Fn) (i : Nat) : Vl := f.vals.getD i default
def Fn.b (f : Fn) (i : Nat) : Bk := f.blks.getD i default
def IntsAt (w : World) (a : Option Addr) (l : List Int) : Prop :=
 l = [] ∨ ∃ b o, a = some ⟨b, o, none⟩ ∧ ∀ k, k < l.length → w.cell? ⟨b, o + k, none⟩ = some (.int .i64 (l.getD k 0))
def IntsC (w : World) (a : Option Addr) (l : List Int) (c : Nat) : Prop := l.length ≤ c ∧ IntsAt w a l
theorem IntsC.get {w : World} {a : Option Addr} {l : List Int} {c : Nat} (h : IntsC w a l c) {k : Nat} (hk : k < l.length) : ∃ b o, a = some ⟨b, o, none⟩ ∧ w.cell? ⟨b, o + k, none⟩ = some (.int .i64 (l.getD k 0)) := by
 rcases h.2 with rfl | ⟨b, o, ha, hc⟩
 ·simp at hk
 exact ⟨b, o, ha, hc k hk⟩
def IntsV (w : World) (v : Value) (l : List Int) : Prop := ∃ a c, v = .slice a l.length c ∧ IntsC w a l c
def Quad (w : World) (b o : Nat) (x y : Int) (l : List Int) (z : Int) : Prop :=
 ∃ s, CellsAt w b o [.int .i64 x, .int .i64 y, s, .int .i64 z] ∧ IntsV w s l
def ValsV (w : World) (v : Value) (l : List Vl) : Prop :=
 ∃ a c, v = .slice a l.length c ∧ (l = [] ∨ ∃ b o, a = some ⟨b, o, none⟩ ∧ ∀ k, k < l.length → Quad w b (o + k * 4) (l.getD k default).op (l.getD k default).blk (l.getD k default).args (l.getD k default).aux)
def BlksV (w : World) (v : Value) (l : List Bk) : Prop :=
 ∃ a c, v = .slice a l.length c ∧ (l = [] ∨ ∃ b o, a = some ⟨b, o, none⟩ ∧ ∀ k, k < l.length → Quad w b (o + k * 4) (l.getD k default).kind (l.getD k default).ctrl (l.getD k default).succs (l.getD k default).likely)
def FnV (w : World) (v : Value) (f : Fn) : Prop := ∃ x y, v = .agg #[x, y] ∧ ValsV w x f.vals ∧ BlksV w y f.blks
theorem IntsV.keep {w w' : World} {v : Value} {l : List Int} (h : IntsV w v l) (k : Keep w w') : IntsV w' v l := by
 obtain ⟨a, c, hv, hlc, hl⟩ := h
 refine ⟨a, c, hv, hlc, ?_⟩
 rcases hl with hl | ⟨b, o, ha, hc⟩
 ·exact .inl hl
 exact .inr ⟨b, o, ha, fun i hi => k _ _ (hc i hi)⟩
theorem _root_.Go.Eng.CellsAt.keep {w w' : World} {b o : Nat} {cs : List Value} (h : CellsAt w b o cs) (k : Keep w w') : CellsAt w' b o cs := fun j v hv => k _ _ (h j v hv)
theorem Quad.keep {w w' : World} {b o : Nat} {x y : Int} {l : List Int} {z : Int} (h : Quad w b o x y l z) (k : Keep w w') : Quad w' b o x y l z := by
 obtain ⟨s, h1, h2⟩ := h
 exact ⟨s, h1.keep k, h2.keep k⟩
theorem ValsV.keep {w w' : World} {v : Value} {l : List Vl} (h : ValsV w v l) (k : Keep w w') : ValsV w' v l := by
 obtain ⟨a, c, hv, hl⟩ := h
 refine ⟨a, c, hv, ?_⟩
 rcases hl with hl | ⟨b, o, ha, hc⟩
 ·exact .inl hl
 exact .inr ⟨b, o, ha, fun i hi => (hc i hi).keep k⟩
theorem BlksV.keep {w w' : World} {v : Value} {l : List Bk} (h : BlksV w v l) (k : Keep w w') : BlksV w' v l := by
 obtain ⟨a, c, hv, hl⟩ := h
 refine ⟨a, c, hv, ?_⟩
 rcases hl with hl | ⟨b, o, ha, hc⟩
 ·exact .inl hl
 exact .inr ⟨b, o, ha, fun i hi => (hc i hi).keep k⟩
theorem FnV.keep {w w' : World} {v : Value} {f : Fn} (h : FnV w v f) (k : Keep w w') : FnV w' v f := by
 obtain ⟨x, y, hv, h1, h2⟩ := h
 exact ⟨x, y, hv, h1.keep k, h2.keep k⟩
theorem CY {w : World} {o : Nat} {cs : Array Value} {T : TypeId} {v : Value} (hv : cs[o]? = some v) : (w.alloc (.cells cs T)).cell? ⟨w.heap.size, o, none⟩ = some v :=
 Am (heap_alloc_new w _) hv
def predsOf (f : Fn) (b : Nat) : List Nat := (List.range f.blks.length).flatMap fun i => ((f.b i).succs.filter fun s => s == (b : Int)).map fun _ => i
def toG (f : Fn) : Gph where
 nv := f.vals.length
 nb := f.blks.length
 op i := (f.v i).op
 ty i := if 10 ≤ (f.v i).op ∧ (f.v i).op ≤ 12 then 1 else 0
 aux i := (f.v i).aux
 blk i := (f.v i).blk.toNat
 args i := (f.v i).args.map Int.toNat
 kind i := (f.b i).kind
 likely i := (f.b i).likely
 succs i := (f.b i).succs.map Int.toNat
 preds b := predsOf f b
 bvals b := (List.range f.vals.length).filter fun i => (f.v i).blk == (b : Int)
 ctrl i := if 0 ≤ (f.b i).ctrl then [(f.b i).ctrl.toNat] else []
structure Wf (f : Fn) : Prop where
 nb : f.blks.length ≤ 9
 nv : f.vals.length ≤ 48
 one : 1 ≤ f.blks.length
 blk : ∀ i, i < f.vals.length → 0 ≤ (f.v i).blk ∧ (f.v i).blk < f.blks.length
 args : ∀ i, i < f.vals.length → (f.v i).args.length ≤ 64 ∧ ∀ a ∈ (f.v i).args, 0 ≤ a ∧ a < f.vals.length
 succs : ∀ i, i < f.blks.length → (f.b i).succs.length ≤ 2 ∧ ∀ s ∈ (f.b i).succs, 0 ≤ s ∧ s < f.blks.length
 ctrl : ∀ i, i < f.blks.length → -1 ≤ (f.b i).ctrl ∧ (f.b i).ctrl < f.vals.length
 likely : ∀ i, i < f.blks.length → -1 ≤ (f.b i).likely ∧ (f.b i).likely ≤ 1
end Go.Proofs.YteepnepebilckaaGreatDoor
namespace Go.Eng
open Go Go.RowKit
def Env.sets (e : Env) : List (Nat × Value) → Env
 | [] => e
 | x :: r => (e.sets r).set x.1 x.2
def Holds (e : Env) : List (Nat × Value) → Prop
 | [] => True
 | x :: r => e.t x.1 = x.2 ∧ Holds e r
theorem Env.ext' {e e' : Env} (h : ∀ k, e.t k = e'.t k) (hd : e.d = e'.d) : e = e' := by
 cases e; cases e'
 have : _ = _ := funext h
 simp_all
theorem GG {e : Env} {k : Nat} {v : Value} (h : e.t k = v) : e.set k v = e := by
 refine Env.ext' (fun j => ?_) rfl
 show (bif Nat.beq j k then v else e.t j) = e.t j
 cases hb : Nat.beq j k with
 | true => rw [Eng.beq_true hb, h]; rfl
 | false => rfl
theorem sets_self {e : Env} : ∀ {l : List (Nat × Value)}, Holds e l → e.sets l = e
 | [], _ => rfl
 | x :: r, h => by
   show (e.sets r).set x.1 x.2 = e
   rw [sets_self h.2, GG h.1]
def At (e : Env) (l : List (Nat × Value)) : Prop := ∃ t, e = Env.sets ⟨t, []⟩ l
theorem Ar {e : Env} {l : List (Nat × Value)} (hd : e.d = []) (h : Holds e l) : At e l := by
 refine ⟨e.t, ?_⟩
 have : (⟨e.t, []⟩ : Env) = e := by cases e; simp_all
 rw [this, sets_self h]
theorem Bx (w : World) (o : Obj) : (w.alloc o).heap.size = w.heap.size + 1 := Array.size_push _
theorem EW (w : World) (z cs : Array Value) (T : TypeId) : (w.alloc (.cells z T)).setRow w.heap.size cs = w.alloc (.cells cs T) := by
 have hh : ((w.alloc (.cells z T)).setRow w.heap.size cs).heap = (w.alloc (.cells cs T)).heap := by
  apply Array.ext_getElem?
  intro i
  by_cases e : i = w.heap.size
  ·subst e
   rw [setRow_heap _ _ z cs T (0, 0) (heap_alloc_new w _), heap_alloc_new]
  rw [setRow_other _ _ _ _ e]
  simp only [World.alloc, Array.getElem?_push, e, if_false]
 unfold World.setRow World.alloc at *
 simp only at hh ⊢
 rw [hh]
theorem Bh {P : Program} {w0 : World} {ρ : Operand → Value} {d : Option Tmp} {ty : TypeId} {pos : String} {af : Array Edge} {g : Option (Nat × Bool)} {t T : TypeId} {x y : Operand} {z cs : Array Value}
 (hx : ρ x = .pointer (some ⟨w0.heap.size, 0, none⟩)) (hy : ρ y = .agg cs) (ht : CW P t cs.size = true) (hz : z.size = cs.size) (h1 : cs.toList.all (·.oneCell') = true) :
 (execOp ρ ⟨d, .store t x y, ty, pos, af, g⟩).run P (w0.alloc (.cells z T)) = .ok .skip (w0.alloc (.cells cs T)) := by
 rw [CA hx hy (heap_alloc_new w0 _) ht hz h1, EW]
theorem By {P : Program} {ops : Array Oper} {N : Nat} {Q : Env → World → Prop} {e : Env} {w : World} {rest : List Oper} {d : Nat} {s x : Operand} {t el : TypeId} {ty : TypeId} {pos : String} {af : Array Edge} {z : Value} {bytes base : Nat}
 {v : Value} {n : Nat} {xs : List Value} {b : Nat} {u : Value}
 (hown : w.ownsRow base el 1 v n xs) (hu : w.cell? ⟨b, 0, none⟩ = some u) (h1 : u.oneCell' = true) (hbytes : (n + 1) * bytes ≤ 140737488355328) (hb0 : 0 < bytes) (hbase : base ≤ w.heap.size)
 (ht : P.underlying t = some (.slice el)) (hi : (P.info? el).map (fun i => (i.zero, i.size, i.bytes)) = some (some z, 1, bytes)) (hzs : z.cells.size = 1)
 (hs : e.ev s = v) (hx : e.ev x = .slice (some ⟨b, 0, none⟩) 1 1)
 (hk : okO N ⟨some d, .call { callee := .builtin .append, args := #[s, x], argTypes := #[t, t] }, ty, pos, af, none⟩ = true)
 (h : ∀ v' w', w'.ownsRow base el 1 v' (n + 1) (xs ++ [u]) → w.grownBy w' v.ownBlock → (v'.ownBlock = v.ownBlock ∨ v'.ownBlock = some w.heap.size) → EL P ops N Q rest (e.set d v') w') :
 EL P ops N Q (⟨some d, .call { callee := .builtin .append, args := #[s, x], argTypes := #[t, t] }, ty, pos, af, none⟩ :: rest) e w := by
 obtain ⟨v', w', hr, h2, h3, h4⟩ := x_append1 (d := some d) (ty := ty) (pos := pos) (af := af) (g := none) ht hi hzs hs hown hx hu h1 hbytes hb0 hbase
 exact Ab hr hk (h v' w' h2 h3 h4)
theorem CI {P : Program} {l : List Oper} {S : World → Prop} {Q : Env → World → Prop} {r : List (Nat × Bool)} {e : Env} {w : World} {i d : Nat} {s x : Operand} {t el : TypeId} {ty : TypeId} {pos : String} {af : Array Edge} {z : Value} {bytes base : Nat}
 {v : Value} {n : Nat} {xs : List Value} {b : Nat} {u : Value}
 (hown : w.ownsRow base el 1 v n xs) (hu : w.cell? ⟨b, 0, none⟩ = some u) (h1 : u.oneCell' = true) (hbytes : (n + 1) * bytes ≤ 140737488355328) (hb0 : 0 < bytes) (hbase : base ≤ w.heap.size)
 (ho : nthO l i = ⟨some d, .call { callee := .builtin .append, args := #[s, x], argTypes := #[t, t] }, ty, pos, af, none⟩)
 (ht : P.underlying t = some (.slice el)) (hi : (P.info? el).map (fun i => (i.zero, i.size, i.bytes)) = some (some z, 1, bytes)) (hzs : z.cells.size = 1)
 (hs : e.ev s = v) (hx : e.ev x = .slice (some ⟨b, 0, none⟩) 1 1)
 (h : ∀ v' w', w'.ownsRow base el 1 v' (n + 1) (xs ++ [u]) → w.grownBy w' v.ownBlock → (v'.ownBlock = v.ownBlock ∨ v'.ownBlock = some w.heap.size) → (r = [] ∨ S w') ∧ DL P l S Q r (e.set d v') w') :
 DL P l S Q ((i, true) :: r) e w := by
 obtain ⟨v', w', hr, h2, h3, h4⟩ := x_append1 (d := some d) (ty := ty) (pos := pos) (af := af) (g := none) ht hi hzs hs hown hx hu h1 hbytes hb0 hbase
 obtain ⟨h5, h6⟩ := h v' w' h2 h3 h4
 exact B9 ho hr h5 h6
theorem C6 {P : Program} {ops : Array Oper} {N : Nat} {Q : Env → World → Prop} {e : Env} {w : World} {rest : List Oper} {d : Nat} {s x : Operand} {t el : TypeId} {ty : TypeId} {pos : String} {af : Array Edge} {z : Value} {size bytes base : Nat}
 {v : Value} {n : Nat} {xs : List Value} {ad : Addr} {m c : Nat} {news : List Value}
 (hown : w.ownsRow base el size v n xs) (hnews : ∀ j u, news[j]? = some u → w.cell? (ad.add j) = some u) (h1 : ∀ u ∈ news, u.oneCell' = true) (hl : news.length = m * size) (hbytes : (n + m) * bytes ≤ 140737488355328) (hb0 : 0 < bytes) (hbase : base ≤ w.heap.size)
 (ht : P.underlying t = some (.slice el)) (hi : (P.info? el).map (fun i => (i.zero, i.size, i.bytes)) = some (some z, size, bytes)) (hzs : z.cells.size = size) (hsz : 0 < size)
 (hs : e.ev s = v) (hx : e.ev x = .slice (some ad) m c)
 (hk : okO N ⟨some d, .call { callee := .builtin .append, args := #[s, x], argTypes := #[t, t] }, ty, pos, af, none⟩ = true)
 (h : ∀ v' w', w'.ownsRow base el size v' (n + m) (xs ++ news) → w.grownBy w' v.ownBlock → (v'.ownBlock = v.ownBlock ∨ v'.ownBlock = some w.heap.size) → EL P ops N Q rest (e.set d v') w') :
 EL P ops N Q (⟨some d, .call { callee := .builtin .append, args := #[s, x], argTypes := #[t, t] }, ty, pos, af, none⟩ :: rest) e w := by
 obtain ⟨v', w', hr, h2, h3, _, h4⟩ := x_append (d := some d) (ty := ty) (pos := pos) (af := af) (g := none) ht hi hzs hsz hs hown hx hl hnews h1 hbytes hb0 hbase
 exact Ab hr hk (h v' w' h2 h3 h4)
theorem DB {P : Program} {l : List Oper} {S : World → Prop} {Q : Env → World → Prop} {r : List (Nat × Bool)} {e : Env} {w : World} {i d : Nat} {s x : Operand} {t el : TypeId} {ty : TypeId} {pos : String} {af : Array Edge} {z : Value} {size bytes base : Nat}
 {v : Value} {n : Nat} {xs : List Value} {ad : Addr} {m c : Nat} {news : List Value}
 (hown : w.ownsRow base el size v n xs) (hnews : ∀ j u, news[j]? = some u → w.cell? (ad.add j) = some u) (h1 : ∀ u ∈ news, u.oneCell' = true) (hl : news.length = m * size) (hbytes : (n + m) * bytes ≤ 140737488355328) (hb0 : 0 < bytes) (hbase : base ≤ w.heap.size)
 (ho : nthO l i = ⟨some d, .call { callee := .builtin .append, args := #[s, x], argTypes := #[t, t] }, ty, pos, af, none⟩)
 (ht : P.underlying t = some (.slice el)) (hi : (P.info? el).map (fun i => (i.zero, i.size, i.bytes)) = some (some z, size, bytes)) (hzs : z.cells.size = size) (hsz : 0 < size)
 (hs : e.ev s = v) (hx : e.ev x = .slice (some ad) m c)
 (h : ∀ v' w', w'.ownsRow base el size v' (n + m) (xs ++ news) → w.grownBy w' v.ownBlock → (v'.ownBlock = v.ownBlock ∨ v'.ownBlock = some w.heap.size) → (r = [] ∨ S w') ∧ DL P l S Q r (e.set d v') w') :
 DL P l S Q ((i, true) :: r) e w := by
 obtain ⟨v', w', hr, h2, h3, _, h4⟩ := x_append (d := some d) (ty := ty) (pos := pos) (af := af) (g := none) ht hi hzs hsz hs hown hx hl hnews h1 hbytes hb0 hbase
 obtain ⟨h5, h6⟩ := h v' w' h2 h3 h4
 exact B9 ho hr h5 h6
section
variable {P : Program} {N : Nat} {c : Code} {Q : Exit → Env → World → Prop} {e : Env} {w : World} {I : Nat → Env → World → Prop} {n i j : Nat}
def onlyN (Φ : Env → World → Prop) : Exit → Env → World → Prop
 | .normal, e, w => Φ e w
 | _, _, _ => False
theorem AU {Φ : Env → World → Prop} (h : Φ e w) : onlyN Φ .normal e w := h
theorem AX {c' : Code} (Φ : Env → World → Prop) (h1 : EC P N c (onlyN Φ) e w) (h2 : ∀ e w, Φ e w → EC P N c' Q e w) : EC P N (.seq c c') Q e w := by
 refine Ae (EC.mono h1 fun x e w hx => ?_)
 cases x <;> first | exact h2 e w hx | exact hx.elim
theorem Bn {w : World} {base : Nat} {el : TypeId} {size : Nat} {v : Value} {n : Nat} {xs : List Value} (h : w.ownsRow base el size v n xs) : v.oneCell' = true := by
 rcases h.2 with ⟨rfl, _⟩ | ⟨g, cap, cur, rfl, _⟩ <;> rfl
theorem Aa (h : EC P N c Q e w) : thenQ P N c Q .normal e w := h
theorem AB (h : Q (.exit i) e w) : thenQ P N c Q (.exit i) e w := h
theorem AJ (h : Q .ret e w) : thenQ P N c Q .ret e w := h
theorem Av (m : Nat) (hm : m < n) (h : I m e w) : Bf I n Q .normal e w := ⟨m, hm, h⟩
theorem AC (h : Q (.exit i) e w) : Bf I n Q (.exit i) e w := h
theorem Bp (h : Q .ret e w) : Bf I n Q .ret e w := h
theorem AA (h : Q .normal e w) : blockQ i Q (.exit i) e w := by
 show (bif Nat.beq i i then Q .normal e w else _)
 rw [Nat.beq_refl]; exact h
theorem Cr (hb : Nat.beq j i = false) (h : Q (.exit j) e w) : blockQ i Q (.exit j) e w := by
 show (bif Nat.beq j i then Q .normal e w else _)
 rw [hb]; exact h
theorem Ap (h : Q .normal e w) : blockQ i Q .normal e w := h
theorem AO (h : Q .ret e w) : blockQ i Q .ret e w := h
end
end Go.Eng
namespace Go.Eng
open Go Go.RowKit
section
variable {P : Program} {w : World} (o : Obj)
theorem el_new {ops : Array Oper} {N : Nat} {Q : Env → World → Prop} {l : List Oper} {e : Env} (B : Nat) (hB : B ≤ w.heap.size) (h : ∀ W, W.heap[w.heap.size]? = some o → (∀ zz, zz < w.heap.size → W.heap[zz]? = w.heap[zz]?) → W.heap.size = w.heap.size + 1 → Below B w W → Keep w W → EL P ops N Q l e W) : EL P ops N Q l e (w.alloc o) := h _ (heap_alloc_new w o) (fun _ hi => Below.heap_alloc _ _ _ hi) (Bx w o) ((Below.refl B w).alloc hB o) (Keep.alloc w o)
theorem ec_new {N : Nat} {Q : Exit → Env → World → Prop} {c : Code} {e : Env} (B : Nat) (hB : B ≤ w.heap.size) (h : ∀ W, W.heap[w.heap.size]? = some o → (∀ zz, zz < w.heap.size → W.heap[zz]? = w.heap[zz]?) → W.heap.size = w.heap.size + 1 → Below B w W → Keep w W → EC P N c Q e W) : EC P N c Q e (w.alloc o) := h _ (heap_alloc_new w o) (fun _ hi => Below.heap_alloc _ _ _ hi) (Bx w o) ((Below.refl B w).alloc hB o) (Keep.alloc w o)
theorem dl_new {l : List Oper} {S : World → Prop} {Q : Env → World → Prop} {r : List (Nat × Bool)} {e : Env} (B : Nat) (hB : B ≤ w.heap.size) (h : ∀ W, W.heap[w.heap.size]? = some o → (∀ zz, zz < w.heap.size → W.heap[zz]? = w.heap[zz]?) → W.heap.size = w.heap.size + 1 → Below B w W → Keep w W → DL P l S Q r e W) : DL P l S Q r e (w.alloc o) := h _ (heap_alloc_new w o) (fun _ hi => Below.heap_alloc _ _ _ hi) (Bx w o) ((Below.refl B w).alloc hB o) (Keep.alloc w o)
theorem el_new0 {ops : Array Oper} {N : Nat} {Q : Env → World → Prop} {l : List Oper} {e : Env} (h : ∀ W, W.heap[w.heap.size]? = some o → (∀ zz, zz < w.heap.size → W.heap[zz]? = w.heap[zz]?) → W.heap.size = w.heap.size + 1 → Below w.heap.size w W → Keep w W → EL P ops N Q l e W) : EL P ops N Q l e (w.alloc o) := el_new o _ (Nat.le_refl _) h
theorem ec_new0 {N : Nat} {Q : Exit → Env → World → Prop} {c : Code} {e : Env} (h : ∀ W, W.heap[w.heap.size]? = some o → (∀ zz, zz < w.heap.size → W.heap[zz]? = w.heap[zz]?) → W.heap.size = w.heap.size + 1 → Below w.heap.size w W → Keep w W → EC P N c Q e W) : EC P N c Q e (w.alloc o) := ec_new o _ (Nat.le_refl _) h
theorem dl_new0 {l : List Oper} {S : World → Prop} {Q : Env → World → Prop} {r : List (Nat × Bool)} {e : Env} (h : ∀ W, W.heap[w.heap.size]? = some o → (∀ zz, zz < w.heap.size → W.heap[zz]? = w.heap[zz]?) → W.heap.size = w.heap.size + 1 → Below w.heap.size w W → Keep w W → DL P l S Q r e W) : DL P l S Q r e (w.alloc o) := dl_new o _ (Nat.le_refl _) h
end
end Go.Eng
