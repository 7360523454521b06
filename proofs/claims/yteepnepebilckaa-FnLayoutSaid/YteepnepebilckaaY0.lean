/- Rows of cells beside each other. -/
import Derived.Test.YteepnepebilckaaE8
import Derived.Test.YteepnepebilckaaN3
namespace Go.Proofs.Yteepnepebilckaa
open Go Go.Eng Go.RowKit

/-! ### rows beside each other -/
/-- Rows of cells, no two of them in one block. -/
structure Rws (w : World) (base n : Nat) (el : Nat → TypeId) (R : Nat → Value) (xs : Nat → List Value) : Prop where
  row : ∀ i, i < n → w.ownsRow base (el i) 1 (R i) (xs i).length (xs i)
  off : ∀ i j, i < n → j < n → i ≠ j → ∀ k, (R i).ownBlock = some k → (R j).ownBlock ≠ some k
section
variable {w w' : World} {base n : Nat} {el : Nat → TypeId} {R : Nat → Value} {xs : Nat → List Value}
theorem Rws.lt (h : Rws w base n el R xs) {i : Nat} (hi : i < n) : ∀ k, (R i).ownBlock = some k → base ≤ k ∧ k < w.heap.size := ownsRow_lt (h.row i hi)
theorem Rws.stay (h : Rws w base n el R xs) (hk : ∀ k, base ≤ k → k < w.heap.size → w'.heap[k]? = w.heap[k]?) : Rws w' base n el R xs :=
  ⟨fun i hi => ownsRow_congr (h.row i hi) fun k e => hk k (h.lt hi k e).1 (h.lt hi k e).2, h.off⟩
theorem Rws.congr {R' : Nat → Value} {xs' : Nat → List Value} (h : Rws w base n el R xs) (h1 : ∀ i, i < n → R' i = R i) (h2 : ∀ i, i < n → xs' i = xs i) : Rws w base n el R' xs' :=
  ⟨fun i hi => by rw [h1 i hi, h2 i hi]; exact h.row i hi, fun i j hi hj hne k hk => by rw [h1 i hi] at hk; rw [h1 j hj]; exact h.off i j hi hj hne k hk⟩
/-- One row is another one, in the same block or a new one. -/
theorem Rws.put (h : Rws w base n el R xs) {s : Nat} (hs : s < n) {v' : Value} {ys : List Value} (hrow : w'.ownsRow base (el s) 1 v' ys.length ys)
    (hk : ∀ k, k < w.heap.size → (R s).ownBlock ≠ some k → base ≤ k → w'.heap[k]? = w.heap[k]?) (hwh : v'.ownBlock = (R s).ownBlock ∨ ∃ k, w.heap.size ≤ k ∧ v'.ownBlock = some k) :
    Rws w' base n el (fun i => if i = s then v' else R i) (fun i => if i = s then ys else xs i) := by
  have new : ∀ c, c < n → c ≠ s → ∀ k, v'.ownBlock = some k → (R c).ownBlock ≠ some k := by
    intro c hc hne k hv hk2
    rcases hwh with e | ⟨q, hq, e⟩
    · rw [e] at hv
      exact h.off s c hs hc (fun e2 => hne e2.symm) k hv hk2
    · rw [e] at hv
      have := (h.lt hc k hk2).2
      have e3 := Option.some.inj hv
      omega
  refine ⟨fun i hi => ?_, fun i j hi hj hne k hk2 => ?_⟩
  · show w'.ownsRow base (el i) 1 (if i = s then v' else R i) (if i = s then ys else xs i).length (if i = s then ys else xs i)
    by_cases e : i = s
    · rw [if_pos e, if_pos e, e]; exact hrow
    · rw [if_neg e, if_neg e]
      exact ownsRow_congr (h.row i hi) fun k e2 => hk k (h.lt hi k e2).2 (fun e3 => h.off s i hs hi (fun e4 => e e4.symm) k e3 e2) (h.lt hi k e2).1
  · have hk2 : (if i = s then v' else R i).ownBlock = some k := hk2
    show (if j = s then v' else R j).ownBlock ≠ some k
    by_cases e : i = s
    · rw [if_pos e] at hk2
      rw [if_neg (fun e2 => hne (e.trans e2.symm))]
      exact new j hj (fun e2 => hne (e.trans e2.symm)) k hk2
    · rw [if_neg e] at hk2
      by_cases e2 : j = s
      · rw [if_pos e2]
        exact fun e3 => new i hi e k e3 hk2
      · rw [if_neg e2]; exact h.off i j hi hj hne k hk2
theorem row_form {el : TypeId} {v : Value} {xs : List Value} (h : w.ownsRow base el 1 v xs.length xs) {k : Nat} (hk : k < xs.length) :
    ∃ g cap, v = .slice (some ⟨g, 0, none⟩) xs.length cap ∧ base ≤ g ∧ g < w.heap.size ∧ xs.length ≤ cap ∧ w.cell? ⟨g, 0 + k, none⟩ = some xs[k] := by
  rcases h.2 with ⟨rfl, h0⟩ | ⟨g, cap, cur, rfl, hb, hg, h1, h2, h3, h4⟩
  · omega
  · refine ⟨g, cap, rfl, hb, (Array.getElem?_eq_some_iff.1 hg).1, h1, ?_⟩
    rw [cell_of_row w g _ cur el (0, 0) hg]
    have h5 : (cur.toList.take (xs.length * 1))[k]? = some xs[k] := by rw [h4]; simp [hk]
    rw [List.getElem?_take] at h5
    split at h5
    · rw [Array.getElem?_toList] at h5
      rw [Nat.zero_add]; exact h5
    · cases h5
/-- A row without its last element. -/
theorem row_pop {el : TypeId} {g cap : Nat} {ys : List Value} {u : Value} (h : w.ownsRow base el 1 (.slice (some ⟨g, 0, none⟩) (ys ++ [u]).length cap) (ys ++ [u]).length (ys ++ [u])) :
    w.ownsRow base el 1 (.slice (some ⟨g, 0, none⟩) ys.length cap) ys.length ys := by
  rcases h.2 with ⟨h0, _⟩ | ⟨g', cap', cur, e, hb, hg, h1, h2, h3, h4⟩
  · cases h0
  · injection e with e1 e2 e3
    injection e1 with e1
    injection e1 with e1 _ _
    subst e1
    subst e3
    rw [List.length_append] at h1 h4
    refine ⟨by simp, .inr ⟨g, cap, cur, rfl, hb, hg, by have : [u].length = 1 := rfl; omega, h2, h3, ?_⟩⟩
    have h5 : cur.toList.take (ys.length * 1) = (cur.toList.take ((ys.length + [u].length) * 1)).take ys.length := by
      rw [List.take_take]
      congr 1
      have : [u].length = 1 := rfl
      omega
    rw [h5, h4, List.take_left]
/-- An element of a row is written. -/
theorem row_set {el : TypeId} {g cap : Nat} {xs : List Value} (h : w.ownsRow base el 1 (.slice (some ⟨g, 0, none⟩) xs.length cap) xs.length xs) {k : Nat} (hk : k < xs.length) (u : Value) :
    (w.setCell ⟨g, 0 + k, none⟩ u).ownsRow base el 1 (.slice (some ⟨g, 0, none⟩) xs.length cap) (xs.set k u).length (xs.set k u) := by
  rcases h.2 with ⟨h0, _⟩ | ⟨g', cap', cur, e, hb, hg, h1, h2, h3, h4⟩
  · cases h0
  · injection e with e1 e2 e3
    injection e1 with e1
    injection e1 with e1 _ _
    subst e1
    subst e3
    have hs := heap_setCell_same (o := 0 + k) (u := u) hg
    refine ⟨by simp, .inr ⟨g, cap, cur.setIfInBounds (0 + k) u, by rw [List.length_set], hb, hs, by rw [List.length_set]; exact h1, h2, by simpa using h3, ?_⟩⟩
    rw [List.length_set, Nat.zero_add, Array.toList_setIfInBounds, List.take_set, h4]
end
end Go.Proofs.Yteepnepebilckaa
