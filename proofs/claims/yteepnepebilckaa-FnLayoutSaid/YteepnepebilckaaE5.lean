/- The engine: make, slices of slices, queues. -/
import Derived.Test.YteepnepebilckaaE4
import Derived.ArgAppend
import Derived.Deep.OwnRows
namespace Go.Eng
open Go Go.RowKit

section
variable {P : Program} {w : World} {ρ : Operand → Value} {d : Option Tmp} {ty : TypeId} {pos : String} {af : Array Edge} {g : Option (Nat × Bool)}

theorem x_make {t el : TypeId} {x y : Operand} {z : Value} {bytes n : Nat} (ht : P.underlying t = some (.slice el)) (hi : (P.info? el).map (fun i => (i.zero, i.size, i.bytes)) = some (some z, 1, bytes)) (hz : z.cells = #[z])
    (hx : ρ x = .int .i64 (n : Int)) (hy : ρ y = .int .i64 (n : Int)) (hb : bytes * n ≤ 281474976710656) (h63 : n ≤ 9223372036854775807) :
    (execOp ρ ⟨d, .makeSlice t x y, ty, pos, af, g⟩).run P w = .ok (.value (.slice (some ⟨w.heap.size, 0, none⟩) n n)) (w.alloc (.cells (madeCells #[z] n) el)) := by
  have := run_make_row' (P := P) t el z bytes ht hi hz .i64 .i64 n hb h63 w
  simp [execOp, hx, hy, this]

/-- x[1:] of a slice that has an element. -/
theorem x_slice1 {t el : TypeId} {x : Operand} {b o n cap : Nat} {z : Value} {bytes : Nat} (ht : P.underlying t = some (.slice el)) (hi : (P.info? el).map (fun i => (i.zero, i.size, i.bytes)) = some (some z, 1, bytes))
    (hx : ρ x = .slice (some ⟨b, o, none⟩) (n + 1) cap) {c : Operand} (hc : ρ c = .int .i64 1) :
    (execOp ρ ⟨d, .slice t x (some c) none none, ty, pos, af, g⟩).run P w = .ok (.value (.slice (some ⟨b, if cap = 1 then o else o + 1, none⟩) n (cap - 1))) w := by
  obtain ⟨i, hi1, _, hi3, _⟩ := info_parts hi
  have : (Instr.slice t (.slice (some ⟨b, o, none⟩) (n + 1) cap) (some (.int .i64 1)) none none).run P w = .ok (.slice (some ⟨b, if cap = 1 then o else o + 1, none⟩) n (cap - 1)) w := by
    unfold Instr.slice Instr.sliceBounds Instr.sliceBound
    simp only [Sem.run_bind, run_underlying ht, Result.andThen_ok, Sem.run_pure, asIntOf]
    have h1 : (0 : Int) ≤ 1 ∧ (1 : Int) ≤ ((n + 1 : Nat) : Int) := by omega
    simp only [if_pos h1, Sem.run_pure, Result.andThen_ok, sizeOf, typeInfo, Sem.run_bind]
    by_cases h : cap = 1
    · simp [h, hi1, hi3]
    · simp [h, hi1, hi3, Addr.add]
  simp [execOp, hx, hc, Instr.sliceAt, run_underlying ht, this]

/-- A queue: a row of one-cell elements, read from some place on. -/
def Qu (w : World) (base : Nat) (el : TypeId) (v : Value) (xs : List Value) : Prop :=
  ∃ g off cap cur, v = .slice (some ⟨g, off, none⟩) xs.length cap ∧ base ≤ g ∧ w.heap[g]? = some (.cells cur el (0, 0)) ∧ off + cap ≤ cur.size ∧ xs.length ≤ cap ∧ cap ≤ maxLen ∧ ∀ k u, xs[k]? = some u → cur[off + k]? = some u

theorem Qu.lt {base : Nat} {el : TypeId} {v : Value} {xs : List Value} (h : Qu w base el v xs) : ∀ k, v.ownBlock = some k → base ≤ k ∧ k < w.heap.size := by
  intro k hk
  obtain ⟨g, off, cap, cur, rfl, hb, hg, _⟩ := h
  have hk : g = k := Option.some.inj hk
  subst hk
  exact ⟨hb, (Array.getElem?_eq_some_iff.1 hg).1⟩
theorem Qu.congr {w' : World} {base : Nat} {el : TypeId} {v : Value} {xs : List Value} (h : Qu w base el v xs) (hk : ∀ k, v.ownBlock = some k → w'.heap[k]? = w.heap[k]?) : Qu w' base el v xs := by
  obtain ⟨g, off, cap, cur, rfl, hb, hg, r⟩ := h
  exact ⟨g, off, cap, cur, rfl, hb, (hk g rfl).trans hg, r⟩
theorem Qu.head {base : Nat} {el : TypeId} {v x : Value} {xs : List Value} (h : Qu w base el v (x :: xs)) : ∃ g off cap, v = .slice (some ⟨g, off, none⟩) (xs.length + 1) cap ∧ w.cell? ⟨g, off + 0, none⟩ = some x ∧
    Qu w base el (.slice (some ⟨g, if cap = 1 then off else off + 1, none⟩) xs.length (cap - 1)) xs := by
  obtain ⟨g, off, cap, cur, rfl, hb, hg, hs, hl, hm, hc⟩ := h
  refine ⟨g, off, cap, rfl, ?_, g, _, cap - 1, cur, rfl, hb, hg, ?_, ?_, ?_, fun k u hk => ?_⟩
  · rw [cell_of_row w g _ cur el (0, 0) hg]; exact hc 0 x rfl
  · have : xs.length + 1 ≤ cap := hl
    split <;> omega
  · have : xs.length + 1 ≤ cap := hl
    omega
  · omega
  · have h1 : xs.length + 1 ≤ cap := hl
    have h2 := (List.getElem?_eq_some_iff.1 hk).1
    rw [if_neg (by omega)]
    have := hc (k + 1) u (by simpa using hk)
    rw [show off + 1 + k = off + (k + 1) by omega]; exact this

theorem x_appendQ {t el : TypeId} {s x : Operand} {z : Value} {bytes base : Nat}
    (ht : P.underlying t = some (.slice el)) (hi : (P.info? el).map (fun i => (i.zero, i.size, i.bytes)) = some (some z, 1, bytes)) (hzs : z.cells.size = 1)
    {v : Value} {xs : List Value} (hs : ρ s = v) (hown : Qu w base el v xs)
    {b : Nat} {u : Value} (hx : ρ x = .slice (some ⟨b, 0, none⟩) 1 1) (hu : w.cell? ⟨b, 0, none⟩ = some u) (h1 : u.oneCell' = true)
    (hbytes : (xs.length + 1) * bytes ≤ 140737488355328) (hb0 : 0 < bytes) (hbase : base ≤ w.heap.size) :
    ∃ v' w', (execOp ρ ⟨d, .call { callee := .builtin .append, args := #[s, x], argTypes := #[t, t] }, ty, pos, af, g⟩).run P w = .ok (.value v') w' ∧
      Qu w' base el v' (xs ++ [u]) ∧ w.grownBy w' v.ownBlock ∧ (v'.ownBlock = v.ownBlock ∨ v'.ownBlock = some w.heap.size) := by
  obtain ⟨i, hi1, hi2, hi3, hi4⟩ := info_parts hi
  have h63 : xs.length + 1 ≤ maxLen := by
    have : xs.length + 1 ≤ (xs.length + 1) * bytes := Nat.le_mul_of_pos_right _ hb0
    simp only [maxLen]; omega
  have hnews : ∀ j y, [u][j]? = some y → w.cell? ((⟨b, 0, none⟩ : Addr).add j) = some y := fun j y hj => by
    cases j with
    | zero => simp at hj; subst hj; simpa [Addr.add] using hu
    | succ j => simp at hj
  have h1' : ∀ y ∈ [u], y.oneCell' = true := fun y hy => by simp at hy; subst hy; exact h1
  obtain ⟨gg, off, cap, cur, rfl, hb, hg, hsz, hl, hm, hc⟩ := hown
  by_cases hr : xs.length + 1 ≤ cap
  · have hlt : off + xs.length < cur.size := by omega
    have hr2 := run_append_room_cells (P := P) w t ty el i ht hi1 gg off xs.length cap ⟨b, 0, none⟩ 1 1 [u] (by rw [hi3]; rfl) hnews h1' hr
      (fun j hj => by
        have : j = 0 := by simpa using hj
        subst this
        rw [hi3, cell_of_row w gg _ cur el (0, 0) hg, Nat.mul_one, Nat.add_zero, Array.getElem?_eq_getElem hlt]; rfl)
      (fun j hj => frozen_of_row w gg _ cur el hg)
    refine ⟨.slice (some ⟨gg, off, none⟩) (xs.length + 1) cap, w.setCells gg (off + xs.length * i.size) [u], by unfold execOp; simp only [resolve, invoke, builtin, Sem.run_bind, Sem.run_pure, Result.andThen_ok, List.map_toArray, List.map_cons, List.map_nil, hs, hx, hr2], ?_, ?_, .inl rfl⟩
    · rw [hi3, Nat.mul_one]
      refine ⟨gg, off, cap, cur.setIfInBounds (off + xs.length) u, by simp, hb, ?_, by simpa using hsz, by simpa using hr, hm, fun k y hk => ?_⟩
      · show (w.setCell ⟨gg, off + xs.length, none⟩ u).heap[gg]? = _
        unfold World.setCell
        simp only [Array.getElem?_modify, if_true]
        rw [hg]
        rfl
      · rw [Array.getElem?_setIfInBounds]
        by_cases e : k < xs.length
        · rw [List.getElem?_append_left e] at hk
          rw [if_neg (by omega)]
          exact hc k y hk
        · have hk1 := (List.getElem?_eq_some_iff.1 hk).1
          have : k = xs.length := by simp at hk1; omega
          subst this
          rw [List.getElem?_append_right (Nat.le_refl _)] at hk
          simp at hk
          subst hk
          rw [if_pos rfl, if_pos hlt]
    · refine ⟨rfl, rfl, rfl, ?_, fun k hk hne => ?_⟩
      · show w.heap.size ≤ (w.setCell _ u).heap.size
        simp [World.setCell]
      · exact Below.heap_setCell _ _ _ _ (fun e => hne (by rw [e]; rfl))
  · obtain ⟨v', w', hr2, h2, h3⟩ := run_append_arg_grows (P := P) w t ty el i z 1 bytes ht hi1 hi2 hi3 hi4 hzs (by omega) ⟨gg, off, none⟩ xs.length cap xs (by simp) (fun j y hj => by
        rw [Addr.add_lit, cell_of_row w gg _ cur el (0, 0) hg]; exact hc j y hj) ⟨b, 0, none⟩ 1 1 [u] rfl hnews (by omega) h63 hbytes
    refine ⟨v', w', by unfold execOp; simp only [resolve, invoke, builtin, Sem.run_bind, Sem.run_pure, Result.andThen_ok, List.map_toArray, List.map_cons, List.map_nil, hs, hx, hr2], ?_, ⟨h3.os, h3.tape, h3.output, h3.size, fun k hk _ => h3.block k hk (by simp)⟩, ?_⟩
    · rcases h2.2 with ⟨_, h0⟩ | ⟨g', cap', cur', rfl, hb', hg', hn', hm', hs', ht'⟩
      · omega
      · refine ⟨g', 0, cap', cur', by simp, by omega, hg', by omega, by simpa using hn', hm', fun k y hk => ?_⟩
        rw [← ht', List.getElem?_take] at hk
        split at hk
        · rw [Array.getElem?_toList] at hk
          rw [Nat.zero_add]; exact hk
        · cases hk
    · rcases h2.2 with ⟨_, h0⟩ | ⟨g', cap', cur', rfl, hb', hg', _⟩
      · omega
      · right
        have hr3 := run_append_grow (P := P) w t ty el i z ht hi1 hi2 ⟨gg, off, none⟩ xs.length cap xs (by rw [hi3]; simp) (fun j y hj => by
          rw [Addr.add_lit, cell_of_row w gg _ cur el (0, 0) hg]; exact hc j y hj) ⟨b, 0, none⟩ 1 1 [u] (by rw [hi3]; rfl) hnews (by omega) (by simp only [maxLen] at h63; omega) (growslice_fits (by omega) (by rw [hi4]; exact hbytes))
        rw [hr3] at hr2
        injection hr2 with h4 h5
        rw [← h4]; rfl
end
theorem EL_appendQ {P : Program} {ops : Array Oper} {N : Nat} {Q : Env → World → Prop} {e : Env} {w : World} {rest : List Oper} {d : Nat} {s x : Operand} {t el : TypeId} {ty : TypeId} {pos : String} {af : Array Edge} {z : Value} {bytes base : Nat}
    {v : Value} {xs : List Value} {b : Nat} {u : Value}
    (hown : Qu w base el v xs) (hu : w.cell? ⟨b, 0, none⟩ = some u) (h1 : u.oneCell' = true) (hbytes : (xs.length + 1) * bytes ≤ 140737488355328) (hb0 : 0 < bytes) (hbase : base ≤ w.heap.size)
    (ht : P.underlying t = some (.slice el)) (hi : (P.info? el).map (fun i => (i.zero, i.size, i.bytes)) = some (some z, 1, bytes)) (hzs : z.cells.size = 1)
    (hs : e.ev s = v) (hx : e.ev x = .slice (some ⟨b, 0, none⟩) 1 1)
    (hk : okO N ⟨some d, .call { callee := .builtin .append, args := #[s, x], argTypes := #[t, t] }, ty, pos, af, none⟩ = true)
    (h : ∀ v' w', Qu w' base el v' (xs ++ [u]) → w.grownBy w' v.ownBlock → (v'.ownBlock = v.ownBlock ∨ v'.ownBlock = some w.heap.size) → EL P ops N Q rest (e.set d v') w') :
    EL P ops N Q (⟨some d, .call { callee := .builtin .append, args := #[s, x], argTypes := #[t, t] }, ty, pos, af, none⟩ :: rest) e w := by
  obtain ⟨v', w', hr, h2, h3, h4⟩ := x_appendQ (d := some d) (ty := ty) (pos := pos) (af := af) (g := none) ht hi hzs hs hown hx hu h1 hbytes hb0 hbase
  exact EL_v hr hk (h v' w' h2 h3 h4)
end Go.Eng
