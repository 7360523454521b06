/- An argument of a row, opened: it reads as a function as data. -/
import Derived.Test.YteepnepebilckaaD1
import Derived.Test.YteepnepebilckaaRows
import Derived.Lib.SmallJoins
import Derived.ProofKit
import Derived.Carry
namespace Go.Proofs.Yteepnepebilckaa
open Go Go.ChangeShapes Go.WideShapes Go.ChangeAt Go.RowKit Go.Deep Go.Joins

section
variable {H : Type} {enc : TypeId × Value → H} {w : World} {spare : Nat → Bool}

theorem len4 {α : Type} {l : List α} (h : l.length = 4) : ∃ a b c d, l = [a, b, c, d] := by
  match l, h with
  | [a, b, c, d], _ => exact ⟨a, b, c, d, rfl⟩

/-- A slice of integers. -/
theorem open_intsV {t e : TypeId} {fuel : Nat} {v : Value} {x : DataW H × List MemPlace} (ht : Try.prog.underlying t = some (.slice e)) (he : Try.prog.underlying e = some (.int .i64)) (hc : Try.prog.cellsOf e = 1)
    (h : DataW.trod enc Try.prog w 0 (fun _ => true) true fuel t [v] = some x) : ∃ l, IntsV w v l := by
  rcases open_ints ht he hc h with ⟨h1, _⟩ | ⟨a, len, cap, zs, h1, _, hl, _, hz, _, hcell, _⟩
  · simp only [List.cons.injEq, and_true] at h1
    subst h1
    exact ⟨[], none, 0, rfl, Nat.le_refl _, .inl rfl⟩
  · simp only [List.cons.injEq, and_true] at h1
    subst h1
    simp only [if_true] at hz
    have hlen : (zs.take len).length = len := by rw [List.length_take]; omega
    refine ⟨zs.take len, some a, cap, by rw [hlen], by rw [hlen]; exact hl, ?_⟩
    cases len with
    | zero => exact .inl (by simp)
    | succ n =>
      right
      obtain ⟨b, o, spot⟩ := a
      have h0 := hcell 0 (by omega)
      have hs : spot = none := by
        have := World.cell?_spot h0
        simpa [Addr.add] using this
      subst hs
      refine ⟨b, o, rfl, fun k hk => ?_⟩
      rw [hlen] at hk
      have h1 := hcell k (by omega)
      rw [add_plain] at h1
      have hg : (zs.take (n + 1)).getD k 0 = zs.getD k 0 := by
        rw [List.getD_eq_getElem?_getD, List.getD_eq_getElem?_getD, List.getElem?_take, if_pos hk]
      rw [h1, hg]

theorem trod_cells4 {t : TypeId} {f0 f1 f2 f3 : Field} {fuel : Nat} {b o : Nat} {cs : List Value} {x : DataW H × List MemPlace}
    (ht : Try.prog.underlying t = some (.struct #[f0, f1, f2, f3])) (hC : Try.prog.cellsOf t = 4)
    (h0 : f0.offset = 0 ∧ Try.prog.cellsOf f0.type = 1 ∧ Try.prog.underlying f0.type = some (.int .i64)) (h1 : f1.offset = 1 ∧ Try.prog.cellsOf f1.type = 1 ∧ Try.prog.underlying f1.type = some (.int .i64))
    (h2 : f2.offset = 2 ∧ Try.prog.cellsOf f2.type = 1 ∧ f2.type = 34) (h3 : f3.offset = 3 ∧ Try.prog.cellsOf f3.type = 1 ∧ Try.prog.underlying f3.type = some (.int .i64))
    (hcs : ∀ i, i < 4 → w.cell? ⟨b, o + i, none⟩ = cs[i]?)
    (h : DataW.trod enc Try.prog w 0 (fun _ => true) true fuel t cs = some x) : ∃ p q l z, Quad w b o p q l z := by
  obtain ⟨xs, n, _, _, hl, hx, hf⟩ := DataW.trod_struct ht h
  rw [hC] at hl
  obtain ⟨c0, c1, c2, c3, rfl⟩ := len4 hl
  obtain ⟨y0, y1, y2, y3, rfl⟩ := len4 (hx.trans rfl)
  have k0 := hf 0 f0 rfl
  have k1 := hf 1 f1 rfl
  have k2 := hf 2 f2 rfl
  have k3 := hf 3 f3 rfl
  rw [h0.1, h0.2.1] at k0
  rw [h1.1, h1.2.1] at k1
  rw [h2.1, h2.2.1, h2.2.2] at k2
  rw [h3.1, h3.2.1] at k3
  obtain ⟨p, e0, _⟩ := DataW.trod_int h0.2.2 (show DataW.trod enc Try.prog w 0 (fun _ => true) true n f0.type [c0] = some y0 from k0)
  obtain ⟨q, e1, _⟩ := DataW.trod_int h1.2.2 (show DataW.trod enc Try.prog w 0 (fun _ => true) true n f1.type [c1] = some y1 from k1)
  obtain ⟨z, e3, _⟩ := DataW.trod_int h3.2.2 (show DataW.trod enc Try.prog w 0 (fun _ => true) true n f3.type [c3] = some y3 from k3)
  obtain ⟨l, hli⟩ := open_intsV Try.underlying34 Try.underlying3 (by kernel_rfl) (show DataW.trod enc Try.prog w 0 (fun _ => true) true n 34 [c2] = some y2 from k2)
  simp only [List.cons.injEq, and_true] at e0 e1 e3
  subst e0; subst e1; subst e3
  refine ⟨p, q, l, z, c2, fun j v hj => ?_, hli⟩
  have hlt : j < 4 := by
    have := (List.getElem?_eq_some_iff.1 hj).1
    simpa using this
  rw [hcs j hlt]; exact hj

theorem open_vals {fuel : Nat} {v : Value} {x : DataW H × List MemPlace} (h : DataW.trod enc Try.prog w 0 (fun _ => true) true fuel 22 [v] = some x) : ∃ l, ValsV w v l := by
  rcases open_slice Try.underlying22 h with ⟨h1, _⟩ | ⟨a, len, cap, m, n, D, Pl, h1, _, hl, _, hm, _, hx⟩
  · simp only [List.cons.injEq, and_true] at h1
    subst h1
    exact ⟨[], none, 0, rfl, .inl rfl⟩
  · simp only [List.cons.injEq, and_true] at h1
    subst h1
    simp only [if_true] at hm
    have hC : Try.prog.cellsOf 36 = 4 := by kernel_rfl
    cases len with
    | zero => exact ⟨[], some a, cap, rfl, .inl rfl⟩
    | succ k =>
      obtain ⟨b, o, spot⟩ := a
      have hs : spot = none := by
        obtain ⟨cs', h2, _⟩ := hx 0 (by omega)
        obtain ⟨_, h3, h4⟩ := World.cells?_some h2
        have h5 := h4 0 (by rw [hC]; omega)
        rw [List.getElem?_eq_getElem (by omega)] at h5
        have := World.cell?_spot h5
        simpa [Addr.add] using this
      subst hs
      have hq : ∀ i, i < k + 1 → ∃ (y : Int × Int × List Int × Int), Quad w b (o + i * 4) y.1 y.2.1 y.2.2.1 y.2.2.2 := fun i hi => by
        obtain ⟨cs', h2, h3⟩ := hx i (by omega)
        rw [hC] at h2
        obtain ⟨_, h4, h5⟩ := World.cells?_some h2
        obtain ⟨p, q, l, z, hq⟩ := trod_cells4 (b := b) (o := o + i * 4) Try.underlying36 hC ⟨rfl, by kernel_rfl, Try.underlying3⟩ ⟨rfl, by kernel_rfl, Try.underlying3⟩ ⟨rfl, by kernel_rfl, rfl⟩ ⟨rfl, by kernel_rfl, Try.underlying2⟩ (fun j hj => by
          have := h5 j hj
          rw [add_plain, add_plain] at this
          exact this) h3
        exact ⟨(p, q, l, z), hq⟩
      obtain ⟨Y, hY⟩ := choose_lt hq
      refine ⟨(List.range (k + 1)).map fun i => ⟨(Y i).1, (Y i).2.1, (Y i).2.2.1, (Y i).2.2.2⟩, some ⟨b, o, none⟩, cap, by simp, .inr ⟨b, o, rfl, fun i hi => ?_⟩⟩
      have hi' : i < k + 1 := by simpa using hi
      rw [List.getD_eq_getElem?_getD, List.getElem?_map, List.getElem?_range hi']
      exact hY i hi'
theorem open_blks {fuel : Nat} {v : Value} {x : DataW H × List MemPlace} (h : DataW.trod enc Try.prog w 0 (fun _ => true) true fuel 23 [v] = some x) : ∃ l, BlksV w v l := by
  rcases open_slice Try.underlying23 h with ⟨h1, _⟩ | ⟨a, len, cap, m, n, D, Pl, h1, _, hl, _, hm, _, hx⟩
  · simp only [List.cons.injEq, and_true] at h1
    subst h1
    exact ⟨[], none, 0, rfl, .inl rfl⟩
  · simp only [List.cons.injEq, and_true] at h1
    subst h1
    simp only [if_true] at hm
    have hC : Try.prog.cellsOf 38 = 4 := by kernel_rfl
    cases len with
    | zero => exact ⟨[], some a, cap, rfl, .inl rfl⟩
    | succ k =>
      obtain ⟨b, o, spot⟩ := a
      have hs : spot = none := by
        obtain ⟨cs', h2, _⟩ := hx 0 (by omega)
        obtain ⟨_, h3, h4⟩ := World.cells?_some h2
        have h5 := h4 0 (by rw [hC]; omega)
        rw [List.getElem?_eq_getElem (by omega)] at h5
        have := World.cell?_spot h5
        simpa [Addr.add] using this
      subst hs
      have hq : ∀ i, i < k + 1 → ∃ (y : Int × Int × List Int × Int), Quad w b (o + i * 4) y.1 y.2.1 y.2.2.1 y.2.2.2 := fun i hi => by
        obtain ⟨cs', h2, h3⟩ := hx i (by omega)
        rw [hC] at h2
        obtain ⟨_, h4, h5⟩ := World.cells?_some h2
        obtain ⟨p, q, l, z, hq⟩ := trod_cells4 (b := b) (o := o + i * 4) Try.underlying38 hC ⟨rfl, by kernel_rfl, Try.underlying3⟩ ⟨rfl, by kernel_rfl, Try.underlying3⟩ ⟨rfl, by kernel_rfl, rfl⟩ ⟨rfl, by kernel_rfl, Try.underlying3⟩ (fun j hj => by
          have := h5 j hj
          rw [add_plain, add_plain] at this
          exact this) h3
        exact ⟨(p, q, l, z), hq⟩
      obtain ⟨Y, hY⟩ := choose_lt hq
      refine ⟨(List.range (k + 1)).map fun i => ⟨(Y i).1, (Y i).2.1, (Y i).2.2.1, (Y i).2.2.2⟩, some ⟨b, o, none⟩, cap, by simp, .inr ⟨b, o, rfl, fun i hi => ?_⟩⟩
      have hi' : i < k + 1 := by simpa using hi
      rw [List.getD_eq_getElem?_getD, List.getElem?_map, List.getElem?_range hi']
      exact hY i hi'

set_option maxRecDepth 100000 in
theorem open_fn {r : Reach} {b0 : Nat} {v : Value} {d : DataW H} {p : List MemPlace} (hv : Value.okWide Try.prog w r b0 25 v)
    (h : DataW.Trod enc Try.prog w 0 (fun _ => true) true 25 v d p) : ∃ f, FnV w v f := by
  obtain ⟨v0, v1, y0, y1, n, rfl, _, _, h0, h1⟩ := open_agg2 Try.underlying25 (by kernel_rfl) (by kernel_rfl) hv h
  obtain ⟨l0, k0⟩ := open_vals h0
  obtain ⟨l1, k1⟩ := open_blks h1
  exact ⟨⟨l0, l1⟩, v0, v1, rfl, k0, k1⟩
set_option maxRecDepth 100000 in
/-- The inputs. -/
theorem open_ins {r : Reach} {b0 : Nat} {v : Value} {d : DataW H} {p : List MemPlace} (hv : Value.okWide Try.prog w r b0 39 v)
    (h : DataW.Trod enc Try.prog w 0 (fun _ => true) true 39 v d p) : ∃ l, IntsV w v l := by
  obtain ⟨a, n, c, rfl⟩ := okWide_slice Try.underlying39 hv
  obtain ⟨fuel, hf⟩ := h
  exact open_intsV Try.underlying39 Try.underlying2 (by kernel_rfl) (show DataW.trod enc Try.prog w 0 (fun _ => true) true fuel 39 [.slice a n c] = some (d, p) from hf)
end
theorem ownK : ownKnob Try.prog.godebug = none := by kernel_rfl
theorem laidK : laidOutB Try.prog = true := by kernel_rfl
end Go.Proofs.Yteepnepebilckaa
