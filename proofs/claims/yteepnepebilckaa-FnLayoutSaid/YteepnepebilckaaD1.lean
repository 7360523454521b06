/- Functions as data: plainly, and in memory. -/
import Derived.Test.YteepnepebilckaaG2
namespace Go.Proofs.Yteepnepebilckaa
open Go Go.Eng Go.RowKit

structure Vl where
  op : Int
  blk : Int
  args : List Int
  aux : Int
structure Bk where
  kind : Int
  ctrl : Int
  succs : List Int
  likely : Int
structure Fn where
  vals : List Vl
  blks : List Bk
instance : Inhabited Vl := ⟨⟨0, 0, [], 0⟩⟩
instance : Inhabited Bk := ⟨⟨0, -1, [], 0⟩⟩

def Fn.v (f : Fn) (i : Nat) : Vl := f.vals.getD i default
def Fn.b (f : Fn) (i : Nat) : Bk := f.blks.getD i default

/-- A slice of integers that is read. -/
def IntsAt (w : World) (a : Option Addr) (l : List Int) : Prop :=
  l = [] ∨ ∃ b o, a = some ⟨b, o, none⟩ ∧ ∀ k, k < l.length → w.cell? ⟨b, o + k, none⟩ = some (.int .i64 (l.getD k 0))
def IntsC (w : World) (a : Option Addr) (l : List Int) (c : Nat) : Prop := l.length ≤ c ∧ IntsAt w a l
theorem IntsC.get {w : World} {a : Option Addr} {l : List Int} {c : Nat} (h : IntsC w a l c) {k : Nat} (hk : k < l.length) : ∃ b o, a = some ⟨b, o, none⟩ ∧ w.cell? ⟨b, o + k, none⟩ = some (.int .i64 (l.getD k 0)) := by
  rcases h.2 with rfl | ⟨b, o, ha, hc⟩
  · simp at hk
  · exact ⟨b, o, ha, hc k hk⟩
def IntsV (w : World) (v : Value) (l : List Int) : Prop := ∃ a c, v = .slice a l.length c ∧ IntsC w a l c

/-- A struct of a value or of a block: its four cells. -/
def Quad (w : World) (b o : Nat) (x y : Int) (l : List Int) (z : Int) : Prop :=
  ∃ s, CellsAt w b o [.int .i64 x, .int .i64 y, s, .int .i64 z] ∧ IntsV w s l

def ValsV (w : World) (v : Value) (l : List Vl) : Prop :=
  ∃ a c, v = .slice a l.length c ∧ (l = [] ∨ ∃ b o, a = some ⟨b, o, none⟩ ∧ ∀ k, k < l.length → Quad w b (o + k * 4) (l.getD k default).op (l.getD k default).blk (l.getD k default).args (l.getD k default).aux)
def BlksV (w : World) (v : Value) (l : List Bk) : Prop :=
  ∃ a c, v = .slice a l.length c ∧ (l = [] ∨ ∃ b o, a = some ⟨b, o, none⟩ ∧ ∀ k, k < l.length → Quad w b (o + k * 4) (l.getD k default).kind (l.getD k default).ctrl (l.getD k default).succs (l.getD k default).likely)

def FnV (w : World) (v : Value) (f : Fn) : Prop := ∃ x y, v = .agg #[x, y] ∧ ValsV w x f.vals ∧ BlksV w y f.blks

theorem IntsV.keep {w w' : World} {v : Value} {l : List Int} (h : IntsV w v l) (k : Keep w w') : IntsV w' v l := by
  obtain ⟨a, c, hv, hlc, hl⟩ := h
  refine ⟨a, c, hv, hlc, ?_⟩
  rcases hl with hl | ⟨b, o, ha, hc⟩
  · exact .inl hl
  · exact .inr ⟨b, o, ha, fun i hi => k _ _ (hc i hi)⟩
theorem _root_.Go.Eng.CellsAt.keep {w w' : World} {b o : Nat} {cs : List Value} (h : CellsAt w b o cs) (k : Keep w w') : CellsAt w' b o cs := fun j v hv => k _ _ (h j v hv)
theorem Quad.keep {w w' : World} {b o : Nat} {x y : Int} {l : List Int} {z : Int} (h : Quad w b o x y l z) (k : Keep w w') : Quad w' b o x y l z := by
  obtain ⟨s, h1, h2⟩ := h
  exact ⟨s, h1.keep k, h2.keep k⟩
theorem ValsV.keep {w w' : World} {v : Value} {l : List Vl} (h : ValsV w v l) (k : Keep w w') : ValsV w' v l := by
  obtain ⟨a, c, hv, hl⟩ := h
  refine ⟨a, c, hv, ?_⟩
  rcases hl with hl | ⟨b, o, ha, hc⟩
  · exact .inl hl
  · exact .inr ⟨b, o, ha, fun i hi => (hc i hi).keep k⟩
theorem BlksV.keep {w w' : World} {v : Value} {l : List Bk} (h : BlksV w v l) (k : Keep w w') : BlksV w' v l := by
  obtain ⟨a, c, hv, hl⟩ := h
  refine ⟨a, c, hv, ?_⟩
  rcases hl with hl | ⟨b, o, ha, hc⟩
  · exact .inl hl
  · exact .inr ⟨b, o, ha, fun i hi => (hc i hi).keep k⟩
theorem FnV.keep {w w' : World} {v : Value} {f : Fn} (h : FnV w v f) (k : Keep w w') : FnV w' v f := by
  obtain ⟨x, y, hv, h1, h2⟩ := h
  exact ⟨x, y, hv, h1.keep k, h2.keep k⟩

/-- A block of memory that is new. -/
theorem new_cell {w : World} {o : Nat} {cs : Array Value} {T : TypeId} {v : Value} (hv : cs[o]? = some v) : (w.alloc (.cells cs T)).cell? ⟨w.heap.size, o, none⟩ = some v :=
  cell_block (heap_alloc_new w _) hv
theorem new_free {w : World} {o : Nat} {cs : Array Value} {T : TypeId} : (w.alloc (.cells cs T)).frozen? ⟨w.heap.size, o, none⟩ = false :=
  free_block (heap_alloc_new w _)

theorem keep_setRow {w : World} {b : Nat} {cs : Array Value} (hb : w.heap.size ≤ b) : Keep w (w.setRow b cs) := fun a v hv => by
  have hlt := World.block_lt_of_cell? w a hv
  rw [World.cell?_of_block (w := w) (w' := w.setRow b cs) (a := a) (setRow_other w b a.block cs (by omega))]
  exact hv

/-! ### the graph of a function -/
def predsOf (f : Fn) (b : Nat) : List Nat := (List.range f.blks.length).flatMap fun i => ((f.b i).succs.filter fun s => s == (b : Int)).map fun _ => i
def toG (f : Fn) : Gph where
  nv := f.vals.length
  nb := f.blks.length
  op i := (f.v i).op
  ty i := if 10 ≤ (f.v i).op ∧ (f.v i).op ≤ 12 then 1 else 0
  aux i := (f.v i).aux
  blk i := (f.v i).blk.toNat
  args i := (f.v i).args.map Int.toNat
  kind i := (f.b i).kind
  likely i := (f.b i).likely
  succs i := (f.b i).succs.map Int.toNat
  preds b := predsOf f b
  bvals b := (List.range f.vals.length).filter fun i => (f.v i).blk == (b : Int)
  ctrl i := if 0 ≤ (f.b i).ctrl then [(f.b i).ctrl.toNat] else []

/-- What the program asks of a function that it builds. -/
structure Wf (f : Fn) : Prop where
  nb : f.blks.length ≤ 9
  nv : f.vals.length ≤ 48
  one : 1 ≤ f.blks.length
  blk : ∀ i, i < f.vals.length → 0 ≤ (f.v i).blk ∧ (f.v i).blk < f.blks.length
  args : ∀ i, i < f.vals.length → (f.v i).args.length ≤ 64 ∧ ∀ a ∈ (f.v i).args, 0 ≤ a ∧ a < f.vals.length
  succs : ∀ i, i < f.blks.length → (f.b i).succs.length ≤ 2 ∧ ∀ s ∈ (f.b i).succs, 0 ≤ s ∧ s < f.blks.length
  ctrl : ∀ i, i < f.blks.length → -1 ≤ (f.b i).ctrl ∧ (f.b i).ctrl < f.vals.length
  likely : ∀ i, i < f.blks.length → -1 ≤ (f.b i).likely ∧ (f.b i).likely ≤ 1
end Go.Proofs.Yteepnepebilckaa
