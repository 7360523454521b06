/- The engine: what holds at a loop's head; small things. -/
import Derived.Test.YteepnepebilckaaE3
namespace Go.Eng
open Go Go.RowKit

def Env.sets (e : Env) : List (Nat × Value) → Env
  | [] => e
  | x :: r => (e.sets r).set x.1 x.2
def Holds (e : Env) : List (Nat × Value) → Prop
  | [] => True
  | x :: r => e.t x.1 = x.2 ∧ Holds e r

theorem Env.ext' {e e' : Env} (h : ∀ k, e.t k = e'.t k) (hd : e.d = e'.d) : e = e' := by
  cases e; cases e'
  have : _ = _ := funext h
  simp_all
theorem set_self {e : Env} {k : Nat} {v : Value} (h : e.t k = v) : e.set k v = e := by
  refine Env.ext' (fun j => ?_) rfl
  show (bif Nat.beq j k then v else e.t j) = e.t j
  cases hb : Nat.beq j k with
  | true => rw [Eng.beq_true hb, h]; rfl
  | false => rfl
theorem sets_self {e : Env} : ∀ {l : List (Nat × Value)}, Holds e l → e.sets l = e
  | [], _ => rfl
  | x :: r, h => by
    show (e.sets r).set x.1 x.2 = e
    rw [sets_self h.2, set_self h.1]
/-- The frame at a loop's head: named slots, the rest anything. -/
def At (e : Env) (l : List (Nat × Value)) : Prop := ∃ t, e = Env.sets ⟨t, []⟩ l
theorem at_of {e : Env} {l : List (Nat × Value)} (hd : e.d = []) (h : Holds e l) : At e l := by
  refine ⟨e.t, ?_⟩
  have : (⟨e.t, []⟩ : Env) = e := by cases e; simp_all
  rw [this, sets_self h]

theorem size_alloc (w : World) (o : Obj) : (w.alloc o).heap.size = w.heap.size + 1 := Array.size_push _
/-- A struct variable that is new is written whole. -/
theorem alloc_setRow (w : World) (z cs : Array Value) (T : TypeId) : (w.alloc (.cells z T)).setRow w.heap.size cs = w.alloc (.cells cs T) := by
  have hh : ((w.alloc (.cells z T)).setRow w.heap.size cs).heap = (w.alloc (.cells cs T)).heap := by
    apply Array.ext_getElem?
    intro i
    by_cases e : i = w.heap.size
    · subst e
      rw [setRow_heap _ _ z cs T (0, 0) (heap_alloc_new w _), heap_alloc_new]
    · rw [setRow_other _ _ _ _ e]
      simp only [World.alloc, Array.getElem?_push, e, if_false]
  unfold World.setRow World.alloc at *
  simp only at hh ⊢
  rw [hh]

theorem x_storeNew {P : Program} {w0 : World} {ρ : Operand → Value} {d : Option Tmp} {ty : TypeId} {pos : String} {af : Array Edge} {g : Option (Nat × Bool)} {t T : TypeId} {x y : Operand} {z cs : Array Value}
    (hx : ρ x = .pointer (some ⟨w0.heap.size, 0, none⟩)) (hy : ρ y = .agg cs) (ht : sizeB P t cs.size = true) (hz : z.size = cs.size) (h1 : cs.toList.all (·.oneCell') = true) :
    (execOp ρ ⟨d, .store t x y, ty, pos, af, g⟩).run P (w0.alloc (.cells z T)) = .ok .skip (w0.alloc (.cells cs T)) := by
  rw [x_storeS hx hy (heap_alloc_new w0 _) ht hz h1, alloc_setRow]

/-- The append of one element of one cell, of a row of the call's own. -/
theorem EL_append1 {P : Program} {ops : Array Oper} {N : Nat} {Q : Env → World → Prop} {e : Env} {w : World} {rest : List Oper} {d : Nat} {s x : Operand} {t el : TypeId} {ty : TypeId} {pos : String} {af : Array Edge} {z : Value} {bytes base : Nat}
    {v : Value} {n : Nat} {xs : List Value} {b : Nat} {u : Value}
    (hown : w.ownsRow base el 1 v n xs) (hu : w.cell? ⟨b, 0, none⟩ = some u) (h1 : u.oneCell' = true) (hbytes : (n + 1) * bytes ≤ 140737488355328) (hb0 : 0 < bytes) (hbase : base ≤ w.heap.size)
    (ht : P.underlying t = some (.slice el)) (hi : (P.info? el).map (fun i => (i.zero, i.size, i.bytes)) = some (some z, 1, bytes)) (hzs : z.cells.size = 1)
    (hs : e.ev s = v) (hx : e.ev x = .slice (some ⟨b, 0, none⟩) 1 1)
    (hk : okO N ⟨some d, .call { callee := .builtin .append, args := #[s, x], argTypes := #[t, t] }, ty, pos, af, none⟩ = true)
    (h : ∀ v' w', w'.ownsRow base el 1 v' (n + 1) (xs ++ [u]) → w.grownBy w' v.ownBlock → (v'.ownBlock = v.ownBlock ∨ v'.ownBlock = some w.heap.size) → EL P ops N Q rest (e.set d v') w') :
    EL P ops N Q (⟨some d, .call { callee := .builtin .append, args := #[s, x], argTypes := #[t, t] }, ty, pos, af, none⟩ :: rest) e w := by
  obtain ⟨v', w', hr, h2, h3, h4⟩ := x_append1 (d := some d) (ty := ty) (pos := pos) (af := af) (g := none) ht hi hzs hs hown hx hu h1 hbytes hb0 hbase
  exact EL_v hr hk (h v' w' h2 h3 h4)
theorem DL_append1 {P : Program} {l : List Oper} {S : World → Prop} {Q : Env → World → Prop} {r : List (Nat × Bool)} {e : Env} {w : World} {i d : Nat} {s x : Operand} {t el : TypeId} {ty : TypeId} {pos : String} {af : Array Edge} {z : Value} {bytes base : Nat}
    {v : Value} {n : Nat} {xs : List Value} {b : Nat} {u : Value}
    (hown : w.ownsRow base el 1 v n xs) (hu : w.cell? ⟨b, 0, none⟩ = some u) (h1 : u.oneCell' = true) (hbytes : (n + 1) * bytes ≤ 140737488355328) (hb0 : 0 < bytes) (hbase : base ≤ w.heap.size)
    (ho : nthO l i = ⟨some d, .call { callee := .builtin .append, args := #[s, x], argTypes := #[t, t] }, ty, pos, af, none⟩)
    (ht : P.underlying t = some (.slice el)) (hi : (P.info? el).map (fun i => (i.zero, i.size, i.bytes)) = some (some z, 1, bytes)) (hzs : z.cells.size = 1)
    (hs : e.ev s = v) (hx : e.ev x = .slice (some ⟨b, 0, none⟩) 1 1)
    (h : ∀ v' w', w'.ownsRow base el 1 v' (n + 1) (xs ++ [u]) → w.grownBy w' v.ownBlock → (v'.ownBlock = v.ownBlock ∨ v'.ownBlock = some w.heap.size) → (r = [] ∨ S w') ∧ DL P l S Q r (e.set d v') w') :
    DL P l S Q ((i, true) :: r) e w := by
  obtain ⟨v', w', hr, h2, h3, h4⟩ := x_append1 (d := some d) (ty := ty) (pos := pos) (af := af) (g := none) ht hi hzs hs hown hx hu h1 hbytes hb0 hbase
  obtain ⟨h5, h6⟩ := h v' w' h2 h3 h4
  exact DL_wv ho hr h5 h6

/-- The append of what a slice holds (a list of cells), of a row of the call's own. -/
theorem EL_append {P : Program} {ops : Array Oper} {N : Nat} {Q : Env → World → Prop} {e : Env} {w : World} {rest : List Oper} {d : Nat} {s x : Operand} {t el : TypeId} {ty : TypeId} {pos : String} {af : Array Edge} {z : Value} {size bytes base : Nat}
    {v : Value} {n : Nat} {xs : List Value} {ad : Addr} {m c : Nat} {news : List Value}
    (hown : w.ownsRow base el size v n xs) (hnews : ∀ j u, news[j]? = some u → w.cell? (ad.add j) = some u) (h1 : ∀ u ∈ news, u.oneCell' = true) (hl : news.length = m * size) (hbytes : (n + m) * bytes ≤ 140737488355328) (hb0 : 0 < bytes) (hbase : base ≤ w.heap.size)
    (ht : P.underlying t = some (.slice el)) (hi : (P.info? el).map (fun i => (i.zero, i.size, i.bytes)) = some (some z, size, bytes)) (hzs : z.cells.size = size) (hsz : 0 < size)
    (hs : e.ev s = v) (hx : e.ev x = .slice (some ad) m c)
    (hk : okO N ⟨some d, .call { callee := .builtin .append, args := #[s, x], argTypes := #[t, t] }, ty, pos, af, none⟩ = true)
    (h : ∀ v' w', w'.ownsRow base el size v' (n + m) (xs ++ news) → w.grownBy w' v.ownBlock → (v'.ownBlock = v.ownBlock ∨ v'.ownBlock = some w.heap.size) → EL P ops N Q rest (e.set d v') w') :
    EL P ops N Q (⟨some d, .call { callee := .builtin .append, args := #[s, x], argTypes := #[t, t] }, ty, pos, af, none⟩ :: rest) e w := by
  obtain ⟨v', w', hr, h2, h3, _, h4⟩ := x_append (d := some d) (ty := ty) (pos := pos) (af := af) (g := none) ht hi hzs hsz hs hown hx hl hnews h1 hbytes hb0 hbase
  exact EL_v hr hk (h v' w' h2 h3 h4)
theorem DL_append {P : Program} {l : List Oper} {S : World → Prop} {Q : Env → World → Prop} {r : List (Nat × Bool)} {e : Env} {w : World} {i d : Nat} {s x : Operand} {t el : TypeId} {ty : TypeId} {pos : String} {af : Array Edge} {z : Value} {size bytes base : Nat}
    {v : Value} {n : Nat} {xs : List Value} {ad : Addr} {m c : Nat} {news : List Value}
    (hown : w.ownsRow base el size v n xs) (hnews : ∀ j u, news[j]? = some u → w.cell? (ad.add j) = some u) (h1 : ∀ u ∈ news, u.oneCell' = true) (hl : news.length = m * size) (hbytes : (n + m) * bytes ≤ 140737488355328) (hb0 : 0 < bytes) (hbase : base ≤ w.heap.size)
    (ho : nthO l i = ⟨some d, .call { callee := .builtin .append, args := #[s, x], argTypes := #[t, t] }, ty, pos, af, none⟩)
    (ht : P.underlying t = some (.slice el)) (hi : (P.info? el).map (fun i => (i.zero, i.size, i.bytes)) = some (some z, size, bytes)) (hzs : z.cells.size = size) (hsz : 0 < size)
    (hs : e.ev s = v) (hx : e.ev x = .slice (some ad) m c)
    (h : ∀ v' w', w'.ownsRow base el size v' (n + m) (xs ++ news) → w.grownBy w' v.ownBlock → (v'.ownBlock = v.ownBlock ∨ v'.ownBlock = some w.heap.size) → (r = [] ∨ S w') ∧ DL P l S Q r (e.set d v') w') :
    DL P l S Q ((i, true) :: r) e w := by
  obtain ⟨v', w', hr, h2, h3, _, h4⟩ := x_append (d := some d) (ty := ty) (pos := pos) (af := af) (g := none) ht hi hzs hsz hs hown hx hl hnews h1 hbytes hb0 hbase
  obtain ⟨h5, h6⟩ := h v' w' h2 h3 h4
  exact DL_wv ho hr h5 h6

section
variable {P : Program} {N : Nat} {c : Code} {Q : Exit → Env → World → Prop} {e : Env} {w : World} {I : Nat → Env → World → Prop} {n i j : Nat}
/-- The way on from a loop, under one name. -/
def onlyN (Φ : Env → World → Prop) : Exit → Env → World → Prop
  | .normal, e, w => Φ e w
  | _, _, _ => False
theorem onlyN_in {Φ : Env → World → Prop} (h : Φ e w) : onlyN Φ .normal e w := h
theorem EC_seq_cut {c' : Code} (Φ : Env → World → Prop) (h1 : EC P N c (onlyN Φ) e w) (h2 : ∀ e w, Φ e w → EC P N c' Q e w) : EC P N (.seq c c') Q e w := by
  refine EC_seq (EC.mono h1 fun x e w hx => ?_)
  cases x <;> first | exact h2 e w hx | exact hx.elim
theorem ownsRow_one {w : World} {base : Nat} {el : TypeId} {size : Nat} {v : Value} {n : Nat} {xs : List Value} (h : w.ownsRow base el size v n xs) : v.oneCell' = true := by
  rcases h.2 with ⟨rfl, _⟩ | ⟨g, cap, cur, rfl, _⟩ <;> rfl
theorem thenQ_normal (h : EC P N c Q e w) : thenQ P N c Q .normal e w := h
theorem thenQ_exit (h : Q (.exit i) e w) : thenQ P N c Q (.exit i) e w := h
theorem thenQ_ret (h : Q .ret e w) : thenQ P N c Q .ret e w := h
theorem loopQ_next (m : Nat) (hm : m < n) (h : I m e w) : loopQ I n Q .normal e w := ⟨m, hm, h⟩
theorem loopQ_exit (h : Q (.exit i) e w) : loopQ I n Q (.exit i) e w := h
theorem loopQ_ret (h : Q .ret e w) : loopQ I n Q .ret e w := h
theorem blockQ_hit (h : Q .normal e w) : blockQ i Q (.exit i) e w := by
  show (bif Nat.beq i i then Q .normal e w else _)
  rw [Nat.beq_refl]; exact h
theorem blockQ_miss (hb : Nat.beq j i = false) (h : Q (.exit j) e w) : blockQ i Q (.exit j) e w := by
  show (bif Nat.beq j i then Q .normal e w else _)
  rw [hb]; exact h
theorem blockQ_normal (h : Q .normal e w) : blockQ i Q .normal e w := h
theorem blockQ_ret (h : Q .ret e w) : blockQ i Q .ret e w := h
end
end Go.Eng
