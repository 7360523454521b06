/- What the layout keeps in memory. -/
import Derived.Test.YteepnepebilckaaY2
namespace Go.Proofs.Yteepnepebilckaa
open Go Go.Eng Go.RowKit

def idb (L : Lay) : Nat → Value := fun x => if x = 0 then .pointer none else L.bp (x - 1)
def rw4 (a b c d : Value) : Nat → Value
  | 0 => a
  | 1 => b
  | 2 => c
  | _ => d
def xs4 (L : Lay) (lo lz ls ds : List Nat) : Nat → List Value
  | 0 => lo.map L.bp
  | 1 => lz.map idv
  | 2 => ls.map idv
  | _ => ds.map idv
def el4 : Nat → TypeId
  | 0 => 76
  | _ => 77
def i64s (ind : Nat → Int) : Nat → Value := fun i => .int .i64 (ind i)

/-- The blocks that stay in their places. -/
structure Fix where
  O0 : Nat
  SCH : Nat
  IDB : Nat
  IND : Nat
  S1 : Nat
  Q1 : Nat
  S2 : Nat
  Q2 : Nat
  D : Nat
  m : Nat
structure FixOk (b : Nat) (F : Fix) : Prop where
  h0 : b ≤ F.O0
  h1 : F.O0 < F.SCH
  h2 : F.SCH < F.IDB
  h3 : F.IDB < F.IND
  h4 : F.IND < F.S1 ∧ F.IND < F.Q1 ∧ F.S1 ≠ F.Q1
  h5 : F.S1 < F.S2 ∧ F.S1 < F.Q2 ∧ F.Q1 < F.S2 ∧ F.Q1 < F.Q2 ∧ F.S2 ≠ F.Q2
  h6 : F.S2 < F.D ∧ F.Q2 < F.D

structure LS (L : Lay) (w0 : World) (F : Fix) (w : World) (ov zv sv dv : Value) (lo lz ls ds : List Nat) (sp ind : Nat → Int) (Sch : Nat → Bool) : Prop where
  rws : Rws w w0.heap.size 4 el4 (rw4 ov zv sv dv) (xs4 L lo lz ls ds)
  sep : ∀ i, i < 4 → ∀ k, (rw4 ov zv sv dv i).ownBlock = some k → k = F.O0 ∨ F.D ≤ k
  pos : SS w F.D F.S1 F.Q1 F.m dv ds sp
  ext : SS w F.D F.S2 F.Q2 F.m nilS [] (fun _ => 0)
  sch : w.heap[F.SCH]? = some (.cells (bools Sch F.m) 4 (0, 0))
  idb : w.heap[F.IDB]? = some (.cells (cellsOf (idb L) F.m) 76 (0, 0))
  ind : w.heap[F.IND]? = some (.cells (cellsOf (i64s ind) F.m) 3 (0, 0))
  bel : Below w0.heap.size w0 w
  sz : F.D ≤ w.heap.size

section
variable {L : Lay} {w0 w w' : World} {F : Fix} {ov zv sv dv : Value} {lo lz ls ds : List Nat} {sp ind : Nat → Int} {Sch : Nat → Bool}
theorem Rws.stay2 {w w' : World} {base n : Nat} {el : Nat → TypeId} {R : Nat → Value} {xs : Nat → List Value} (h : Rws w base n el R xs) (hk : ∀ i, i < n → ∀ k, (R i).ownBlock = some k → w'.heap[k]? = w.heap[k]?) : Rws w' base n el R xs :=
  ⟨fun i hi => ownsRow_congr (h.row i hi) fun k e => hk i hi k e, h.off⟩

theorem LS.move (h : LS L w0 F w ov zv sv dv lo lz ls ds sp ind Sch) {ind' : Nat → Int} {Sch' : Nat → Bool}
    (hr : ∀ i, i < 4 → ∀ k, (rw4 ov zv sv dv i).ownBlock = some k → w'.heap[k]? = w.heap[k]?)
    (h1 : w'.heap[F.S1]? = w.heap[F.S1]?) (h2 : w'.heap[F.Q1]? = w.heap[F.Q1]?) (h3 : w'.heap[F.S2]? = w.heap[F.S2]?) (h4 : w'.heap[F.Q2]? = w.heap[F.Q2]?) (h5 : w'.heap[F.IDB]? = w.heap[F.IDB]?)
    (hs : w'.heap[F.SCH]? = some (.cells (bools Sch' F.m) 4 (0, 0))) (hi : w'.heap[F.IND]? = some (.cells (cellsOf (i64s ind') F.m) 3 (0, 0)))
    (hb : Below w0.heap.size w0 w') (hz : F.D ≤ w'.heap.size) : LS L w0 F w' ov zv sv dv lo lz ls ds sp ind' Sch' :=
  ⟨h.rws.stay2 hr, h.sep, h.pos.stay h1 h2 fun k e => hr 3 (by decide) k e, h.ext.stay h3 h4 fun k e => (by cases e), hs, h5.trans h.idb, hi, hb, hz⟩
theorem LS.below (h : LS L w0 F w ov zv sv dv lo lz ls ds sp ind Sch) (ok : FixOk w0.heap.size F) (hb : Below w.heap.size w w') : LS L w0 F w' ov zv sv dv lo lz ls ds sp ind Sch := by
  have hz := h.sz
  have hbs := h.bel.size
  obtain ⟨k0, k1, k2, k3, k4, k5, k6⟩ := ok
  exact h.move (fun i hi k e => hb.block k (h.rws.lt hi k e).2) (hb.block _ (by omega)) (hb.block _ (by omega)) (hb.block _ (by omega)) (hb.block _ (by omega)) (hb.block _ (by omega))
    ((hb.block _ (by omega)).trans h.sch) ((hb.block _ (by omega)).trans h.ind) (h.bel.trans (hb.mono hbs)) (by have := hb.size; omega)
/-- Whose block it isn't. -/
theorem LS.apart (h : LS L w0 F w ov zv sv dv lo lz ls ds sp ind Sch) (ok : FixOk w0.heap.size F) {i k : Nat} (hi : i < 4) (e : (rw4 ov zv sv dv i).ownBlock = some k) :
    k ≠ F.SCH ∧ k ≠ F.IDB ∧ k ≠ F.IND ∧ k ≠ F.S1 ∧ k ≠ F.Q1 ∧ k ≠ F.S2 ∧ k ≠ F.Q2 := by
  have := h.sep i hi k e
  obtain ⟨k0, k1, k2, k3, k4, k5, k6⟩ := ok
  omega
theorem setCell_size (w : World) (a : Addr) (v : Value) : w.heap.size ≤ (w.setCell a v).heap.size := ((Below.refl 0 w).setCell (Nat.zero_le _) v).size
theorem LS.setSch (h : LS L w0 F w ov zv sv dv lo lz ls ds sp ind Sch) (ok : FixOk w0.heap.size F) (i : Nat) :
    LS L w0 F (w.setCell ⟨F.SCH, 0 + i, none⟩ (.bool true)) ov zv sv dv lo lz ls ds sp ind (fun x => if x = i then true else Sch x) := by
  have hs := heap_setCell_same (o := 0 + i) (u := .bool true) h.sch
  have e0 : (fun x => if x = 0 + i then true else Sch x) = fun x => if x = i then true else Sch x := by funext x; rw [Nat.zero_add]
  rw [bools_set, e0] at hs
  have hne : ∀ j, j ≠ F.SCH → (w.setCell ⟨F.SCH, 0 + i, none⟩ (.bool true)).heap[j]? = w.heap[j]? := fun j hj => Below.heap_setCell _ _ _ _ hj
  have hap := fun i k hi e => (h.apart ok (i := i) (k := k) hi e).1
  have hz := h.sz
  have hsz := setCell_size w ⟨F.SCH, 0 + i, none⟩ (.bool true)
  have hbel : Below w0.heap.size w0 (w.setCell ⟨F.SCH, 0 + i, none⟩ (.bool true)) := h.bel.setCell (show w0.heap.size ≤ F.SCH by have := ok.h0; have := ok.h1; omega) (.bool true)
  obtain ⟨k0, k1, k2, k3, k4, k5, k6⟩ := ok
  exact h.move (fun i hi k e => hne k (hap i k hi e)) (hne _ (by omega)) (hne _ (by omega)) (hne _ (by omega)) (hne _ (by omega)) (hne _ (by omega)) hs ((hne _ (by omega)).trans h.ind) hbel (by omega)
theorem LS.setInd (h : LS L w0 F w ov zv sv dv lo lz ls ds sp ind Sch) (ok : FixOk w0.heap.size F) (i : Nat) (z : Int) :
    LS L w0 F (w.setCell ⟨F.IND, 0 + i, none⟩ (.int .i64 z)) ov zv sv dv lo lz ls ds sp (fun x => if x = i then z else ind x) Sch := by
  have hs := heap_setCell_same (o := 0 + i) (u := .int .i64 z) h.ind
  rw [cellsOf_set] at hs
  have hs2 : (w.setCell ⟨F.IND, 0 + i, none⟩ (.int .i64 z)).heap[F.IND]? = some (.cells (cellsOf (i64s fun x => if x = i then z else ind x) F.m) 3 (0, 0)) := by
    rw [hs]
    congr 2
    refine cellsOf_congr fun j _ => ?_
    show (if j = 0 + i then Value.int .i64 z else i64s ind j) = Value.int .i64 (if j = i then z else ind j)
    rw [Nat.zero_add]
    by_cases e : j = i
    · rw [if_pos e, if_pos e]
    · rw [if_neg e, if_neg e]; rfl
  have hne : ∀ j, j ≠ F.IND → (w.setCell ⟨F.IND, 0 + i, none⟩ (.int .i64 z)).heap[j]? = w.heap[j]? := fun j hj => Below.heap_setCell _ _ _ _ hj
  have hap := fun i k hi e => (h.apart ok (i := i) (k := k) hi e).2.2.1
  have hz := h.sz
  have hsz := setCell_size w ⟨F.IND, 0 + i, none⟩ (.int .i64 z)
  have hbel : Below w0.heap.size w0 (w.setCell ⟨F.IND, 0 + i, none⟩ (.int .i64 z)) := h.bel.setCell (show w0.heap.size ≤ F.IND by have := ok.h0; have := ok.h1; have := ok.h2; have := ok.h3; omega) (.int .i64 z)
  obtain ⟨k0, k1, k2, k3, k4, k5, k6⟩ := ok
  exact h.move (fun i hi k e => hne k (hap i k hi e)) (hne _ (by omega)) (hne _ (by omega)) (hne _ (by omega)) (hne _ (by omega)) (hne _ (by omega)) ((hne _ (by omega)).trans h.sch) hs2 hbel (by omega)

/-- One of the rows grows. -/
theorem LS.push (h : LS L w0 F w ov zv sv dv lo lz ls ds sp ind Sch) (ok : FixOk w0.heap.size F) {s : Nat} (hs : s < 3) {v' : Value} {u : Value} {ov' zv' sv' : Value} {lo' lz' ls' : List Nat}
    (hrow : w'.ownsRow w0.heap.size (el4 s) 1 v' ((xs4 L lo lz ls ds s).length + 1) (xs4 L lo lz ls ds s ++ [u])) (hgr : w.grownBy w' (rw4 ov zv sv dv s).ownBlock) (hwh : v'.ownBlock = (rw4 ov zv sv dv s).ownBlock ∨ v'.ownBlock = some w.heap.size)
    (hR : ∀ i, i < 4 → rw4 ov' zv' sv' dv i = if i = s then v' else rw4 ov zv sv dv i) (hX : ∀ i, i < 4 → xs4 L lo' lz' ls' ds i = if i = s then xs4 L lo lz ls ds s ++ [u] else xs4 L lo lz ls ds i) :
    LS L w0 F w' ov' zv' sv' dv lo' lz' ls' ds sp ind Sch := by
  have hz := h.sz
  have hbs := h.bel.size
  have hap := fun k e => h.apart ok (i := s) (k := k) (by omega) e
  have hsz := hgr.size
  have hown := fun k e => h.rws.lt (i := s) (by omega) k e
  have hbel : Below w0.heap.size w0 w' := h.bel.grown hgr (by omega) (fun j e => (hown j e).1)
  obtain ⟨k0, k1, k2, k3, k4, k5, k6⟩ := ok
  have hk : ∀ j, j < w.heap.size → (rw4 ov zv sv dv s).ownBlock ≠ some j → w'.heap[j]? = w.heap[j]? := fun j hj hne => hgr.block j hj fun e => hne e.symm
  have hl : (xs4 L lo lz ls ds s ++ [u]).length = (xs4 L lo lz ls ds s).length + 1 := by rw [List.length_append]; rfl
  have hput := h.rws.put (s := s) (by omega) (v' := v') (ys := xs4 L lo lz ls ds s ++ [u]) (w' := w') (by rw [hl]; exact hrow) (fun k hk1 hk2 _ => hk k hk1 hk2)
    (hwh.elim .inl fun e => .inr ⟨_, Nat.le_refl _, e⟩)
  refine ⟨hput.congr hR hX, fun i hi k e => ?_, ?_, ?_, ?_, ?_, ?_, hbel, by omega⟩
  · rw [hR i hi] at e
    by_cases e2 : i = s
    · rw [if_pos e2] at e
      rcases hwh with e3 | e3
      · rw [e3] at e; exact h.sep s (by omega) k e
      · rw [e3] at e
        have e := Option.some.inj e
        omega
    · rw [if_neg e2] at e
      exact h.sep i hi k e
  · have hd3 : rw4 ov zv sv dv 3 = dv := rfl
    refine h.pos.stay (hk _ (by omega) fun e => (hap _ e).2.2.2.1 rfl) (hk _ (by omega) fun e => (hap _ e).2.2.2.2.1 rfl) fun k e => hk k (h.rws.lt (i := 3) (by omega) k e).2 fun e2 => h.rws.off s 3 (by omega) (by omega) (by omega) k e2 e
  · exact h.ext.stay (hk _ (by omega) fun e => (hap _ e).2.2.2.2.2.1 rfl) (hk _ (by omega) fun e => (hap _ e).2.2.2.2.2.2 rfl) fun k e => (by cases e)
  · exact (hk _ (by omega) fun e => (hap _ e).1 rfl).trans h.sch
  · exact (hk _ (by omega) fun e => (hap _ e).2.1 rfl).trans h.idb
  · exact (hk _ (by omega) fun e => (hap _ e).2.2.1 rfl).trans h.ind
/-- One of the rows shrinks. -/
theorem LS.pop (h : LS L w0 F w ov zv sv dv lo lz ls ds sp ind Sch) {s : Nat} (hs : s < 3) {v' : Value} {ys : List Value} {ov' zv' sv' : Value} {lo' lz' ls' : List Nat}
    (hrow : w.ownsRow w0.heap.size (el4 s) 1 v' ys.length ys) (hwh : v'.ownBlock = (rw4 ov zv sv dv s).ownBlock)
    (hR : ∀ i, i < 4 → rw4 ov' zv' sv' dv i = if i = s then v' else rw4 ov zv sv dv i) (hX : ∀ i, i < 4 → xs4 L lo' lz' ls' ds i = if i = s then ys else xs4 L lo lz ls ds i) :
    LS L w0 F w ov' zv' sv' dv lo' lz' ls' ds sp ind Sch := by
  have hput := h.rws.put (s := s) (by omega) (v' := v') (ys := ys) (w' := w) hrow (fun k _ _ _ => rfl) (.inl hwh)
  refine ⟨hput.congr hR hX, fun i hi k e => ?_, h.pos, h.ext, h.sch, h.idb, h.ind, h.bel, h.sz⟩
  rw [hR i hi] at e
  by_cases e2 : i = s
  · rw [if_pos e2, hwh] at e
    exact h.sep s (by omega) k e
  · rw [if_neg e2] at e
    exact h.sep i hi k e
/-- The set of blocks is another one. -/
theorem LS.posTo (h : LS L w0 F w ov zv sv dv lo lz ls ds sp ind Sch) (ok : FixOk w0.heap.size F) {dv' : Value} {ds' : List Nat} {sp' : Nat → Int} (hp : SS w' F.D F.S1 F.Q1 F.m dv' ds' sp')
    (hwh : dv'.ownBlock = dv.ownBlock ∨ ∃ k, w.heap.size ≤ k ∧ dv'.ownBlock = some k) (ho : Only (fun j => j = F.S1 ∨ j = F.Q1 ∨ dv.ownBlock = some j) w w') :
    LS L w0 F w' ov zv sv dv' lo lz ls ds' sp' ind Sch := by
  have hz := h.sz
  have hbs := h.bel.size
  have hsz := ho.size
  have hap := fun i k hi e => h.apart ok (i := i) (k := k) hi e
  have hown := fun k e => h.rws.lt (i := 3) (by omega) k e
  obtain ⟨k0, k1, k2, k3, k4, k5, k6⟩ := ok
  have hk : ∀ j, j < w.heap.size → j ≠ F.S1 → j ≠ F.Q1 → dv.ownBlock ≠ some j → w'.heap[j]? = w.heap[j]? := fun j hj h1 h2 h3 => ho.block j hj fun e => e.elim h1 fun e => e.elim h2 h3
  have hbel : Below w0.heap.size w0 w' := h.bel.trans ⟨ho.os, ho.tape, ho.output, ho.size, fun j hj => hk j (by omega) (by omega) (by omega) fun e => by have := (hown j e).1; omega⟩
  have hdense : w'.ownsRow w0.heap.size (el4 3) 1 dv' (xs4 L lo lz ls ds' 3).length (xs4 L lo lz ls ds' 3) := by
    have h1 := hp.dense
    rcases h1.2 with hn | ⟨g, cap, cur, e, hb, rest⟩
    · exact ⟨h1.1, .inl hn⟩
    · exact ⟨h1.1, .inr ⟨g, cap, cur, e, by omega, rest⟩⟩
  have hput : Rws w' w0.heap.size 4 el4 (fun i => if i = 3 then dv' else rw4 ov zv sv dv i) (fun i => if i = 3 then ds'.map idv else xs4 L lo lz ls ds i) := by
    refine ⟨fun i hi => ?_, fun i j hi hj hne k e1 e2 => ?_⟩
    · show w'.ownsRow _ _ _ (if i = 3 then dv' else rw4 ov zv sv dv i) (if i = 3 then ds'.map idv else xs4 L lo lz ls ds i).length (if i = 3 then ds'.map idv else xs4 L lo lz ls ds i)
      by_cases e : i = 3
      · subst e
        rw [if_pos rfl, if_pos rfl]; exact hdense
      · rw [if_neg e, if_neg e]
        refine ownsRow_congr (h.rws.row i hi) fun k e1 => hk k (h.rws.lt hi k e1).2 (hap i k hi e1).2.2.2.1 (hap i k hi e1).2.2.2.2.1 fun e2 => h.rws.off i 3 hi (by omega) e k e1 e2
    · have e1 : (if i = 3 then dv' else rw4 ov zv sv dv i).ownBlock = some k := e1
      have e2 : (if j = 3 then dv' else rw4 ov zv sv dv j).ownBlock = some k := e2
      have new : ∀ c, c < 4 → c ≠ 3 → dv'.ownBlock = some k → (rw4 ov zv sv dv c).ownBlock = some k → False := fun c hc hc3 h1 h2 => by
        rcases hwh with e | ⟨q, hq, e⟩
        · rw [e] at h1
          exact h.rws.off c 3 hc (by omega) hc3 k h2 h1
        · rw [e] at h1
          have := Option.some.inj h1
          have := (h.rws.lt hc k h2).2
          omega
      by_cases c1 : i = 3
      · rw [if_pos c1] at e1
        rw [if_neg (fun e => hne (c1.trans e.symm))] at e2
        exact new j hj (fun e => hne (c1.trans e.symm)) e1 e2
      · rw [if_neg c1] at e1
        by_cases c2 : j = 3
        · rw [if_pos c2] at e2
          exact new i hi c1 e2 e1
        · rw [if_neg c2] at e2
          exact h.rws.off i j hi hj hne k e1 e2
  refine ⟨hput.congr (fun i hi => ?_) (fun i hi => ?_), fun i hi k e => ?_, hp, ?_, ?_, ?_, ?_, hbel, by omega⟩
  · match i, hi with
    | 0, _ => rfl
    | 1, _ => rfl
    | 2, _ => rfl
    | 3, _ => rfl
  · match i, hi with
    | 0, _ => rfl
    | 1, _ => rfl
    | 2, _ => rfl
    | 3, _ => rfl
  · match i, hi with
    | 0, _ => exact h.sep 0 (by omega) k e
    | 1, _ => exact h.sep 1 (by omega) k e
    | 2, _ => exact h.sep 2 (by omega) k e
    | 3, _ =>
      have e : dv'.ownBlock = some k := e
      exact .inr (hp.own k e).1
  · exact h.ext.stay (hk _ (by omega) (by omega) (by omega) fun e => (hap 3 _ (by omega) e).2.2.2.2.2.1 rfl) (hk _ (by omega) (by omega) (by omega) fun e => (hap 3 _ (by omega) e).2.2.2.2.2.2 rfl) fun k e => (by cases e)
  · exact (hk _ (by omega) (by omega) (by omega) fun e => (hap 3 _ (by omega) e).1 rfl).trans h.sch
  · exact (hk _ (by omega) (by omega) (by omega) fun e => (hap 3 _ (by omega) e).2.1 rfl).trans h.idb
  · exact (hk _ (by omega) (by omega) (by omega) fun e => (hap 3 _ (by omega) e).2.2.1 rfl).trans h.ind
end
end Go.Proofs.Yteepnepebilckaa
