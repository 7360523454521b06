/- For every input in which the opcode table reads as laid the law FnPartitionMost returns true, and its argument reads as it did, the table being tied to the text of the program. -/
import Derived.Test.YteepnepebilckaaGreatDoorCT23
namespace Go.Proofs.YteepnepebilckaaGreatDoor
open Go Go.Eng Go.RowKit Go.Shelf
def lexc : List Int → List Int → Int
 | a :: r, b :: q => if a < b then -1 else if b < a then 1 else lexc r q
 | _, _ => 0
theorem lexc_cons (a b : Int) (r q : List Int) : lexc (a :: r) (b :: q) = if a < b then -1 else if b < a then 1 else lexc r q := rfl
theorem lexc_le : ∀ a b, -1 ≤ lexc a b ∧ lexc a b ≤ 1
 | [], _ => by simp [lexc]
 | _ :: _, [] => by simp [lexc]
 | a :: r, b :: q => by
   have := lexc_le r q
   rw [lexc_cons]
   split
   ·omega
   split <;> omega
theorem lexc_neg : ∀ a b, lexc b a = - lexc a b
 | [], [] => rfl
 | [], _ :: _ => rfl
 | _ :: _, [] => rfl
 | a :: r, b :: q => by
   have := lexc_neg r q
   rw [lexc_cons, lexc_cons]
   by_cases h1 : a < b
   ·rw [if_pos h1, if_neg (by omega), if_pos h1]; rfl
   by_cases h2 : b < a
   ·rw [if_pos h2, if_neg h1, if_pos h2]
   rw [if_neg h1, if_neg h2, if_neg h2, if_neg h1, this]
theorem lexc_eq : ∀ a b, a.length = b.length → (lexc a b = 0 ↔ a = b)
 | [], [], _ => by simp [lexc]
 | a :: r, b :: q, h => by
   have := lexc_eq r q (by simpa using h)
   rw [lexc_cons]
   by_cases h1 : a < b
   ·rw [if_pos h1]; simp; omega
   by_cases h2 : b < a
   ·rw [if_neg h1, if_pos h2]; simp; omega
   rw [if_neg h1, if_neg h2, this]
   have : a = b := by omega
   simp [this]
theorem lexc_trans : ∀ a b c, a.length = b.length → b.length = c.length → lexc a b ≤ 0 → lexc b c ≤ 0 → lexc a c ≤ 0
 | [], [], [], _, _, _, _ => by simp [lexc]
 | a :: r, b :: q, c :: p, h1, h2, h3, h4 => by
   have ih := lexc_trans r q p (by simpa using h1) (by simpa using h2)
   rw [lexc_cons] at h3 h4 ⊢
   by_cases ab : a < b
   ·by_cases bc : c < b
    ·rw [if_neg (by omega), if_pos bc] at h4; omega
    rw [if_pos (by omega)]; omega
   by_cases ba : b < a
   ·rw [if_neg ab, if_pos ba] at h3; omega
   rw [if_neg ab, if_neg ba] at h3
   have : a = b := by omega
   subst this
   by_cases bc : a < c
   ·rw [if_pos bc]; omega
   by_cases cb : c < a
   ·rw [if_neg bc, if_pos cb] at h4; omega
   rw [if_neg bc, if_neg cb] at h4 ⊢
   exact ih h3 h4
theorem lexc_app : ∀ (a b c d : List Int), a.length = b.length → lexc (a ++ c) (b ++ d) = if lexc a b = 0 then lexc c d else lexc a b
 | [], [], c, d, _ => by simp [lexc]
 | a :: r, b :: q, c, d, h => by
   have ih := lexc_app r q c d (by simpa using h)
   show lexc (a :: (r ++ c)) (b :: (q ++ d)) = _
   rw [lexc_cons, lexc_cons, ih]
   by_cases h1 : a < b
   ·rw [if_pos h1, if_pos h1]; rfl
   by_cases h2 : b < a
   ·rw [if_neg h1, if_pos h2, if_neg h1, if_pos h2]; rfl
   rw [if_neg h1, if_neg h2, if_neg h1, if_neg h2]
theorem lexc_swo {α : Type} (k : α → List Int) (hl : ∀ x y, (k x).length = (k y).length) : Go.Sort.SWO (ltOf fun x y => lexc (k x) (k y)) := by
 have e : ∀ x y, ltOf (fun x y => lexc (k x) (k y)) x y = decide (lexc (k x) (k y) < 0) := fun _ _ => rfl
 refine ⟨fun x => ?_, fun x y z h1 h2 => ?_, fun x y z h1 h2 => ?_⟩
 ·rw [e, (lexc_eq _ _ rfl).2 rfl]; rfl
 ·rw [e] at *
  have h1 := of_decide_eq_true h1
  have h2 := of_decide_eq_true h2
  refine decide_eq_true ?_
  have h3 := lexc_trans _ _ _ (hl x y) (hl y z) (by omega) (by omega)
  by_cases h4 : lexc (k x) (k z) = 0
  ·have h5 := (lexc_eq _ _ (hl x z)).1 h4
   rw [h5, lexc_neg] at h1
   omega
  omega
 rw [e] at *
 have h1 := of_decide_eq_false h1
 have h2 := of_decide_eq_false h2
 refine decide_eq_false ?_
 have h3 := lexc_trans _ _ _ (hl z y) (hl y x) (by rw [lexc_neg]; omega) (by rw [lexc_neg]; omega)
 rw [lexc_neg] at h3
 omega
def key (g : Gph) (x : Nat) : List Int := [g.op x, g.aux x, ((g.args x).length : Int), if g.op x = 13 then ((g.blk x : Nat) : Int) + 1 else 0]
theorem cv_lexc (g : Gph) (x y : Nat) : cv g x y = lexc (key g x) (key g y) := by
 unfold cv key
 simp only [lexc_cons]
 have c : ∀ a b : Int, a ≠ b → c2 (decide (a < b)) = if a < b then -1 else if b < a then 1 else 0 := fun a b h => by
  unfold c2
  by_cases h1 : a < b
  ·simp [h1]
  have h2 : b < a := by omega
  simp [h1, h2]
 have z : ∀ (a b : Int) (r : Int), a ≠ b → (if a < b then -1 else if b < a then 1 else r) = (if a < b then -1 else if b < a then 1 else 0 : Int) := fun a b r h => by
  by_cases h1 : a < b
  ·rw [if_pos h1, if_pos h1]
  rw [if_neg h1, if_neg h1, if_pos (by omega), if_pos (by omega)]
 have e : ∀ (a b : Int) (r : Int), a = b → (if a < b then -1 else if b < a then 1 else r : Int) = r := fun a b r h => by rw [if_neg (by omega), if_neg (by omega)]
 by_cases h1 : g.op x = g.op y
 ·rw [if_neg (fun h => h h1), e _ _ _ h1]
  by_cases h2 : g.aux x = g.aux y
  ·rw [if_neg (fun h => h h2), e _ _ _ h2]
   by_cases h3 : ((g.args x).length : Int) = ((g.args y).length : Int)
   ·rw [if_neg (fun h => h h3), e _ _ _ h3]
    have hn : lexc [] [] = 0 := rfl
    rw [hn]
    by_cases h4 : g.op x = 13
    ·have h4y : g.op y = 13 := h1 ▸ h4
     rw [if_pos (c := g.op x = 13) h4, if_pos (c := g.op y = 13) h4y]
     by_cases h5 : g.blk x = g.blk y
     ·rw [if_neg (fun h => h.2 h5), e _ _ _ (by rw [h5])]
     rw [if_pos ⟨h4, h5⟩, c _ _ (by omega)]
    have h4y : ¬ g.op y = 13 := fun h => h4 (h1.trans h)
    rw [if_neg (fun h => h4 h.1), if_neg (c := g.op x = 13) h4, if_neg (c := g.op y = 13) h4y, e _ _ _ rfl]
   rw [if_pos h3]; exact (c _ _ h3).trans (z _ _ _ h3).symm
  rw [if_pos h2]; exact (c _ _ h2).trans (z _ _ _ h2).symm
 rw [if_pos h1]; exact (c _ _ h1).trans (z _ _ _ h1).symm
def kx (g : Gph) (x : Nat) : List Int := key g x ++ [(x : Int) + 1]
theorem cp_lexc (g : Gph) (x y : Nat) : cp g x y = lexc (kx g x) (kx g y) := by
 unfold cp kx
 rw [lexc_app (key g x) (key g y) _ _ rfl, cv_lexc]
 have h := lexc_le (key g x) (key g y)
 by_cases h1 : lexc (key g x) (key g y) = -1
 ·rw [if_pos h1, if_neg (by omega), h1]
 rw [if_neg h1]
 by_cases h2 : lexc (key g x) (key g y) = 1
 ·rw [if_pos h2, if_neg (by omega), h2]
 rw [if_neg h2, if_pos (by omega)]; rfl
theorem ca_lexc (cls : Nat → Int) : ∀ a b, ca cls a b = lexc (a.map fun x => cls (x + 1)) (b.map fun x => cls (x + 1))
 | [], _ => by simp [ca, lexc]
 | _ :: _, [] => by simp [ca, lexc]
 | a :: r, b :: q => by
   rw [Fo, List.map_cons, List.map_cons, lexc_cons, ca_lexc cls r q]
end Go.Proofs.YteepnepebilckaaGreatDoor
namespace Go.Proofs.YteepnepebilckaaGreatDoor
open Go Go.Eng Go.RowKit Go.Shelf
structure GE (E : Nat) (L : Lay) (g : Gph) : Prop where
 fb : L.fb < E
 bb : ∀ i, i < g.nb → L.bb i < E
 vb : ∀ i, i < g.nv → L.vb i < E
 sl : ∀ τ, IsLst τ = true → Live g τ → ∀ k, (L.sl τ).ownBlock = some k → k < E
theorem GRep.ge {w : World} {B : Nat} {L : Lay} {g : Gph} (h : GRep w B L g) : GE w.heap.size L g := by
 refine ⟨Bq h, fun i hi => (Array.getElem?_eq_some_iff.1 (h.blk hi)).1, fun i hi => (Array.getElem?_eq_some_iff.1 (h.val hi)).1, fun τ hτ hl k hk => ?_⟩
 cases τ with
 | fblocks => exact (Row.lt (show Row _ _ _ _ _ from h.comp .fblocks) k hk).2
 | fvalues => exact (Row.lt (show Row _ _ _ _ _ from h.comp .fvalues) k hk).2
 | args i => exact (Row.lt (h.comp (.args i) hl) k hk).2
 | succs i => exact (Row.lt (h.comp (.succs i) hl) k hk).2
 | preds i => exact (Row.lt (h.comp (.preds i) hl) k hk).2
 | bvals i => exact (Row.lt (h.comp (.bvals i) hl) k hk).2
 | ctrl i => exact (Row.lt (h.comp (.ctrl i) hl) k hk).2
 | fn => cases hτ
 | blk i => cases hτ
 | val i => cases hτ
 | other => cases hτ
theorem GRep.keepE {w w' : World} {B E : Nat} {L : Lay} {g : Gph} (h : GRep w B L g) (hE : GE E L g) (hk : ∀ k, k < E → w'.heap[k]? = w.heap[k]?) : GRep w' B L g := by
 have T : Tags B { L with tag := fun k => if k < E then L.tag k else .other } g := by
  refine ⟨?_, fun i hi => ?_, fun i hi => ?_, fun τ hτ hl k hk => ?_, h.tags.fbB, h.tags.bbB, h.tags.vbB⟩
  ·show (if L.fb < E then L.tag L.fb else .other) = _
   rw [if_pos hE.fb]; exact h.tags.fb
  ·show (if L.bb i < E then L.tag (L.bb i) else .other) = _
   rw [if_pos (hE.bb i hi)]; exact h.tags.bb i hi
  ·show (if L.vb i < E then L.tag (L.vb i) else .other) = _
   rw [if_pos (hE.vb i hi)]; exact h.tags.vb i hi
  show (if k < E then L.tag k else .other) = _
  rw [if_pos (hE.sl τ hτ hl k hk)]; exact h.tags.sl τ hτ hl k hk
 refine ⟨fun τ => ?_, h.tags⟩
 have c1 : Comp w B { L with tag := fun k => if k < E then L.tag k else .other } g τ := by have c0 := h.comp τ; cases τ <;> exact c0
 by_cases hτ : τ = .other
 ·subst hτ; trivial
 have c2 := c1.congr (w' := w') τ T fun k _ hkt => by
  by_cases hkE : k < E
  ·exact hk k hkE
  have : (if k < E then L.tag k else Tag.other) = τ := hkt
  rw [if_neg hkE] at this
  exact absurd this.symm hτ
 cases τ <;> exact c2
section
variable {P : Program} {w : World} {ρ : Operand → Value} {d : Option Tmp} {ty : TypeId} {pos : String} {af : Array Edge} {g : Option (Nat × Bool)}
theorem x_sliceL {t el : TypeId} {x : Operand} {b o n cap l : Nat} {z : Value} {bytes : Nat} (ht : P.underlying t = some (.slice el)) (hi : (P.info? el).map (fun i => (i.zero, i.size, i.bytes)) = some (some z, 1, bytes))
 (hx : ρ x = .slice (some ⟨b, o, none⟩) n cap) {c : Operand} (hc : ρ c = .int .i64 (l : Int)) (hl : l ≤ n) (hk : n ≤ cap) (hlc : l < cap) :
 (execOp ρ ⟨d, .slice t x (some c) none none, ty, pos, af, g⟩).run P w = .ok (.value (.slice (some ⟨b, o + l, none⟩) (n - l) (cap - l))) w := by
 obtain ⟨i, hi1, _, hi3, _⟩ := info_parts hi
 have : (Instr.slice t (.slice (some ⟨b, o, none⟩) n cap) (some (.int .i64 (l : Int))) none none).run P w = .ok (.slice (some ⟨b, o + l, none⟩) (n - l) (cap - l)) w := by
  unfold Instr.slice Instr.sliceBounds Instr.sliceBound
  simp only [Sem.run_bind, run_underlying ht, Result.andThen_ok, Sem.run_pure, asIntOf]
  have h1 : (0 : Int) ≤ (l : Int) ∧ (l : Int) ≤ (cap : Int) := by omega
  simp only [if_pos h1, Sem.run_pure, Result.andThen_ok, sizeOf, typeInfo, Sem.run_bind]
  simp [hi1, hi3, Addr.add, show ¬ cap = l by omega, hl]
 simp [execOp, hx, hc, Instr.sliceAt, run_underlying ht, this]
theorem GM {x : Operand} {o : Option Nat} (hx : ρ x = .map o) : (execOp ρ ⟨d, .box 80 x, ty, pos, af, g⟩).run Tryz.prog w = .ok (.value (.pointer (some ⟨w.heap.size, 0, none⟩))) (w.alloc (.cells #[.map o] 80)) := by
 rw [Bu (v := .map o) hx]; rfl
end
theorem GP {P : Program} {w : World} {ρ : Operand → Value} {d : Option Tmp} {ty : TypeId} {pos : String} {af : Array Edge} {g : Option (Nat × Bool)} {f : FuncId} {x : Operand} {a : Value} (hx : ρ x = a) :
 (execOp ρ ⟨d, .makeFunc (.func f) #[] #[x], ty, pos, af, g⟩).run P w = .ok (.value (.func (.func f) #[] #[a])) w := by
 subst hx
 simp [execOp, Instr.makeFunc]
theorem Et {P : Program} {w : World} {ρ : Operand → Value} {d : Option Tmp} {ty : TypeId} {pos : String} {af : Array Edge} {g : Option (Nat × Bool)} {f : FuncId} {x y : Operand} {a b : Value} (hx : ρ x = a) (hy : ρ y = b) :
 (execOp ρ ⟨d, .makeFunc (.func f) #[] #[x, y], ty, pos, af, g⟩).run P w = .ok (.value (.func (.func f) #[] #[a, b])) w := by
 subst hx hy
 simp [execOp, Instr.makeFunc]
def slV (A M : Nat) (p : Nat × Nat) : Value := .slice (some ⟨A, p.1, none⟩) p.2 (M - p.1)
def arV (L : Lay) (arr : Nat → Nat) (nv : Nat) : Nat → Value := fun i => if i < nv then L.vp (arr i) else .pointer none
def BT (w : World) (L : Lay) (A nv : Nat) (arr : Nat → Nat) : Prop := w.heap[A]? = some (.cells (cellsOf (arV L arr nv) (nv + 1)) 97 (0, 0))
def elems (arr : Nat → Nat) (n : Nat) : List Nat := (List.range n).map arr
structure Part0 (g : Gph) (arr arr' : Nat → Nat) (Pl : List (Nat × Nat)) : Prop where
 perm : (elems arr' g.nv).Perm (elems arr g.nv)
 long : ∀ p ∈ Pl, 2 ≤ p.2 ∧ p.1 + p.2 ≤ g.nv
 apart : Pl.Pairwise fun a b => a.1 + a.2 ≤ b.1
 same : ∀ p ∈ Pl, ∀ i, i < p.2 → key g (arr' p.1) = key g (arr' (p.1 + i))
 most : ∀ i j, i < j → j < g.nv → key g (arr' i) = key g (arr' j) → ∃ p ∈ Pl, p.1 ≤ i ∧ j < p.1 + p.2
 asc : ∀ p ∈ Pl, ∀ i j, i < j → j < p.2 → arr' (p.1 + i) < arr' (p.1 + j)
 top : ∀ i, g.nv ≤ i → arr' i = 0
 srt : ∀ i j, i < j → j < g.nv → lexc (key g (arr' i)) (key g (arr' j)) ≤ 0 ∧ (key g (arr' i) = key g (arr' j) → arr' i < arr' j)
theorem BK (arr : Nat → Nat) (n : Nat) : (elems arr n).length = n := by simp [elems]
theorem EF {arr : Nat → Nat} {n j : Nat} (h : j < n) : (elems arr n).getD j 0 = arr j := by
 unfold elems
 rw [List.getD_eq_getElem?_getD, List.getElem?_map, List.getElem?_range h]; rfl
theorem elems_of {D : List Nat} {arr : Nat → Nat} {n : Nat} (hl : D.length = n) (h : ∀ j, j < n → arr j = D.getD j 0) : elems arr n = D := by
 refine List.ext_getElem (by rw [BK, hl]) fun j h1 h2 => ?_
 have h3 := EF (arr := arr) (show j < n by omega)
 rw [h j (by omega)] at h3
 rw [List.getD_eq_getElem?_getD, List.getElem?_eq_getElem h1, List.getD_eq_getElem?_getD, List.getElem?_eq_getElem h2] at h3
 simpa using h3
theorem cp_swo (g : Gph) (D : List Nat) : Go.Sort.SWO (α := {v : Nat // v ∈ D}) (ltOf fun a b => cp g a.1 b.1) := by
 have : (fun a b : {v : Nat // v ∈ D} => cp g a.1 b.1) = fun a b => lexc (kx g a.1) (kx g b.1) := by
  funext a b
  exact cp_lexc g a.1 b.1
 rw [this]
 exact lexc_swo (fun a : {v : Nat // v ∈ D} => kx g a.1) fun _ _ => rfl
theorem key_mono {g : Gph} {D D' : List Nat} (h : SortOut (cp g) D D') {i j : Nat} (hij : i < j) (hj : j < D.length) (hne : D'.getD i 0 ≠ D'.getD j 0) :
 lexc (key g (D'.getD i 0)) (key g (D'.getD j 0)) ≤ 0 ∧ (key g (D'.getD i 0) = key g (D'.getD j 0) → D'.getD i 0 < D'.getD j 0) := by
 have h1 := h.srt i j hij hj
 generalize D'.getD i 0 = x at *
 generalize D'.getD j 0 = y at *
 rw [cp_lexc, lexc_neg] at h1
 unfold kx at h1
 rw [lexc_app (key g x) (key g y) _ _ rfl] at h1
 by_cases h2 : lexc (key g x) (key g y) = 0
 ·rw [if_pos h2, lexc_cons] at h1
  refine ⟨by omega, fun _ => ?_⟩
  by_cases h3 : (x : Int) + 1 < (y : Int) + 1
  ·omega
  by_cases h4 : (y : Int) + 1 < (x : Int) + 1
  ·rw [if_neg h3, if_pos h4] at h1; omega
  omega
 rw [if_neg h2] at h1
 exact ⟨by omega, fun e => absurd ((lexc_eq (key g x) (key g y) rfl).2 e) h2⟩
structure PartI (g : Gph) (arr' : Nat → Nat) (o : Nat) (Pl : List (Nat × Nat)) : Prop where
 len : 2 * Pl.length ≤ o
 ends : ∀ p ∈ Pl, 2 ≤ p.2 ∧ p.1 + p.2 ≤ o
 apart : Pl.Pairwise fun a b => a.1 + a.2 ≤ b.1
 same : ∀ p ∈ Pl, ∀ i, i < p.2 → key g (arr' p.1) = key g (arr' (p.1 + i))
 most : ∀ i j, i < j → j < g.nv → i < o → key g (arr' i) = key g (arr' j) → ∃ p ∈ Pl, p.1 ≤ i ∧ j < p.1 + p.2
theorem PartI.next {g : Gph} {arr' : Nat → Nat} {o j : Nat} {Pl : List (Nat × Nat)} (h : PartI g arr' o Pl) (hmono : ∀ i j, i < j → j < g.nv → lexc (key g (arr' i)) (key g (arr' j)) ≤ 0) (hj : 1 ≤ j) (hjn : o + j ≤ g.nv)
 (hs : ∀ i, i < j → key g (arr' o) = key g (arr' (o + i))) (he : o + j = g.nv ∨ key g (arr' o) ≠ key g (arr' (o + j))) : PartI g arr' (o + j) (if 1 < j then Pl ++ [(o, j)] else Pl) := by
 have hm : ∀ p, p ∈ (if 1 < j then Pl ++ [(o, j)] else Pl) → p ∈ Pl ∨ (1 < j ∧ p = (o, j)) := fun p hp => by
  by_cases h1 : 1 < j
  ·rw [if_pos h1] at hp
   rcases List.mem_append.1 hp with h2 | h2
   ·exact .inl h2
   exact .inr ⟨h1, by simpa using h2⟩
  rw [if_neg h1] at hp; exact .inl hp
 refine ⟨?_, fun p hp => ?_, ?_, fun p hp => ?_, fun a b hab hb ha hk => ?_⟩
 ·have := h.len
  by_cases h1 : 1 < j
  ·rw [if_pos h1, List.length_append]; simp; omega
  rw [if_neg h1]; omega
 ·rcases hm p hp with h1 | ⟨h1, rfl⟩
  ·have := h.ends p h1; omega
  exact ⟨h1, Nat.le_refl _⟩
 ·by_cases h1 : 1 < j
  ·rw [if_pos h1, List.pairwise_append]
   refine ⟨h.apart, List.pairwise_singleton .., fun p hp q hq => ?_⟩
   have : q = (o, j) := by simpa using hq
   subst this
   exact (h.ends p hp).2
  rw [if_neg h1]; exact h.apart
 ·rcases hm p hp with h1 | ⟨h1, rfl⟩
  ·exact h.same p h1
  exact hs
 by_cases hao : a < o
 ·obtain ⟨p, hp, h1⟩ := h.most a b hab hb hao hk
  refine ⟨p, ?_, h1⟩
  split
  ·exact List.mem_append_left _ hp
  exact hp
 have e1 := hs (a - o) (by omega)
 rw [show o + (a - o) = a by omega] at e1
 by_cases hbj : b < o + j
 ·refine ⟨(o, j), ?_, by omega, hbj⟩
  rw [if_pos (by omega)]
  exact List.mem_append_right _ (.head _)
 exfalso
 rcases he with h1 | h1
 ·omega
 have m1 := hmono o (o + j) (by omega) (by omega)
 have m2 : lexc (key g (arr' (o + j))) (key g (arr' b)) ≤ 0 := by
  by_cases e : o + j = b
  ·rw [e, (lexc_eq _ _ rfl).2 rfl]; omega
  exact hmono _ _ (by omega) hb
 rw [← hk, ← e1, lexc_neg] at m2
 exact h1 ((lexc_eq (key g (arr' o)) (key g (arr' (o + j))) rfl).1 (by omega))
set_option maxHeartbeats 4000000
attribute [local irreducible] EC EL DL Ret thenQ blockQ Bf bodyQ onlyN execOp Sem.run World.cell? World.frozen? World.setCell World.alloc
theorem part_ret {w : World} {B E A : Nat} {L : Lay} {g : Gph} {arr : Nat → Nat} {o : Option Nat} (hg : GRep w B L g) (hE : GE E L g) (hEA : E ≤ A) (hA : BT w L A g.nv arr) (hn : g.nv ≤ 48)
 (harr : ∀ i, i < g.nv → arr i < g.nv) (hinj : (elems arr g.nv).Nodup) (hblk : ∀ i, i < g.nv → g.blk i < g.nb) (hty : ∀ x y, g.op x = g.op y → g.ty x = g.ty y) (hop : ∀ i, i < g.nv → g.op i ≤ 15) :
 Ret Tryz.prog 51 #[.slice (some ⟨A, 0, none⟩) g.nv (g.nv + 1), .map o] w fun v w' => ∃ arr' Pl, Part0 g arr arr' Pl ∧ BT w' L A g.nv arr' ∧ Only (fun j => j = A) w w' ∧
  w'.ownsRow w.heap.size 113 1 v Pl.length (Pl.map (slV A (g.nv + 1))) := by
 refine ret_of_EC Tryz.func51 rfl rfl ?_
 obtain ⟨N, hN⟩ : ∃ N, N = g.nv := ⟨_, rfl⟩
 have hAl : A < w.heap.size := (Array.getElem?_eq_some_iff.1 hA).1
 refine Ae (Ac (Ab (GM rfl) rfl ?_))
 obtain ⟨bx, hbx⟩ : ∃ bx, bx = w.heap.size := ⟨_, rfl⟩
 refine el_new0 (.cells #[.map o] 80) fun wa hN1 hO1 hZ1 hB1 hK1 => ?_
 rw [← hbx] at hN1 ⊢
 have hgx : ∀ W, Only (fun j => j = A) wa W → GRep W B L g := fun W h => hg.keepE hE fun k hk => (h.block k (by omega) (by omega)).trans (hO1 k (by omega))
 have hOa : Only (fun j => j = A) w wa := Only.of_below hB1
 have hxc : ∀ W, Only (fun j => j = A) wa W → W.cell? ⟨bx, 0, none⟩ = some (.map o) := fun W h => Am ((h.block bx (by omega) (by omega)).trans hN1) rfl
 have hAa : BT wa L A g.nv arr := (hO1 A hAl).trans hA
 refine Ab Ah rfl (Af (Aa ?_))
 refine AX (fun e w1 => ∃ D', SortOut (cp g) (elems arr g.nv) D' ∧ BT w1 L A g.nv (fun i => D'.getD i 0) ∧ Only (fun j => j = A) wa w1 ∧ At e [(0, .slice (some ⟨A, 0, none⟩) g.nv (g.nv + 1)), (3, .pointer (some ⟨bx, 0, none⟩))]) ?_ ?_
 ·refine Ac (Ab Ad rfl (Ab (GP rfl) rfl ?_))
  by_cases h0 : g.nv = 0
  ·have hs0 : Ret Tryz.prog 76 #[.slice (some ⟨A, 0, none⟩) g.nv (g.nv + 1), .func (.func 77) #[] #[.pointer (some ⟨bx, 0, none⟩)]] wa fun v w' => v = .tuple #[] ∧ w' = wa := by
    rw [h0]; exact sort0_ret
   refine Bg (AH Tryz.func76 rfl (by kernel_rfl) rfl rfl) rfl hs0 ?_
   rintro _ wx ⟨rfl, ew⟩
   rw [ew]
   clear ew wx
   refine Af ?_
   refine AU ⟨[], ⟨by rw [h0]; unfold D9 elems; rw [dif_neg (by simp)], ?_, fun i j _ hj => ?_, fun _ _ i j _ hj => ?_⟩, ?_, Only.refl _ _, Ar rfl ⟨rfl, rfl, trivial⟩⟩
   ·rw [h0]; exact List.Perm.refl _
   ·rw [BK] at hj; omega
   ·rw [BK] at hj; omega
   unfold BT
   rw [show wa.heap[A]? = _ from hAa]
   congr 2
   refine Bz fun i _ => ?_
   unfold arV
   rw [if_neg (by omega), if_neg (by omega)]
  have hmem : ∀ x ∈ elems arr g.nv, x < g.nv := fun x hx => by
   obtain ⟨i, hi, rfl⟩ := List.mem_map.1 hx
   exact harr i (List.mem_range.1 hi)
  have hsr := sortV_ret (w := wa) (L := L) (D := elems arr g.nv) (cf := cp g) (A := A) (off := 0) (N := g.nv + 1) (cap := g.nv + 1) (gf := 77) (cb := #[.pointer (some ⟨bx, 0, none⟩)]) (R := arV L arr g.nv) (T := 97)
   (fun e => by have := BK arr g.nv; rw [e] at this; exact h0 this.symm) (by rw [BK]; omega) (by rw [BK]; omega) hAa (fun j hj => by
     rw [BK] at hj
     rw [EF hj, Nat.zero_add]
     unfold arV
     rw [if_pos hj]) (enters_of Tryz.func77 (by kernel_rfl) rfl) (cp_swo g _) (fun W hW x hx y hy => Fz (hgx W hW) (hmem x hx) (hmem y hy) (hblk x (hmem x hx)) (hblk y (hmem y hy)) (hty x y) (hop x (hmem x hx)) (hxc W hW))
  rw [BK] at hsr
  refine Bg (AH Tryz.func76 rfl (by kernel_rfl) rfl rfl) rfl hsr ?_
  rintro _ w1 ⟨rfl, D', hso, hrow, hO⟩
  refine Af ?_
  refine AU ⟨D', hso, ?_, hO, Ar rfl ⟨rfl, rfl, trivial⟩⟩
  unfold BT
  rw [hrow]
  congr 2
  refine Bz fun i _ => ?_
  unfold arV
  by_cases hi : i < g.nv
  ·rw [if_pos (by omega), if_pos hi]; rfl
  rw [if_neg (by omega), if_neg hi, if_neg hi]
 rintro e w1 ⟨D', hso, hAr, hO, ⟨t, rfl⟩⟩
 obtain ⟨arr', harr'⟩ : ∃ arr' : Nat → Nat, arr' = fun i => D'.getD i 0 := ⟨_, rfl⟩
 rw [← harr'] at hAr
 have hDl : D'.length = g.nv := by rw [hso.perm.length_eq, BK]
 have hel : elems arr' g.nv = D' := elems_of hDl fun j _ => by rw [harr']
 have hDn : D'.Nodup := hso.perm.nodup_iff.2 hinj
 have htop : ∀ i, g.nv ≤ i → arr' i = 0 := fun i hi => by
  rw [harr']
  show D'.getD i 0 = 0
  rw [List.getD_eq_getElem?_getD, List.getElem?_eq_none (by omega)]; rfl
 have hlt' : ∀ i, i < g.nv → arr' i < g.nv := fun i hi => by
  have h1 : D'.getD i 0 ∈ elems arr g.nv := hso.perm.mem_iff.1 (Bt (by omega))
  obtain ⟨k, hk, e⟩ := List.mem_map.1 h1
  rw [harr']
  show D'.getD i 0 < g.nv
  rw [← e]
  exact harr k (List.mem_range.1 hk)
 have hne : ∀ i j, i < j → j < g.nv → arr' i ≠ arr' j := fun i j hij hj e => by
  rw [harr'] at e
  have e' : D'.getD i 0 = D'.getD j 0 := e
  rw [List.getD_eq_getElem?_getD, List.getElem?_eq_getElem (show i < D'.length by omega), List.getD_eq_getElem?_getD, List.getElem?_eq_getElem (show j < D'.length by omega)] at e'
  have := (List.getElem_inj hDn).1 (show D'[i] = D'[j] from e')
  omega
 have hkm : ∀ i j, i < j → j < g.nv → lexc (key g (arr' i)) (key g (arr' j)) ≤ 0 ∧ (key g (arr' i) = key g (arr' j) → arr' i < arr' j) := fun i j hij hj => by
  have h1 := key_mono hso hij (by rw [BK]; exact hj) (by have := hne i j hij hj; rw [harr'] at this; exact this)
  rw [harr']
  exact h1
 have hpm : (elems arr' g.nv).Perm (elems arr g.nv) := by rw [hel]; exact hso.perm
 clear hel hDn hDl harr' hso
 have hcell : ∀ W, BT W L A g.nv arr' → ∀ i, i < g.nv → W.cell? ⟨A, i, none⟩ = some (L.vp (arr' i)) := fun W h i hi => Am h (by rw [A7 _ (by omega)]; unfold arV; rw [if_pos hi])
 refine Ae (Ac (Ab Ah rfl (Af (Aa ?_))))
 have hOw1 := hO.size
 refine Ae (Ao ?_)
 refine EC_loop (fun m e w2 => ∃ o Pl p, o ≤ g.nv ∧ PartI g arr' o Pl ∧ BT w2 L A g.nv arr' ∧ Only (fun j => j = A) wa w2 ∧ w2.ownsRow (bx + 1) 113 1 p Pl.length (Pl.map (slV A (g.nv + 1))) ∧
  At e [(0, .slice (some ⟨A, o, none⟩) (g.nv - o) (g.nv + 1 - o)), (3, .pointer (some ⟨bx, 0, none⟩)), (5, p)] ∧ m = g.nv - o) g.nv
  ⟨0, [], .slice none 0 0, Nat.zero_le _, ⟨by simp, fun p hp => (by cases hp), .nil, fun p hp => (by cases hp), fun i j _ _ h => (by omega)⟩, hAr, hO, World.ownsRow_nil _ _ _ _, Ar rfl ⟨rfl, rfl, rfl, trivial⟩, rfl⟩ ?_
 clear hO hAr hAa
 rintro m e w2 ⟨o, Pl, p, ho, hPI, hAr, hO, hrow, ⟨t, rfl⟩, rfl⟩
 refine Ae (Ae (Ac (Ab Ad rfl (Ab (AP rfl (An rfl)) rfl (Ab (BC rfl rfl) rfl (Af (Aa ?_)))))))
 refine AG rfl rfl (fun hgt => ?_) (fun hle => ?_)
 rotate_left
 ·have hon : o = g.nv := by omega
  subst hon
  refine AI (AB (AC (AA (Aa (Ae (Ac (Ab Ad rfl (Ab Ah rfl (Af (Aa (AD ?_)))))))))))
  refine Aw rfl rfl rfl ⟨arr', Pl, ⟨hpm, hPI.ends, hPI.apart, hPI.same, fun i j hij hj hk => hPI.most i j hij hj (by omega) hk, fun q hq i j hij hj => ?_, htop, hkm⟩, hAr, hOa.trans hO, ownsRow_low hrow (by omega)⟩
  have := hPI.ends q hq
  exact (hkm (q.1 + i) (q.1 + j) (by omega) (by omega)).2 ((hPI.same q hq i (by omega)).symm.trans (hPI.same q hq j hj))
 have hon : o < g.nv := by omega
 refine Aq (Aa (Ao ?_))
 have h1 := hcell w2 hAr o hon
 rw [show o = o + 0 from rfl] at h1
 refine Ae (Ac (Ab Ad rfl (Ab (x_index0 rfl rfl (An rfl) (by omega)) rfl (Ab (Ai rfl (Ag rfl) ‹_›) rfl ?_))))
 refine Ab Ah rfl (Af (Aa (Ae (Ac (Ab Ah rfl (Af (Aa ?_)))))))
 have hg2 := hgx w2 hO
 refine BS [(0, .slice (some ⟨A, o, none⟩) (g.nv - o) (g.nv + 1 - o)), (3, .pointer (some ⟨bx, 0, none⟩)), (5, p), (6, L.vp (arr' o)), (7, .int .i64 ((1 : Nat) : Int))] rfl ⟨rfl, rfl, rfl, rfl, rfl, trivial⟩ fun t => ?_
 refine AX (fun e w3 => ∃ j, 1 ≤ j ∧ o + j ≤ g.nv ∧ (∀ i, i < j → key g (arr' o) = key g (arr' (o + i))) ∧ (o + j = g.nv ∨ key g (arr' o) ≠ key g (arr' (o + j))) ∧ Gn w2 w3 ∧
  At e [(0, .slice (some ⟨A, o, none⟩) (g.nv - o) (g.nv + 1 - o)), (3, .pointer (some ⟨bx, 0, none⟩)), (5, p), (7, .int .i64 (j : Int))]) ?_ ?_
 ·refine Ao ?_
  refine EC_loop (fun m e w3 => ∃ j, 1 ≤ j ∧ o + j ≤ g.nv ∧ (∀ i, i < j → key g (arr' o) = key g (arr' (o + i))) ∧ Gn w2 w3 ∧
   At e [(0, .slice (some ⟨A, o, none⟩) (g.nv - o) (g.nv + 1 - o)), (3, .pointer (some ⟨bx, 0, none⟩)), (5, p), (6, L.vp (arr' o)), (7, .int .i64 (j : Int))] ∧ m = g.nv - j) (g.nv - 1)
   ⟨1, Nat.le_refl _, by omega, fun i hi => by rw [show i = 0 by omega, Nat.add_zero], Gn.refl _, Ar rfl ⟨rfl, rfl, rfl, rfl, rfl, trivial⟩, rfl⟩ ?_
  rintro m e w3 ⟨j, hj, hjn, hs, hW, ⟨t, rfl⟩, rfl⟩
  refine Ae (Ae (Ac (Ab Ad rfl (Ab Ad rfl (Ab (AP rfl (An rfl)) rfl (Ab (AW rfl rfl) rfl (Af (Aa ?_))))))))
  refine AG rfl rfl (fun hlt => ?_) (fun hge => ?_)
  rotate_left
  ·refine AI (AB (AC (AA ?_)))
   exact AU ⟨j, hj, hjn, hs, .inl (by omega), hW, Ar rfl ⟨rfl, rfl, rfl, rfl, trivial⟩⟩
  have hjl : o + j < g.nv := by omega
  refine Aq (Aa ?_)
  have hb3 := hW.below
  have hO3 := hO.bel (hO.size) hb3
  have hAr3 : BT w3 L A g.nv arr' := (hb3.block A (Array.getElem?_eq_some_iff.1 hAr).1).trans hAr
  have hg3 := hgx w3 hO3
  have hx3 := hxc w3 hO3
  have h2 := hcell w3 hAr3 (o + j) hjl
  refine Ae (Ao (Ae (Ac (Ab Ad rfl (Ab Ad rfl (Ab (x_index1 rfl rfl (An rfl) (by omega)) rfl (Ab (Ai rfl (Ag rfl) ‹_›) rfl ?_)))))))
  refine Ab Ah rfl (Af (Aa (Ae (Ac (Ab Ad rfl (Ab Ad rfl (Ab (Ai rfl (Ag rfl) ‹_›) rfl ?_)))))))
  refine Bg (AH Tryz.func78 rfl rfl rfl rfl) rfl (cmpVal_ret hg3 (hlt' o hon) (hlt' (o + j) hjl) (hblk _ (hlt' o hon)) (hblk _ (hlt' (o + j) hjl)) (hty _ _) (hop _ (hlt' o hon))) ?_
  rintro _ w4 ⟨rfl, hW4⟩
  refine Ab (Br rfl rfl) rfl (Af (Aa ?_))
  refine AG rfl rfl (fun hne' => ?_) (fun heq => ?_)
  ·refine AI (Cr rfl (AB (AC (AA ?_))))
   refine AU ⟨j, hj, hjn, hs, .inr fun e => hne' ?_, hW.trans hW4, Ar rfl ⟨rfl, rfl, rfl, rfl, trivial⟩⟩
   rw [cv_lexc]; exact (lexc_eq (key g (arr' o)) (key g (arr' (o + j))) rfl).2 e
  refine Aq (Ap (Aa (Ac (Ab Ad rfl (Ab (x_inc rfl rfl (by omega)) rfl (Ab Ah rfl (Af ?_)))))))
  refine Av (g.nv - (j + 1)) (by omega) ⟨j + 1, by omega, by omega, fun i hi => ?_, hW.trans hW4, Ar rfl ⟨rfl, rfl, rfl, rfl, rfl, trivial⟩, rfl⟩
  by_cases e : i = j
  ·subst e
   have := Classical.not_not.1 heq
   rw [cv_lexc] at this
   exact (lexc_eq (key g (arr' o)) (key g (arr' (o + i))) rfl).1 this
  exact hs i (by omega)
 rintro e w3 ⟨j, hj, hjn, hs, he, hW, ⟨t, rfl⟩⟩
 have hnx := hPI.next (fun i j h1 h2 => (hkm i j h1 h2).1) hj hjn hs he
 have hb3 := hW.below
 have hO3 := hO.bel (hO.size) hb3
 have hAr3 : BT w3 L A g.nv arr' := (hb3.block A (Array.getElem?_eq_some_iff.1 hAr).1).trans hAr
 have hrow3 := Ay hrow (w' := w3) fun k e => hb3.block k (As hrow k e).2
 have hs3 := hO3.size
 refine AX (fun e w4 => ∃ p', w4.ownsRow (bx + 1) 113 1 p' (if 1 < j then Pl ++ [(o, j)] else Pl).length ((if 1 < j then Pl ++ [(o, j)] else Pl).map (slV A (g.nv + 1))) ∧ BT w4 L A g.nv arr' ∧ Only (fun j => j = A) wa w4 ∧
  At e [(0, .slice (some ⟨A, o, none⟩) (g.nv - o) (g.nv + 1 - o)), (3, .pointer (some ⟨bx, 0, none⟩)), (5, p'), (7, .int .i64 (j : Int))]) ?_ ?_
 ·refine Ae (Ac (Ab Ad rfl (Ab (BC rfl rfl) rfl (Af (Aa ?_)))))
  refine AG rfl rfl (fun h1 => ?_) (fun h1 => ?_)
  rotate_left
  ·rw [if_neg (show ¬ 1 < j by omega)]
   refine Aq ?_
   exact AU ⟨p, hrow3, hAr3, hO3, Ar rfl ⟨rfl, rfl, rfl, rfl, trivial⟩⟩
  have h1 : 1 < j := by omega
  refine Ac (Ab Ad rfl (Ab Ad rfl (Ab Ad rfl (Ab (x_sliceK (k := j) Tryz.underlying78 CF rfl rfl (by omega)) rfl (Ab (Bo (v := slV A (g.nv + 1) (o, j)) rfl rfl Tryz.underlying108 (by kernel_rfl) (z := .slice none 0 0) rfl) rfl ?_)))))
  have hpl := hPI.len
  refine el_new0 (.cells #[slV A (g.nv + 1) (o, j)] 113) fun w5 hN5 hO5 hZ5 hB5 hK5 => ?_
  have hO5' := hO3.bel (hO3.size) hB5
  have hAr5 : BT w5 L A g.nv arr' := (hO5 A (Array.getElem?_eq_some_iff.1 hAr3).1).trans hAr3
  have hrow5 := Ay hrow3 (w' := w5) fun k e => hO5 k (As hrow3 k e).2
  refine By hrow5 (Am hN5 rfl) rfl (by omega) (by decide) (by omega) Tryz.underlying108 Eu rfl rfl rfl rfl ?_
  intro p6 w6 hrow6 hgr6 hwh6
  have hnA : ∀ k, p.ownBlock = some k → bx + 1 ≤ k := fun k hk => (As hrow3 k hk).1
  have hO6 : Only (fun j => j = A) wa w6 := hO5'.grow hgr6 fun k hk => by have := hnA k hk; omega
  have hAr6 : BT w6 L A g.nv arr' := (hgr6.block A (by omega) (fun e => by have := hnA A e.symm; omega)).trans hAr5
  refine Ab Ah rfl (Af ?_)
  refine AU ⟨p6, ?_, hAr6, hO6, Ar rfl ⟨rfl, rfl, rfl, rfl, trivial⟩⟩
  rw [if_pos h1, List.length_append, List.map_append]
  exact hrow6
 rintro e w4 ⟨p', hrow4, hAr4, hO4, ⟨t, rfl⟩⟩
 refine Ac (Ab Ad rfl (Ab Ad rfl (Ab (x_sliceL (l := j) Tryz.underlying78 CF rfl rfl (by omega) (by omega) (by omega)) rfl (Ab Ah rfl (Af (Ap ?_))))))
 rw [Nat.sub_sub, Nat.sub_sub]
 exact Av (g.nv - (o + j)) (by omega) ⟨o + j, _, p', hjn, hnx, hAr4, hO4, hrow4, Ar rfl ⟨rfl, rfl, rfl, trivial⟩, rfl⟩
end Go.Proofs.YteepnepebilckaaGreatDoor
