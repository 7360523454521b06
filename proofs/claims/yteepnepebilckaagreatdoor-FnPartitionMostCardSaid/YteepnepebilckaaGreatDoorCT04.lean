/- For every input in which the opcode table reads as laid the law FnPartitionMost returns true, and its argument reads as it did, the table being tied to the text of the program. -/
import Derived.Test.YteepnepebilckaaGreatDoorCT03
namespace Go.Eng
open Go Go.RowKit
section
variable {P : Program} {l : List Oper} {S : World → Prop} {Q : Env → World → Prop} {r : List (Nat × Bool)} {e : Env} {w : World} {i d : Nat} {op : Op} {ty : TypeId} {pos : String} {af : Array Edge}
theorem B7 {g : Option Tmp} (ho : nthO l i = ⟨g, op, ty, pos, af, none⟩) : Ch l e i = true := by
 unfold Ch Region.wanted; rw [ho]
theorem EZ {g : Option Tmp} {j : Nat} {b : Bool} (ho : nthO l i = ⟨g, op, ty, pos, af, some (j, b)⟩) (hg : gEv l.toArray e j = some b) : Ch l e i = true := by
 unfold Ch Region.wanted; rw [ho]; dsimp only; rw [hg]; simp
theorem Fk {g : Option Tmp} {j : Nat} {b : Bool} (ho : nthO l i = ⟨g, op, ty, pos, af, some (j, b)⟩) (hg : gEv l.toArray e j = some (!b)) : Ch l e i = false := by
 unfold Ch Region.wanted; rw [ho]; dsimp only; rw [hg]; cases b <;> rfl
theorem AR (h : Q e w) : DL P l S Q [] e w := h
theorem Aj {v : Value} (ho : nthO l i = ⟨some d, op, ty, pos, af, none⟩)
 (hx : ∀ w', S w' → (execOp e.ev ⟨some d, op, ty, pos, af, none⟩).run P w' = .ok (.value v) w') (h : DL P l S Q r (e.set d v) w) : DL P l S Q ((i, false) :: r) e w := by
 refine ⟨v, fun w' hw => .inl ⟨B7 ho, by rw [ho]; exact hx w' hw⟩, ?_⟩
 rw [ho]; exact h
theorem AF {v : Value} {j : Nat} {b : Bool} (ho : nthO l i = ⟨some d, op, ty, pos, af, some (j, b)⟩) (hg : gEv l.toArray e j = some b)
 (hx : ∀ w', S w' → (execOp e.ev ⟨some d, op, ty, pos, af, some (j, b)⟩).run P w' = .ok (.value v) w') (h : DL P l S Q r (e.set d v) w) : DL P l S Q ((i, false) :: r) e w := by
 refine ⟨v, fun w' hw => .inl ⟨EZ ho hg, by rw [ho]; exact hx w' hw⟩, ?_⟩
 rw [ho]; exact h
theorem AK {j : Nat} {b : Bool} (ho : nthO l i = ⟨some d, op, ty, pos, af, some (j, b)⟩) (hg : gEv l.toArray e j = some (!b))
 (h : DL P l S Q r (e.set d undef) w) : DL P l S Q ((i, false) :: r) e w := by
 refine ⟨undef, fun w' hw => .inr ⟨Fk ho hg, rfl⟩, ?_⟩
 rw [ho]; exact h
theorem B9 {v : Value} {w1 : World} (ho : nthO l i = ⟨some d, op, ty, pos, af, none⟩)
 (hx : (execOp e.ev ⟨some d, op, ty, pos, af, none⟩).run P w = .ok (.value v) w1) (hS : r = [] ∨ S w1) (h : DL P l S Q r (e.set d v) w1) : DL P l S Q ((i, true) :: r) e w := by
 refine .inr ⟨B7 ho, .inl ⟨v, w1, by rw [ho]; exact hx, hS, ?_⟩⟩
 rw [ho]; exact h
theorem Cb {w1 : World} (ho : nthO l i = ⟨none, op, ty, pos, af, none⟩)
 (hx : (execOp e.ev ⟨none, op, ty, pos, af, none⟩).run P w = .ok .skip w1) (hS : r = [] ∨ S w1) (h : DL P l S Q r e w1) : DL P l S Q ((i, true) :: r) e w := by
 refine .inr ⟨B7 ho, .inr (.inl ⟨w1, by rw [ho]; exact hx, hS, ?_⟩)⟩
 rw [ho]; exact h
theorem BL {f : FuncId} {args : Array Value} {w1 : World} {C : Value → World → Prop} (ho : nthO l i = ⟨some d, op, ty, pos, af, none⟩)
 (hx : (execOp e.ev ⟨some d, op, ty, pos, af, none⟩).run P w = .ok (.enter f args) w1) (hc : Ret P f args w1 C)
 (h : ∀ v w2, C v w2 → (r = [] ∨ S w2) ∧ DL P l S Q r (e.set d v) w2) : DL P l S Q ((i, true) :: r) e w := by
 refine .inr ⟨B7 ho, .inr (.inr ⟨f, args, w1, C, by rw [ho]; exact hx, hc, fun v w2 hv => ?_⟩)⟩
 rw [ho]; exact h v w2 hv
theorem EX {f : FuncId} {args : Array Value} {w1 : World} {C : Value → World → Prop} {j : Nat} {b : Bool} (ho : nthO l i = ⟨some d, op, ty, pos, af, some (j, b)⟩) (hg : gEv l.toArray e j = some b)
 (hx : (execOp e.ev ⟨some d, op, ty, pos, af, some (j, b)⟩).run P w = .ok (.enter f args) w1) (hc : Ret P f args w1 C)
 (h : ∀ v w2, C v w2 → (r = [] ∨ S w2) ∧ DL P l S Q r (e.set d v) w2) : DL P l S Q ((i, true) :: r) e w := by
 refine .inr ⟨EZ ho hg, .inr (.inr ⟨f, args, w1, C, by rw [ho]; exact hx, hc, fun v w2 hv => ?_⟩)⟩
 rw [ho]; exact h v w2 hv
theorem D7 {j : Nat} {b : Bool} (ho : nthO l i = ⟨some d, op, ty, pos, af, some (j, b)⟩) (hg : gEv l.toArray e j = some (!b))
 (hS : r = [] ∨ S w) (h : DL P l S Q r (e.set d undef) w) : DL P l S Q ((i, true) :: r) e w := by
 refine .inl ⟨Fk ho hg, hS, ?_⟩
 rw [ho]; exact h
end
def Cells (L : List (Addr × Value)) (w : World) : Prop := ∀ x ∈ L, w.cell? x.1 = some x.2
theorem Cells.get {L : List (Addr × Value)} {w : World} (h : Cells L w) {p : Addr} {v : Value} (hm : (p, v) ∈ L) : w.cell? p = some v := h _ hm
theorem Cells.nil (w : World) : Cells [] w := fun _ h => by cases h
theorem Cells.cons {L : List (Addr × Value)} {w : World} {p : Addr} {v : Value} (h1 : w.cell? p = some v) (h : Cells L w) : Cells ((p, v) :: L) w := by
 intro x hx
 rcases List.mem_cons.1 hx with rfl | hx
 ·exact h1
 exact h x hx
theorem Cells.drew {L : List (Addr × Value)} {w : World} (h : Cells L w) : Cells L w.drew := h
theorem cell?_alloc {w : World} {o : Obj} {p : Addr} {v : Value} (h : w.cell? p = some v) : (w.alloc o).cell? p = some v := by
 have hlt := World.block_lt_of_cell? w p h
 rw [World.cell?_of_block (w := w) (w' := w.alloc o) (a := p) (Below.heap_alloc _ _ _ hlt)]
 exact h
theorem Cells.alloc {L : List (Addr × Value)} {w : World} (h : Cells L w) (o : Obj) : Cells L (w.alloc o) := fun x hx => cell?_alloc (h x hx)
theorem Cells.grown {L : List (Addr × Value)} {w w' : World} {row : Option Nat} (h : Cells L w) (hg : w.grownBy w' row) (hr : ∀ x ∈ L, some x.1.block ≠ row) : Cells L w' :=
 fun x hx => hg.cell (h x hx) (hr x hx)
def Keep (w w' : World) : Prop := ∀ a v, w.cell? a = some v → w'.cell? a = some v
theorem Keep.trans {a b c : World} (h : Keep a b) (k : Keep b c) : Keep a c := fun x v hx => k x v (h x v hx)
theorem Keep.alloc (w : World) (o : Obj) : Keep w (w.alloc o) := fun _ _ h => cell?_alloc h
theorem Keep.drew (w : World) : Keep w w.drew := fun _ _ h => h
theorem Keep.of_below {w w' : World} {B : Nat} (h : Below B w w') (hB : w.heap.size ≤ B) : Keep w w' := fun a v hv => by
 rw [h.cell (by have := World.block_lt_of_cell? w a hv; omega)]; exact hv
theorem Keep.cells {L : List (Addr × Value)} {w w' : World} (h : Keep w w') (hL : Cells L w) : Cells L w' := fun x hx => h _ _ (hL x hx)
theorem append_where {P : Program} {w : World} {t ty el : TypeId} {i : TypeInfo} {z : Value} {base : Nat}
 (ht : P.underlying t = some (.slice el)) (hi : P.info? el = some i) (hz : i.zero = some z) {v : Value} {n : Nat} {xs : List Value} (hown : w.ownsRow base el i.size v n xs)
 {ad : Addr} {m c : Nat} {news : List Value} (hl : news.length = m * i.size) (hnews : ∀ j u, news[j]? = some u → w.cell? (ad.add j) = some u) (h1 : ∀ u ∈ news, u.oneCell' = true)
 (hbytes : (n + m) * i.bytes ≤ 140737488355328) (h63 : n + m ≤ maxLen) {v' : Value} {w' : World}
 (hr : (Builtin.append_ #[t, t] ty #[v, .slice (some ad) m c]).run P w = .ok v' w') : v'.ownBlock = v.ownBlock ∨ v'.ownBlock = some w.heap.size := by
 have hsmall : n + m ≤ 9223372036854775807 := by simp only [maxLen] at h63; omega
 rcases hown.2 with ⟨rfl, rfl⟩ | ⟨g, cap, cur, rfl, hbg, hg, hnc, hcm, hcs, htake⟩
 ·by_cases hm : m = 0
  ·subst hm
   have hn : news = [] := List.eq_nil_of_length_eq_zero (by simpa using hl)
   subst hn
   simp [Builtin.append_, run_underlying ht, sizeOf, typeInfo, hi, Builtin.lenOf, Builtin.firstCells, loadCells, loadCellsFrom] at hr
   left; rw [← hr.1]
  have hr2 := run_append_nil (P := P) w t ty el i z ht hi hz ad m c news hl hnews (by omega) (by omega) (by have hb := hbytes; simp only [Nat.zero_add] at hb; omega)
  rw [hr2] at hr
  injection hr with h1 h2
  right; rw [← h1]; rfl
 by_cases hroom : n + m ≤ cap
 ·have hfit : n * i.size + news.length ≤ cur.size := by rw [hl, hcs, ← Nat.add_mul]; exact Nat.mul_le_mul_right _ hroom
  have hr2 := run_append_room (P := P) w t ty el i ht hi g n cap cur hg ad m c news hl hnews h1 hroom hfit
  rw [hr2] at hr
  injection hr with h1 h2
  left; rw [← h1]; rfl
 have holds : ∀ j u, xs[j]? = some u → w.cell? ((⟨g, 0, none⟩ : Addr).add j) = some u := hown.cells (g := g) rfl
 have hr2 := run_append_grow (P := P) w t ty el i z ht hi hz ⟨g, 0, none⟩ n cap xs hown.1 holds ad m c news hl hnews (by omega) (by omega) (growslice_fits (by omega) hbytes)
 rw [hr2] at hr
 injection hr with h1 h2
 right; rw [← h1]; rfl
theorem x_append {P : Program} {w : World} {ρ : Operand → Value} {d : Option Tmp} {ty : TypeId} {pos : String} {af : Array Edge} {g : Option (Nat × Bool)} {t el : TypeId} {s x : Operand} {z : Value} {size bytes base : Nat}
 (ht : P.underlying t = some (.slice el)) (hi : (P.info? el).map (fun i => (i.zero, i.size, i.bytes)) = some (some z, size, bytes)) (hzs : z.cells.size = size) (hsz : 0 < size)
 {v : Value} {n : Nat} {xs : List Value} (hs : ρ s = v) (hown : w.ownsRow base el size v n xs)
 {ad : Addr} {m c : Nat} {news : List Value} (hx : ρ x = .slice (some ad) m c) (hl : news.length = m * size) (hnews : ∀ j u, news[j]? = some u → w.cell? (ad.add j) = some u) (h1 : ∀ u ∈ news, u.oneCell' = true)
 (hbytes : (n + m) * bytes ≤ 140737488355328) (hb0 : 0 < bytes) (hbase : base ≤ w.heap.size) :
 ∃ v' w', (execOp ρ ⟨d, .call { callee := .builtin .append, args := #[s, x], argTypes := #[t, t] }, ty, pos, af, g⟩).run P w = .ok (.value v') w' ∧
   w'.ownsRow base el size v' (n + m) (xs ++ news) ∧ w.grownBy w' v.ownBlock ∧ (v' = .slice none 0 0 ↔ v = .slice none 0 0 ∧ m = 0) ∧ (v'.ownBlock = v.ownBlock ∨ v'.ownBlock = some w.heap.size) := by
 obtain ⟨i, hi1, hi2, rfl, rfl⟩ := info_parts hi
 have h63 : n + m ≤ maxLen := by
  have : n + m ≤ (n + m) * i.bytes := Nat.le_mul_of_pos_right _ hb0
  simp only [maxLen]; omega
 obtain ⟨v', w', hr, h2, h3, h4⟩ := run_append_own (P := P) w base t ty el i z i.size i.bytes ht hi1 hi2 rfl rfl hzs hsz v n xs hown ad m c news hl hnews h1 h63 hbytes hbase
 refine ⟨v', w', ?_, h2, h3, h4, append_where ht hi1 hi2 hown hl hnews h1 hbytes h63 hr⟩
 unfold execOp
 simp only [resolve, invoke, builtin, Sem.run_bind, Sem.run_pure, Result.andThen_ok, List.map_toArray, List.map_cons, List.map_nil, hs, hx, hr]
theorem EN {P : Program} {w : World} {ρ : Operand → Value} {d : Option Tmp} {ty : TypeId} {pos : String} {af : Array Edge} {g : Option (Nat × Bool)} {t el : TypeId} {s x : Operand} {z : Value} {size bytes base : Nat}
 (ht : P.underlying t = some (.slice el)) (hi : (P.info? el).map (fun i => (i.zero, i.size, i.bytes)) = some (some z, size, bytes))
 {v : Value} {n : Nat} {xs : List Value} (hs : ρ s = v) (hown : w.ownsRow base el size v n xs) {c : Nat} (hx : ρ x = .slice none 0 c) :
 (execOp ρ ⟨d, .call { callee := .builtin .append, args := #[s, x], argTypes := #[t, t] }, ty, pos, af, g⟩).run P w = .ok (.value v) w := by
 obtain ⟨i, hi1, hi2, hi3, hi4⟩ := info_parts hi
 have hsz : ∃ a l c', v = .slice a l c' ∧ l ≤ c' := by
  rcases hown.2 with ⟨rfl, _⟩ | ⟨g, cap, cur, rfl, _, _, hle, _⟩
  ·exact ⟨_, _, _, rfl, Nat.le_refl _⟩
  exact ⟨_, _, _, rfl, hle⟩
 obtain ⟨a, l, c', rfl, hle⟩ := hsz
 unfold execOp
 simp [resolve, invoke, builtin, hs, hx, Builtin.append_, run_underlying ht, sizeOf, typeInfo, hi1, Builtin.lenOf, hle, Builtin.firstCells]
 cases a <;> simp [storeCells]
theorem x_append1 {P : Program} {w : World} {ρ : Operand → Value} {d : Option Tmp} {ty : TypeId} {pos : String} {af : Array Edge} {g : Option (Nat × Bool)} {t el : TypeId} {s x : Operand} {z : Value} {bytes base : Nat}
 (ht : P.underlying t = some (.slice el)) (hi : (P.info? el).map (fun i => (i.zero, i.size, i.bytes)) = some (some z, 1, bytes)) (hzs : z.cells.size = 1)
 {v : Value} {n : Nat} {xs : List Value} (hs : ρ s = v) (hown : w.ownsRow base el 1 v n xs)
 {b : Nat} {u : Value} (hx : ρ x = .slice (some ⟨b, 0, none⟩) 1 1) (hu : w.cell? ⟨b, 0, none⟩ = some u) (h1 : u.oneCell' = true)
 (hbytes : (n + 1) * bytes ≤ 140737488355328) (hb0 : 0 < bytes) (hbase : base ≤ w.heap.size) :
 ∃ v' w', (execOp ρ ⟨d, .call { callee := .builtin .append, args := #[s, x], argTypes := #[t, t] }, ty, pos, af, g⟩).run P w = .ok (.value v') w' ∧
   w'.ownsRow base el 1 v' (n + 1) (xs ++ [u]) ∧ w.grownBy w' v.ownBlock ∧ (v'.ownBlock = v.ownBlock ∨ v'.ownBlock = some w.heap.size) := by
 obtain ⟨v', w', h2, h3, h4, _, h6⟩ := x_append (d := d) (ty := ty) (pos := pos) (af := af) (g := g) (news := [u]) ht hi hzs (by omega) hs hown hx rfl (fun j y hj => by
  cases j with
  | zero => simp at hj; subst hj; simpa [Addr.add] using hu
  | succ j => simp at hj) (fun y hy => by simp at hy; subst hy; exact h1) hbytes hb0 hbase
 exact ⟨v', w', h2, h3, h4, h6⟩
end Go.Eng
namespace Go.Proofs.YteepnepebilckaaGreatDoor
open Go Go.Eng
noncomputable instance : Tab Tryz.prog where
 one := [2, 3, 4, 21, 22, 23, 27, 28, 33, 35, 42, 46, 49, 59, 60, 71, 74, 75, 78, 80, 88, 89, 91, 92, 95, 96, 97, 98, 108, 110, 113, 114, 121, 124, 127, 132, 143, 162, 177, 181, 204]
 agg := [(25, 2), (30, 2), (39, 4), (48, 4), (53, 4), (54, 4), (62, 2), (82, 6), (83, 4), (84, 4), (94, 8), (101, 7), (103, 1), (116, 1), (117, 21), (153, 5), (206, 2)]
 fld := [(25, 0, 0), (25, 1, 1), (30, 0, 0), (30, 1, 1), (39, 0, 0), (39, 1, 1), (39, 2, 2), (39, 3, 3), (48, 0, 0), (48, 1, 1), (48, 2, 2), (48, 3, 3), (53, 0, 0), (53, 1, 1), (53, 2, 2), (53, 3, 3), (54, 0, 0), (54, 1, 1), (54, 2, 2), (54, 3, 3), (62, 0, 0), (62, 1, 1), (82, 0, 0), (82, 1, 1), (82, 3, 2), (82, 4, 3), (82, 5, 4), (82, 6, 5), (83, 0, 0), (83, 1, 1), (83, 2, 2), (83, 3, 3), (84, 0, 0), (84, 1, 1), (84, 2, 2), (84, 3, 3), (94, 0, 0), (94, 1, 1), (94, 2, 2), (94, 3, 3), (94, 4, 4), (94, 5, 5), (94, 6, 6), (94, 7, 7), (101, 0, 0), (101, 1, 1), (101, 2, 2), (101, 3, 3), (101, 4, 4), (101, 5, 5), (101, 6, 6), (103, 0, 0), (116, 0, 0), (153, 0, 0), (153, 1, 1), (153, 2, 2), (153, 3, 3), (153, 4, 4), (206, 0, 0), (206, 1, 1)]
 sl := [(22, 4), (23, 4), (27, 4), (28, 4), (33, 1), (35, 1), (42, 1), (46, 1), (49, 1), (59, 4), (60, 4), (75, 1), (78, 1), (92, 1), (108, 1), (110, 1), (113, 1), (114, 1), (127, 5), (204, 2)]
 ptr := [71, 74, 97, 181]
 ints := [(2, .i64), (3, .i64), (21, .i32), (88, .i32), (89, .i64), (91, .i8), (95, .i64), (96, .i64), (121, .u32), (132, .u64), (143, .i8), (162, .i64), (177, .u64)]
 hone := by kernel_rfl
 hagg := by kernel_rfl
 hfld := by kernel_rfl
 hsl := by kernel_rfl
 hptr := by kernel_rfl
 hints := by kernel_rfl
theorem Cn : (Tryz.prog.info? 3).map (fun i => (i.zero, i.size, i.bytes)) = some (some (.int .i64 0), 1, 8) := by kernel_rfl
theorem info4 : (Tryz.prog.info? 4).map (fun i => (i.zero, i.size, i.bytes)) = some (some (.bool false), 1, 1) := by kernel_rfl
theorem F1 : (Tryz.prog.info? 35).map (fun i => (i.zero, i.size, i.bytes)) = some (some (.slice none 0 0), 1, 24) := by kernel_rfl
theorem info39 : (Tryz.prog.info? 39).map (fun i => (i.zero, i.size, i.bytes)) = some (some (.agg #[.int .i64 0, .int .i64 0, .slice none 0 0, .int .i64 0]), 4, 48) := by kernel_rfl
theorem info49 : (Tryz.prog.info? 49).map (fun i => (i.zero, i.size, i.bytes)) = some (some (.slice none 0 0), 1, 24) := by kernel_rfl
theorem info54 : (Tryz.prog.info? 54).map (fun i => (i.zero, i.size, i.bytes)) = some (some (.agg #[.int .i64 0, .int .i64 0, .slice none 0 0, .int .i64 0]), 4, 48) := by kernel_rfl
theorem CJ : (Tryz.prog.info? 74).map (fun i => (i.zero, i.size, i.bytes)) = some (some (.pointer none), 1, 8) := by kernel_rfl
theorem info83 : (Tryz.prog.info? 83).map (fun i => (i.zero, i.size, i.bytes)) = some (some (.agg #[.int .i64 0, .int .i64 0, .slice none 0 0, .int .i64 0]), 4, 48) := by kernel_rfl
theorem info84 : (Tryz.prog.info? 84).map (fun i => (i.zero, i.size, i.bytes)) = some (some (.agg #[.int .i64 0, .int .i64 0, .slice none 0 0, .int .i64 0]), 4, 48) := by kernel_rfl
theorem FW : (Tryz.prog.info? 88).map (fun i => (i.zero, i.size, i.bytes)) = some (some (.int .i32 0), 1, 4) := by kernel_rfl
theorem CF : (Tryz.prog.info? 97).map (fun i => (i.zero, i.size, i.bytes)) = some (some (.pointer none), 1, 8) := by kernel_rfl
theorem Fh : (Tryz.prog.info? 103).map (fun i => (i.zero, i.size, i.bytes)) = some (some (.agg #[.pointer none]), 1, 8) := by kernel_rfl
theorem Eu : (Tryz.prog.info? 113).map (fun i => (i.zero, i.size, i.bytes)) = some (some (.slice none 0 0), 1, 24) := by kernel_rfl
theorem GT : (Tryz.prog.info? 153).map (fun i => (i.zero, i.size, i.bytes)) = some (some (.agg #[.pointer none, .pointer none, .pointer none, .int .i32 0, .int .i32 0]), 5, 32) := by kernel_rfl
theorem DU : (Tryz.prog.info? 206).map (fun i => (i.zero, i.size, i.bytes)) = some (some (.agg #[.pointer none, .int .i64 0]), 2, 16) := by kernel_rfl
end Go.Proofs.YteepnepebilckaaGreatDoor
