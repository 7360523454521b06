/- For every input in which the opcode table reads as laid the law FnPartitionMost returns true, and its argument reads as it did, the table being tied to the text of the program. -/
import Derived.Test.YteepnepebilckaaGreatDoorCT01
namespace Go.Eng
open Go Go.RowKit
def oneB (P : Program) (t : TypeId) : Bool :=
 match P.underlying t with
 | some (.struct _) | some (.array _ _) | none => false
 | _ => true
def aggB (P : Program) (t : TypeId) (n : Nat) : Bool :=
 (match P.underlying t with
 | some (.struct _) | some (.array _ _) => true
 | _ => false) && ((P.info? t).map (·.size) == some n)
def CW (P : Program) (t : TypeId) (n : Nat) : Bool := (P.info? t).map (·.size) == some n
def fldB (P : Program) (s : TypeId) (i off : Nat) : Bool :=
 match P.underlying s with
 | some (.struct fs) => match fs[i]? with
   | some f => (f.offset == off) && (match P.info? f.type with | some x => x.size != 0 | none => false)
   | none => false
 | _ => false
def sliceB (P : Program) (t : TypeId) (n : Nat) : Bool :=
 match P.underlying t with
 | some (.slice e) => (P.info? e).map (·.size) == some n
 | _ => false
def ptrB (P : Program) (t : TypeId) : Bool :=
 match P.underlying t with
 | some (.pointer e) => (match P.info? e with | some i => i.size != 0 | none => false)
 | _ => false
def intB (P : Program) (t : TypeId) (k : IntKind) : Bool := match P.underlying t with | some (.int k') => k' == k | _ => false
class Tab (P : Program) where
 one : List Nat
 agg : List (Nat × Nat)
 fld : List (Nat × Nat × Nat)
 sl : List (Nat × Nat)
 ptr : List Nat
 ints : List (Nat × IntKind)
 hone : (one.all fun t => oneB P t && CW P t 1) = true
 hagg : (agg.all fun x => aggB P x.1 x.2 && CW P x.1 x.2) = true
 hfld : (fld.all fun x => fldB P x.1 x.2.1 x.2.2) = true
 hsl : (sl.all fun x => sliceB P x.1 x.2) = true
 hptr : (ptr.all fun t => ptrB P t) = true
 hints : (ints.all fun x => intB P x.1 x.2) = true
def has1 : List Nat → Nat → Bool
 | [], _ => false
 | a :: r, t => bif Nat.beq t a then true else has1 r t
def look2 {α : Type} : List (Nat × α) → Nat → Option α
 | [], _ => none
 | a :: r, t => bif Nat.beq t a.1 then some a.2 else look2 r t
def look3 : List (Nat × Nat × Nat) → Nat → Nat → Option Nat
 | [], _, _ => none
 | a :: r, t, i => bif Nat.beq t a.1 then (bif Nat.beq i a.2.1 then some a.2.2 else look3 r t i) else look3 r t i
theorem beq_true {a b : Nat} (h : Nat.beq a b = true) : a = b := Nat.eq_of_beq_eq_true h
theorem D1 {l : List Nat} {t : Nat} (h : has1 l t = true) : t ∈ l := by
 induction l with
 | nil => cases h
 | cons a r ih =>
   simp only [has1] at h
   cases hb : Nat.beq t a with
   | true => rw [beq_true hb]; simp
   | false => rw [hb] at h; exact List.mem_cons_of_mem _ (ih h)
theorem C5 {α : Type} {l : List (Nat × α)} {t : Nat} {x : α} (h : look2 l t = some x) : (t, x) ∈ l := by
 induction l with
 | nil => cases h
 | cons a r ih =>
   simp only [look2] at h
   cases hb : Nat.beq t a.1 with
   | true => rw [hb] at h; have := beq_true hb; cases h; subst this; simp
   | false => rw [hb] at h; exact List.mem_cons_of_mem _ (ih h)
theorem FH {l : List (Nat × Nat × Nat)} {t i x : Nat} (h : look3 l t i = some x) : (t, i, x) ∈ l := by
 induction l with
 | nil => cases h
 | cons a r ih =>
   obtain ⟨p, q, y⟩ := a
   simp only [look3] at h
   cases hb : Nat.beq t p with
   | true =>
     rw [hb] at h
     cases hb2 : Nat.beq i q with
     | true => rw [hb2] at h; have h1 := beq_true hb; have h2 := beq_true hb2; cases h; subst h1; subst h2; simp
     | false => rw [hb2] at h; exact List.mem_cons_of_mem _ (ih h)
   | false => rw [hb] at h; exact List.mem_cons_of_mem _ (ih h)
section
variable {P : Program} [T : Tab P] {t n i off : Nat}
theorem Ag (h : has1 T.one t = true) : oneB P t = true := by
 have := List.all_eq_true.1 T.hone t (D1 h)
 simp at this; exact this.1
theorem AM (h : has1 T.one t = true) : CW P t 1 = true := by
 have := List.all_eq_true.1 T.hone t (D1 h)
 simp at this; exact this.2
theorem A0 (h : look2 T.agg t = some n) : aggB P t n = true := by
 have := List.all_eq_true.1 T.hagg _ (C5 h)
 simp at this; exact this.1
theorem Bc (h : look2 T.agg t = some n) : CW P t n = true := by
 have := List.all_eq_true.1 T.hagg _ (C5 h)
 simp at this; exact this.2
theorem Al (h : look3 T.fld t i = some off) : fldB P t i off = true := List.all_eq_true.1 T.hfld _ (FH h)
theorem An (h : look2 T.sl t = some n) : sliceB P t n = true := List.all_eq_true.1 T.hsl _ (C5 h)
theorem BQ (h : has1 T.ptr t = true) : ptrB P t = true := List.all_eq_true.1 T.hptr _ (D1 h)
theorem CO {k : IntKind} (h : look2 T.ints t = some k) : intB P t k = true := List.all_eq_true.1 T.hints _ (C5 h)
end
section
variable {P : Program} {w : World} {ρ : Operand → Value} {d : Option Tmp} {ty : TypeId} {pos : String} {af : Array Edge} {g : Option (Nat × Bool)}
theorem Ad {x : Operand} : (execOp ρ ⟨d, .move x, ty, pos, af, g⟩).run P w = .ok (.value (ρ x)) w := rfl
theorem Ah {x : Operand} : (execOp ρ ⟨d, .assign x, ty, pos, af, g⟩).run P w = .ok (.value (ρ x)) w := rfl
theorem F5 {c x y : Operand} {b : Bool} (hc : ρ c = .bool b) : (execOp ρ ⟨d, .pick c x y, ty, pos, af, g⟩).run P w = .ok (.value (bif b then ρ x else ρ y)) w := by
 cases b <;> simp [execOp, hc, asBool]
theorem AQ {c x y : Operand} (hc : ρ c = .bool true) : (execOp ρ ⟨d, .pick c x y, ty, pos, af, g⟩).run P w = .ok (.value (ρ x)) w := by
 rw [F5 hc]; rfl
theorem AN {c x y : Operand} (hc : ρ c = .bool false) : (execOp ρ ⟨d, .pick c x y, ty, pos, af, g⟩).run P w = .ok (.value (ρ y)) w := by
 rw [F5 hc]; rfl
theorem EP {t : TypeId} (h : oneB P t = true) : (isAgg t).run P w = .ok false w := by
 unfold oneB at h
 cases hu : P.underlying t with
 | none => simp [hu] at h
 | some q =>
   unfold isAgg
   rw [Sem.run_bind, run_underlying hu w]
   rw [hu] at h
   cases q <;> simp_all
theorem Ai {t : TypeId} {x : Operand} {p : Addr} {v : Value} (hx : ρ x = .pointer (some p)) (ht : oneB P t = true) (hc : w.cell? p = some v) :
 (execOp ρ ⟨d, .load t x, ty, pos, af, g⟩).run P w = .ok (.value v) w := by
 simp [execOp, hx, Instr.loadAt, Instr.sureAddr, loadVar, EP ht, hc]
def CellsAt (w : World) (b o : Nat) (cs : List Value) : Prop := ∀ j v, cs[j]? = some v → w.cell? ⟨b, o + j, none⟩ = some v
theorem Cq {t : TypeId} {b o : Nat} {cs : List Value} (ht : aggB P t cs.length = true) (hc : CellsAt w b o cs) :
 (loadVar t ⟨b, o, none⟩).run P w = .ok (.agg cs.toArray) w := by
 have hl : (loadCells ⟨b, o, none⟩ cs.length).run P w = .ok cs.toArray w :=
  run_loadCells_list (P := P) w ⟨b, o, none⟩ cs (fun j v hv => by rw [Addr.add_lit]; exact hc j v hv)
 unfold aggB at ht
 cases hu : P.underlying t with
 | none => simp [hu] at ht
 | some q =>
   cases hq : P.info? t with
   | none => simp [hq] at ht
   | some i =>
     have hagg : (isAgg t).run P w = .ok true w := by
      unfold isAgg
      rw [Sem.run_bind, run_underlying hu w]
      rw [hu] at ht
      cases q <;> simp_all
     have hs : i.size = cs.length := by
      rw [hq] at ht
      simp only [Bool.and_eq_true] at ht
      simpa using ht.2
     simp [loadVar, Sem.run_bind, hagg, sizeOf, typeInfo, hq, hs, hl]
theorem A5 {t : TypeId} {x : Operand} {b o : Nat} {cs : List Value} (hx : ρ x = .pointer (some ⟨b, o, none⟩)) (ht : aggB P t cs.length = true) (hc : CellsAt w b o cs) :
 (execOp ρ ⟨d, .load t x, ty, pos, af, g⟩).run P w = .ok (.value (.agg cs.toArray)) w := by
 simp [execOp, hx, Instr.loadAt, Instr.sureAddr, Cq ht hc]
theorem Bj {b : Nat} {cs : List Value} {T : TypeId} {fr : Nat × Nat} (h : w.heap[b]? = some (.cells cs.toArray T fr)) : CellsAt w b 0 cs := by
 intro j v hv
 rw [cell_of_row w b (0 + j) cs.toArray T fr h]
 simpa using hv
theorem AV {t : TypeId} {x y : Operand} {p : Addr} {v old : Value} (hx : ρ x = .pointer (some p)) (hy : ρ y = v) (h1 : v.oneCell' = true) (ht : CW P t 1 = true) (hc : w.cell? p = some old) (hf : w.frozen? p = false) :
 (execOp ρ ⟨d, .store t x y, ty, pos, af, g⟩).run P w = .ok .skip (w.setCell p v) := by
 have hs : v.cells = #[v] := by cases v <;> first | rfl | (simp [Value.oneCell'] at h1)
 unfold CW at ht
 cases hq : P.info? t with
 | none => simp [hq] at ht
 | some i =>
   have hsz : i.size = 1 := by rw [hq] at ht; simpa using ht
   obtain ⟨b, o, s⟩ := p
   simp [execOp, hx, hy, Instr.storeAt, Instr.sureAddr, storeVar, sizeOf, typeInfo, hq, hsz, hs, storeCells, Addr.add, run_store P w _ v .plain h1, hc, hf]
theorem CA {t : TypeId} {x y : Operand} {b : Nat} {cs old : Array Value} {T : TypeId} (hx : ρ x = .pointer (some ⟨b, 0, none⟩)) (hy : ρ y = .agg cs) (hg : w.heap[b]? = some (.cells old T (0, 0)))
 (ht : CW P t cs.size = true) (ho : old.size = cs.size) (h1 : cs.toList.all (·.oneCell') = true) :
 (execOp ρ ⟨d, .store t x y, ty, pos, af, g⟩).run P w = .ok .skip (w.setRow b cs) := by
 rw [Array.all_toList] at h1
 have := run_storeVar_row (P := P) w b T t old cs hg (by unfold CW at ht; simpa using ht) ho h1
 simp [execOp, hx, hy, Instr.storeAt, Instr.sureAddr, this]
theorem Ax {x : Operand} {p : Addr} (hx : ρ x = .pointer (some p)) : (execOp ρ ⟨d, .nilCheck x, ty, pos, af, g⟩).run P w = .ok (.value (.pointer (some p))) w := by
 simp [execOp, hx]
theorem Ak {s : TypeId} {x : Operand} {i b o off : Nat} (hx : ρ x = .pointer (some ⟨b, o, none⟩)) (hf : fldB P s i off = true) :
 (execOp ρ ⟨d, .fieldAddr s x i, ty, pos, af, g⟩).run P w = .ok (.value (.pointer (some ⟨b, o + off, none⟩))) w := by
 unfold fldB at hf
 cases hu : P.underlying s with
 | none => simp [hu] at hf
 | some q =>
   rw [hu] at hf
   cases q <;> simp at hf
   rename_i fs
   cases hi : fs[i]? with
   | none => simp [hi] at hf
   | some f =>
     rw [hi] at hf
     cases hq : P.info? f.type with
     | none => simp [hq] at hf
     | some z =>
       simp [hq] at hf
       obtain ⟨ho, hz⟩ := hf
       simp [execOp, hx, Instr.fieldAt, run_underlying hu, hi, Instr.sureAddr, fieldPlace, sizeOf, typeInfo, hq, hz, ho, Addr.add_lit]
theorem En {t : TypeId} {x y : Operand} {b o len cap n : Nat} {k : IntKind} {i : Int} (hx : ρ x = .slice (some ⟨b, o, none⟩) len cap) (hy : ρ y = .int k i) (ht : sliceB P t n = true) (h0 : 0 ≤ i) (h1 : i < (len : Int)) :
 (execOp ρ ⟨d, .indexAddr t x y, ty, pos, af, g⟩).run P w = .ok (.value (.pointer (some ⟨b, o + i.toNat * n, none⟩))) w := by
 unfold sliceB at ht
 cases hu : P.underlying t with
 | none => simp [hu] at ht
 | some q =>
   rw [hu] at ht
   cases q <;> simp at ht
   rename_i el
   obtain ⟨z, hz, hzn⟩ := ht
   simp [execOp, hx, hy, Instr.indexAt, run_underlying hu, asIntOf, h0, h1, sizeOf, typeInfo, hz, hzn, Addr.add_lit]
theorem x_index1 {t : TypeId} {x y : Operand} {b o len cap i : Nat} {k : IntKind} (hx : ρ x = .slice (some ⟨b, o, none⟩) len cap) (hy : ρ y = .int k (i : Int)) (ht : sliceB P t 1 = true) (h1 : i < len) :
 (execOp ρ ⟨d, .indexAddr t x y, ty, pos, af, g⟩).run P w = .ok (.value (.pointer (some ⟨b, o + i, none⟩))) w := by
 have := En (P := P) (w := w) (d := d) (ty := ty) (pos := pos) (af := af) (g := g) hx hy ht (by omega) (by omega)
 simpa using this
theorem A3 {t : TypeId} {x y : Operand} {b o len cap i n : Nat} {k : IntKind} (hx : ρ x = .slice (some ⟨b, o, none⟩) len cap) (hy : ρ y = .int k (i : Int)) (ht : sliceB P t n = true) (h1 : i < len) :
 (execOp ρ ⟨d, .indexAddr t x y, ty, pos, af, g⟩).run P w = .ok (.value (.pointer (some ⟨b, o + i * n, none⟩))) w := by
 have := En (P := P) (w := w) (d := d) (ty := ty) (pos := pos) (af := af) (g := g) hx hy ht (by omega) (by omega)
 simpa using this
theorem x_index0 {t : TypeId} {x y : Operand} {b o len cap n : Nat} {k : IntKind} (hx : ρ x = .slice (some ⟨b, o, none⟩) len cap) (hy : ρ y = .int k 0) (ht : sliceB P t n = true) (h1 : 0 < len) :
 (execOp ρ ⟨d, .indexAddr t x y, ty, pos, af, g⟩).run P w = .ok (.value (.pointer (some ⟨b, o + 0, none⟩))) w := by
 have := En (P := P) (w := w) (d := d) (ty := ty) (pos := pos) (af := af) (g := g) hx hy ht (by omega) (by omega)
 simpa using this
theorem Gb {t : TypeId} {x y : Operand} {b o len cap i n : Nat} {k : IntKind} {z : Int} (hx : ρ x = .slice (some ⟨b, o, none⟩) len cap) (hy : ρ y = .int k z) (hz : z = (i : Int)) (ht : sliceB P t n = true) (h1 : i < len) :
 (execOp ρ ⟨d, .indexAddr t x y, ty, pos, af, g⟩).run P w = .ok (.value (.pointer (some ⟨b, o + i * n, none⟩))) w := by
 subst hz; exact A3 hx hy ht h1
theorem A4 {t : TypeId} {x y : Operand} {b o len cap i : Nat} {k : IntKind} {z : Int} (hx : ρ x = .slice (some ⟨b, o, none⟩) len cap) (hy : ρ y = .int k z) (hz : z = (i : Int)) (ht : sliceB P t 1 = true) (h1 : i < len) :
 (execOp ρ ⟨d, .indexAddr t x y, ty, pos, af, g⟩).run P w = .ok (.value (.pointer (some ⟨b, o + i, none⟩))) w := by
 subst hz; exact x_index1 hx hy ht h1
theorem AP {t : TypeId} {x : Operand} {a : Option Addr} {len cap n : Nat} (hx : ρ x = .slice a len cap) (ht : sliceB P t n = true) :
 (execOp ρ ⟨d, .call { callee := .builtin .len, args := #[x], argTypes := #[t] }, ty, pos, af, g⟩).run P w = .ok (.value (.int .i64 (len : Int))) w := by
 unfold sliceB at ht
 cases hu : P.underlying t with
 | none => simp [hu] at ht
 | some q =>
   rw [hu] at ht
   cases q <;> simp at ht
   simp [execOp, resolve, hx, invoke, builtin, Builtin.len_, run_underlying hu, goInt]
theorem AW {t u : TypeId} {x y : Operand} {k : IntKind} {a b : Int} (hx : ρ x = .int k a) (hy : ρ y = .int k b) :
 (execOp ρ ⟨d, .binOp .lss t x y u, ty, pos, af, g⟩).run P w = .ok (.value (.bool (decide (a < b)))) w := by
 simp [execOp, hx, hy, eqGuard, binOp, Op.intCmp]
theorem C8 {t u : TypeId} {x y : Operand} {k : IntKind} {a b : Int} (hx : ρ x = .int k a) (hy : ρ y = .int k b) :
 (execOp ρ ⟨d, .binOp .leq t x y u, ty, pos, af, g⟩).run P w = .ok (.value (.bool (decide (a ≤ b)))) w := by
 simp [execOp, hx, hy, eqGuard, binOp, Op.intCmp]
theorem BC {t u : TypeId} {x y : Operand} {k : IntKind} {a b : Int} (hx : ρ x = .int k a) (hy : ρ y = .int k b) :
 (execOp ρ ⟨d, .binOp .gtr t x y u, ty, pos, af, g⟩).run P w = .ok (.value (.bool (decide (b < a)))) w := by
 simp [execOp, hx, hy, eqGuard, binOp, Op.intCmp]
theorem CS {t u : TypeId} {x y : Operand} {k : IntKind} {a b : Int} (hx : ρ x = .int k a) (hy : ρ y = .int k b) :
 (execOp ρ ⟨d, .binOp .geq t x y u, ty, pos, af, g⟩).run P w = .ok (.value (.bool (decide (b ≤ a)))) w := by
 simp [execOp, hx, hy, eqGuard, binOp, Op.intCmp]
theorem Bi {t u : TypeId} {x y : Operand} {k : IntKind} {a b : Int} (hx : ρ x = .int k a) (hy : ρ y = .int k b) :
 (execOp ρ ⟨d, .binOp .eql t x y u, ty, pos, af, g⟩).run P w = .ok (.value (.bool (decide (a = b)))) w := by
 simp [execOp, hx, hy, eqGuard, binOp, Op.intCmp]
 exact Bool.eq_iff_iff.2 (by simp)
theorem Br {t u : TypeId} {x y : Operand} {k : IntKind} {a b : Int} (hx : ρ x = .int k a) (hy : ρ y = .int k b) :
 (execOp ρ ⟨d, .binOp .neq t x y u, ty, pos, af, g⟩).run P w = .ok (.value (.bool (decide (a ≠ b)))) w := by
 simp [execOp, hx, hy, eqGuard, binOp, Op.intCmp]
 exact Bool.eq_iff_iff.2 (by simp)
theorem Cl {t u : TypeId} {x y : Operand} {k : IntKind} {a b c : Int} (hx : ρ x = .int k a) (hy : ρ y = .int k b) (hc : k.wrap (a + b) = c) :
 (execOp ρ ⟨d, .binOp .add t x y u, ty, pos, af, g⟩).run P w = .ok (.value (.int k c)) w := by
 subst hc
 simp [execOp, hx, hy, eqGuard, binOp, Op.intArith]
theorem DO {t u : TypeId} {x y : Operand} {k : IntKind} {a b c : Int} (hx : ρ x = .int k a) (hy : ρ y = .int k b) (hc : k.wrap (a - b) = c) :
 (execOp ρ ⟨d, .binOp .sub t x y u, ty, pos, af, g⟩).run P w = .ok (.value (.int k c)) w := by
 subst hc
 simp [execOp, hx, hy, eqGuard, binOp, Op.intArith]
theorem Ca {t u : TypeId} {x y : Operand} {k : IntKind} {a b c : Int} (hx : ρ x = .int k a) (hy : ρ y = .int k b) (hc : k.wrap (a * b) = c) :
 (execOp ρ ⟨d, .binOp .mul t x y u, ty, pos, af, g⟩).run P w = .ok (.value (.int k c)) w := by
 subst hc
 simp [execOp, hx, hy, eqGuard, binOp, Op.intArith]
theorem x_inc {t u : TypeId} {x y : Operand} {i : Nat} (hx : ρ x = .int .i64 (i : Int)) (hy : ρ y = .int .i64 1) (hi : i < 9223372036854775807) :
 (execOp ρ ⟨d, .binOp .add t x y u, ty, pos, af, g⟩).run P w = .ok (.value (.int .i64 ((i + 1 : Nat) : Int))) w :=
 Cl hx hy (by rw [IntWalk.i64_in _ (by omega)]; omega)
theorem GV {t u : TypeId} {x y : Operand} {a b : Int} (hx : ρ x = .int .i64 a) (hy : ρ y = .int .i64 b) (h : -9223372036854775808 ≤ a + b ∧ a + b ≤ 9223372036854775807) :
 (execOp ρ ⟨d, .binOp .add t x y u, ty, pos, af, g⟩).run P w = .ok (.value (.int .i64 (a + b))) w :=
 Cl hx hy (IntWalk.i64_in _ h)
theorem Cd {t u : TypeId} {x y : Operand} {a b : Int} (hx : ρ x = .int .i64 a) (hy : ρ y = .int .i64 b) (h : -9223372036854775808 ≤ a - b ∧ a - b ≤ 9223372036854775807) :
 (execOp ρ ⟨d, .binOp .sub t x y u, ty, pos, af, g⟩).run P w = .ok (.value (.int .i64 (a - b))) w :=
 DO hx hy (IntWalk.i64_in _ h)
theorem B5 {t : TypeId} {x : Operand} {b : Bool} (hx : ρ x = .bool b) : (execOp ρ ⟨d, .unOp .not t x, ty, pos, af, g⟩).run P w = .ok (.value (.bool (!b))) w := by
 simp [execOp, hx, Op.unary]
theorem x_neg {t : TypeId} {x : Operand} {k : IntKind} {a c : Int} (hx : ρ x = .int k a) (hc : k.wrap (0 - a) = c) : (execOp ρ ⟨d, .unOp .neg t x, ty, pos, af, g⟩).run P w = .ok (.value (.int k c)) w := by
 subst hc
 simp [execOp, hx, Op.unary, Op.intArith]
theorem C0 {s t : TypeId} {x : Operand} {k k' : IntKind} {n m : Int} (hx : ρ x = .int k n) (hs : (P.underlying s).isSome = true) (ht : intB P t k' = true) (hm : k'.wrap n = m) :
 (execOp ρ ⟨d, .convert s t x, ty, pos, af, g⟩).run P w = .ok (.value (.int k' m)) w := by
 subst hm
 unfold intB at ht
 obtain ⟨q, hq⟩ := Option.isSome_iff_exists.mp hs
 cases hu : P.underlying t with
 | none => simp [hu] at ht
 | some z =>
   rw [hu] at ht
   cases z <;> simp at ht
   rename_i k2
   subst ht
   simp [execOp, hx, convert, run_underlying hq, run_underlying hu, Conv.intToInt]
def C7 (w : World) (b : Nat) : Prop := ∃ cs T, w.heap[b]? = some (.cells cs T (0, 0)) ∧ cs.size ≠ 0
theorem equal_ptr (n : Nat) (t : TypeId) (x y : Option Addr) {el : TypeId} (hu : P.underlying t = some (.pointer el)) : (Op.equalIn (n + 1) t (.pointer x) (.pointer y)).run P w =
 (match x, y with
 | none, b => (pure b.isNone : Sem Bool)
 | some _, none => pure false
 | some a, some b => do
   if (← sizeOf el) ≠ 0 then sameAddr a b
   else if a == b then pure true
   else pure ((← choose .zeroSizeEq) = 1)).run P w := by
 unfold Op.equalIn
 rw [Sem.run_bind, run_underlying hu, Result.andThen_ok]
 cases x <;> cases y <;> rfl
theorem Dx {t : TypeId} {a b : Addr} (ht : ptrB P t = true) (ha : C7 w a.block) (hb : C7 w b.block) :
 (Op.equal t (.pointer (some a)) (.pointer (some b))).run P w = .ok (decide (a = b)) w := by
 unfold ptrB at ht
 cases hu : P.underlying t with
 | none => simp [hu] at ht
 | some q =>
   rw [hu] at ht
   cases q <;> simp at ht
   rename_i el
   cases hq : P.info? el with
   | none => simp [hq] at ht
   | some z =>
     simp [hq] at ht
     obtain ⟨ca, Ta, hha, hsa⟩ := ha
     obtain ⟨cb, Tb, hhb, hsb⟩ := hb
     have hfa : ∀ o s, w.frozen? ⟨a.block, o, s⟩ = false := fun o s => by simp [World.frozen?, hha]
     have hfb : ∀ o s, w.frozen? ⟨b.block, o, s⟩ = false := fun o s => by simp [World.frozen?, hhb]
     have hfa' : w.frozen? a = false := hfa a.off a.spot
     have hfb' : w.frozen? b = false := hfb b.off b.spot
     have hsha : w.shape? a.block = some (Ta, ca.size) := by simp [World.shape?, hha]
     have hshb : w.shape? b.block = some (Tb, cb.size) := by simp [World.shape?, hhb]
     rw [show Op.equal t (.pointer (some a)) (.pointer (some b)) = Op.equalIn (9999 + 1) t (.pointer (some a)) (.pointer (some b)) from rfl, equal_ptr 9999 t _ _ hu]
     simp [sizeOf, typeInfo, hq, ht, sameAddr]
     by_cases hbl : a.block = b.block
     ·simp [hbl]
      exact Bool.eq_iff_iff.2 (by simp)
     have hne : a ≠ b := fun e => hbl (by rw [e])
     simp [hbl, hne, frozen, shape, Sem.run, hfa', hfb', noView, viewAt, hsha, hshb, mayBeOne, stringish, hfa, hfb, hsb]
theorem x_eqlp {t u : TypeId} {x y : Operand} {a b : Addr} (hx : ρ x = .pointer (some a)) (hy : ρ y = .pointer (some b)) (ht : ptrB P t = true) (ha : C7 w a.block) (hb : C7 w b.block) :
 (execOp ρ ⟨d, .binOp .eql t x y u, ty, pos, af, g⟩).run P w = .ok (.value (.bool (decide (a = b)))) w := by
 simp [execOp, hx, hy, eqGuard, binOp, Dx ht ha hb]
theorem x_neqp {t u : TypeId} {x y : Operand} {a b : Addr} (hx : ρ x = .pointer (some a)) (hy : ρ y = .pointer (some b)) (ht : ptrB P t = true) (ha : C7 w a.block) (hb : C7 w b.block) :
 (execOp ρ ⟨d, .binOp .neq t x y u, ty, pos, af, g⟩).run P w = .ok (.value (.bool (!decide (a = b)))) w := by
 simp [execOp, hx, hy, eqGuard, binOp, Dx ht ha hb]
theorem DC {t : TypeId} {p : Option Addr} (ht : ptrB P t = true) : (Op.equal t (.pointer p) (.pointer none)).run P w = .ok p.isNone w := by
 unfold ptrB at ht
 cases hu : P.underlying t with
 | none => simp [hu] at ht
 | some q =>
   rw [hu] at ht
   cases q <;> simp at ht
   rw [show Op.equal t (.pointer p) (.pointer none) = Op.equalIn (9999 + 1) t (.pointer p) (.pointer none) from rfl, equal_ptr 9999 t _ _ hu]
   cases p <;> rfl
theorem DP {t u : TypeId} {x y : Operand} {p : Option Addr} (hx : ρ x = .pointer p) (hy : ρ y = .pointer none) (ht : ptrB P t = true) :
 (execOp ρ ⟨d, .binOp .eql t x y u, ty, pos, af, g⟩).run P w = .ok (.value (.bool p.isNone)) w := by
 simp [execOp, hx, hy, eqGuard, binOp, DC ht]
theorem CD {t u : TypeId} {x y : Operand} {p : Option Addr} (hx : ρ x = .pointer p) (hy : ρ y = .pointer none) (ht : ptrB P t = true) :
 (execOp ρ ⟨d, .binOp .neq t x y u, ty, pos, af, g⟩).run P w = .ok (.value (.bool (!p.isNone))) w := by
 simp [execOp, hx, hy, eqGuard, binOp, DC ht]
def Bw (P : Program) (t : TypeId) (z : Array Value) : Prop := (P.info? t).bind (·.zero.map (·.cells)) = some z
theorem Bb {t : TypeId} {z : Array Value} (hz : Bw P t z) :
 (execOp ρ ⟨d, .alloc t, ty, pos, af, g⟩).run P w = .ok (.value (.pointer (some ⟨w.heap.size, 0, none⟩))) (w.alloc (.cells z t)) := by
 unfold Bw at hz
 cases hq : P.info? t with
 | none => simp [hq] at hz
 | some i =>
   simp [hq] at hz
   obtain ⟨v, hv, rfl⟩ := hz
   simp [execOp, Instr.alloc, zeroValue, typeInfo, hq, hv, newVar, newRow, newObj, Sem.run]
theorem Bu {t : TypeId} {x : Operand} {v : Value} (hx : ρ x = v) :
 (execOp ρ ⟨d, .box t x, ty, pos, af, g⟩).run P w = .ok (.value (.pointer (some ⟨w.heap.size, 0, none⟩))) (w.alloc (.cells v.cells t)) := by
 subst hx
 simp [execOp, Instr.box, newVar, newRow, newObj, Sem.run]
theorem Bo {t el : TypeId} {x : Operand} {v z : Value} (hx : ρ x = v) (h1 : v.oneCell' = true) (hu : P.underlying t = some (.slice el)) (hz : (P.info? el).map (fun i => (i.zero, i.size)) = some (some z, 1)) (hz1 : z.oneCell' = true) :
 (execOp ρ ⟨d, .buildSlice t 1 #[(0, x)], ty, pos, af, g⟩).run P w = .ok (.value (.slice (some ⟨w.heap.size, 0, none⟩) 1 1)) (w.alloc (.cells #[v] el)) := by
 have hs : v.cells = #[v] := by cases v <;> first | rfl | (simp [Value.oneCell'] at h1)
 have hs2 : z.cells = #[z] := by cases z <;> first | rfl | (simp [Value.oneCell'] at hz1)
 cases hq : P.info? el with
 | none => simp [hq] at hz
 | some i =>
   simp [hq] at hz
   obtain ⟨hz2, hz3⟩ := hz
   simp [execOp, Instr.buildSlice, hx, run_underlying hu, sizeOf, typeInfo, hq, hz2, hz3, zeroValue, hs, hs2, Instr.fill, newRow, newObj, Sem.run]
   congr 2
   apply Array.ext
   ·simp
   intro j h1 h2
   have hj : j = 0 := by simp at h2; omega
   subst hj
   simp
theorem AH {f : FuncId} {xs : Array Operand} {ts : Array TypeId} {fn : Func} {l : List Value} (hf : P.funcs[f]? = some fn) (hb : fn.body.isNone = false) (hn : (fn.name == "runtime.NumGoroutine") = false)
 (hρ : ρ (.func f) = .func (.func f) #[] #[]) (ha : xs.toList.map ρ = l) :
 (execOp ρ ⟨d, .call { callee := .value (.func f), args := xs, argTypes := ts }, ty, pos, af, g⟩).run P w = .ok (.enter f l.toArray) w := by
 subst ha
 have hn' : ¬ fn.name = "runtime.NumGoroutine" := by simpa using hn
 have hb' : ¬ fn.body = none := by
  intro e; rw [e] at hb; cases hb
 simp [execOp, resolve, Deferred.ofValue, hρ, invoke, callFunc, hf, hb', hn']
 cases xs
 simp
end
end Go.Eng
