/- For every input in which the opcode table reads as laid the law FnPartitionMost returns true, and its argument reads as it did, the table being tied to the text of the program. -/
import Derived.Test.YteepnepebilckaaGreatDoorProg
import Derived.WalkKit
import Derived.WalkSpells
import Derived.KernelRfl
import Derived.Deep.LoopGhost
import Derived.IntWalk
import Derived.Orders
import Derived.ArgAppend
import Derived.Deep.OwnRows
import Derived.Defers
import Derived.Shelf.SlSortCmp.Whole1
import Derived.Shelf.SortM.Plain
import Derived.Lib.SmallJoins
import Derived.ProofKit
import Derived.Carry
import Derived.LaidMore
import Derived.LaidLaws
import Derived.OpenShut
import Derived.OpenVars
import Derived.Stop.Joined
import Derived.SevenTiedAt
namespace Go.Eng
theorem mm0 {α : Type} {a  : α} {l : List α} : a ∈ a :: l := .head _
theorem mm1 {α : Type} {a b0 : α} {l : List α} : a ∈ b0 :: a :: l := .tail _ (.head _)
theorem mm2 {α : Type} {a b0 b1 : α} {l : List α} : a ∈ b0 :: b1 :: a :: l := .tail _ (.tail _ (.head _))
theorem mm3 {α : Type} {a b0 b1 b2 : α} {l : List α} : a ∈ b0 :: b1 :: b2 :: a :: l := .tail _ (.tail _ (.tail _ (.head _)))
theorem mm4 {α : Type} {a b0 b1 b2 b3 : α} {l : List α} : a ∈ b0 :: b1 :: b2 :: b3 :: a :: l := .tail _ (.tail _ (.tail _ (.tail _ (.head _))))
theorem mm5 {α : Type} {a b0 b1 b2 b3 b4 : α} {l : List α} : a ∈ b0 :: b1 :: b2 :: b3 :: b4 :: a :: l := .tail _ (.tail _ (.tail _ (.tail _ (.tail _ (.head _)))))
theorem mm6 {α : Type} {a b0 b1 b2 b3 b4 b5 : α} {l : List α} : a ∈ b0 :: b1 :: b2 :: b3 :: b4 :: b5 :: a :: l := .tail _ (.tail _ (.tail _ (.tail _ (.tail _ (.tail _ (.head _))))))
theorem mm7 {α : Type} {a b0 b1 b2 b3 b4 b5 b6 : α} {l : List α} : a ∈ b0 :: b1 :: b2 :: b3 :: b4 :: b5 :: b6 :: a :: l := .tail _ (.tail _ (.tail _ (.tail _ (.tail _ (.tail _ (.tail _ (.head _)))))))
theorem mm8 {α : Type} {a b0 b1 b2 b3 b4 b5 b6 b7 : α} {l : List α} : a ∈ b0 :: b1 :: b2 :: b3 :: b4 :: b5 :: b6 :: b7 :: a :: l := .tail _ (.tail _ (.tail _ (.tail _ (.tail _ (.tail _ (.tail _ (.tail _ (.head _))))))))
theorem mm9 {α : Type} {a b0 b1 b2 b3 b4 b5 b6 b7 b8 : α} {l : List α} : a ∈ b0 :: b1 :: b2 :: b3 :: b4 :: b5 :: b6 :: b7 :: b8 :: a :: l := .tail _ (.tail _ (.tail _ (.tail _ (.tail _ (.tail _ (.tail _ (.tail _ (.tail _ (.head _)))))))))
end Go.Eng
namespace Go.Eng
open Go
theorem Cc {t N : Nat} (h : Nat.blt t N = true) : t < N := Nat.le_of_ble_eq_true h
structure Env where
 t : Nat → Value
 d : List Deferred
def Env.set (e : Env) (k : Nat) (v : Value) : Env := ⟨fun j => bif Nat.beq j k then v else e.t j, e.d⟩
def Env.put (e : Env) (k : Option Nat) (v : Value) : Env := match k with | some k => e.set k v | none => e
def Env.ev (e : Env) : Operand → Value
 | .tmp t => e.t t
 | .const v => v
 | .global g => .pointer (some ⟨g, 0, none⟩)
 | .func f => .func (.func f) #[] #[]
structure Rep (N : Nat) (e : Env) (a : Act) : Prop where
 size : a.tmps.size = N
 d : a.defers = e.d
 t : ∀ k, k < N → a.tmps.getD k undef = e.t k
def okX (N : Nat) : Operand → Bool
 | .tmp t => Nat.blt t N
 | _ => true
def okO (N : Nat) (o : Oper) : Bool := o.op.operands.toList.all (okX N) && (match o.op with | .select .. => false | _ => true)
theorem Rep.ev {N : Nat} {e : Env} {a : Act} (h : Rep N e a) {x : Operand} (hx : okX N x = true) : a.eval x = e.ev x := by
 cases x with
 | tmp t => exact h.t t (Cc hx)
 | const v => rfl
 | global g => rfl
 | func f => rfl
theorem Rep.set {N : Nat} {e : Env} {a : Act} (h : Rep N e a) (k : Nat) (v : Value) : Rep N (e.set k v) (a.put (some k) v) := by
 refine ⟨by simp [Act.put, h.size], h.d, fun j hj => ?_⟩
 have := h.t j hj
 simp only [Act.put, Env.set]
 rw [Array.getD_eq_getD_getElem?, Array.getElem?_setIfInBounds]
 by_cases e1 : k = j
 ·subst e1
  simp [h.size, hj]
 have e2 : Nat.beq j k = false := by
  cases hb : Nat.beq j k with
  | false => rfl
  | true => exact absurd (Nat.eq_of_beq_eq_true hb).symm e1
 rw [if_neg e1, e2, ← this, Array.getD_eq_getD_getElem?]
 rfl
theorem Rep.put {N : Nat} {e : Env} {a : Act} (h : Rep N e a) (k : Option Nat) (v : Value) : Rep N (e.put k v) (a.put k v) := by
 cases k with
 | none => exact h
 | some k => exact h.set k v
theorem Rep.exec {N : Nat} {e : Env} {a : Act} (h : Rep N e a) {o : Oper} (ho : okO N o = true) : execOp a.eval o = execOp e.ev o := by
 simp only [okO, Bool.and_eq_true, List.all_eq_true] at ho
 refine execOp_congr o (fun cs b hs => ?_) (fun x hx => h.ev (ho.1 x (by simpa using hx)))
 rw [hs] at ho
 simp at ho
def gEv (ops : Array Oper) (e : Env) (j : Nat) : Option Bool :=
 match (ops[j]?).bind (·.dst) with
 | some t => (match e.t t with | .bool b => some b | _ => none)
 | none => none
def okG (N : Nat) (ops : Array Oper) (o : Oper) : Bool :=
 match o.guard with
 | none => true
 | some (j, _) => match (ops[j]?).bind (·.dst) with | some t => Nat.blt t N | none => true
theorem Rep.yields {N : Nat} {e : Env} {a : Act} (h : Rep N e a) (ops : Array Oper) (j : Nat) (hj : ∀ t, (ops[j]?).bind (·.dst) = some t → t < N) : yielded ops a.tmps j = gEv ops e j := by
 unfold yielded gEv
 cases ht : (ops[j]?).bind (·.dst) with
 | none => rfl
 | some t =>
   have hlt := hj t ht
   have hv := h.t t hlt
   rw [Array.getD_eq_getD_getElem?] at hv
   have hin : t < a.tmps.size := by rw [h.size]; exact hlt
   simp only [Option.bind_some, Array.getElem?_eq_getElem hin, Option.getD_some] at hv ⊢
   rw [hv]
   cases e.t t <;> rfl
theorem Rep.wanted {N : Nat} {e : Env} {a : Act} (h : Rep N e a) (ops : Array Oper) (o : Oper) (hj : okG N ops o = true) : Region.wanted o (yielded ops a.tmps) = Region.wanted o (gEv ops e) := by
 unfold Region.wanted
 unfold okG at hj
 cases hg : o.guard with
 | none => rfl
 | some q =>
   obtain ⟨j, b⟩ := q
   rw [hg] at hj
   dsimp only at hj ⊢
   rw [h.yields ops j]
   intro t ht
   rw [ht] at hj
   exact Cc hj
def EL (P : Program) (ops : Array Oper) (N : Nat) (Q : Env → World → Prop) (l : List Oper) (e : Env) (w : World) : Prop :=
 ∀ (Qx : Exit → Act → World → Prop) (a : Act), Rep N e a → (∀ e' a' w', Rep N e' a' → Q e' w' → Qx .normal a' w') → wpList P ops Qx l a w
section
variable {P : Program} {ops : Array Oper} {N : Nat} {Q : Env → World → Prop} {e : Env} {w : World} {rest : List Oper}
theorem Af (h : Q e w) : EL P ops N Q [] e w := fun _ a hr hq => wpList_nil (hq e a w hr h)
theorem Ab {d : Nat} {op : Op} {ty : TypeId} {pos : String} {af : Array Edge} {v : Value} {w' : World}
 (hx : (execOp e.ev ⟨some d, op, ty, pos, af, none⟩).run P w = .ok (.value v) w')
 (hk : okO N ⟨some d, op, ty, pos, af, none⟩ = true)
 (h : EL P ops N Q rest (e.set d v) w') : EL P ops N Q (⟨some d, op, ty, pos, af, none⟩ :: rest) e w := by
 intro Qx a hr hq
 refine wpList_plain rfl fun K hK => ?_
 unfold Oper.wp
 rw [hr.exec hk, hx]
 exact hK _ _ (h Qx _ (hr.set d v) hq)
theorem Bd {op : Op} {ty : TypeId} {pos : String} {af : Array Edge} {w' : World}
 (hx : (execOp e.ev ⟨none, op, ty, pos, af, none⟩).run P w = .ok .skip w')
 (hk : okO N ⟨none, op, ty, pos, af, none⟩ = true)
 (h : EL P ops N Q rest e w') : EL P ops N Q (⟨none, op, ty, pos, af, none⟩ :: rest) e w := by
 intro Qx a hr hq
 refine wpList_plain rfl fun K hK => ?_
 unfold Oper.wp
 rw [hr.exec hk, hx]
 exact hK _ _ (h Qx _ hr hq)
def Ret (P : Program) (f : FuncId) (args : Array Value) (w : World) (S : Value → World → Prop) : Prop :=
 Calls P f args w fun e w' => ∃ v, e = .returned v ∧ S v w'
theorem DD {K : Act → World → Prop} {Qx : Exit → Act → World → Prop} {o : Oper} {a : Act} {f : FuncId} {args : Array Value} {S : Value → World → Prop} {w' : World}
 (hx : (execOp a.eval o).run P w = .ok (.enter f args) w') (hc : Ret P f args w' S) (h : ∀ v w'', S v w'' → K (a.put o.dst v) w'') : o.wp P a w K Qx := by
 unfold Oper.wp
 rw [hx]
 simp only [Oper.upon]
 refine Calls.mono hc fun e w'' ⟨v, he, hv⟩ => ?_
 subst he
 exact h v w'' hv
theorem Bg {d : Nat} {op : Op} {ty : TypeId} {pos : String} {af : Array Edge} {f : FuncId} {args : Array Value} {S : Value → World → Prop} {w' : World}
 (hx : (execOp e.ev ⟨some d, op, ty, pos, af, none⟩).run P w = .ok (.enter f args) w')
 (hk : okO N ⟨some d, op, ty, pos, af, none⟩ = true)
 (hc : Ret P f args w' S)
 (h : ∀ v w'', S v w'' → EL P ops N Q rest (e.set d v) w'') : EL P ops N Q (⟨some d, op, ty, pos, af, none⟩ :: rest) e w := by
 intro Qx a hr hq
 refine wpList_plain rfl fun K hK => (DD (by rw [hr.exec hk]; exact hx) hc fun v w'' hv => ?_)
 exact hK _ _ (h v w'' hv Qx _ (hr.set d v) hq)
theorem Az {d : Nat} {op : Op} {ty : TypeId} {pos : String} {af : Array Edge} {j : Nat} {b : Bool}
 (hg : gEv ops e j = some (!b)) (hk : okG N ops ⟨some d, op, ty, pos, af, some (j, b)⟩ = true)
 (h : EL P ops N Q rest (e.set d undef) w) : EL P ops N Q (⟨some d, op, ty, pos, af, some (j, b)⟩ :: rest) e w := by
 intro Qx a hr hq
 have hw : Region.wanted ⟨some d, op, ty, pos, af, some (j, b)⟩ (yielded ops a.tmps) = false := by
  rw [hr.wanted ops _ hk]
  simp [Region.wanted, hg]
 unfold wpList
 rw [hw]
 exact h Qx _ (hr.set d undef) hq
theorem Au {d : Nat} {op : Op} {ty : TypeId} {pos : String} {af : Array Edge} {j : Nat} {b : Bool} {v : Value} {w' : World}
 (hg : gEv ops e j = some b) (hk : okG N ops ⟨some d, op, ty, pos, af, some (j, b)⟩ = true)
 (hx : (execOp e.ev ⟨some d, op, ty, pos, af, some (j, b)⟩).run P w = .ok (.value v) w')
 (hk2 : okO N ⟨some d, op, ty, pos, af, some (j, b)⟩ = true)
 (h : EL P ops N Q rest (e.set d v) w') : EL P ops N Q (⟨some d, op, ty, pos, af, some (j, b)⟩ :: rest) e w := by
 intro Qx a hr hq
 have hw : Region.wanted ⟨some d, op, ty, pos, af, some (j, b)⟩ (yielded ops a.tmps) = true := by
  rw [hr.wanted ops _ hk]
  simp [Region.wanted, hg]
 unfold wpList
 rw [hw]
 refine .inl ?_
 unfold Oper.wp
 rw [hr.exec hk2, hx]
 exact h Qx _ (hr.set d v) hq
theorem Gd {d : Nat} {op : Op} {ty : TypeId} {pos : String} {af : Array Edge} {j : Nat} {b : Bool} {f : FuncId} {args : Array Value} {S : Value → World → Prop} {w' : World}
 (hg : gEv ops e j = some b) (hk : okG N ops ⟨some d, op, ty, pos, af, some (j, b)⟩ = true)
 (hx : (execOp e.ev ⟨some d, op, ty, pos, af, some (j, b)⟩).run P w = .ok (.enter f args) w')
 (hk2 : okO N ⟨some d, op, ty, pos, af, some (j, b)⟩ = true)
 (hc : Ret P f args w' S)
 (h : ∀ v w'', S v w'' → EL P ops N Q rest (e.set d v) w'') : EL P ops N Q (⟨some d, op, ty, pos, af, some (j, b)⟩ :: rest) e w := by
 intro Qx a hr hq
 have hw : Region.wanted ⟨some d, op, ty, pos, af, some (j, b)⟩ (yielded ops a.tmps) = true := by
  rw [hr.wanted ops _ hk]
  simp [Region.wanted, hg]
 unfold wpList
 rw [hw]
 refine .inl (DD (by rw [hr.exec hk2]; exact hx) hc fun v w'' hv => ?_)
 exact h v w'' hv Qx _ (hr.set d v) hq
theorem EL_d {op : Op} {ty : TypeId} {pos : String} {af : Array Edge} {D : Deferred} {w' : World}
 (hx : (execOp e.ev ⟨none, op, ty, pos, af, none⟩).run P w = .ok (.defer D) w')
 (hk : okO N ⟨none, op, ty, pos, af, none⟩ = true)
 (h : EL P ops N Q rest ⟨e.t, D :: e.d⟩ w') : EL P ops N Q (⟨none, op, ty, pos, af, none⟩ :: rest) e w := by
 intro Qx a hr hq
 refine wpList_plain rfl fun K hK => ?_
 unfold Oper.wp
 rw [hr.exec hk, hx]
 simp only [Oper.upon]
 exact hK _ _ (h Qx _ ⟨hr.size, by show D :: a.defers = D :: e.d; rw [hr.d], hr.t⟩ hq)
end
def EC (P : Program) (N : Nat) (c : Code) (Q : Exit → Env → World → Prop) (e : Env) (w : World) : Prop :=
 ∀ (Qx : Exit → Act → World → Prop) (a : Act), Rep N e a → (∀ x e' a' w', Rep N e' a' → Q x e' w' → Qx x a' w') → c.wp P Qx a w
def thenQ (P : Program) (N : Nat) (c : Code) (Q : Exit → Env → World → Prop) : Exit → Env → World → Prop
 | .normal, e, w => EC P N c Q e w
 | x, e, w => Q x e w
def blockQ (id : Nat) (Q : Exit → Env → World → Prop) : Exit → Env → World → Prop
 | .exit i, e, w => bif Nat.beq i id then Q .normal e w else Q (.exit i) e w
 | x, e, w => Q x e w
def Bf (I : Nat → Env → World → Prop) (n : Nat) (Q : Exit → Env → World → Prop) : Exit → Env → World → Prop
 | .normal, e, w => ∃ m, m < n ∧ I m e w
 | x, e, w => Q x e w
section
variable {P : Program} {N : Nat} {Q : Exit → Env → World → Prop} {e : Env} {w : World}
theorem EC.mono {c : Code} {Q' : Exit → Env → World → Prop} (h : EC P N c Q e w) (hq : ∀ x e w, Q x e w → Q' x e w) : EC P N c Q' e w :=
 fun Qx a hr hk => h Qx a hr fun x e' a' w' hr' hx => hk x e' a' w' hr' (hq x e' w' hx)
theorem Aq (h : Q .normal e w) : EC P N .skip Q e w := fun _ a hr hq => wp_skip (hq _ e a w hr h)
theorem AD (h : Q .ret e w) : EC P N .ret Q e w := fun _ a hr hq => wp_ret (hq _ e a w hr h)
theorem AI {i : Nat} (h : Q (.exit i) e w) : EC P N (.exit i) Q e w := fun _ a hr hq => wp_exit (hq _ e a w hr h)
theorem Ae {c c' : Code} (h : EC P N c (thenQ P N c' Q) e w) : EC P N (.seq c c') Q e w := by
 intro Qx a hr hq
 refine wp_seq (h _ a hr ?_)
 intro x e' a' w' hr' hx
 cases x with
 | normal => exact hx Qx a' hr' hq
 | exit i => exact hq _ _ _ _ hr' hx
 | goto l => exact hq _ _ _ _ hr' hx
 | ret => exact hq _ _ _ _ hr' hx
 | panic ch => exact hq _ _ _ _ hr' hx
 | outgrown => exact hq _ _ _ _ hr' hx
theorem Ac {id : Nat} {l : List Oper} (h : EL P l.toArray N (Q .normal) l e w) : EC P N (.region id l.toArray false) Q e w :=
 fun Qx a hr hq => wp_region_lit (h Qx a hr fun e' a' w' hr' hx => hq _ e' a' w' hr' hx)
theorem Ao {id : Nat} {c : Code} (h : EC P N c (blockQ id Q) e w) : EC P N (.block id c) Q e w := by
 intro Qx a hr hq
 refine wp_block (h _ a hr ?_)
 intro x e' a' w' hr' hx
 cases x with
 | exit i =>
   simp only [blockQ] at hx
   simp only [Exit.inBlock]
   by_cases hi : i = id
   ·subst hi
    rw [Nat.beq_refl] at hx
    rw [if_pos rfl]
    exact hq _ _ _ _ hr' hx
   have hb : Nat.beq i id = false := by
    cases hb : Nat.beq i id with
    | false => rfl
    | true => exact absurd (Nat.eq_of_beq_eq_true hb) hi
   rw [hb] at hx
   rw [if_neg hi]
   exact hq _ _ _ _ hr' hx
 | normal => exact hq _ _ _ _ hr' hx
 | goto l => exact hq _ _ _ _ hr' hx
 | ret => exact hq _ _ _ _ hr' hx
 | panic ch => exact hq _ _ _ _ hr' hx
 | outgrown => exact hq _ _ _ _ hr' hx
theorem Ej {c : Operand} {x y : Code} {b : Bool} (hc : e.ev c = .bool b) (hk : okX N c = true)
 (ht : b = true → EC P N x Q e w) (hf : b = false → EC P N y Q e w) : EC P N (.cond c x y) Q e w := by
 intro Qx a hr hq
 refine wp_cond (t := b) (by rw [hr.ev hk, hc]) ?_
 cases b
 ·exact hf rfl Qx a hr hq
 exact ht rfl Qx a hr hq
theorem AG {c : Operand} {x y : Code} {p : Prop} [Decidable p] (hc : e.ev c = .bool (decide p)) (hk : okX N c = true)
 (ht : p → EC P N x Q e w) (hf : ¬ p → EC P N y Q e w) : EC P N (.cond c x y) Q e w :=
 Ej hc hk (fun h => ht (of_decide_eq_true h)) (fun h => hf (of_decide_eq_false h))
theorem Ba {c : Operand} {x y : Code} (hc : e.ev c = .bool true) (hk : okX N c = true) (ht : EC P N x Q e w) : EC P N (.cond c x y) Q e w :=
 Ej hc hk (fun _ => ht) (fun h => by cases h)
theorem A6 {c : Operand} {x y : Code} (hc : e.ev c = .bool false) (hk : okX N c = true) (hf : EC P N y Q e w) : EC P N (.cond c x y) Q e w :=
 Ej hc hk (fun h => by cases h) (fun _ => hf)
theorem EC_loop {c : Code} (I : Nat → Env → World → Prop) (n : Nat) (h0 : I n e w)
 (round : ∀ n e w, I n e w → EC P N c (Bf I n Q) e w) : EC P N (.loop c) Q e w := by
 intro Qx a hr hq
 refine wp_loop_ghost (fun n a w => ∃ e, Rep N e a ∧ I n e w) n ⟨e, hr, h0⟩ ?_
 intro n a w ⟨e, hr, hI⟩
 refine round n e w hI _ a hr ?_
 intro x e' a' w' hr' hx
 cases x with
 | normal => obtain ⟨m, hm, hI'⟩ := hx; exact ⟨m, hm, e', hr', hI'⟩
 | exit i => exact hq _ _ _ _ hr' hx
 | goto l => exact hq _ _ _ _ hr' hx
 | ret => exact hq _ _ _ _ hr' hx
 | panic ch => exact hq _ _ _ _ hr' hx
 | outgrown => exact hq _ _ _ _ hr' hx
def env0 : List Value → Nat → Nat → Value
 | [], _, _ => undef
 | v :: r, i, k => bif Nat.beq k i then v else env0 r (i + 1) k
theorem env0_spec (l : List Value) (i k : Nat) (h : i ≤ k) : env0 l i k = (l[k - i]?).getD undef := by
 induction l generalizing i with
 | nil => simp [env0]
 | cons v r ih =>
   simp only [env0]
   by_cases e : k = i
   ·subst e; simp
   have hb : Nat.beq k i = false := by
    cases hb : Nat.beq k i with
    | false => rfl
    | true => exact absurd (Nat.eq_of_beq_eq_true hb) e
   rw [hb, cond_false, ih (i + 1) (by omega), show k - i = (k - (i + 1)) + 1 by omega, List.getElem?_cons_succ]
def bodyQ (P : Program) (fn : Func) (S : Value → World → Prop) : Exit → Env → World → Prop
 | .normal, e, w | .ret, e, w => e.d = [] ∧ ∃ v, (∀ a, Rep fn.ntmps e a → (results fn a.tmps).run P w = .ok v w) ∧ S v w
 | _, _, _ => False
theorem ret_of_EC {f : FuncId} {fn : Func} {c : Code} {l : List Value} {S : Value → World → Prop} (hf : P.funcs[f]? = some fn) (hb : fn.body = some c) (hl : Nat.ble l.length fn.ntmps = true)
 (h : EC P fn.ntmps c (bodyQ P fn S) ⟨env0 l 0, []⟩ w) : Ret P f l.toArray w S := by
 have hl' : l.length ≤ fn.ntmps := Nat.le_of_ble_eq_true hl
 refine calls_of_wp hf hb (h _ _ ⟨?_, rfl, fun k hk => ?_⟩ ?_)
 ·simp; omega
 ·show _ = env0 l 0 k
  rw [env0_spec l 0 k (Nat.zero_le _), Array.getD_eq_getD_getElem?, Array.getElem?_append]
  by_cases hkl : k < l.length
  ·simp [hkl]
  rw [if_neg (by simpa using hkl)]
  simp only [List.size_toArray, Nat.sub_zero]
  rw [List.getElem?_eq_none (by omega)]
  simp [show k - l.length < fn.ntmps - l.length by omega]
 intro x e' a' w' hr' hx
 cases x with
 | normal => obtain ⟨hd, v, hv, hS⟩ := hx; exact ⟨by rw [hr'.d, hd], v, hv a' hr', v, rfl, hS⟩
 | ret => obtain ⟨hd, v, hv, hS⟩ := hx; exact ⟨by rw [hr'.d, hd], v, hv a' hr', v, rfl, hS⟩
 | exit i => exact hx.elim
 | goto l => exact hx.elim
 | panic ch => exact hx.elim
 | outgrown => exact hx.elim
theorem BB {fn : Func} {S : Value → World → Prop} (hres : fn.results = #[]) (hd : e.d = []) (h : S (.tuple #[]) w) : bodyQ P fn S .normal e w :=
 ⟨hd, _, fun a _ => results_none hres a.tmps P w, h⟩
theorem EQ {fn : Func} {S : Value → World → Prop} (hres : fn.results = #[]) (hd : e.d = []) (h : S (.tuple #[]) w) : bodyQ P fn S .ret e w :=
 ⟨hd, _, fun a _ => results_none hres a.tmps P w, h⟩
theorem Aw {fn : Func} {S : Value → World → Prop} {t : Tmp} (hres : fn.results = #[.tmp t]) (hlt : Nat.blt t fn.ntmps = true) (hd : e.d = []) (h : S (e.t t) w) : bodyQ P fn S .ret e w :=
 ⟨hd, _, fun a hr => by rw [results_tmp hres, hr.t t (Cc hlt)], h⟩
theorem FN {fn : Func} {S : Value → World → Prop} {t u : Tmp} (hres : fn.results = #[.tmp t, .tmp u]) (hlt : Nat.blt t fn.ntmps = true) (hlu : Nat.blt u fn.ntmps = true) (hd : e.d = []) (h : S (.tuple #[e.t t, e.t u]) w) : bodyQ P fn S .ret e w :=
 ⟨hd, _, fun a hr => by rw [results_tmp2 hres, hr.t t (Cc hlt), hr.t u (Cc hlu)], h⟩
theorem EH {fn : Func} {S : Value → World → Prop} {t : Tmp} {ty : TypeId} {p : Addr} {v : Value} (hres : fn.results = #[.cell t ty]) (hlt : Nat.blt t fn.ntmps = true) (hd : e.d = []) (hp : e.t t = .pointer (some p))
 (hv : (loadVar ty p).run P w = .ok v w) (h : S v w) : bodyQ P fn S .ret e w :=
 ⟨hd, v, fun a hr => by
   have ht := hr.t t (Cc hlt)
   rw [hp] at ht
   rw [Array.getD_eq_getD_getElem?] at ht
   simp only [results, hres]
   simp [asAddr, Sem.run_bind, Result.andThen]
   rw [ht]
   exact hv, h⟩
end
end Go.Eng
