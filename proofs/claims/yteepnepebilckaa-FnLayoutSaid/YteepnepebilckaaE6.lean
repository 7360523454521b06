/- The engine: cuts within a list of operations. -/
import Derived.Test.YteepnepebilckaaE5
import Derived.Orders
namespace Go.Eng
open Go Go.RowKit

def Qf (Ψ : Act → World → Prop) : Exit → Act → World → Prop
  | .normal, a, w => Ψ a w
  | _, _, _ => False
theorem not_letsOut {Ψ : Act → World → Prop} : ¬ LetsOut (Qf Ψ) := fun ⟨_, _, h⟩ => h

theorem wp_cut {P : Program} {o : Oper} {a : Act} {w : World} {K K' : Act → World → Prop} {Ψ : Act → World → Prop} {Q : Exit → Act → World → Prop} (h : ∀ a w, K a w → K' a w)
    (hh : o.wp P a w K (Qf Ψ)) : o.wp P a w K' Q := by
  unfold Oper.wp at *
  generalize (execOp a.eval o).run P w = r at *
  cases r with
  | ok n w' =>
    cases n <;> simp only [Oper.upon] at hh ⊢ <;>
      first
        | exact h _ _ hh
        | exact Calls.mono hh (fun e w'' he => by cases e <;> first | exact h _ _ he | exact he.elim | exact absurd he not_letsOut)
        | exact Rows.mono hh (fun _ _ he => h _ _ he)
  | halt x w' => cases x <;> simp only [Oper.upon] at hh ⊢ <;> first | exact hh | exact hh.elim

theorem wpList_cut {P : Program} {ops : Array Oper} {Q : Exit → Act → World → Prop} {l2 : List Oper} : ∀ {l1 : List Oper} {a : Act} {w : World}, wpList P ops (Qf (wpList P ops Q l2)) l1 a w → wpList P ops Q (l1 ++ l2) a w
  | [], _, _, h => h
  | o :: l1, a, w, h => by
    show wpList P ops Q (o :: (l1 ++ l2)) a w
    unfold wpList at h ⊢
    split
    · rename_i hw
      rw [if_pos hw] at h
      rcases h with h | ⟨_, h⟩
      · exact .inl (wp_cut (fun _ _ h => wpList_cut h) h)
      · exact absurd h not_letsOut
    · rename_i hw
      rw [if_neg hw] at h
      exact wpList_cut h

/-- A cut behind so many operations. -/
theorem EL_cut {P : Program} {ops : Array Oper} {N : Nat} {Q : Env → World → Prop} {l : List Oper} {e : Env} {w : World} (n : Nat) (Φ : Env → World → Prop)
    (h1 : EL P ops N Φ (l.take n) e w) (h2 : ∀ e w, Φ e w → EL P ops N Q (l.drop n) e w) : EL P ops N Q l e w := by
  intro Qx a hr hq
  rw [← List.take_append_drop n l]
  exact wpList_cut (h1 _ a hr fun e' a' w' hr' hΦ => h2 e' w' hΦ Qx a' hr' hq)

theorem DL_cut {P : Program} {l : List Oper} {S : World → Prop} {Q : Env → World → Prop} : ∀ {r : List (Nat × Bool)} {e : Env} {w : World} (n : Nat) (Φ : Env → World → Prop),
    (r.take n).all (fun x => !x.2) = true → DL P l S Φ (r.take n) e w → (∀ e w, Φ e w → DL P l S Q (r.drop n) e w) → DL P l S Q r e w
  | r, _, _, 0, _, _, h1, h2 => by simpa using h2 _ _ (by simpa [DL] using h1)
  | [], _, _, _ + 1, _, _, h1, h2 => h2 _ _ h1
  | (i, true) :: r, _, _, n + 1, _, hb, _, _ => by simp at hb
  | (i, false) :: r, e, w, n + 1, Φ, hb, h1, h2 => by
    obtain ⟨v, hv, h1⟩ := h1
    exact ⟨v, hv, DL_cut n Φ (by simpa using hb) h1 h2⟩

/-- A guarded operation whose guard was not reached. -/
theorem EL_un {P : Program} {ops : Array Oper} {N : Nat} {Q : Env → World → Prop} {e : Env} {w : World} {rest : List Oper} {d : Nat} {op : Op} {ty : TypeId} {pos : String} {af : Array Edge} {j : Nat} {b : Bool}
    (hg : gEv ops e j = none) (hk : okG N ops ⟨some d, op, ty, pos, af, some (j, b)⟩ = true)
    (h : EL P ops N Q rest (e.set d undef) w) : EL P ops N Q (⟨some d, op, ty, pos, af, some (j, b)⟩ :: rest) e w := by
  intro Qx a hr hq
  have hw : Region.wanted ⟨some d, op, ty, pos, af, some (j, b)⟩ (yielded ops a.tmps) = false := by
    rw [hr.wanted ops _ hk]
    simp [Region.wanted, hg]
  unfold wpList
  rw [hw]
  exact h Qx _ (hr.set d undef) hq
theorem DL_un {P : Program} {l : List Oper} {S : World → Prop} {Q : Env → World → Prop} {r : List (Nat × Bool)} {e : Env} {w : World} {i d : Nat} {op : Op} {ty : TypeId} {pos : String} {af : Array Edge} {j : Nat} {b : Bool}
    (ho : nthO l i = ⟨some d, op, ty, pos, af, some (j, b)⟩) (hg : gEv l.toArray e j = none)
    (h : DL P l S Q r (e.set d undef) w) : DL P l S Q ((i, false) :: r) e w := by
  have hw : Want l e i = false := by
    unfold Want Region.wanted; rw [ho]; dsimp only; rw [hg]; rfl
  refine ⟨undef, fun w' _ => .inr ⟨hw, rfl⟩, ?_⟩
  rw [ho]; exact h
/-- The way on from a part that may also leave. -/
def orN (Φ : Env → World → Prop) (Q : Exit → Env → World → Prop) : Exit → Env → World → Prop
  | .normal, e, w => Φ e w
  | x, e, w => Q x e w
theorem orN_in {Φ : Env → World → Prop} {Q : Exit → Env → World → Prop} {e : Env} {w : World} (h : Φ e w) : orN Φ Q .normal e w := h
theorem orN_ret {Φ : Env → World → Prop} {Q : Exit → Env → World → Prop} {e : Env} {w : World} (h : Q .ret e w) : orN Φ Q .ret e w := h
theorem orN_exit {Φ : Env → World → Prop} {Q : Exit → Env → World → Prop} {e : Env} {w : World} {i : Nat} (h : Q (.exit i) e w) : orN Φ Q (.exit i) e w := h
theorem EC_seq_cutQ {P : Program} {N : Nat} {c c' : Code} {Q : Exit → Env → World → Prop} {e : Env} {w : World} (Φ : Env → World → Prop) (h1 : EC P N c (orN Φ Q) e w) (h2 : ∀ e w, Φ e w → EC P N c' Q e w) : EC P N (.seq c c') Q e w := by
  refine EC_seq (EC.mono h1 fun x e w hx => ?_)
  cases x <;> first | exact h2 e w hx | exact hx
end Go.Eng
