/- Calls that are put off to a function's end; frames beside them. -/
import Derived.Test.YteepnepebilckaaE7
import Derived.Defers
namespace Go.Eng
open Go Go.RowKit

/-- The frame at a loop's head, with calls that are put off. -/
def AtD (e : Env) (ds : List Deferred) (l : List (Nat × Value)) : Prop := ∃ t, e = Env.sets ⟨t, ds⟩ l
theorem at_ofD {e : Env} {ds : List Deferred} {l : List (Nat × Value)} (hd : e.d = ds) (h : Holds e l) : AtD e ds l := by
  refine ⟨e.t, ?_⟩
  have : (⟨e.t, ds⟩ : Env) = e := by cases e; simp_all
  rw [this, sets_self h]

section
variable {P : Program} {w : World}
theorem callsD_of_EC {u : FrameMode} {f : FuncId} {fn : Func} {c : Code} {l : List Value} {S : Value → World → Prop} (hf : P.funcs[f]? = some fn) (hb : fn.body = some c) (hl : Nat.ble l.length fn.ntmps = true)
    (h : EC P fn.ntmps c (bodyQ P fn S) ⟨env0 l 0, []⟩ w) : CallsD P f l.toArray u w fun e u' w' => u' = u ∧ ∃ v, e = .returned v ∧ S v w' := by
  have hl' : l.length ≤ fn.ntmps := Nat.le_of_ble_eq_true hl
  refine callsD_of_wp (R := fun e w' => ∃ v, e = .returned v ∧ S v w') hf hb (h _ _ ⟨?_, rfl, fun k hk => ?_⟩ ?_)
  · simp; omega
  · show _ = env0 l 0 k
    rw [env0_spec l 0 k (Nat.zero_le _), Array.getD_eq_getD_getElem?, Array.getElem?_append]
    by_cases hkl : k < l.length
    · simp [hkl]
    · rw [if_neg (by simpa using hkl)]
      simp only [List.size_toArray, Nat.sub_zero]
      rw [List.getElem?_eq_none (by omega)]
      simp [show k - l.length < fn.ntmps - l.length by omega]
  · intro x e' a' w' hr' hx
    cases x with
    | normal => obtain ⟨hd, v, hv, hS⟩ := hx; exact ⟨by rw [hr'.d, hd], v, hv a' hr', v, rfl, hS⟩
    | ret => obtain ⟨hd, v, hv, hS⟩ := hx; exact ⟨by rw [hr'.d, hd], v, hv a' hr', v, rfl, hS⟩
    | exit i => exact hx.elim
    | goto l => exact hx.elim
    | panic ch => exact hx.elim
    | outgrown => exact hx.elim

/-- A call that is put off, and does nothing that matters. -/
def Idle (P : Program) (D : Deferred) : Prop := ∃ fv cap f args, D.target = .fn fv cap ∧ (∀ w, (invoke D.target D.args).run P w = .ok (.enter f args) w) ∧
  ∀ u w, CallsD P f args u w fun e u' w' => u' = u ∧ ∃ v, e = .returned v ∧ Below w.heap.size w w'

theorem leaves_idle {fn : Func} {tmps : Array Value} {R : Ending → World → Prop} : ∀ (ds : List Deferred), (∀ D ∈ ds, Idle P D) → ∀ w, (∀ w', Below w.heap.size w w' → ∃ v, (results fn tmps).run P w' = .ok v w' ∧ R (.returned v) w') → Leaves P fn tmps R ds .returning w
  | [], _, w, h => h w (Below.refl _ _)
  | D :: ds, hd, w, h => by
    obtain ⟨fv, cap, f, args, h1, h2, h3⟩ := hd D (.head _)
    refine ⟨by simp, fv, cap, f, args, h1, h2 w, (h3 .returning w).mono ?_⟩
    rintro e u' w' ⟨rfl, v, rfl, hb⟩
    exact leaves_idle ds (fun D hD => hd D (.tail _ hD)) w' fun w'' hb' => h w'' (hb.trans (hb'.mono hb.size))

def bodyQD (P : Program) (fn : Func) (S : Value → World → Prop) : Exit → Env → World → Prop
  | .normal, e, w | .ret, e, w => (∀ D ∈ e.d, Idle P D) ∧ ∃ v, ∀ w', Below w.heap.size w w' → (∀ a, Rep fn.ntmps e a → (results fn a.tmps).run P w' = .ok v w') ∧ S v w'
  | _, _, _ => False

theorem ret_of_EC_d {f : FuncId} {fn : Func} {c : Code} {l : List Value} {S : Value → World → Prop} (hf : P.funcs[f]? = some fn) (hb : fn.body = some c) (hl : Nat.ble l.length fn.ntmps = true)
    (h : EC P fn.ntmps c (bodyQD P fn S) ⟨env0 l 0, []⟩ w) : Ret P f l.toArray w S := by
  have hl' : l.length ≤ fn.ntmps := Nat.le_of_ble_eq_true hl
  refine calls_of_wp_defers hf hb (h _ _ ⟨?_, rfl, fun k hk => ?_⟩ ?_)
  · simp; omega
  · show _ = env0 l 0 k
    rw [env0_spec l 0 k (Nat.zero_le _), Array.getD_eq_getD_getElem?, Array.getElem?_append]
    by_cases hkl : k < l.length
    · simp [hkl]
    · rw [if_neg (by simpa using hkl)]
      simp only [List.size_toArray, Nat.sub_zero]
      rw [List.getElem?_eq_none (by omega)]
      simp [show k - l.length < fn.ntmps - l.length by omega]
  · intro x e' a' w' hr' hx
    cases x with
    | normal =>
      obtain ⟨hd, v, hv⟩ := hx
      show Leaves P fn a'.tmps _ a'.defers .returning w'
      rw [hr'.d]
      exact leaves_idle _ hd w' fun w'' hb' => ⟨v, (hv w'' hb').1 a' hr', v, rfl, (hv w'' hb').2⟩
    | ret =>
      obtain ⟨hd, v, hv⟩ := hx
      show Leaves P fn a'.tmps _ a'.defers .returning w'
      rw [hr'.d]
      exact leaves_idle _ hd w' fun w'' hb' => ⟨v, (hv w'' hb').1 a' hr', v, rfl, (hv w'' hb').2⟩
    | exit i => exact hx.elim
    | goto l => exact hx.elim
    | panic ch => exact hx.elim
    | outgrown => exact hx.elim
theorem post_tmp_d {fn : Func} {e : Env} {S : Value → World → Prop} {t : Tmp} (hres : fn.results = #[.tmp t]) (hlt : Nat.blt t fn.ntmps = true) (hd : ∀ D ∈ e.d, Idle P D) (h : ∀ w', Below w.heap.size w w' → S (e.t t) w') : bodyQD P fn S .ret e w :=
  ⟨hd, _, fun w' hb => ⟨fun a hr => by rw [results_tmp hres, hr.t t (blt_lt hlt)], h w' hb⟩⟩
end

end Go.Eng
