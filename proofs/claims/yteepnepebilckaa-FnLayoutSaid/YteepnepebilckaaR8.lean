/- The row of FnLayout: proved. -/
import Derived.Test.YteepnepebilckaaR0
import Derived.Test.YteepnepebilckaaY6
namespace Go.Proofs.Yteepnepebilckaa
open Go Go.ChangeShapes Go.WideShapes Go.ChangeAt Go.RowKit Go.Deep Go.Joins Go.Eng

set_option maxRecDepth 100000 in
theorem fnLayout_lifted (os : Os) (started : os.Started) (H : Type) (enc : TypeId × Value → H) :
    ReturnsInHanded {} Try.checked os 10 .any (Rows.fnLayoutSpec.pre6 enc Try.prog Try.f10 Rows.fnLayoutRow.domain false) (Rows.fnLayoutSpec.post enc Try.prog Try.f10 false true false false) := by
  refine returnsInHanded_of_change (C := Try.checked) ownK started (by kernel_rfl) Try.func10
    (ChangeSpec.witness6 (enc := enc) (C := Try.checked) false ⟨#[], #[.agg #[.slice none 0 0, .slice none 0 0]], []⟩ 8 (by kernel_rfl) (by kernel_rfl) (by kernel_rfl) (by kernel_rfl)) ?_
  intro W base args ds gs before hval0 hW hcnd _
  have hval : ∀ (j : Nat) t v, Try.f10.params[j]? = some t → args[j]? = some v → Value.okWide Try.prog W .any base t v := hval0
  have hW' := hW
  obtain ⟨p, q, hA0, hV, rfl, hfz, hnd⟩ := hW
  have hA : DataW.TrodAll enc Try.prog W 0 (fun _ => true) true Try.f10.params.toList args.toList ds p := hA0
  rw [Try.params10] at hA hval
  obtain ⟨v0, d0, rfl, rfl, h0⟩ := trodAll_one hA
  obtain ⟨rfl, rfl⟩ := trodVars_none hV
  obtain ⟨f, hf⟩ := open_fn (hval 0 25 v0 rfl rfl) h0
  have hlt : ∀ x ∈ p, x.block < W.heap.size := fun x hx => hW'.lt x (by simpa using hx)
  clear hA0 hval0
  simp only [List.append_nil] at hW'
  refine Calls.mono (FnLayout_ret hf) fun e W' ⟨v, he, hv, hb⟩ => ?_
  subst he; subst hv
  refine ⟨_, rfl, _, _, _, [], p, [], hW', trodAll_mk1 (shut_bool Try.underlying4 true), trodAll_mk1 ?_, rfl, hb.frame _, fun h => by cases h⟩
  exact WideElems.Trod_stays laidK (by kernel_rfl) (of_decide_eq_true (by kernel_rfl)) h0 (fun x hx => hb.same (hlt x hx)) (fun x hx => by simpa using hlt x hx)

theorem fnLayout_holds : Rows.FnLayoutSaid :=
  OpenClaim.holds_of_wide 10 Try.f10 rfl rfl rfl rfl rfl rfl rfl ⟨rfl, rfl, rfl, rfl, rfl⟩ rfl rfl rfl rfl rfl (by kernel_rfl) Try.func10 (by kernel_rfl)
    (of_decide_eq_true (by kernel_rfl)) (by unfold Func.isWrapper; first | (rw [if_pos (by decide +kernel)]; kernel_rfl) | (rw [if_neg (by decide +kernel)]; exact ⟨rfl, rfl⟩))
    (fun os started H enc _ => fnLayout_lifted os started H enc)
end Go.Proofs.Yteepnepebilckaa
