/- The row of FnCopyRuns: proved. -/
import Derived.Test.YteepnepebilckaaR0
import Derived.Test.YteepnepebilckaaL7
namespace Go.Proofs.Yteepnepebilckaa
open Go Go.ChangeShapes Go.WideShapes Go.ChangeAt Go.RowKit Go.Deep Go.Joins Go.Eng

set_option maxRecDepth 100000 in
theorem fnCopyRuns_lifted (os : Os) (started : os.Started) (H : Type) (enc : TypeId × Value → H) :
    ReturnsInHanded {} Try.checked os 7 .any (Rows.fnCopyRunsSpec.pre6 enc Try.prog Try.f7 Rows.fnCopyRunsRow.domain false) (Rows.fnCopyRunsSpec.post enc Try.prog Try.f7 false true false false) := by
  refine returnsInHanded_of_change (C := Try.checked) ownK started (by kernel_rfl) Try.func7
    (ChangeSpec.witness6 (enc := enc) (C := Try.checked) false ⟨#[], #[.agg #[.slice none 0 0, .slice none 0 0], .slice none 0 0], []⟩ 8 (by kernel_rfl) (by kernel_rfl) (by kernel_rfl) (by kernel_rfl)) ?_
  intro W base args ds gs before hval0 hW hcnd _
  have hval : ∀ (j : Nat) t v, Try.f7.params[j]? = some t → args[j]? = some v → Value.okWide Try.prog W .any base t v := hval0
  have hW' := hW
  obtain ⟨p, q, hA0, hV, rfl, hfz, hnd⟩ := hW
  have hA : DataW.TrodAll enc Try.prog W 0 (fun _ => true) true Try.f7.params.toList args.toList ds p := hA0
  rw [Try.params7] at hA hval
  obtain ⟨v0, v1, d0, d1, p0, p1, rfl, rfl, rfl, h0, h1⟩ := trodAll_two hA
  obtain ⟨rfl, rfl⟩ := trodVars_none hV
  obtain ⟨f, hf⟩ := open_fn (hval 0 25 v0 rfl rfl) h0
  obtain ⟨ins, hin⟩ := open_ins (hval 1 39 v1 rfl rfl) h1
  have hlt : ∀ x ∈ p0 ++ p1, x.block < W.heap.size := fun x hx => hW'.lt x (by simpa using hx)
  clear hA0 hval0
  simp only [List.append_nil] at hW'
  refine Calls.mono (FnCopyRuns_ret hf hin) fun e W' ⟨v, he, hv, hb⟩ => ?_
  subst he; subst hv
  refine ⟨_, rfl, _, _, _, [], p0 ++ p1, [], hW', trodAll_mk1 (shut_bool Try.underlying4 true), trodAll_mk2 ?_ ?_, rfl, hb.frame _, fun h => by cases h⟩
  · exact WideElems.Trod_stays laidK (by kernel_rfl) (of_decide_eq_true (by kernel_rfl)) h0 (fun x hx => hb.same (hlt x (List.mem_append.2 (.inl hx)))) (fun x hx => by simpa using hlt x (List.mem_append.2 (.inl hx)))
  · exact WideElems.Trod_stays laidK (by kernel_rfl) (of_decide_eq_true (by kernel_rfl)) h1 (fun x hx => hb.same (hlt x (List.mem_append.2 (.inr hx)))) (fun x hx => by simpa using hlt x (List.mem_append.2 (.inr hx)))

theorem fnCopyRuns_holds : Rows.FnCopyRunsSaid :=
  OpenClaim.holds_of_wide 7 Try.f7 rfl rfl rfl rfl rfl rfl rfl ⟨rfl, rfl, rfl, rfl, rfl⟩ rfl rfl rfl rfl rfl (by kernel_rfl) Try.func7 (by kernel_rfl)
    (of_decide_eq_true (by kernel_rfl)) (by unfold Func.isWrapper; first | (rw [if_pos (by decide +kernel)]; kernel_rfl) | (rw [if_neg (by decide +kernel)]; exact ⟨rfl, rfl⟩))
    (fun os started H enc _ => fnCopyRuns_lifted os started H enc)
end Go.Proofs.Yteepnepebilckaa
