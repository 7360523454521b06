/- For every input in which the opcode table reads as laid the law FnPartitionMost returns true, and its argument reads as it did, the table being tied to the text of the program. -/
import Derived.Test.YteepnepebilckaaGreatDoorCT40
import Derived.Test.YteepnepebilckaaGreatDoorCards
namespace Go.Proofs.YteepnepebilckaaGreatDoor
open Go Go.ChangeShapes Go.WideShapes Go.ChangeAt Go.WideElems Go.RowKit Go.Deep Go.Joins
set_option maxRecDepth 100000 in
theorem fnPartitionMost_lifted (os : Os) (started : os.Started) (H : Type) (enc : TypeId × Value → H) :
 ReturnsInHanded {} Tryz.checked os 4 .any (fun w args => (Rows.fnPartitionMostSpec.pre enc Tryz.prog Tryz.f4 [] false w args ∧ laidMetH Tryz.prog D8 w) ∧ sizedMet enc Tryz.prog Tryz.f4 (OpenSpec.ofChange Rows.fnPartitionMostSpec) false w args) (Rows.fnPartitionMostSpec.post enc Tryz.prog Tryz.f4 false true false false) := by
 refine returnsInHanded_of_change_and (C := Tryz.checked) (X := fun w _ => laidMetH Tryz.prog D8 w) (fun _ _ _ hh h => h.of_heap hh) ownK started (by kernel_rfl) Tryz.func4
  (ChangeSpec.witness_shaped (enc := enc) (C := Tryz.checked) (os := os) (X := fun w _ => laidMetH Tryz.prog D8 w) false (World.doorLaid Tryz.prog 22 os) #[.agg #[.slice none 0 0, .slice none 0 0]] 8 rfl (World.shaped_of_RefB (by kernel_rfl) (by kernel_rfl)) (by kernel_rfl) (by kernel_rfl) (by kernel_rfl) (Ge os _)) ?_
 intro W base args ds gs before hval0 hW _ _ hL _
 have hval : ∀ (j : Nat) t v, Tryz.f4.params[j]? = some t → args[j]? = some v → Value.okWide Tryz.prog W .any base t v := hval0
 have hW' := hW
 obtain ⟨p, q, hA0, hV0, rfl, hfz, hnd⟩ := hW
 have hV : DataW.TrodVars enc Tryz.prog W (fun _ => true) [Eg] gs q := hV0
 have hA : DataW.TrodAll enc Tryz.prog W 0 (fun _ => true) true Tryz.f4.params.toList args.toList ds p := hA0
 rw [Tryz.params4] at hA hval
 obtain ⟨v0, d0, rfl, rfl, h0⟩ := trodAll_one hA
 obtain ⟨gd, rfl⟩ := gs_one hV
 obtain ⟨f, hf⟩ := GO (hval 0 25 v0 rfl rfl) h0
 have hlt : ∀ x ∈ p, x.block < W.heap.size := fun x hx => hW'.lt x (List.mem_append_left _ hx)
 have ht := tabl_of_laid hL
 clear hA0 hval0
 refine Calls.mono (FnPartitionMost_ret hf ht) fun e W' ⟨v, he, hv, hb⟩ => ?_
 subst he; subst hv
 refine ⟨_, rfl, _, _, _, [], p, q, hW', trodAll_mk1 (shut_bool Tryz.underlying4 true), trodAll_mk1 ?_, Below.trodVars laidK hb (by kernel_rfl) hV, hb.frame _, fun h => by cases h⟩
 exact WideElems.Trod_stays laidK (by kernel_rfl) (of_decide_eq_true (by kernel_rfl)) h0 (fun x hx => hb.same (hlt x hx)) (fun x hx => by simpa using hlt x hx)
theorem fnPartitionMost_holds : Rows.FnPartitionMostSaid :=
 OpenClaim.holds_of_wide 4 Tryz.f4 rfl rfl rfl rfl rfl rfl rfl ⟨rfl, rfl, rfl, rfl, rfl⟩ rfl rfl rfl rfl rfl (by kernel_rfl) Tryz.func4 (by kernel_rfl)
  (of_decide_eq_true (by kernel_rfl)) (by unfold Func.isWrapper; first | (rw [if_pos (by decide +kernel)]; kernel_rfl) | (rw [if_neg (by decide +kernel)]; exact ⟨rfl, rfl⟩))
  (fun os started H enc _ => fnPartitionMost_lifted os started H enc)
theorem fnPartitionMost_card : Rows.FnPartitionMostCardSaid :=
 Claim7.holds_tied_plain_at .later [] [.data] true (true, "4ef5ec6ea8e1c4f87708987f2a68e2b2e34fd6bc534d37cce04b16d691dee687") false
  fnPartitionMost_holds (fun _ h => by cases h) (by kernel_rfl) (fun _ h => by cases h) fnPartitionMost_row_tie rfl ⟨rfl, rfl⟩ (by kernel_rfl) rfl
  (fun f fn hf hfn => by
    obtain rfl : f = 4 := Option.some.inj ((show Tryz.prog.funcNamed "loop.example/pub-passesoverblocks/laws.FnPartitionMost" = some 4 by kernel_rfl).symm.trans hf) |>.symm
    obtain rfl : fn = Tryz.f4 := (Option.some.inj (Tryz.func4.symm.trans hfn)).symm
    exact ⟨by kernel_rfl, fun j t ht => by
     rw [Tryz.params4] at ht
     have h3 : t = 25 := by
      rcases j with _ | _ | j
      ·simp at ht; simp [ht]
      ·simp at ht; try simp [ht]
      simp at ht
     exact h3 ▸ (show Tryz.prog.wantsStandIn 25 = false by kernel_rfl)⟩)
  (by kernel_rfl)
end Go.Proofs.YteepnepebilckaaGreatDoor
