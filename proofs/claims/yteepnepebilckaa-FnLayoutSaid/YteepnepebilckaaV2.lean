/- many, truth, Truth. -/
import Derived.Test.YteepnepebilckaaV1
namespace Go.Proofs.Yteepnepebilckaa
open Go Go.Eng Go.RowKit
set_option maxHeartbeats 4000000
attribute [local irreducible] EC EL DL Ret thenQ blockQ loopQ bodyQ onlyN execOp Sem.run World.cell? World.frozen? World.setCell World.alloc

def manyI (op p : Int) : Int := if op ≤ 1 then 0 else if op = 13 then p else if op = 8 ∨ op = 9 ∨ op = 14 then 1 else if op = 15 then 3 else 2

/-- many. -/
theorem many_ret (w : World) (op p : Int) : Ret Try.prog 23 #[.int .i64 op, .int .i64 p] w fun v w' => v = .int .i64 (manyI op p) ∧ w' = w := by
  refine ret_of_EC Try.func23 rfl rfl ?_
  refine EC_seq ?_
  refine EC_region ?_
  refine EL_v x_assign rfl ?_
  refine EL_nil ?_
  refine thenQ_normal ?_
  refine EC_seq ?_
  refine EC_block ?_
  refine EC_seq ?_
  refine EC_region ?_
  refine EL_v x_move rfl ?_
  refine EL_v (x_leq rfl rfl) rfl ?_
  refine EL_v x_assign rfl ?_
  refine EL_nil ?_
  refine thenQ_normal ?_
  refine EC_if rfl rfl (fun h1 => ?_) (fun h1 => ?_)
  · refine EC_seq ?_
    refine EC_region ?_
    refine EL_v x_assign rfl ?_
    refine EL_nil ?_
    refine thenQ_normal ?_
    refine EC_ret ?_
    refine blockQ_ret ?_
    refine thenQ_ret ?_
    exact post_tmp rfl rfl rfl ⟨congrArg (Value.int .i64) (show (0 : Int) = manyI op p from by rw [manyI, if_pos h1]), rfl⟩
  refine EC_seq ?_
  refine EC_region ?_
  refine EL_v x_move rfl ?_
  refine EL_v (x_eql rfl rfl) rfl ?_
  refine EL_v x_assign rfl ?_
  refine EL_nil ?_
  refine thenQ_normal ?_
  refine EC_if rfl rfl (fun h2 => ?_) (fun h2 => ?_)
  · refine EC_seq ?_
    refine EC_region ?_
    refine EL_v x_move rfl ?_
    refine EL_v x_assign rfl ?_
    refine EL_nil ?_
    refine thenQ_normal ?_
    refine EC_ret ?_
    refine blockQ_ret ?_
    refine thenQ_ret ?_
    exact post_tmp rfl rfl rfl ⟨congrArg (Value.int .i64) (show (p : Int) = manyI op p from by rw [manyI, if_neg h1, if_pos h2]), rfl⟩
  by_cases h3 : op = 8 ∨ op = 9 ∨ op = 14
  · have key : ∀ e : Env, True := fun _ => trivial
    refine EC_seq ?_
    refine EC_region ?_
    refine EL_v x_move rfl ?_
    refine EL_v (x_eql rfl rfl) rfl ?_
    refine EL_v x_move rfl ?_
    by_cases h8 : op = 8
    · rw [decide_eq_true h8]
      refine EL_no rfl rfl ?_
      refine EL_no rfl rfl ?_
      refine EL_v (x_pick_t rfl) rfl ?_
      refine EL_v x_move rfl ?_
      refine EL_no rfl rfl ?_
      refine EL_no rfl rfl ?_
      refine EL_v (x_pick_t rfl) rfl ?_
      refine EL_v x_assign rfl ?_
      refine EL_nil ?_
      refine thenQ_normal ?_
      refine EC_yes rfl rfl ?_
      refine EC_seq ?_
      refine EC_region ?_
      refine EL_v x_assign rfl ?_
      refine EL_nil ?_
      refine thenQ_normal ?_
      refine EC_ret ?_
      refine blockQ_ret ?_
      refine thenQ_ret ?_
      exact post_tmp rfl rfl rfl ⟨congrArg (Value.int .i64) (show (1 : Int) = manyI op p from by rw [manyI, if_neg h1, if_neg h2, if_pos h3]), rfl⟩
    · rw [decide_eq_false h8]
      refine EL_yes rfl rfl x_move rfl ?_
      refine EL_yes rfl rfl (x_eql rfl rfl) rfl ?_
      refine EL_v (x_pick_f rfl) rfl ?_
      refine EL_v x_move rfl ?_
      by_cases h9 : op = 9
      · rw [decide_eq_true h9]
        refine EL_no rfl rfl ?_
        refine EL_no rfl rfl ?_
        refine EL_v (x_pick_t rfl) rfl ?_
        refine EL_v x_assign rfl ?_
        refine EL_nil ?_
        refine thenQ_normal ?_
        refine EC_yes rfl rfl ?_
        refine EC_seq ?_
        refine EC_region ?_
        refine EL_v x_assign rfl ?_
        refine EL_nil ?_
        refine thenQ_normal ?_
        refine EC_ret ?_
        refine blockQ_ret ?_
        refine thenQ_ret ?_
        exact post_tmp rfl rfl rfl ⟨congrArg (Value.int .i64) (show (1 : Int) = manyI op p from by rw [manyI, if_neg h1, if_neg h2, if_pos h3]), rfl⟩
      · rw [decide_eq_false h9]
        refine EL_yes rfl rfl x_move rfl ?_
        refine EL_yes rfl rfl (x_eql rfl rfl) rfl ?_
        refine EL_v (x_pick_f rfl) rfl ?_
        refine EL_v x_assign rfl ?_
        refine EL_nil ?_
        refine thenQ_normal ?_
        have h14 : op = 14 := (h3.resolve_left h8).resolve_left h9
        rw [decide_eq_true h14]
        refine EC_yes rfl rfl ?_
        refine EC_seq ?_
        refine EC_region ?_
        refine EL_v x_assign rfl ?_
        refine EL_nil ?_
        refine thenQ_normal ?_
        refine EC_ret ?_
        refine blockQ_ret ?_
        refine thenQ_ret ?_
        exact post_tmp rfl rfl rfl ⟨congrArg (Value.int .i64) (show (1 : Int) = manyI op p from by rw [manyI, if_neg h1, if_neg h2, if_pos h3]), rfl⟩
  · refine EC_seq ?_
    refine EC_region ?_
    refine EL_v x_move rfl ?_
    refine EL_v (x_eql rfl rfl) rfl ?_
    refine EL_v x_move rfl ?_
    rw [decide_eq_false (fun h => h3 (.inl h))]
    refine EL_yes rfl rfl x_move rfl ?_
    refine EL_yes rfl rfl (x_eql rfl rfl) rfl ?_
    refine EL_v (x_pick_f rfl) rfl ?_
    refine EL_v x_move rfl ?_
    rw [decide_eq_false (fun h => h3 (.inr (.inl h)))]
    refine EL_yes rfl rfl x_move rfl ?_
    refine EL_yes rfl rfl (x_eql rfl rfl) rfl ?_
    refine EL_v (x_pick_f rfl) rfl ?_
    refine EL_v x_assign rfl ?_
    refine EL_nil ?_
    refine thenQ_normal ?_
    rw [decide_eq_false (fun h => h3 (.inr (.inr h)))]
    refine EC_no rfl rfl ?_
    refine EC_seq ?_
    refine EC_region ?_
    refine EL_v x_move rfl ?_
    refine EL_v (x_eql rfl rfl) rfl ?_
    refine EL_v x_assign rfl ?_
    refine EL_nil ?_
    refine thenQ_normal ?_
    refine EC_if rfl rfl (fun h4 => ?_) (fun h4 => ?_)
    · refine EC_seq ?_
      refine EC_region ?_
      refine EL_v x_assign rfl ?_
      refine EL_nil ?_
      refine thenQ_normal ?_
      refine EC_ret ?_
      refine blockQ_ret ?_
      refine thenQ_ret ?_
      exact post_tmp rfl rfl rfl ⟨congrArg (Value.int .i64) (show (3 : Int) = manyI op p from by rw [manyI, if_neg h1, if_neg h2, if_neg h3, if_pos h4]), rfl⟩
    refine EC_skip ?_
    refine blockQ_normal ?_
    refine thenQ_normal ?_
    refine EC_seq ?_
    refine EC_region ?_
    refine EL_v x_assign rfl ?_
    refine EL_nil ?_
    refine thenQ_normal ?_
    refine EC_ret ?_
    exact post_tmp rfl rfl rfl ⟨congrArg (Value.int .i64) (show (2 : Int) = manyI op p from by rw [manyI, if_neg h1, if_neg h2, if_neg h3, if_neg h4]), rfl⟩
end Go.Proofs.Yteepnepebilckaa
