/- one, do. -/
import Derived.Test.YteepnepebilckaaV3
import Derived.Test.YteepnepebilckaaE7
namespace Go.Proofs.Yteepnepebilckaa
open Go Go.Eng Go.RowKit

def doI (ins : List Int) (op aux : Int) (a : List Int) : Int :=
  if op = 0 then (if aux < (ins.length : Int) then ins.getD aux.toNat 0 else 0)
  else if op = 1 then aux
  else if op = 2 then IntKind.i64.wrap (a.getD 0 0 + a.getD 1 0)
  else if op = 3 then IntKind.i64.wrap (a.getD 0 0 - a.getD 1 0)
  else if op = 4 then IntKind.i64.wrap (a.getD 0 0 * a.getD 1 0)
  else if op = 5 then Go.bits .and .i64 (a.getD 0 0) (a.getD 1 0)
  else if op = 6 then Go.bits .or .i64 (a.getD 0 0) (a.getD 1 0)
  else if op = 7 then Go.bits .xor .i64 (a.getD 0 0) (a.getD 1 0)
  else if op = 8 then IntKind.i64.wrap (0 - a.getD 0 0)
  else if op = 9 then Go.bits .xor .i64 (-1) (a.getD 0 0)
  else if op = 10 then (if a.getD 0 0 < a.getD 1 0 then 1 else 0)
  else if op = 11 then (if a.getD 0 0 = a.getD 1 0 then 1 else 0)
  else if op = 12 then (if a.getD 0 0 ≠ a.getD 1 0 then 1 else 0)
  else if op = 15 then (if a.getD 2 0 ≠ 0 then a.getD 0 0 else a.getD 1 0)
  else a.getD 0 0
theorem doI_copy (ins : List Int) (aux : Int) (a : List Int) : doI ins 14 aux a = a.getD 0 0 := rfl

section
variable {P : Program} {w : World} {ρ : Operand → Value} {d : Option Tmp} {ty : TypeId} {pos : String} {af : Array Edge} {g : Option (Nat × Bool)}
theorem x_bit {t u : TypeId} {x y : Operand} {k : IntKind} {a b : Int} {op : BinOp} (hop : op = .and ∨ op = .or ∨ op = .xor) (hx : ρ x = .int k a) (hy : ρ y = .int k b) :
    (execOp ρ ⟨d, .binOp op t x y u, ty, pos, af, g⟩).run P w = .ok (.value (.int k (Go.bits op k a b))) w :=
  x_bits hop hx hy (by rcases hop with rfl | rfl | rfl <;> rfl)
theorem x_com {t : TypeId} {x : Operand} {a : Int} (hx : ρ x = .int .i64 a) : (execOp ρ ⟨d, .unOp .xor t x, ty, pos, af, g⟩).run P w = .ok (.value (.int .i64 (Go.bits .xor .i64 (-1) a))) w := by
  have key : (Op.unary .xor (.int .i64 a)).run P w = .ok (.int .i64 (Go.bits .xor .i64 (-1) a)) w := rfl
  simp [execOp, hx, key]
end
set_option maxHeartbeats 4000000
attribute [local irreducible] EC EL DL Ret thenQ blockQ loopQ bodyQ onlyN execOp Sem.run World.cell? World.frozen? World.setCell World.alloc

/-- one. -/
theorem one_ret (w : World) (b : Bool) : Ret Try.prog 65 #[.bool b] w fun v w' => v = .int .i64 (if b = true then 1 else 0) ∧ w' = w := by
  refine ret_of_EC Try.func65 rfl rfl ?_
  refine EC_seq ?_
  refine EC_region ?_
  refine EL_v x_assign rfl ?_
  refine EL_nil ?_
  refine thenQ_normal ?_
  refine EC_seq ?_
  refine EC_seq ?_
  refine EC_region ?_
  refine EL_v x_move rfl ?_
  refine EL_nil ?_
  refine thenQ_normal ?_
  cases b with
  | true =>
    refine EC_yes rfl rfl ?_
    refine EC_seq ?_
    refine EC_region ?_
    refine EL_v x_assign rfl ?_
    refine EL_nil ?_
    refine thenQ_normal ?_
    refine EC_ret ?_
    refine thenQ_ret ?_
    exact post_tmp rfl rfl rfl ⟨rfl, rfl⟩
  | false =>
    refine EC_no rfl rfl ?_
    refine EC_skip ?_
    refine thenQ_normal ?_
    refine EC_seq ?_
    refine EC_region ?_
    refine EL_v x_assign rfl ?_
    refine EL_nil ?_
    refine thenQ_normal ?_
    refine EC_ret ?_
    exact post_tmp rfl rfl rfl ⟨rfl, rfl⟩

/-- do. -/
theorem do_ret {w : World} {op blk aux p : Int} {sa : Option Addr} {sn sc : Nat} {va vi : Value} {l ins : List Int} (hla : IntsV w va l) (hin : IntsV w vi ins) (ho : 0 ≤ op ∧ op ≤ 15 ∧ op ≠ 13) (hm : (l.length : Int) = manyI op p) (h0 : op = 0 → 0 ≤ aux) :
    Ret Try.prog 43 #[.agg #[.int .i64 op, .int .i64 blk, .slice sa sn sc, .int .i64 aux], va, vi] w fun v w' => v = .int .i64 (doI ins op aux l) ∧ Below w.heap.size w w' := by
  obtain ⟨aa, ac, rfl, hl0⟩ := hla
  obtain ⟨ia, ic, rfl, hi0⟩ := hin
  refine ret_of_EC Try.func43 rfl rfl ?_
  obtain ⟨B, hBd⟩ : ∃ B, B = w.heap.size := ⟨_, rfl⟩
  refine EC_seq ?_
  refine EC_region ?_
  refine EL_v (x_box (v := .agg #[.int .i64 op, .int .i64 blk, .slice sa sn sc, .int .i64 aux]) rfl) rfl ?_
  change EL _ _ _ _ _ _ (w.alloc (.cells #[.int .i64 op, .int .i64 blk, .slice sa sn sc, .int .i64 aux] 50))
  have hN1 := heap_alloc_new w (.cells #[.int .i64 op, .int .i64 blk, .slice sa sn sc, .int .i64 aux] 50)
  have hO1 : ∀ zz, zz < w.heap.size → (w.alloc (.cells #[.int .i64 op, .int .i64 blk, .slice sa sn sc, .int .i64 aux] 50)).heap[zz]? = w.heap[zz]? := fun _ hi => Below.heap_alloc _ _ _ hi
  have hZ1 := size_alloc w (.cells #[.int .i64 op, .int .i64 blk, .slice sa sn sc, .int .i64 aux] 50)
  have hB1 := (Below.refl B w).alloc (by omega) (.cells #[.int .i64 op, .int .i64 blk, .slice sa sn sc, .int .i64 aux] 50)
  have hK1 := Keep.alloc w (.cells #[.int .i64 op, .int .i64 blk, .slice sa sn sc, .int .i64 aux] 50)
  generalize w.alloc (.cells #[.int .i64 op, .int .i64 blk, .slice sa sn sc, .int .i64 aux] 50) = wa at hN1 hO1 hZ1 hB1 hK1 ⊢
  refine EL_v x_assign rfl ?_
  refine EL_nil ?_
  refine thenQ_normal ?_
  have v0 : wa.cell? ⟨w.heap.size, 0 + 0, none⟩ = some (.int .i64 op) := cell_block hN1 rfl
  have v3 : wa.cell? ⟨w.heap.size, 0 + 3, none⟩ = some (.int .i64 aux) := cell_block hN1 rfl
  refine EC_seq ?_
  refine EC_seq ?_
  refine EC_region ?_
  refine EL_v (x_field rfl (tab_fld rfl)) rfl ?_
  refine EL_v (x_load rfl (tab_one rfl) (by with_reducible assumption)) rfl ?_
  refine EL_nil ?_
  refine thenQ_normal ?_
  refine EC_block ?_
  refine EC_seq ?_
  refine EC_region ?_
  refine EL_v (x_eql rfl rfl) rfl ?_
  refine EL_v x_assign rfl ?_
  refine EL_nil ?_
  refine thenQ_normal ?_
  refine EC_if rfl rfl (fun h1 => ?_) (fun h1 => ?_)
  · refine EC_seq ?_
    refine EC_seq ?_
    refine EC_region ?_
    refine EL_v (x_field rfl (tab_fld rfl)) rfl ?_
    refine EL_v (x_load rfl (tab_one rfl) (by with_reducible assumption)) rfl ?_
    refine EL_v x_move rfl ?_
    refine EL_v (x_len rfl (tab_sl rfl)) rfl ?_
    refine EL_v (x_lss rfl rfl) rfl ?_
    refine EL_nil ?_
    refine thenQ_normal ?_
    refine EC_if rfl rfl (fun hlt => ?_) (fun hge => ?_)
    · have ha0 := h0 h1
      obtain ⟨k, hk⟩ : ∃ k : Nat, aux = (k : Int) := ⟨_, (Int.toNat_of_nonneg ha0).symm⟩
      have hkn : k < ins.length := by omega
      obtain ⟨bi, oi, rfl, hci⟩ := hi0.get hkn
      have hci := hK1 _ _ hci
      rw [hk] at v3
      refine EC_seq ?_
      refine EC_region ?_
      refine EL_v x_move rfl ?_
      refine EL_v (x_field rfl (tab_fld rfl)) rfl ?_
      refine EL_v (x_load rfl (tab_one rfl) (by with_reducible assumption)) rfl ?_
      refine EL_v (x_index1 rfl rfl (tab_sl rfl) (by omega)) rfl ?_
      refine EL_v (x_load rfl (tab_one rfl) (by with_reducible assumption)) rfl ?_
      refine EL_v x_assign rfl ?_
      refine EL_nil ?_
      refine thenQ_normal ?_
      refine EC_ret ?_
      refine thenQ_ret ?_
      refine blockQ_ret ?_
      refine thenQ_ret ?_
      exact post_tmp rfl rfl rfl ⟨congrArg (Value.int .i64) (by unfold doI; rw [if_pos h1, if_pos hlt, hk, Int.toNat_natCast]), by rw [← hBd]; exact hB1⟩
    · refine EC_skip ?_
      refine thenQ_normal ?_
      refine EC_seq ?_
      refine EC_region ?_
      refine EL_v x_assign rfl ?_
      refine EL_nil ?_
      refine thenQ_normal ?_
      refine EC_ret ?_
      refine blockQ_ret ?_
      refine thenQ_ret ?_
      exact post_tmp rfl rfl rfl ⟨congrArg (Value.int .i64) (by unfold doI; rw [if_pos h1, if_neg hge]), by rw [← hBd]; exact hB1⟩
  refine EC_seq ?_
  refine EC_region ?_
  refine EL_v (x_eql rfl rfl) rfl ?_
  refine EL_v x_assign rfl ?_
  refine EL_nil ?_
  refine thenQ_normal ?_
  refine EC_if rfl rfl (fun h2 => ?_) (fun h2 => ?_)
  · refine EC_seq ?_
    refine EC_region ?_
    refine EL_v (x_field rfl (tab_fld rfl)) rfl ?_
    refine EL_v (x_load rfl (tab_one rfl) (by with_reducible assumption)) rfl ?_
    refine EL_v x_assign rfl ?_
    refine EL_nil ?_
    refine thenQ_normal ?_
    refine EC_ret ?_
    refine blockQ_ret ?_
    refine thenQ_ret ?_
    exact post_tmp rfl rfl rfl ⟨congrArg (Value.int .i64) (by unfold doI; rw [if_neg h1, if_pos h2]), by rw [← hBd]; exact hB1⟩
  refine EC_seq ?_
  refine EC_region ?_
  refine EL_v (x_eql rfl rfl) rfl ?_
  refine EL_v x_assign rfl ?_
  refine EL_nil ?_
  refine thenQ_normal ?_
  refine EC_if rfl rfl (fun hadd => ?_) (fun hadd => ?_)
  · have hl : 2 ≤ l.length := by
      have e : manyI op p = 2 := by rw [hadd]; rfl
      omega
    obtain ⟨ba, oa, rfl, ha0⟩ := hl0.get (k := 0) (by omega)
    obtain ⟨_, _, e, ha1⟩ := hl0.get (k := 1) (by omega)
    cases e
    have hc : Cells [(⟨ba, oa + 0, none⟩, .int .i64 (l.getD 0 0)), (⟨ba, oa + 1, none⟩, .int .i64 (l.getD 1 0))] wa.drew := (Keep.drew wa).cells (.cons (hK1 _ _ ha0) (.cons (hK1 _ _ ha1) (.nil _)))
    refine EC_seq ?_
    refine EC_draw mixed (Cells [(⟨ba, oa + 0, none⟩, .int .i64 (l.getD 0 0)), (⟨ba, oa + 1, none⟩, .int .i64 (l.getD 1 0))]) [(0, false), (1, false), (2, false), (3, false), (4, false), (5, false), (6, false), (7, false)] (by kernel_rfl) hc ?_
    have hbd := hB1.drew
    generalize wa.drew = Wd at hc hbd ⊢
    refine DL_v rfl (fun _ _ => x_move) ?_
    refine DL_v rfl (fun _ _ => x_index0 rfl rfl (tab_sl rfl) (by omega)) ?_
    refine DL_v rfl (fun _ hS => x_load rfl (tab_one rfl) (hS.get (by first | exact .head _ | exact .tail _ (.head _) | exact .tail _ (.tail _ (.head _)) | exact .tail _ (.tail _ (.tail _ (.head _))) | exact .tail _ (.tail _ (.tail _ (.tail _ (.head _)))) | exact .tail _ (.tail _ (.tail _ (.tail _ (.tail _ (.head _))))) | exact .tail _ (.tail _ (.tail _ (.tail _ (.tail _ (.tail _ (.head _)))))) | exact .tail _ (.tail _ (.tail _ (.tail _ (.tail _ (.tail _ (.tail _ (.head _)))))))))) ?_
    refine DL_v rfl (fun _ _ => x_move) ?_
    refine DL_v rfl (fun _ _ => x_index1 (i := 1) rfl rfl (tab_sl rfl) (by omega)) ?_
    refine DL_v rfl (fun _ hS => x_load rfl (tab_one rfl) (hS.get (by first | exact .head _ | exact .tail _ (.head _) | exact .tail _ (.tail _ (.head _)) | exact .tail _ (.tail _ (.tail _ (.head _))) | exact .tail _ (.tail _ (.tail _ (.tail _ (.head _)))) | exact .tail _ (.tail _ (.tail _ (.tail _ (.tail _ (.head _))))) | exact .tail _ (.tail _ (.tail _ (.tail _ (.tail _ (.tail _ (.head _)))))) | exact .tail _ (.tail _ (.tail _ (.tail _ (.tail _ (.tail _ (.tail _ (.head _)))))))))) ?_
    refine DL_v rfl (fun _ _ => x_add rfl rfl rfl) ?_
    refine DL_v rfl (fun _ _ => x_assign) ?_
    refine DL_nil ?_
    refine thenQ_normal ?_
    refine EC_ret ?_
    refine blockQ_ret ?_
    refine thenQ_ret ?_
    exact post_tmp rfl rfl rfl ⟨congrArg (Value.int .i64) (by unfold doI; simp only [hadd]; rfl), by rw [← hBd]; exact hbd⟩
  refine EC_seq ?_
  refine EC_region ?_
  refine EL_v (x_eql rfl rfl) rfl ?_
  refine EL_v x_assign rfl ?_
  refine EL_nil ?_
  refine thenQ_normal ?_
  refine EC_if rfl rfl (fun hsub => ?_) (fun hsub => ?_)
  · have hl : 2 ≤ l.length := by
      have e : manyI op p = 2 := by rw [hsub]; rfl
      omega
    obtain ⟨ba, oa, rfl, ha0⟩ := hl0.get (k := 0) (by omega)
    obtain ⟨_, _, e, ha1⟩ := hl0.get (k := 1) (by omega)
    cases e
    have hc : Cells [(⟨ba, oa + 0, none⟩, .int .i64 (l.getD 0 0)), (⟨ba, oa + 1, none⟩, .int .i64 (l.getD 1 0))] wa.drew := (Keep.drew wa).cells (.cons (hK1 _ _ ha0) (.cons (hK1 _ _ ha1) (.nil _)))
    refine EC_seq ?_
    refine EC_draw mixed (Cells [(⟨ba, oa + 0, none⟩, .int .i64 (l.getD 0 0)), (⟨ba, oa + 1, none⟩, .int .i64 (l.getD 1 0))]) [(0, false), (1, false), (2, false), (3, false), (4, false), (5, false), (6, false), (7, false)] (by kernel_rfl) hc ?_
    have hbd := hB1.drew
    generalize wa.drew = Wd at hc hbd ⊢
    refine DL_v rfl (fun _ _ => x_move) ?_
    refine DL_v rfl (fun _ _ => x_index0 rfl rfl (tab_sl rfl) (by omega)) ?_
    refine DL_v rfl (fun _ hS => x_load rfl (tab_one rfl) (hS.get (by first | exact .head _ | exact .tail _ (.head _) | exact .tail _ (.tail _ (.head _)) | exact .tail _ (.tail _ (.tail _ (.head _))) | exact .tail _ (.tail _ (.tail _ (.tail _ (.head _)))) | exact .tail _ (.tail _ (.tail _ (.tail _ (.tail _ (.head _))))) | exact .tail _ (.tail _ (.tail _ (.tail _ (.tail _ (.tail _ (.head _)))))) | exact .tail _ (.tail _ (.tail _ (.tail _ (.tail _ (.tail _ (.tail _ (.head _)))))))))) ?_
    refine DL_v rfl (fun _ _ => x_move) ?_
    refine DL_v rfl (fun _ _ => x_index1 (i := 1) rfl rfl (tab_sl rfl) (by omega)) ?_
    refine DL_v rfl (fun _ hS => x_load rfl (tab_one rfl) (hS.get (by first | exact .head _ | exact .tail _ (.head _) | exact .tail _ (.tail _ (.head _)) | exact .tail _ (.tail _ (.tail _ (.head _))) | exact .tail _ (.tail _ (.tail _ (.tail _ (.head _)))) | exact .tail _ (.tail _ (.tail _ (.tail _ (.tail _ (.head _))))) | exact .tail _ (.tail _ (.tail _ (.tail _ (.tail _ (.tail _ (.head _)))))) | exact .tail _ (.tail _ (.tail _ (.tail _ (.tail _ (.tail _ (.tail _ (.head _)))))))))) ?_
    refine DL_v rfl (fun _ _ => x_sub rfl rfl rfl) ?_
    refine DL_v rfl (fun _ _ => x_assign) ?_
    refine DL_nil ?_
    refine thenQ_normal ?_
    refine EC_ret ?_
    refine blockQ_ret ?_
    refine thenQ_ret ?_
    exact post_tmp rfl rfl rfl ⟨congrArg (Value.int .i64) (by unfold doI; simp only [hsub]; rfl), by rw [← hBd]; exact hbd⟩
  refine EC_seq ?_
  refine EC_region ?_
  refine EL_v (x_eql rfl rfl) rfl ?_
  refine EL_v x_assign rfl ?_
  refine EL_nil ?_
  refine thenQ_normal ?_
  refine EC_if rfl rfl (fun hmul => ?_) (fun hmul => ?_)
  · have hl : 2 ≤ l.length := by
      have e : manyI op p = 2 := by rw [hmul]; rfl
      omega
    obtain ⟨ba, oa, rfl, ha0⟩ := hl0.get (k := 0) (by omega)
    obtain ⟨_, _, e, ha1⟩ := hl0.get (k := 1) (by omega)
    cases e
    have hc : Cells [(⟨ba, oa + 0, none⟩, .int .i64 (l.getD 0 0)), (⟨ba, oa + 1, none⟩, .int .i64 (l.getD 1 0))] wa.drew := (Keep.drew wa).cells (.cons (hK1 _ _ ha0) (.cons (hK1 _ _ ha1) (.nil _)))
    refine EC_seq ?_
    refine EC_draw mixed (Cells [(⟨ba, oa + 0, none⟩, .int .i64 (l.getD 0 0)), (⟨ba, oa + 1, none⟩, .int .i64 (l.getD 1 0))]) [(0, false), (1, false), (2, false), (3, false), (4, false), (5, false), (6, false), (7, false)] (by kernel_rfl) hc ?_
    have hbd := hB1.drew
    generalize wa.drew = Wd at hc hbd ⊢
    refine DL_v rfl (fun _ _ => x_move) ?_
    refine DL_v rfl (fun _ _ => x_index0 rfl rfl (tab_sl rfl) (by omega)) ?_
    refine DL_v rfl (fun _ hS => x_load rfl (tab_one rfl) (hS.get (by first | exact .head _ | exact .tail _ (.head _) | exact .tail _ (.tail _ (.head _)) | exact .tail _ (.tail _ (.tail _ (.head _))) | exact .tail _ (.tail _ (.tail _ (.tail _ (.head _)))) | exact .tail _ (.tail _ (.tail _ (.tail _ (.tail _ (.head _))))) | exact .tail _ (.tail _ (.tail _ (.tail _ (.tail _ (.tail _ (.head _)))))) | exact .tail _ (.tail _ (.tail _ (.tail _ (.tail _ (.tail _ (.tail _ (.head _)))))))))) ?_
    refine DL_v rfl (fun _ _ => x_move) ?_
    refine DL_v rfl (fun _ _ => x_index1 (i := 1) rfl rfl (tab_sl rfl) (by omega)) ?_
    refine DL_v rfl (fun _ hS => x_load rfl (tab_one rfl) (hS.get (by first | exact .head _ | exact .tail _ (.head _) | exact .tail _ (.tail _ (.head _)) | exact .tail _ (.tail _ (.tail _ (.head _))) | exact .tail _ (.tail _ (.tail _ (.tail _ (.head _)))) | exact .tail _ (.tail _ (.tail _ (.tail _ (.tail _ (.head _))))) | exact .tail _ (.tail _ (.tail _ (.tail _ (.tail _ (.tail _ (.head _)))))) | exact .tail _ (.tail _ (.tail _ (.tail _ (.tail _ (.tail _ (.tail _ (.head _)))))))))) ?_
    refine DL_v rfl (fun _ _ => x_mul rfl rfl rfl) ?_
    refine DL_v rfl (fun _ _ => x_assign) ?_
    refine DL_nil ?_
    refine thenQ_normal ?_
    refine EC_ret ?_
    refine blockQ_ret ?_
    refine thenQ_ret ?_
    exact post_tmp rfl rfl rfl ⟨congrArg (Value.int .i64) (by unfold doI; simp only [hmul]; rfl), by rw [← hBd]; exact hbd⟩
  refine EC_seq ?_
  refine EC_region ?_
  refine EL_v (x_eql rfl rfl) rfl ?_
  refine EL_v x_assign rfl ?_
  refine EL_nil ?_
  refine thenQ_normal ?_
  refine EC_if rfl rfl (fun hand => ?_) (fun hand => ?_)
  · have hl : 2 ≤ l.length := by
      have e : manyI op p = 2 := by rw [hand]; rfl
      omega
    obtain ⟨ba, oa, rfl, ha0⟩ := hl0.get (k := 0) (by omega)
    obtain ⟨_, _, e, ha1⟩ := hl0.get (k := 1) (by omega)
    cases e
    have hc : Cells [(⟨ba, oa + 0, none⟩, .int .i64 (l.getD 0 0)), (⟨ba, oa + 1, none⟩, .int .i64 (l.getD 1 0))] wa.drew := (Keep.drew wa).cells (.cons (hK1 _ _ ha0) (.cons (hK1 _ _ ha1) (.nil _)))
    refine EC_seq ?_
    refine EC_draw mixed (Cells [(⟨ba, oa + 0, none⟩, .int .i64 (l.getD 0 0)), (⟨ba, oa + 1, none⟩, .int .i64 (l.getD 1 0))]) [(0, false), (1, false), (2, false), (3, false), (4, false), (5, false), (6, false), (7, false)] (by kernel_rfl) hc ?_
    have hbd := hB1.drew
    generalize wa.drew = Wd at hc hbd ⊢
    refine DL_v rfl (fun _ _ => x_move) ?_
    refine DL_v rfl (fun _ _ => x_index0 rfl rfl (tab_sl rfl) (by omega)) ?_
    refine DL_v rfl (fun _ hS => x_load rfl (tab_one rfl) (hS.get (by first | exact .head _ | exact .tail _ (.head _) | exact .tail _ (.tail _ (.head _)) | exact .tail _ (.tail _ (.tail _ (.head _))) | exact .tail _ (.tail _ (.tail _ (.tail _ (.head _)))) | exact .tail _ (.tail _ (.tail _ (.tail _ (.tail _ (.head _))))) | exact .tail _ (.tail _ (.tail _ (.tail _ (.tail _ (.tail _ (.head _)))))) | exact .tail _ (.tail _ (.tail _ (.tail _ (.tail _ (.tail _ (.tail _ (.head _)))))))))) ?_
    refine DL_v rfl (fun _ _ => x_move) ?_
    refine DL_v rfl (fun _ _ => x_index1 (i := 1) rfl rfl (tab_sl rfl) (by omega)) ?_
    refine DL_v rfl (fun _ hS => x_load rfl (tab_one rfl) (hS.get (by first | exact .head _ | exact .tail _ (.head _) | exact .tail _ (.tail _ (.head _)) | exact .tail _ (.tail _ (.tail _ (.head _))) | exact .tail _ (.tail _ (.tail _ (.tail _ (.head _)))) | exact .tail _ (.tail _ (.tail _ (.tail _ (.tail _ (.head _))))) | exact .tail _ (.tail _ (.tail _ (.tail _ (.tail _ (.tail _ (.head _)))))) | exact .tail _ (.tail _ (.tail _ (.tail _ (.tail _ (.tail _ (.tail _ (.head _)))))))))) ?_
    refine DL_v rfl (fun _ _ => x_bit (.inl rfl) rfl rfl) ?_
    refine DL_v rfl (fun _ _ => x_assign) ?_
    refine DL_nil ?_
    refine thenQ_normal ?_
    refine EC_ret ?_
    refine blockQ_ret ?_
    refine thenQ_ret ?_
    exact post_tmp rfl rfl rfl ⟨congrArg (Value.int .i64) (by unfold doI; simp only [hand]; rfl), by rw [← hBd]; exact hbd⟩
  refine EC_seq ?_
  refine EC_region ?_
  refine EL_v (x_eql rfl rfl) rfl ?_
  refine EL_v x_assign rfl ?_
  refine EL_nil ?_
  refine thenQ_normal ?_
  refine EC_if rfl rfl (fun hor => ?_) (fun hor => ?_)
  · have hl : 2 ≤ l.length := by
      have e : manyI op p = 2 := by rw [hor]; rfl
      omega
    obtain ⟨ba, oa, rfl, ha0⟩ := hl0.get (k := 0) (by omega)
    obtain ⟨_, _, e, ha1⟩ := hl0.get (k := 1) (by omega)
    cases e
    have hc : Cells [(⟨ba, oa + 0, none⟩, .int .i64 (l.getD 0 0)), (⟨ba, oa + 1, none⟩, .int .i64 (l.getD 1 0))] wa.drew := (Keep.drew wa).cells (.cons (hK1 _ _ ha0) (.cons (hK1 _ _ ha1) (.nil _)))
    refine EC_seq ?_
    refine EC_draw mixed (Cells [(⟨ba, oa + 0, none⟩, .int .i64 (l.getD 0 0)), (⟨ba, oa + 1, none⟩, .int .i64 (l.getD 1 0))]) [(0, false), (1, false), (2, false), (3, false), (4, false), (5, false), (6, false), (7, false)] (by kernel_rfl) hc ?_
    have hbd := hB1.drew
    generalize wa.drew = Wd at hc hbd ⊢
    refine DL_v rfl (fun _ _ => x_move) ?_
    refine DL_v rfl (fun _ _ => x_index0 rfl rfl (tab_sl rfl) (by omega)) ?_
    refine DL_v rfl (fun _ hS => x_load rfl (tab_one rfl) (hS.get (by first | exact .head _ | exact .tail _ (.head _) | exact .tail _ (.tail _ (.head _)) | exact .tail _ (.tail _ (.tail _ (.head _))) | exact .tail _ (.tail _ (.tail _ (.tail _ (.head _)))) | exact .tail _ (.tail _ (.tail _ (.tail _ (.tail _ (.head _))))) | exact .tail _ (.tail _ (.tail _ (.tail _ (.tail _ (.tail _ (.head _)))))) | exact .tail _ (.tail _ (.tail _ (.tail _ (.tail _ (.tail _ (.tail _ (.head _)))))))))) ?_
    refine DL_v rfl (fun _ _ => x_move) ?_
    refine DL_v rfl (fun _ _ => x_index1 (i := 1) rfl rfl (tab_sl rfl) (by omega)) ?_
    refine DL_v rfl (fun _ hS => x_load rfl (tab_one rfl) (hS.get (by first | exact .head _ | exact .tail _ (.head _) | exact .tail _ (.tail _ (.head _)) | exact .tail _ (.tail _ (.tail _ (.head _))) | exact .tail _ (.tail _ (.tail _ (.tail _ (.head _)))) | exact .tail _ (.tail _ (.tail _ (.tail _ (.tail _ (.head _))))) | exact .tail _ (.tail _ (.tail _ (.tail _ (.tail _ (.tail _ (.head _)))))) | exact .tail _ (.tail _ (.tail _ (.tail _ (.tail _ (.tail _ (.tail _ (.head _)))))))))) ?_
    refine DL_v rfl (fun _ _ => x_bit (.inr (.inl rfl)) rfl rfl) ?_
    refine DL_v rfl (fun _ _ => x_assign) ?_
    refine DL_nil ?_
    refine thenQ_normal ?_
    refine EC_ret ?_
    refine blockQ_ret ?_
    refine thenQ_ret ?_
    exact post_tmp rfl rfl rfl ⟨congrArg (Value.int .i64) (by unfold doI; simp only [hor]; rfl), by rw [← hBd]; exact hbd⟩
  refine EC_seq ?_
  refine EC_region ?_
  refine EL_v (x_eql rfl rfl) rfl ?_
  refine EL_v x_assign rfl ?_
  refine EL_nil ?_
  refine thenQ_normal ?_
  refine EC_if rfl rfl (fun hxor => ?_) (fun hxor => ?_)
  · have hl : 2 ≤ l.length := by
      have e : manyI op p = 2 := by rw [hxor]; rfl
      omega
    obtain ⟨ba, oa, rfl, ha0⟩ := hl0.get (k := 0) (by omega)
    obtain ⟨_, _, e, ha1⟩ := hl0.get (k := 1) (by omega)
    cases e
    have hc : Cells [(⟨ba, oa + 0, none⟩, .int .i64 (l.getD 0 0)), (⟨ba, oa + 1, none⟩, .int .i64 (l.getD 1 0))] wa.drew := (Keep.drew wa).cells (.cons (hK1 _ _ ha0) (.cons (hK1 _ _ ha1) (.nil _)))
    refine EC_seq ?_
    refine EC_draw mixed (Cells [(⟨ba, oa + 0, none⟩, .int .i64 (l.getD 0 0)), (⟨ba, oa + 1, none⟩, .int .i64 (l.getD 1 0))]) [(0, false), (1, false), (2, false), (3, false), (4, false), (5, false), (6, false), (7, false)] (by kernel_rfl) hc ?_
    have hbd := hB1.drew
    generalize wa.drew = Wd at hc hbd ⊢
    refine DL_v rfl (fun _ _ => x_move) ?_
    refine DL_v rfl (fun _ _ => x_index0 rfl rfl (tab_sl rfl) (by omega)) ?_
    refine DL_v rfl (fun _ hS => x_load rfl (tab_one rfl) (hS.get (by first | exact .head _ | exact .tail _ (.head _) | exact .tail _ (.tail _ (.head _)) | exact .tail _ (.tail _ (.tail _ (.head _))) | exact .tail _ (.tail _ (.tail _ (.tail _ (.head _)))) | exact .tail _ (.tail _ (.tail _ (.tail _ (.tail _ (.head _))))) | exact .tail _ (.tail _ (.tail _ (.tail _ (.tail _ (.tail _ (.head _)))))) | exact .tail _ (.tail _ (.tail _ (.tail _ (.tail _ (.tail _ (.tail _ (.head _)))))))))) ?_
    refine DL_v rfl (fun _ _ => x_move) ?_
    refine DL_v rfl (fun _ _ => x_index1 (i := 1) rfl rfl (tab_sl rfl) (by omega)) ?_
    refine DL_v rfl (fun _ hS => x_load rfl (tab_one rfl) (hS.get (by first | exact .head _ | exact .tail _ (.head _) | exact .tail _ (.tail _ (.head _)) | exact .tail _ (.tail _ (.tail _ (.head _))) | exact .tail _ (.tail _ (.tail _ (.tail _ (.head _)))) | exact .tail _ (.tail _ (.tail _ (.tail _ (.tail _ (.head _))))) | exact .tail _ (.tail _ (.tail _ (.tail _ (.tail _ (.tail _ (.head _)))))) | exact .tail _ (.tail _ (.tail _ (.tail _ (.tail _ (.tail _ (.tail _ (.head _)))))))))) ?_
    refine DL_v rfl (fun _ _ => x_bit (.inr (.inr rfl)) rfl rfl) ?_
    refine DL_v rfl (fun _ _ => x_assign) ?_
    refine DL_nil ?_
    refine thenQ_normal ?_
    refine EC_ret ?_
    refine blockQ_ret ?_
    refine thenQ_ret ?_
    exact post_tmp rfl rfl rfl ⟨congrArg (Value.int .i64) (by unfold doI; simp only [hxor]; rfl), by rw [← hBd]; exact hbd⟩
  refine EC_seq ?_
  refine EC_region ?_
  refine EL_v (x_eql rfl rfl) rfl ?_
  refine EL_v x_assign rfl ?_
  refine EL_nil ?_
  refine thenQ_normal ?_
  refine EC_if rfl rfl (fun hneg => ?_) (fun hneg => ?_)
  · have hl : 1 ≤ l.length := by
      have e : manyI op p = 1 := by rw [hneg]; rfl
      omega
    obtain ⟨ba, oa, rfl, ha0⟩ := hl0.get (k := 0) (by omega)
    have ha0 := hK1 _ _ ha0
    refine EC_seq ?_
    refine EC_region ?_
    refine EL_v x_move rfl ?_
    refine EL_v (x_index0 rfl rfl (tab_sl rfl) (by omega)) rfl ?_
    refine EL_v (x_load rfl (tab_one rfl) (by with_reducible assumption)) rfl ?_
    refine EL_v (x_neg rfl rfl) rfl ?_
    refine EL_v x_assign rfl ?_
    refine EL_nil ?_
    refine thenQ_normal ?_
    refine EC_ret ?_
    refine blockQ_ret ?_
    refine thenQ_ret ?_
    exact post_tmp rfl rfl rfl ⟨congrArg (Value.int .i64) (by unfold doI; simp only [hneg]; rfl), by rw [← hBd]; exact hB1⟩
  refine EC_seq ?_
  refine EC_region ?_
  refine EL_v (x_eql rfl rfl) rfl ?_
  refine EL_v x_assign rfl ?_
  refine EL_nil ?_
  refine thenQ_normal ?_
  refine EC_if rfl rfl (fun hcom => ?_) (fun hcom => ?_)
  · have hl : 1 ≤ l.length := by
      have e : manyI op p = 1 := by rw [hcom]; rfl
      omega
    obtain ⟨ba, oa, rfl, ha0⟩ := hl0.get (k := 0) (by omega)
    have ha0 := hK1 _ _ ha0
    refine EC_seq ?_
    refine EC_region ?_
    refine EL_v x_move rfl ?_
    refine EL_v (x_index0 rfl rfl (tab_sl rfl) (by omega)) rfl ?_
    refine EL_v (x_load rfl (tab_one rfl) (by with_reducible assumption)) rfl ?_
    refine EL_v (x_com rfl) rfl ?_
    refine EL_v x_assign rfl ?_
    refine EL_nil ?_
    refine thenQ_normal ?_
    refine EC_ret ?_
    refine blockQ_ret ?_
    refine thenQ_ret ?_
    exact post_tmp rfl rfl rfl ⟨congrArg (Value.int .i64) (by unfold doI; simp only [hcom]; rfl), by rw [← hBd]; exact hB1⟩
  refine EC_seq ?_
  refine EC_region ?_
  refine EL_v (x_eql rfl rfl) rfl ?_
  refine EL_v x_assign rfl ?_
  refine EL_nil ?_
  refine thenQ_normal ?_
  refine EC_if rfl rfl (fun hless => ?_) (fun hless => ?_)
  · have hl : 2 ≤ l.length := by
      have e : manyI op p = 2 := by rw [hless]; rfl
      omega
    obtain ⟨ba, oa, rfl, ha0⟩ := hl0.get (k := 0) (by omega)
    obtain ⟨_, _, e, ha1⟩ := hl0.get (k := 1) (by omega)
    cases e
    have hc : Cells [(⟨ba, oa + 0, none⟩, .int .i64 (l.getD 0 0)), (⟨ba, oa + 1, none⟩, .int .i64 (l.getD 1 0))] wa.drew := (Keep.drew wa).cells (.cons (hK1 _ _ ha0) (.cons (hK1 _ _ ha1) (.nil _)))
    refine EC_seq ?_
    refine EC_draw mixed (Cells [(⟨ba, oa + 0, none⟩, .int .i64 (l.getD 0 0)), (⟨ba, oa + 1, none⟩, .int .i64 (l.getD 1 0))]) [(0, false), (1, false), (2, false), (3, false), (4, false), (5, false), (6, false), (7, true), (8, false)] (by kernel_rfl) hc ?_
    have hbd := hB1.drew
    generalize wa.drew = Wd at hc hbd ⊢
    refine DL_v rfl (fun _ _ => x_move) ?_
    refine DL_v rfl (fun _ _ => x_index0 rfl rfl (tab_sl rfl) (by omega)) ?_
    refine DL_v rfl (fun _ hS => x_load rfl (tab_one rfl) (hS.get (by first | exact .head _ | exact .tail _ (.head _) | exact .tail _ (.tail _ (.head _)) | exact .tail _ (.tail _ (.tail _ (.head _))) | exact .tail _ (.tail _ (.tail _ (.tail _ (.head _)))) | exact .tail _ (.tail _ (.tail _ (.tail _ (.tail _ (.head _))))) | exact .tail _ (.tail _ (.tail _ (.tail _ (.tail _ (.tail _ (.head _)))))) | exact .tail _ (.tail _ (.tail _ (.tail _ (.tail _ (.tail _ (.tail _ (.head _)))))))))) ?_
    refine DL_v rfl (fun _ _ => x_move) ?_
    refine DL_v rfl (fun _ _ => x_index1 (i := 1) rfl rfl (tab_sl rfl) (by omega)) ?_
    refine DL_v rfl (fun _ hS => x_load rfl (tab_one rfl) (hS.get (by first | exact .head _ | exact .tail _ (.head _) | exact .tail _ (.tail _ (.head _)) | exact .tail _ (.tail _ (.tail _ (.head _))) | exact .tail _ (.tail _ (.tail _ (.tail _ (.head _)))) | exact .tail _ (.tail _ (.tail _ (.tail _ (.tail _ (.head _))))) | exact .tail _ (.tail _ (.tail _ (.tail _ (.tail _ (.tail _ (.head _)))))) | exact .tail _ (.tail _ (.tail _ (.tail _ (.tail _ (.tail _ (.tail _ (.head _)))))))))) ?_
    refine DL_v rfl (fun _ _ => x_lss rfl rfl) ?_
    refine DL_wc rfl (x_call Try.func65 rfl rfl rfl rfl) (one_ret _ _) ?_
    rintro _ w2 ⟨rfl, rfl⟩
    refine ⟨.inr hc, ?_⟩
    refine DL_v rfl (fun _ _ => x_assign) ?_
    refine DL_nil ?_
    refine thenQ_normal ?_
    refine EC_ret ?_
    refine blockQ_ret ?_
    refine thenQ_ret ?_
    exact post_tmp rfl rfl rfl ⟨congrArg (Value.int .i64) (by unfold doI; simp only [hless]; by_cases hd : l.getD 0 0 < l.getD 1 0 <;> simp [hd]), by rw [← hBd]; exact hbd⟩
  refine EC_seq ?_
  refine EC_region ?_
  refine EL_v (x_eql rfl rfl) rfl ?_
  refine EL_v x_assign rfl ?_
  refine EL_nil ?_
  refine thenQ_normal ?_
  refine EC_if rfl rfl (fun heq => ?_) (fun heq => ?_)
  · have hl : 2 ≤ l.length := by
      have e : manyI op p = 2 := by rw [heq]; rfl
      omega
    obtain ⟨ba, oa, rfl, ha0⟩ := hl0.get (k := 0) (by omega)
    obtain ⟨_, _, e, ha1⟩ := hl0.get (k := 1) (by omega)
    cases e
    have hc : Cells [(⟨ba, oa + 0, none⟩, .int .i64 (l.getD 0 0)), (⟨ba, oa + 1, none⟩, .int .i64 (l.getD 1 0))] wa.drew := (Keep.drew wa).cells (.cons (hK1 _ _ ha0) (.cons (hK1 _ _ ha1) (.nil _)))
    refine EC_seq ?_
    refine EC_draw mixed (Cells [(⟨ba, oa + 0, none⟩, .int .i64 (l.getD 0 0)), (⟨ba, oa + 1, none⟩, .int .i64 (l.getD 1 0))]) [(0, false), (1, false), (2, false), (3, false), (4, false), (5, false), (6, false), (7, true), (8, false)] (by kernel_rfl) hc ?_
    have hbd := hB1.drew
    generalize wa.drew = Wd at hc hbd ⊢
    refine DL_v rfl (fun _ _ => x_move) ?_
    refine DL_v rfl (fun _ _ => x_index0 rfl rfl (tab_sl rfl) (by omega)) ?_
    refine DL_v rfl (fun _ hS => x_load rfl (tab_one rfl) (hS.get (by first | exact .head _ | exact .tail _ (.head _) | exact .tail _ (.tail _ (.head _)) | exact .tail _ (.tail _ (.tail _ (.head _))) | exact .tail _ (.tail _ (.tail _ (.tail _ (.head _)))) | exact .tail _ (.tail _ (.tail _ (.tail _ (.tail _ (.head _))))) | exact .tail _ (.tail _ (.tail _ (.tail _ (.tail _ (.tail _ (.head _)))))) | exact .tail _ (.tail _ (.tail _ (.tail _ (.tail _ (.tail _ (.tail _ (.head _)))))))))) ?_
    refine DL_v rfl (fun _ _ => x_move) ?_
    refine DL_v rfl (fun _ _ => x_index1 (i := 1) rfl rfl (tab_sl rfl) (by omega)) ?_
    refine DL_v rfl (fun _ hS => x_load rfl (tab_one rfl) (hS.get (by first | exact .head _ | exact .tail _ (.head _) | exact .tail _ (.tail _ (.head _)) | exact .tail _ (.tail _ (.tail _ (.head _))) | exact .tail _ (.tail _ (.tail _ (.tail _ (.head _)))) | exact .tail _ (.tail _ (.tail _ (.tail _ (.tail _ (.head _))))) | exact .tail _ (.tail _ (.tail _ (.tail _ (.tail _ (.tail _ (.head _)))))) | exact .tail _ (.tail _ (.tail _ (.tail _ (.tail _ (.tail _ (.tail _ (.head _)))))))))) ?_
    refine DL_v rfl (fun _ _ => x_eql rfl rfl) ?_
    refine DL_wc rfl (x_call Try.func65 rfl rfl rfl rfl) (one_ret _ _) ?_
    rintro _ w2 ⟨rfl, rfl⟩
    refine ⟨.inr hc, ?_⟩
    refine DL_v rfl (fun _ _ => x_assign) ?_
    refine DL_nil ?_
    refine thenQ_normal ?_
    refine EC_ret ?_
    refine blockQ_ret ?_
    refine thenQ_ret ?_
    exact post_tmp rfl rfl rfl ⟨congrArg (Value.int .i64) (by unfold doI; simp only [heq]; by_cases hd : l.getD 0 0 = l.getD 1 0 <;> simp [hd]), by rw [← hBd]; exact hbd⟩
  refine EC_seq ?_
  refine EC_region ?_
  refine EL_v (x_eql rfl rfl) rfl ?_
  refine EL_v x_assign rfl ?_
  refine EL_nil ?_
  refine thenQ_normal ?_
  refine EC_if rfl rfl (fun hneq => ?_) (fun hneq => ?_)
  · have hl : 2 ≤ l.length := by
      have e : manyI op p = 2 := by rw [hneq]; rfl
      omega
    obtain ⟨ba, oa, rfl, ha0⟩ := hl0.get (k := 0) (by omega)
    obtain ⟨_, _, e, ha1⟩ := hl0.get (k := 1) (by omega)
    cases e
    have hc : Cells [(⟨ba, oa + 0, none⟩, .int .i64 (l.getD 0 0)), (⟨ba, oa + 1, none⟩, .int .i64 (l.getD 1 0))] wa.drew := (Keep.drew wa).cells (.cons (hK1 _ _ ha0) (.cons (hK1 _ _ ha1) (.nil _)))
    refine EC_seq ?_
    refine EC_draw mixed (Cells [(⟨ba, oa + 0, none⟩, .int .i64 (l.getD 0 0)), (⟨ba, oa + 1, none⟩, .int .i64 (l.getD 1 0))]) [(0, false), (1, false), (2, false), (3, false), (4, false), (5, false), (6, false), (7, true), (8, false)] (by kernel_rfl) hc ?_
    have hbd := hB1.drew
    generalize wa.drew = Wd at hc hbd ⊢
    refine DL_v rfl (fun _ _ => x_move) ?_
    refine DL_v rfl (fun _ _ => x_index0 rfl rfl (tab_sl rfl) (by omega)) ?_
    refine DL_v rfl (fun _ hS => x_load rfl (tab_one rfl) (hS.get (by first | exact .head _ | exact .tail _ (.head _) | exact .tail _ (.tail _ (.head _)) | exact .tail _ (.tail _ (.tail _ (.head _))) | exact .tail _ (.tail _ (.tail _ (.tail _ (.head _)))) | exact .tail _ (.tail _ (.tail _ (.tail _ (.tail _ (.head _))))) | exact .tail _ (.tail _ (.tail _ (.tail _ (.tail _ (.tail _ (.head _)))))) | exact .tail _ (.tail _ (.tail _ (.tail _ (.tail _ (.tail _ (.tail _ (.head _)))))))))) ?_
    refine DL_v rfl (fun _ _ => x_move) ?_
    refine DL_v rfl (fun _ _ => x_index1 (i := 1) rfl rfl (tab_sl rfl) (by omega)) ?_
    refine DL_v rfl (fun _ hS => x_load rfl (tab_one rfl) (hS.get (by first | exact .head _ | exact .tail _ (.head _) | exact .tail _ (.tail _ (.head _)) | exact .tail _ (.tail _ (.tail _ (.head _))) | exact .tail _ (.tail _ (.tail _ (.tail _ (.head _)))) | exact .tail _ (.tail _ (.tail _ (.tail _ (.tail _ (.head _))))) | exact .tail _ (.tail _ (.tail _ (.tail _ (.tail _ (.tail _ (.head _)))))) | exact .tail _ (.tail _ (.tail _ (.tail _ (.tail _ (.tail _ (.tail _ (.head _)))))))))) ?_
    refine DL_v rfl (fun _ _ => x_neq rfl rfl) ?_
    refine DL_wc rfl (x_call Try.func65 rfl rfl rfl rfl) (one_ret _ _) ?_
    rintro _ w2 ⟨rfl, rfl⟩
    refine ⟨.inr hc, ?_⟩
    refine DL_v rfl (fun _ _ => x_assign) ?_
    refine DL_nil ?_
    refine thenQ_normal ?_
    refine EC_ret ?_
    refine blockQ_ret ?_
    refine thenQ_ret ?_
    exact post_tmp rfl rfl rfl ⟨congrArg (Value.int .i64) (by unfold doI; simp only [hneq]; by_cases hd : l.getD 0 0 = l.getD 1 0 <;> simp [hd]), by rw [← hBd]; exact hbd⟩
  refine EC_seq ?_
  refine EC_region ?_
  refine EL_v (x_eql rfl rfl) rfl ?_
  refine EL_v x_assign rfl ?_
  refine EL_nil ?_
  refine thenQ_normal ?_
  refine EC_if rfl rfl (fun hsel => ?_) (fun hsel => ?_)
  · have hl : 3 ≤ l.length := by
      have e : manyI op p = 3 := by rw [hsel]; rfl
      omega
    obtain ⟨ba, oa, rfl, ha0⟩ := hl0.get (k := 0) (by omega)
    obtain ⟨_, _, e, ha1⟩ := hl0.get (k := 1) (by omega)
    cases e
    obtain ⟨_, _, e, ha2⟩ := hl0.get (k := 2) (by omega)
    cases e
    have ha0 := hK1 _ _ ha0
    have ha1 := hK1 _ _ ha1
    have ha2 := hK1 _ _ ha2
    refine EC_seq ?_
    refine EC_seq ?_
    refine EC_region ?_
    refine EL_v x_move rfl ?_
    refine EL_v (x_index1 (i := 2) rfl rfl (tab_sl rfl) (by omega)) rfl ?_
    refine EL_v (x_load rfl (tab_one rfl) (by with_reducible assumption)) rfl ?_
    refine EL_v (x_neq rfl rfl) rfl ?_
    refine EL_nil ?_
    refine thenQ_normal ?_
    refine EC_if rfl rfl (fun hnz => ?_) (fun hz => ?_)
    · refine EC_seq ?_
      refine EC_region ?_
      refine EL_v x_move rfl ?_
      refine EL_v (x_index0 rfl rfl (tab_sl rfl) (by omega)) rfl ?_
      refine EL_v (x_load rfl (tab_one rfl) (by with_reducible assumption)) rfl ?_
      refine EL_v x_assign rfl ?_
      refine EL_nil ?_
      refine thenQ_normal ?_
      refine EC_ret ?_
      refine thenQ_ret ?_
      refine blockQ_ret ?_
      refine thenQ_ret ?_
      exact post_tmp rfl rfl rfl ⟨congrArg (Value.int .i64) (by unfold doI; simp only [hsel]; exact (if_pos hnz).symm), by rw [← hBd]; exact hB1⟩
    · refine EC_skip ?_
      refine thenQ_normal ?_
      refine EC_seq ?_
      refine EC_region ?_
      refine EL_v x_move rfl ?_
      refine EL_v (x_index1 (i := 1) rfl rfl (tab_sl rfl) (by omega)) rfl ?_
      refine EL_v (x_load rfl (tab_one rfl) (by with_reducible assumption)) rfl ?_
      refine EL_v x_assign rfl ?_
      refine EL_nil ?_
      refine thenQ_normal ?_
      refine EC_ret ?_
      refine blockQ_ret ?_
      refine thenQ_ret ?_
      exact post_tmp rfl rfl rfl ⟨congrArg (Value.int .i64) (by unfold doI; simp only [hsel]; exact (if_neg hz).symm), by rw [← hBd]; exact hB1⟩
  refine EC_skip ?_
  refine blockQ_normal ?_
  refine thenQ_normal ?_
  have hcpy : op = 14 := by omega
  have hl : 1 ≤ l.length := by
    have e : manyI op p = 1 := by rw [hcpy]; rfl
    omega
  obtain ⟨ba, oa, rfl, ha0⟩ := hl0.get (k := 0) (by omega)
  have ha0 := hK1 _ _ ha0
  refine EC_seq ?_
  refine EC_region ?_
  refine EL_v x_move rfl ?_
  refine EL_v (x_index0 rfl rfl (tab_sl rfl) (by omega)) rfl ?_
  refine EL_v (x_load rfl (tab_one rfl) (by with_reducible assumption)) rfl ?_
  refine EL_v x_assign rfl ?_
  refine EL_nil ?_
  refine thenQ_normal ?_
  refine EC_ret ?_
  exact post_tmp rfl rfl rfl ⟨congrArg (Value.int .i64) (by rw [hcpy]; rfl), by rw [← hBd]; exact hB1⟩
end Go.Proofs.Yteepnepebilckaa
