/- Walks: what the layout begins with. -/
import Derived.Test.YteepnepebilckaaY1
import Derived.Scope
namespace Go.Proofs.Yteepnepebilckaa
open Go Go.Eng Go.RowKit

theorem EC_scope {P : Program} {N : Nat} {c : Code} {Q : Exit → Env → World → Prop} {e : Env} {w : World} (h : EC P N c (fun x e w => match x with | .goto _ => False | x => Q x e w) e w) : EC P N (.scope c) Q e w := by
  intro Qx a hr hq
  refine wp_scope_straight (h _ a hr fun x e' a' w' hr' hx => ?_)
  cases x <;> first | exact hq _ _ _ _ hr' hx | exact hx.elim

theorem i86 : ((Try.prog.info? 86).map (·.size)) = some 0 := by kernel_rfl
theorem c90 : Try.prog.cellsOf 90 = 6 := by kernel_rfl
theorem b900 : byteOfCell Try.prog Try.prog.depth 90 0 = some 0 := by kernel_rfl
theorem b902 : byteOfCell Try.prog Try.prog.depth 90 2 = some 32 := by kernel_rfl
theorem byteOf_run {w : World} {b o n : Nat} {cs : Array Value} (hb : w.heap[b]? = some (.cells cs 90 (0, 0))) (ho : o < 6) (hn : byteOfCell Try.prog Try.prog.depth 90 o = some n) :
    (byteOf ⟨b, o, none⟩).run Try.prog w = .ok n w := by
  have hsh : w.shape? b = some (90, cs.size) := by simp [World.shape?, hb]
  have ho2 : o % 6 = o := Nat.mod_eq_of_lt ho
  have ho3 : o / 6 = 0 := Nat.div_eq_of_lt ho
  simp [byteOf, program, Sem.run_bind, noView, viewAt, shape, Sem.run, hsh, c90, ho2, ho3, hn]
section
variable {w : World} {ρ : Operand → Value} {d : Option Tmp} {ty : TypeId} {pos : String} {af : Array Edge} {g : Option (Nat × Bool)} {x : Operand}
theorem x_cache {b : Nat} {cs : Array Value} (hx : ρ x = .pointer (some ⟨b, 0, none⟩)) (hb : w.heap[b]? = some (.cells cs 90 (0, 0))) :
    (execOp ρ ⟨d, .fieldAddr 90 x 2, ty, pos, af, g⟩).run Try.prog w = .ok (.value (.pointer (some ⟨b, 2, none⟩))) w := by
  obtain ⟨i, hi, hz⟩ := Option.map_eq_some_iff.1 i86
  have h0 := byteOf_run (o := 0) hb (by decide) b900
  have h2 := byteOf_run (o := 2) hb (by decide) b902
  have hp : (partAt ⟨b, 0, none⟩ 2 32).run Try.prog w = .ok ⟨b, 2, none⟩ w := by
    unfold partAt
    simp [Sem.run_bind, h0, h2]
  simp [execOp, hx, Instr.fieldAt, run_underlying Try.underlying90, Instr.sureAddr, fieldPlace, Go.sizeOf, typeInfo, hi, hz, hp]
theorem x_load0 {a : Addr} (hx : ρ x = .pointer (some a)) : (execOp ρ ⟨d, .load 86 x, ty, pos, af, g⟩).run Try.prog w = .ok (.value (.agg #[])) w := by
  have key : (Instr.loadAt 86 (.pointer (some a))).run Try.prog w = .ok (.agg #[]) w := by kernel_rfl
  simp [execOp, hx, key]
theorem x_defer {P : Program} {f : FuncId} {xs : Array Operand} {ts : Array TypeId} {l : List Value} (hρ : ρ (.func f) = .func (.func f) #[] #[]) (ha : xs.toList.map ρ = l) :
    (execOp ρ ⟨none, .defer { callee := .value (.func f), args := xs, argTypes := ts }, ty, pos, af, g⟩).run P w = .ok (.defer ⟨.fn (.func f) #[], l.toArray⟩) w := by
  subst ha
  simp [execOp, resolve, Deferred.ofValue, hρ]
  cases xs
  simp
/-- make([]T, 0, n). -/
theorem x_make0 {P : Program} {t el : TypeId} {y z0 : Operand} {z : Value} {bytes n : Nat} (ht : P.underlying t = some (.slice el)) (hi : (P.info? el).map (fun i => (i.zero, i.size, i.bytes)) = some (some z, 1, bytes)) 
    (hx : ρ z0 = .int .i64 0) (hy : ρ y = .int .i64 (n : Int)) (hb : bytes * n ≤ 281474976710656) (h63 : n ≤ 9223372036854775807) :
    (execOp ρ ⟨d, .makeSlice t z0 y, ty, pos, af, g⟩).run P w = .ok (.value (.slice (some ⟨w.heap.size, 0, none⟩) 0 n)) (w.alloc (.cells (madeCells z.cells n) el)) := by
  obtain ⟨i, hi1, hi2, hi3, hi4⟩ := info_parts hi
  have := run_make w t el i z ht hi1 hi2 .i64 .i64 0 (n : Int) (by omega) (by omega) (by rw [hi4]; omega) (by omega)
  simp only [Int.toNat_natCast, hi3, Nat.mul_one, Int.toNat_zero] at this
  simp [execOp, hx, hy, this]
end

theorem idle_of {P : Program} {f : FuncId} {fn : Func} {c : Code} {l : List Value} (hf : P.funcs[f]? = some fn) (hb : fn.body = some c) (hn : (fn.name == "runtime.NumGoroutine") = false) (hl : Nat.ble l.length fn.ntmps = true)
    (h : ∀ w, EC P fn.ntmps c (bodyQ P fn fun _ w' => Below w.heap.size w w') ⟨env0 l 0, []⟩ w) : Idle P ⟨.fn (.func f) #[], l.toArray⟩ := by
  refine ⟨.func f, #[], f, l.toArray, rfl, fun w => ?_, fun u w => callsD_of_EC hf hb hl (h w)⟩
  have hn' : ¬ fn.name = "runtime.NumGoroutine" := by simpa using hn
  have hb' : ¬ fn.body = none := by rw [hb]; simp
  simp [invoke, callFunc, hf, hb', hn']
set_option maxHeartbeats 4000000
attribute [local irreducible] EC EL DL Ret thenQ blockQ loopQ bodyQ onlyN execOp Sem.run World.cell? World.frozen? World.setCell World.alloc

theorem free_idle1 (v : Value) : Idle Try.prog ⟨.fn (.func 49) #[], #[.agg #[], v]⟩ := by
  refine idle_of (l := [.agg #[], v]) Try.func49 rfl rfl rfl fun w => ?_
  refine EC_region ?_
  refine EL_v (x_box (v := .agg #[]) rfl) rfl ?_
  refine EL_nil ?_
  exact post_none rfl rfl ((Below.refl _ w).alloc (Nat.le_refl _) _)
theorem free_idle2 (v : Value) : Idle Try.prog ⟨.fn (.func 51) #[], #[.agg #[], v]⟩ := by
  refine idle_of (l := [.agg #[], v]) Try.func51 rfl rfl rfl fun w => ?_
  refine EC_region ?_
  refine EL_v (x_box (v := .agg #[]) rfl) rfl ?_
  refine EL_nil ?_
  exact post_none rfl rfl ((Below.refl _ w).alloc (Nat.le_refl _) _)
theorem free_idle3 (v : Value) : Idle Try.prog ⟨.fn (.func 53) #[], #[.agg #[], v]⟩ := by
  refine idle_of (l := [.agg #[], v]) Try.func53 rfl rfl rfl fun w => ?_
  refine EC_region ?_
  refine EL_v (x_box (v := .agg #[]) rfl) rfl ?_
  refine EL_nil ?_
  exact post_none rfl rfl ((Below.refl _ w).alloc (Nat.le_refl _) _)
theorem free_idle4 (u v : Value) : Idle Try.prog ⟨.fn (.func 55) #[], #[u, v]⟩ := by
  refine idle_of (l := [u, v]) Try.func55 rfl rfl rfl fun w => ?_
  exact EC_skip (post_none rfl rfl (Below.refl _ w))

theorem NumBlocks_ret {w : World} {B : Nat} {L : Lay} {g : Gph} (h : GRep w B L g) (hn : g.nb ≤ 9) : Ret Try.prog 47 #[L.fp] w fun v w' => v = .int .i64 ((g.nb + 1 : Nat) : Int) ∧ w' = w := by
  refine ret_of_EC Try.func47 rfl rfl ?_
  obtain ⟨a2, cap2, ha2⟩ := h.fblocksV
  have h1 : w.cell? ⟨L.fb, 0 + 1, none⟩ = some (L.sl .fblocks) := cell_block (h.comp .fn) rfl
  rw [ha2] at h1
  refine EC_seq ?_
  refine EC_region ?_
  refine EL_v x_assign rfl ?_
  refine EL_nil ?_
  refine thenQ_normal ?_
  refine EC_seq ?_
  refine EC_region ?_
  refine EL_v x_move rfl ?_
  refine EL_v (x_nil rfl) rfl ?_
  refine EL_v (x_field rfl (tab_fld rfl)) rfl ?_
  refine EL_v (x_load rfl (tab_one rfl) (by with_reducible assumption)) rfl ?_
  refine EL_v (x_len rfl (tab_sl rfl)) rfl ?_
  refine EL_v (x_inc rfl rfl (by omega)) rfl ?_
  refine EL_v x_assign rfl ?_
  refine EL_nil ?_
  refine thenQ_normal ?_
  refine EC_ret ?_
  exact post_tmp rfl rfl rfl ⟨rfl, rfl⟩
theorem allocBool_ret {w : World} {n : Nat} (hn : n ≤ 64) : Ret Try.prog 48 #[.agg #[], .int .i64 (n : Int)] w fun v w' => ∃ G, v = .slice (some ⟨G, 0, none⟩) n n ∧ w.heap.size ≤ G ∧ w'.heap[G]? = some (.cells (bools (fun _ => false) n) 4 (0, 0)) ∧ Below w.heap.size w w' := by
  refine ret_of_EC Try.func48 rfl rfl ?_
  obtain ⟨B, hBd⟩ : ∃ B, B = w.heap.size := ⟨_, rfl⟩
  refine EC_seq ?_
  refine EC_region ?_
  refine EL_v (x_box (v := .agg #[]) rfl) rfl ?_
  change EL _ _ _ _ _ _ (w.alloc (.cells #[] 86))
  have hN1 := heap_alloc_new w (.cells #[] 86)
  have hO1 : ∀ zz, zz < w.heap.size → (w.alloc (.cells #[] 86)).heap[zz]? = w.heap[zz]? := fun _ hi => Below.heap_alloc _ _ _ hi
  have hZ1 := size_alloc w (.cells #[] 86)
  have hB1 := (Below.refl B w).alloc (by omega) (.cells #[] 86)
  have hK1 := Keep.alloc w (.cells #[] 86)
  generalize w.alloc (.cells #[] 86) = wa at hN1 hO1 hZ1 hB1 hK1 ⊢
  refine EL_v x_assign rfl ?_
  refine EL_nil ?_
  refine thenQ_normal ?_
  refine EC_seq ?_
  refine EC_region ?_
  refine EL_v x_move rfl ?_
  refine EL_v (x_make Try.underlying43 info4 rfl rfl rfl (by omega) (by omega)) rfl ?_
  rw [made_false]
  have hBle : B ≤ wa.heap.size := by omega
  change EL _ _ _ _ _ _ (wa.alloc (.cells (bools (fun _ => false) n) 4))
  have hN2 := heap_alloc_new wa (.cells (bools (fun _ => false) n) 4)
  have hO2 : ∀ zz, zz < wa.heap.size → (wa.alloc (.cells (bools (fun _ => false) n) 4)).heap[zz]? = wa.heap[zz]? := fun _ hi => Below.heap_alloc _ _ _ hi
  have hZ2 := size_alloc wa (.cells (bools (fun _ => false) n) 4)
  have hB2 := (Below.refl B wa).alloc (by omega) (.cells (bools (fun _ => false) n) 4)
  have hK2 := Keep.alloc wa (.cells (bools (fun _ => false) n) 4)
  generalize wa.alloc (.cells (bools (fun _ => false) n) 4) = wb at hN2 hO2 hZ2 hB2 hK2 ⊢
  refine EL_v x_assign rfl ?_
  refine EL_nil ?_
  refine thenQ_normal ?_
  refine EC_ret ?_
  exact post_tmp rfl rfl rfl ⟨wa.heap.size, rfl, by omega, hN2, by rw [← hBd]; exact hB1.trans hB2⟩
theorem allocBlock_ret {w : World} {n : Nat} (hn : n ≤ 64) : Ret Try.prog 50 #[.agg #[], .int .i64 (n : Int)] w fun v w' => ∃ G, v = .slice (some ⟨G, 0, none⟩) n n ∧ w.heap.size ≤ G ∧ w'.heap[G]? = some (.cells (cellsOf (fun _ => .pointer none) n) 76 (0, 0)) ∧ Below w.heap.size w w' := by
  refine ret_of_EC Try.func50 rfl rfl ?_
  obtain ⟨B, hBd⟩ : ∃ B, B = w.heap.size := ⟨_, rfl⟩
  refine EC_seq ?_
  refine EC_region ?_
  refine EL_v (x_box (v := .agg #[]) rfl) rfl ?_
  change EL _ _ _ _ _ _ (w.alloc (.cells #[] 86))
  have hN1 := heap_alloc_new w (.cells #[] 86)
  have hO1 : ∀ zz, zz < w.heap.size → (w.alloc (.cells #[] 86)).heap[zz]? = w.heap[zz]? := fun _ hi => Below.heap_alloc _ _ _ hi
  have hZ1 := size_alloc w (.cells #[] 86)
  have hB1 := (Below.refl B w).alloc (by omega) (.cells #[] 86)
  have hK1 := Keep.alloc w (.cells #[] 86)
  generalize w.alloc (.cells #[] 86) = wa at hN1 hO1 hZ1 hB1 hK1 ⊢
  refine EL_v x_assign rfl ?_
  refine EL_nil ?_
  refine thenQ_normal ?_
  refine EC_seq ?_
  refine EC_region ?_
  refine EL_v x_move rfl ?_
  refine EL_v (x_make Try.underlying74 info76 rfl rfl rfl (by omega) (by omega)) rfl ?_
  rw [made_of]
  have hBle : B ≤ wa.heap.size := by omega
  change EL _ _ _ _ _ _ (wa.alloc (.cells (cellsOf (fun _ => .pointer none) n) 76))
  have hN2 := heap_alloc_new wa (.cells (cellsOf (fun _ => .pointer none) n) 76)
  have hO2 : ∀ zz, zz < wa.heap.size → (wa.alloc (.cells (cellsOf (fun _ => .pointer none) n) 76)).heap[zz]? = wa.heap[zz]? := fun _ hi => Below.heap_alloc _ _ _ hi
  have hZ2 := size_alloc wa (.cells (cellsOf (fun _ => .pointer none) n) 76)
  have hB2 := (Below.refl B wa).alloc (by omega) (.cells (cellsOf (fun _ => .pointer none) n) 76)
  have hK2 := Keep.alloc wa (.cells (cellsOf (fun _ => .pointer none) n) 76)
  generalize wa.alloc (.cells (cellsOf (fun _ => .pointer none) n) 76) = wb at hN2 hO2 hZ2 hB2 hK2 ⊢
  refine EL_v x_assign rfl ?_
  refine EL_nil ?_
  refine thenQ_normal ?_
  refine EC_ret ?_
  exact post_tmp rfl rfl rfl ⟨wa.heap.size, rfl, by omega, hN2, by rw [← hBd]; exact hB1.trans hB2⟩
theorem allocInt_ret {w : World} {n : Nat} (hn : n ≤ 64) : Ret Try.prog 52 #[.agg #[], .int .i64 (n : Int)] w fun v w' => ∃ G, v = .slice (some ⟨G, 0, none⟩) n n ∧ w.heap.size ≤ G ∧ w'.heap[G]? = some (.cells (cellsOf (fun _ => .int .i64 0) n) 3 (0, 0)) ∧ Below w.heap.size w w' := by
  refine ret_of_EC Try.func52 rfl rfl ?_
  obtain ⟨B, hBd⟩ : ∃ B, B = w.heap.size := ⟨_, rfl⟩
  refine EC_seq ?_
  refine EC_region ?_
  refine EL_v (x_box (v := .agg #[]) rfl) rfl ?_
  change EL _ _ _ _ _ _ (w.alloc (.cells #[] 86))
  have hN1 := heap_alloc_new w (.cells #[] 86)
  have hO1 : ∀ zz, zz < w.heap.size → (w.alloc (.cells #[] 86)).heap[zz]? = w.heap[zz]? := fun _ hi => Below.heap_alloc _ _ _ hi
  have hZ1 := size_alloc w (.cells #[] 86)
  have hB1 := (Below.refl B w).alloc (by omega) (.cells #[] 86)
  have hK1 := Keep.alloc w (.cells #[] 86)
  generalize w.alloc (.cells #[] 86) = wa at hN1 hO1 hZ1 hB1 hK1 ⊢
  refine EL_v x_assign rfl ?_
  refine EL_nil ?_
  refine thenQ_normal ?_
  refine EC_seq ?_
  refine EC_region ?_
  refine EL_v x_move rfl ?_
  refine EL_v (x_make Try.underlying34 info3 rfl rfl rfl (by omega) (by omega)) rfl ?_
  rw [made_of]
  have hBle : B ≤ wa.heap.size := by omega
  change EL _ _ _ _ _ _ (wa.alloc (.cells (cellsOf (fun _ => .int .i64 0) n) 3))
  have hN2 := heap_alloc_new wa (.cells (cellsOf (fun _ => .int .i64 0) n) 3)
  have hO2 : ∀ zz, zz < wa.heap.size → (wa.alloc (.cells (cellsOf (fun _ => .int .i64 0) n) 3)).heap[zz]? = wa.heap[zz]? := fun _ hi => Below.heap_alloc _ _ _ hi
  have hZ2 := size_alloc wa (.cells (cellsOf (fun _ => .int .i64 0) n) 3)
  have hB2 := (Below.refl B wa).alloc (by omega) (.cells (cellsOf (fun _ => .int .i64 0) n) 3)
  have hK2 := Keep.alloc wa (.cells (cellsOf (fun _ => .int .i64 0) n) 3)
  generalize wa.alloc (.cells (cellsOf (fun _ => .int .i64 0) n) 3) = wb at hN2 hO2 hZ2 hB2 hK2 ⊢
  refine EL_v x_assign rfl ?_
  refine EL_nil ?_
  refine thenQ_normal ?_
  refine EC_ret ?_
  exact post_tmp rfl rfl rfl ⟨wa.heap.size, rfl, by omega, hN2, by rw [← hBd]; exact hB1.trans hB2⟩
/-- A new sparse set: its struct and its row. -/
def NewSS (w0 w : World) (v : Value) (n : Nat) : Prop := ∃ s q, v = .pointer (some ⟨s, 0, none⟩) ∧ w0.heap.size ≤ s ∧ w0.heap.size ≤ q ∧ s ≠ q ∧ s < w.heap.size ∧ q < w.heap.size ∧
  w.heap[s]? = some (.cells #[nilS, .slice (some ⟨q, 0, none⟩) n n] 125 (0, 0)) ∧ w.heap[q]? = some (.cells (cellsOf (i32s fun _ => 0) n) 21 (0, 0))
theorem newSS_ret {w : World} {n : Nat} (hn : n ≤ 64) : Ret Try.prog 66 #[.int .i64 (n : Int)] w fun v w' => NewSS w w' v n ∧ Below w.heap.size w w' := by
  refine ret_of_EC Try.func66 rfl rfl ?_
  obtain ⟨B, hBd⟩ : ∃ B, B = w.heap.size := ⟨_, rfl⟩
  refine EC_seq ?_
  refine EC_region ?_
  refine EL_v x_assign rfl ?_
  refine EL_nil ?_
  refine thenQ_normal ?_
  refine EC_seq ?_
  refine EC_region ?_
  refine EL_v x_move rfl ?_
  refine EL_v (x_make Try.underlying123 info21 rfl rfl rfl (by omega) (by omega)) rfl ?_
  rw [made_of]
  change EL _ _ _ _ _ _ (w.alloc (.cells (cellsOf (fun _ => .int .i32 0) n) 21))
  have hN1 := heap_alloc_new w (.cells (cellsOf (fun _ => .int .i32 0) n) 21)
  have hO1 : ∀ zz, zz < w.heap.size → (w.alloc (.cells (cellsOf (fun _ => .int .i32 0) n) 21)).heap[zz]? = w.heap[zz]? := fun _ hi => Below.heap_alloc _ _ _ hi
  have hZ1 := size_alloc w (.cells (cellsOf (fun _ => .int .i32 0) n) 21)
  have hB1 := (Below.refl B w).alloc (by omega) (.cells (cellsOf (fun _ => .int .i32 0) n) 21)
  have hK1 := Keep.alloc w (.cells (cellsOf (fun _ => .int .i32 0) n) 21)
  generalize w.alloc (.cells (cellsOf (fun _ => .int .i32 0) n) 21) = wa at hN1 hO1 hZ1 hB1 hK1 ⊢
  have key : ∀ {W : World} {ρ : Operand → Value} {d : Option Tmp} {ty : TypeId} {pos : String} {af : Array Edge} {g : Option (Nat × Bool)} {x0 x1 : Operand} {p : Option Addr} {a b : Nat}, ρ x0 = nilS → ρ x1 = .slice p a b → (execOp ρ ⟨d, .build 125 #[(0, x0), (1, x1)], ty, pos, af, g⟩).run Try.prog W = .ok (.value (.agg #[nilS, .slice p a b])) W := by
    intro W ρ d ty pos af g x0 x1 p a b h0 h1
    have key : (Instr.build 125 #[(0, nilS), (1, Value.slice p a b)]).run Try.prog W = .ok (.agg #[nilS, .slice p a b]) W := by kernel_rfl
    simp [execOp, h0, h1, key]
  refine EL_v (key rfl rfl) rfl ?_
  refine EL_v (x_box (v := .agg #[nilS, .slice (some ⟨w.heap.size, 0, none⟩) n n]) rfl) rfl ?_
  have hBle : B ≤ wa.heap.size := by omega
  change EL _ _ _ _ _ _ (wa.alloc (.cells #[nilS, .slice (some ⟨w.heap.size, 0, none⟩) n n] 125))
  have hN2 := heap_alloc_new wa (.cells #[nilS, .slice (some ⟨w.heap.size, 0, none⟩) n n] 125)
  have hO2 : ∀ zz, zz < wa.heap.size → (wa.alloc (.cells #[nilS, .slice (some ⟨w.heap.size, 0, none⟩) n n] 125)).heap[zz]? = wa.heap[zz]? := fun _ hi => Below.heap_alloc _ _ _ hi
  have hZ2 := size_alloc wa (.cells #[nilS, .slice (some ⟨w.heap.size, 0, none⟩) n n] 125)
  have hB2 := (Below.refl B wa).alloc (by omega) (.cells #[nilS, .slice (some ⟨w.heap.size, 0, none⟩) n n] 125)
  have hK2 := Keep.alloc wa (.cells #[nilS, .slice (some ⟨w.heap.size, 0, none⟩) n n] 125)
  generalize wa.alloc (.cells #[nilS, .slice (some ⟨w.heap.size, 0, none⟩) n n] 125) = wb at hN2 hO2 hZ2 hB2 hK2 ⊢
  refine EL_v x_assign rfl ?_
  refine EL_nil ?_
  refine thenQ_normal ?_
  refine EC_ret ?_
  exact post_tmp rfl rfl rfl ⟨⟨wa.heap.size, w.heap.size, rfl, by omega, Nat.le_refl _, by omega, by omega, by omega, hN2, (hO2 _ (by omega)).trans hN1⟩, by rw [← hBd]; exact hB1.trans hB2⟩
theorem newSS2_ret {w : World} {v : Value} {n : Nat} (hn : n ≤ 64) : Ret Try.prog 54 #[v, .int .i64 (n : Int)] w fun v w' => NewSS w w' v n ∧ Below w.heap.size w w' := by
  refine ret_of_EC Try.func54 rfl rfl ?_
  refine EC_seq ?_
  refine EC_region ?_
  refine EL_v x_assign rfl ?_
  refine EL_nil ?_
  refine thenQ_normal ?_
  refine EC_seq ?_
  refine EC_region ?_
  refine EL_v x_move rfl ?_
  refine EL_c (x_call Try.func66 rfl rfl rfl rfl) rfl (newSS_ret hn) ?_
  rintro v2 w2 h2
  refine EL_v x_assign rfl ?_
  refine EL_nil ?_
  refine thenQ_normal ?_
  refine EC_ret ?_
  exact post_tmp rfl rfl rfl h2
end Go.Proofs.Yteepnepebilckaa
