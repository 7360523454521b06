/- along. -/
import Derived.Test.YteepnepebilckaaV8
import Derived.Test.YteepnepebilckaaP4
import Derived.Test.YteepnepebilckaaN1
namespace Go.Proofs.Yteepnepebilckaa
open Go Go.Eng Go.RowKit

/-- The ways to the blocks, as they lie in memory. -/
def PredV (w : World) (v : Value) (f : Fn) : Prop := ∃ G c, v = .slice (some ⟨G, 0, none⟩) f.blks.length c ∧ ∀ b, b < f.blks.length → ∃ a c, w.cell? ⟨G, 0 + b, none⟩ = some (.slice a (predsOf f b).length c) ∧ IntsC w a (nats (predsOf f b)) c
theorem PredV.keep {w w' : World} {v : Value} {f : Fn} (h : PredV w v f) (k : Keep w w') : PredV w' v f := by
  obtain ⟨G, c, hv, hr⟩ := h
  refine ⟨G, c, hv, fun b hb => ?_⟩
  obtain ⟨a, c2, h1, h2⟩ := hr b hb
  have hl : (nats (predsOf f b)).length = (predsOf f b).length := List.length_map ..
  have hi : IntsV w (.slice a (predsOf f b).length c2) (nats (predsOf f b)) := ⟨a, c2, by rw [hl], h2⟩
  obtain ⟨a', c', e, h3⟩ := hi.keep k
  injection e with e1 e2 e3
  subst e1
  subst e3
  exact ⟨a, c2, k _ _ h1, h3⟩
theorem idxOf_first {b : Nat} : ∀ {l : List Nat} {i : Nat}, i < l.length → l.getD i 0 = b → (∀ j, j < i → l.getD j 0 ≠ b) → l.idxOf b = i
  | [], i, h, _, _ => absurd h (Nat.not_lt_zero _)
  | a :: l, 0, _, h, _ => by
    have h : a = b := h
    rw [h, List.idxOf_cons_self]
  | a :: l, i + 1, hi, h, hno => by
    have h0 : a ≠ b := hno 0 (Nat.succ_pos _)
    have h1 : (a == b) = false := by simpa using h0
    rw [List.idxOf_cons, h1]
    have := idxOf_first (l := l) (i := i) (Nat.lt_of_succ_lt_succ hi) h fun j hj => hno (j + 1) (by omega)
    rw [this]; rfl
theorem count_take {l : List Int} {z : Int} {i : Nat} (hi : i < l.length) : (l.take (i + 1)).count z = (l.take i).count z + if l.getD i 0 = z then 1 else 0 := by
  rw [List.take_succ_eq_append_getElem hi, List.count_append, List.getD_eq_getElem?_getD, List.getElem?_eq_getElem hi, List.count_singleton]
  show _ + (if (l[i] == z) = true then 1 else 0) = _
  by_cases e : l[i] = z <;> simp [e]
theorem count_toNat {l : List Int} (h : ∀ s ∈ l, 0 ≤ s) {z : Int} (hz : 0 ≤ z) : (l.map Int.toNat).count z.toNat = l.count z := by
  induction l with
  | nil => rfl
  | cons a l ih =>
    have ha := h a (.head _)
    rw [List.map_cons, List.count_cons, List.count_cons, ih fun s hs => h s (.tail _ hs)]
    by_cases e : a = z
    · subst e; simp
    · have e2 : ¬ a.toNat = z.toNat := by omega
      simp [e, e2]

section
variable {P : Program} {w : World} {ρ : Operand → Value} {d : Option Tmp} {ty : TypeId} {pos : String} {af : Array Edge} {g : Option (Nat × Bool)}
/-- x[:k]. -/
theorem x_sliceTo {t el : TypeId} {x : Operand} {b o n cap k : Nat} {z : Value} {bytes : Nat} (ht : P.underlying t = some (.slice el)) (hi : (P.info? el).map (fun i => (i.zero, i.size, i.bytes)) = some (some z, 1, bytes))
    (hx : ρ x = .slice (some ⟨b, o, none⟩) n cap) {c : Operand} (hc : ρ c = .int .i64 (k : Int)) (hk : k ≤ cap) :
    (execOp ρ ⟨d, .slice t x none (some c) none, ty, pos, af, g⟩).run P w = .ok (.value (.slice (some ⟨b, o, none⟩) k cap)) w := by
  obtain ⟨i, hi1, _, hi3, _⟩ := info_parts hi
  have : (Instr.slice t (.slice (some ⟨b, o, none⟩) n cap) none (some (.int .i64 (k : Int))) none).run P w = .ok (.slice (some ⟨b, o, none⟩) k cap) w := by
    unfold Instr.slice Instr.sliceBounds Instr.sliceBound
    simp only [Sem.run_bind, run_underlying ht, Result.andThen_ok, Sem.run_pure, asIntOf]
    have h1 : (0 : Int) ≤ (k : Int) ∧ (k : Int) ≤ (cap : Int) := by omega
    simp only [if_pos h1, Sem.run_pure, Result.andThen_ok, sizeOf, typeInfo, Sem.run_bind]
    simp [hi1, hi3, Addr.add]
  simp [execOp, hx, hc, Instr.sliceAt, run_underlying ht, this]
end
set_option maxHeartbeats 4000000
attribute [local irreducible] EC EL DL Ret thenQ blockQ loopQ bodyQ onlyN execOp Sem.run World.cell? World.frozen? World.setCell World.alloc

theorem along_ret {w : World} {vp x : Value} {f : Fn} (hp : PredV w vp f) (hx : FnV w x f) (hg : GoodP f) {b k : Nat} (hb : b < f.blks.length) (hk : k < (f.b b).succs.length) :
    Ret Try.prog 44 #[vp, x, .int .i64 (b : Int), .int .i64 (k : Int)] w fun v w' => v = .int .i64 ((alongG (toG f) b k : Nat) : Int) ∧ Below w.heap.size w w' := by
  obtain ⟨G, gc, rfl, hP⟩ := hp
  obtain ⟨xv, xb, rfl, hvals, hblks⟩ := hx
  refine ret_of_EC Try.func44 rfl rfl ?_
  obtain ⟨ab, cb, rfl, hbl⟩ := hblks
  obtain ⟨B, hBd⟩ : ∃ B, B = w.heap.size := ⟨_, rfl⟩
  have hG := hg.good
  have hnb := hg.shp.nb
  -- the plain side
  obtain ⟨z, hz⟩ : ∃ z, z = (f.b b).succs.getD k 0 := ⟨_, rfl⟩
  have hsr := hg.succs b hb
  have hzr := hsr z (by rw [hz]; exact getD_memI hk)
  obtain ⟨to, hto⟩ : ∃ to : Nat, z = (to : Int) := ⟨_, (Int.toNat_of_nonneg hzr.1).symm⟩
  have hton : to < f.blks.length := by omega
  have hSk : ((toG f).succs b).getD k 0 = to := by
    have : ((toG f).succs b).getD k 0 = ((f.b b).succs.getD k 0).toNat := getD_toNat _ _
    rw [this, ← hz, hto, Int.toNat_natCast]
  have hpl : predsOf f to = (toG f).preds to := rfl
  obtain ⟨ha1, ha2⟩ := along_ok hG.toFrm (p := b) (k := k) hb (by have : ((toG f).succs b).length = (f.b b).succs.length := List.length_map ..; omega)
  rw [hSk, ← hpl] at ha1 ha2
  have hcnt : (((toG f).succs b).take k).count to = ((f.b b).succs.take k).count z := by
    have e1 : ((toG f).succs b).take k = ((f.b b).succs.take k).map Int.toNat := by
      show ((f.b b).succs.map Int.toNat).take k = _
      rw [List.map_take]
    have e2 : to = z.toNat := by omega
    rw [e1, e2]
    exact count_toNat (fun s hs => (hsr s (List.mem_of_mem_take hs)).1) hzr.1
  have hal : ∀ i, i < (predsOf f to).length → (predsOf f to).getD i 0 = b → (∀ j, j < i → (predsOf f to).getD j 0 ≠ b) → alongG (toG f) b k = i + ((f.b b).succs.take k).count z := by
    intro i hi h1 h2
    unfold alongG
    rw [hSk, hcnt, ← hpl, idxOf_first hi h1 h2]
  have hslen : (f.b b).succs.length ≤ 2 := (hg.wf.succs b hb).1
  have hplen : (predsOf f to).length ≤ 18 := by
    have := hG.plen (b := to) hton
    rw [← hpl] at this
    exact this
  clear hG hpl
  obtain ⟨bb, ob, rfl, hq⟩ := hbl.resolve_left (fun e => by rw [e] at hb; simp at hb)
  obtain ⟨s0, hcells0, ⟨sa, sc, rfl, hints⟩⟩ := hq b hb
  refine EC_seq ?_
  refine EC_region ?_
  refine EL_v (x_box (v := .agg #[xv, .slice (some ⟨bb, ob, none⟩) f.blks.length cb]) rfl) rfl ?_
  change EL _ _ _ _ _ _ (w.alloc (.cells #[xv, .slice (some ⟨bb, ob, none⟩) f.blks.length cb] 31))
  have hN1 := heap_alloc_new w (.cells #[xv, .slice (some ⟨bb, ob, none⟩) f.blks.length cb] 31)
  have hO1 : ∀ zz, zz < w.heap.size → (w.alloc (.cells #[xv, .slice (some ⟨bb, ob, none⟩) f.blks.length cb] 31)).heap[zz]? = w.heap[zz]? := fun _ hi => Below.heap_alloc _ _ _ hi
  have hZ1 := size_alloc w (.cells #[xv, .slice (some ⟨bb, ob, none⟩) f.blks.length cb] 31)
  have hB1 := (Below.refl B w).alloc (by omega) (.cells #[xv, .slice (some ⟨bb, ob, none⟩) f.blks.length cb] 31)
  have hK1 := Keep.alloc w (.cells #[xv, .slice (some ⟨bb, ob, none⟩) f.blks.length cb] 31)
  generalize w.alloc (.cells #[xv, .slice (some ⟨bb, ob, none⟩) f.blks.length cb] 31) = wa at hN1 hO1 hZ1 hB1 hK1 ⊢
  refine EL_v x_assign rfl ?_
  refine EL_nil ?_
  refine thenQ_normal ?_
  have g1 : wa.cell? ⟨w.heap.size, 0 + 1, none⟩ = some (.slice (some ⟨bb, ob, none⟩) f.blks.length cb) := cell_block hN1 rfl
  have ho : (f.blks.getD b default) = f.b b := rfl
  simp only [ho] at hcells0 hints
  have hcb : wa.cell? ⟨bb, ob + b * 4 + 2, none⟩ = some (.slice sa (f.b b).succs.length sc) := hK1 _ _ (hcells0 2 _ rfl)
  obtain ⟨bi, oi, rfl, hai⟩ := hints.get hk
  have hcap := hints.1
  have hai := hK1 _ _ hai
  refine EC_seq ?_
  refine EC_region ?_
  refine EL_v (x_field rfl (tab_fld rfl)) rfl ?_
  refine EL_v (x_load rfl (tab_one rfl) (by with_reducible assumption)) rfl ?_
  refine EL_v x_move rfl ?_
  refine EL_v (x_indexN (n := 4) rfl rfl (tab_sl rfl) hb) rfl ?_
  refine EL_v (x_field rfl (tab_fld rfl)) rfl ?_
  refine EL_v (x_load rfl (tab_one rfl) (by with_reducible assumption)) rfl ?_
  refine EL_v x_move rfl ?_
  refine EL_v (x_index1 rfl rfl (tab_sl rfl) (by omega)) rfl ?_
  refine EL_v (x_load rfl (tab_one rfl) (by with_reducible assumption)) rfl ?_
  refine EL_v x_assign rfl ?_
  refine EL_v x_assign rfl ?_
  refine EL_nil ?_
  refine thenQ_normal ?_
  rw [← hz, hto]
  refine EC_seq_cutQ (fun e w' => w' = wa ∧ At e [(0, .slice (some ⟨G, 0, none⟩) f.blks.length gc), (2, .int .i64 (b : Int)), (9, .int .i64 (to : Int)), (10, .int .i64 ((((f.b b).succs.take k).count z : Nat) : Int))]) ?_ ?_
  · refine EC_seq ?_
    refine EC_region ?_
    refine EL_v (x_field rfl (tab_fld rfl)) rfl ?_
    refine EL_v (x_load rfl (tab_one rfl) (by with_reducible assumption)) rfl ?_
    refine EL_v x_move rfl ?_
    refine EL_v (x_indexN (n := 4) rfl rfl (tab_sl rfl) hb) rfl ?_
    refine EL_v (x_field rfl (tab_fld rfl)) rfl ?_
    refine EL_v (x_load rfl (tab_one rfl) (by with_reducible assumption)) rfl ?_
    refine EL_v x_move rfl ?_
    refine EL_v (x_sliceTo (k := k) Try.underlying34 info3 rfl rfl (by omega)) rfl ?_
    refine EL_v (x_len rfl (tab_sl rfl)) rfl ?_
    refine EL_v x_move rfl ?_
    refine EL_nil ?_
    refine thenQ_normal ?_
    refine EC_block ?_
    refine EC_loop (fun n e w' => w' = wa ∧ ∃ i, i ≤ k ∧ At e [(0, .slice (some ⟨G, 0, none⟩) f.blks.length gc), (2, .int .i64 (b : Int)), (9, .int .i64 (to : Int)), (10, .int .i64 ((((f.b b).succs.take i).count z : Nat) : Int)), (31, .slice (some ⟨bi, oi, none⟩) k sc), (32, .int .i64 (k : Int)), (33, .int .i64 (i : Int))] ∧ n = k - i) k
      ⟨rfl, 0, Nat.zero_le _, at_of rfl ⟨rfl, rfl, rfl, rfl, rfl, rfl, rfl, trivial⟩, rfl⟩ ?_
    rintro n e w' ⟨rfl, i, hi, ⟨t, rfl⟩, rfl⟩
    refine EC_seq ?_
    refine EC_region ?_
    refine EL_v (x_lss rfl rfl) rfl ?_
    refine EL_nil ?_
    refine thenQ_normal ?_
    refine EC_seq ?_
    refine EC_if rfl rfl (fun hlt => ?_) (fun hge => ?_)
    · have hlt : i < k := by omega
      obtain ⟨_, _, e, haj⟩ := hints.get (k := i) (by omega)
      cases e
      have haj := hK1 _ _ haj
      have hct := count_take (l := (f.b b).succs) (z := z) (i := i) (by omega)
      have hcl : ((f.b b).succs.take i).count z ≤ 2 := by
        have h1 := List.count_le_length (a := z) (l := (f.b b).succs.take i)
        have h2 : ((f.b b).succs.take i).length ≤ (f.b b).succs.length := by rw [List.length_take]; omega
        omega
      refine EC_skip ?_
      refine thenQ_normal ?_
      refine EC_seq ?_
      refine EC_block ?_
      refine EC_seq ?_
      refine EC_region ?_
      refine EL_v (x_index1 rfl rfl (tab_sl rfl) (by omega)) rfl ?_
      refine EL_v (x_load rfl (tab_one rfl) (by with_reducible assumption)) rfl ?_
      refine EL_v x_assign rfl ?_
      refine EL_nil ?_
      refine thenQ_normal ?_
      refine EC_seq ?_
      refine EC_region ?_
      refine EL_v x_move rfl ?_
      refine EL_v x_move rfl ?_
      refine EL_v (x_eql rfl rfl) rfl ?_
      refine EL_nil ?_
      refine thenQ_normal ?_
      refine EC_if rfl rfl (fun heq => ?_) (fun hne => ?_)
      · refine EC_region ?_
        refine EL_v x_move rfl ?_
        refine EL_v (x_inc rfl rfl (by omega)) rfl ?_
        refine EL_v x_assign rfl ?_
        refine EL_nil ?_
        refine blockQ_normal ?_
        refine thenQ_normal ?_
        refine EC_region ?_
        refine EL_v (x_inc rfl rfl (by omega)) rfl ?_
        refine EL_v x_move rfl ?_
        refine EL_nil ?_
        rw [if_pos (by omega)] at hct
        exact loopQ_next (k - (i + 1)) (by omega) ⟨rfl, i + 1, by omega, at_of rfl ⟨rfl, rfl, rfl, by rw [hct]; rfl, rfl, rfl, rfl, trivial⟩, rfl⟩
      · refine EC_skip ?_
        refine blockQ_normal ?_
        refine thenQ_normal ?_
        refine EC_region ?_
        refine EL_v (x_inc rfl rfl (by omega)) rfl ?_
        refine EL_v x_move rfl ?_
        refine EL_nil ?_
        rw [if_neg (by omega)] at hct
        exact loopQ_next (k - (i + 1)) (by omega) ⟨rfl, i + 1, by omega, at_of rfl ⟨rfl, rfl, rfl, by rw [hct]; rfl, rfl, rfl, rfl, trivial⟩, rfl⟩
    · have hi : i = k := by omega
      subst hi
      refine EC_exit ?_
      refine thenQ_exit ?_
      refine loopQ_exit ?_
      refine blockQ_hit ?_
      exact orN_in ⟨rfl, at_of rfl ⟨rfl, rfl, rfl, rfl, trivial⟩⟩
  rintro e w' ⟨rfl, t, rfl⟩
  obtain ⟨pa, pc, hpc, hpi⟩ := hP to hton
  have hpc := hK1 _ _ hpc
  refine EC_seq ?_
  refine EC_seq ?_
  refine EC_region ?_
  refine EL_v x_move rfl ?_
  refine EL_v x_move rfl ?_
  refine EL_v (x_index1 rfl rfl (tab_sl rfl) (by omega)) rfl ?_
  refine EL_v (x_load rfl (tab_one rfl) (by with_reducible assumption)) rfl ?_
  refine EL_v (x_len rfl (tab_sl rfl)) rfl ?_
  refine EL_v x_move rfl ?_
  refine EL_nil ?_
  refine thenQ_normal ?_
  refine EC_block ?_
  refine EC_loop (fun n e w'' => w'' = w' ∧ ∃ i, i ≤ (predsOf f to).length ∧ (∀ j, j < i → (predsOf f to).getD j 0 ≠ b) ∧ At e [(2, .int .i64 (b : Int)), (10, .int .i64 ((((f.b b).succs.take k).count z : Nat) : Int)), (46, .slice pa (predsOf f to).length pc), (47, .int .i64 ((predsOf f to).length : Int)), (48, .int .i64 (i : Int))] ∧ n = (predsOf f to).length - i) (predsOf f to).length
    ⟨rfl, 0, Nat.zero_le _, fun j hj => absurd hj (Nat.not_lt_zero _), at_of rfl ⟨rfl, rfl, rfl, rfl, rfl, trivial⟩, rfl⟩ ?_
  rintro n e w'' ⟨rfl, i, hi, hno, ⟨t, rfl⟩, rfl⟩
  refine EC_seq ?_
  refine EC_region ?_
  refine EL_v (x_lss rfl rfl) rfl ?_
  refine EL_nil ?_
  refine thenQ_normal ?_
  refine EC_seq ?_
  refine EC_if rfl rfl (fun hlt => ?_) (fun hge => ?_)
  · have hlt : i < (predsOf f to).length := by omega
    have hpl : (nats (predsOf f to)).length = (predsOf f to).length := List.length_map ..
    obtain ⟨bp, op, rfl, hap⟩ := hpi.get (k := i) (by rw [hpl]; exact hlt)
    rw [nats_getD] at hap
    have hap := hK1 _ _ hap
    refine EC_skip ?_
    refine thenQ_normal ?_
    refine EC_seq ?_
    refine EC_block ?_
    refine EC_seq ?_
    refine EC_region ?_
    refine EL_v x_move rfl ?_
    refine EL_v (x_index1 rfl rfl (tab_sl rfl) (by omega)) rfl ?_
    refine EL_v (x_load rfl (tab_one rfl) (by with_reducible assumption)) rfl ?_
    refine EL_v x_assign rfl ?_
    refine EL_v x_assign rfl ?_
    refine EL_nil ?_
    refine thenQ_normal ?_
    refine EC_seq ?_
    refine EC_region ?_
    refine EL_v x_move rfl ?_
    refine EL_v x_move rfl ?_
    refine EL_v (x_eql rfl rfl) rfl ?_
    refine EL_nil ?_
    refine thenQ_normal ?_
    refine EC_if rfl rfl (fun heq => ?_) (fun hne => ?_)
    · have hcl : ((f.b b).succs.take k).count z ≤ 2 := by
        have h1 := List.count_le_length (a := z) (l := (f.b b).succs.take k)
        have h2 : ((f.b b).succs.take k).length ≤ (f.b b).succs.length := by rw [List.length_take]; omega
        omega
      refine EC_seq ?_
      refine EC_region ?_
      refine EL_v x_move rfl ?_
      refine EL_v x_move rfl ?_
      refine EL_v (x_add64 rfl rfl (by omega)) rfl ?_
      refine EL_v x_assign rfl ?_
      refine EL_nil ?_
      refine thenQ_normal ?_
      refine EC_ret ?_
      refine blockQ_ret ?_
      refine thenQ_ret ?_
      refine loopQ_ret ?_
      refine blockQ_ret ?_
      refine thenQ_ret ?_
      refine post_tmp rfl rfl rfl ⟨congrArg (Value.int .i64) ?_, by rw [← hBd]; exact hB1⟩
      have := hal i hlt (by omega) hno
      rw [this]
      show (i : Int) + _ = _
      omega
    · refine EC_skip ?_
      refine blockQ_normal ?_
      refine thenQ_normal ?_
      refine EC_region ?_
      refine EL_v (x_inc rfl rfl (by omega)) rfl ?_
      refine EL_v x_move rfl ?_
      refine EL_nil ?_
      refine loopQ_next ((predsOf f to).length - (i + 1)) (by omega) ⟨rfl, i + 1, by omega, fun j hj => ?_, at_of rfl ⟨rfl, rfl, rfl, rfl, rfl, trivial⟩, rfl⟩
      by_cases e : j = i
      · subst e; omega
      · exact hno j (by omega)
  · exfalso
    exact hno _ (by omega) ha2
end Go.Proofs.Yteepnepebilckaa
