/- For every input in which the opcode table reads as laid the law FnPartitionMost returns true, and its argument reads as it did, the table being tied to the text of the program. -/
import Derived.Test.YteepnepebilckaaGreatDoorCT36
namespace Go.Proofs.YteepnepebilckaaGreatDoor
open Go Go.Eng Go.RowKit
def Cw (o : Int) : Prop := o = 2 ∨ o = 4 ∨ (5 ≤ o ∧ o ≤ 7) ∨ o = 11 ∨ o = 12
instance (o : Int) : Decidable (Cw o) := inferInstanceAs (Decidable (_ ∨ _))
theorem comm_I {o : Int} (h0 : 0 ≤ o) : comm o.toNat = true ↔ Cw o := by
 obtain ⟨k, rfl⟩ : ∃ k : Nat, o = (k : Int) := ⟨_, (Int.toNat_of_nonneg h0).symm⟩
 unfold Cw comm
 simp
 omega
def AlkC (f : Fn) (c : Nat → Int) (a b : Nat) : Prop := ((f.v a).op = (f.v b).op ∧ (f.v a).aux = (f.v b).aux ∧ (f.v a).args.length = (f.v b).args.length ∧ ((f.v a).op = 13 → (f.v a).blk = (f.v b).blk)) ∧
 ∀ k, k < (f.v a).args.length → c ((f.v a).args.getD k 0).toNat = c ((f.v b).args.getD k 0).toNat
theorem Ci {w : World} {v : Value} {c : Nat → Int} {n : Nat} (h : IntsV w v ((List.range n).map c)) {k : Nat} (hk : k < n) : ∃ b o cap, v = .slice (some ⟨b, o, none⟩) n cap ∧ w.cell? ⟨b, o + k, none⟩ = some (.int .i64 (c k)) := by
 obtain ⟨a, cap, rfl, hc⟩ := h
 obtain ⟨b, o, rfl, h1⟩ := hc.get (k := k) (by simpa using hk)
 refine ⟨b, o, cap, by simp, ?_⟩
 rw [h1, List.getD_eq_getElem?_getD, List.getElem?_map, List.getElem?_range hk]; rfl
def planK : PT := .rd 0 (.rd 1 (.rd 2 (.rd 3 (.rd 4 (.rd 5 (.rd 6 (.rd 7 (.rd 8 (.rd 9 (.fork 10 (.wr false 11 (.wr false 12 (.wr false 13 .nil))) 11 (.wr false 10 (.wr false 12 (.wr false 13 .nil)))))))))))))
set_option maxHeartbeats 4000000
attribute [local irreducible] EC EL DL Ret thenQ blockQ Bf bodyQ onlyN execOp Sem.run World.cell? World.frozen? World.setCell World.alloc
theorem E9 {w : World} (o : Int) : Ret Tryz.prog 14 #[.int .i64 o] w fun v w' => v = .bool (decide (Cw o)) ∧ w' = w := by
 refine ret_of_EC Tryz.func14 rfl rfl (Ae (Ac (Ab Ah rfl (Af (Aa (Ae (Ac (Ab Ad rfl (Ab (Bi rfl rfl) rfl (Ab Ad rfl ?_))))))))))
 have yes : Cw o → Value.bool true = Value.bool (decide (Cw o)) := fun h => congrArg Value.bool (decide_eq_true h).symm
 by_cases h2 : o = 2
 ·rw [decide_eq_true h2]
  refine Az rfl rfl (Az rfl rfl (Ab (AQ rfl) rfl (Ab Ad rfl (Az rfl rfl (Az rfl rfl (Az rfl rfl (Bm rfl rfl (Bm rfl rfl (Az rfl rfl (Ab (AQ rfl) rfl (Ab Ad rfl ?_)))))))))))
  refine Az rfl rfl (Az rfl rfl (Ab (AQ rfl) rfl (Ab Ad rfl (Az rfl rfl (Az rfl rfl (Ab (AQ rfl) rfl (Ab Ah rfl (Af (Aa (AD ?_))))))))))
  exact Aw rfl rfl rfl ⟨yes (.inl h2), rfl⟩
 rw [decide_eq_false h2]
 refine Au rfl rfl Ad rfl (Au rfl rfl (Bi rfl rfl) rfl (Ab (AN rfl) rfl (Ab Ad rfl ?_)))
 by_cases h4 : o = 4
 ·rw [decide_eq_true h4]
  refine Az rfl rfl (Az rfl rfl (Az rfl rfl (Bm rfl rfl (Bm rfl rfl (Az rfl rfl (Ab (AQ rfl) rfl (Ab Ad rfl (Az rfl rfl (Az rfl rfl (Ab (AQ rfl) rfl (Ab Ad rfl ?_)))))))))))
  refine Az rfl rfl (Az rfl rfl (Ab (AQ rfl) rfl (Ab Ah rfl (Af (Aa (AD ?_))))))
  exact Aw rfl rfl rfl ⟨yes (.inr (.inl h4)), rfl⟩
 rw [decide_eq_false h4]
 refine Au rfl rfl Ad rfl (Au rfl rfl (CS rfl rfl) rfl (Au rfl rfl Ad rfl ?_))
 have fin : ¬ (5 ≤ o ∧ o ≤ 7) → (o = 11 → Value.bool true = Value.bool (decide (Cw o))) ∧ (o = 12 → Value.bool true = Value.bool (decide (Cw o))) ∧ (¬ o = 11 → ¬ o = 12 → Value.bool false = Value.bool (decide (Cw o))) := fun h5 =>
  ⟨fun h => yes (.inr (.inr (.inr (.inl h)))), fun h => yes (.inr (.inr (.inr (.inr h)))), fun h11 h12 => congrArg Value.bool (decide_eq_false fun h => h.elim h2 fun h => h.elim h4 fun h => h.elim h5 fun h => h.elim h11 h12).symm⟩
 by_cases h5 : 5 ≤ o
 ·rw [decide_eq_true h5]
  refine Au rfl rfl Ad rfl (Au rfl rfl (C8 rfl rfl) rfl (Au rfl rfl (AQ rfl) rfl (Ab (AN rfl) rfl (Ab Ad rfl ?_))))
  by_cases h7 : o ≤ 7
  ·rw [decide_eq_true h7]
   refine Az rfl rfl (Az rfl rfl (Ab (AQ rfl) rfl (Ab Ad rfl (Az rfl rfl (Az rfl rfl (Ab (AQ rfl) rfl (Ab Ah rfl (Af (Aa (AD ?_))))))))))
   exact Aw rfl rfl rfl ⟨yes (.inr (.inr (.inl ⟨h5, h7⟩))), rfl⟩
  rw [decide_eq_false h7]
  have fin := fin fun h => h7 h.2
  refine Au rfl rfl Ad rfl (Au rfl rfl (Bi rfl rfl) rfl (Ab (AN rfl) rfl (Ab Ad rfl ?_)))
  by_cases h11 : o = 11
  ·rw [decide_eq_true h11]
   refine Az rfl rfl (Az rfl rfl (Ab (AQ rfl) rfl (Ab Ah rfl (Af (Aa (AD ?_))))))
   exact Aw rfl rfl rfl ⟨fin.1 h11, rfl⟩
  rw [decide_eq_false h11]
  refine Au rfl rfl Ad rfl (Au rfl rfl (Bi rfl rfl) rfl (Ab (AN rfl) rfl (Ab Ah rfl (Af (Aa ?_)))))
  by_cases h12 : o = 12
  ·rw [decide_eq_true h12]
   refine AD ?_
   exact Aw rfl rfl rfl ⟨fin.2.1 h12, rfl⟩
  rw [decide_eq_false h12]
  refine AD ?_
  exact Aw rfl rfl rfl ⟨fin.2.2 h11 h12, rfl⟩
 rw [decide_eq_false h5]
 have fin := fin fun h => h5 h.1
 refine Az rfl rfl (Az rfl rfl (Au rfl rfl (AN rfl) rfl (Ab (AN rfl) rfl (Ab Ad rfl (Au rfl rfl Ad rfl (Au rfl rfl (Bi rfl rfl) rfl (Ab (AN rfl) rfl (Ab Ad rfl ?_))))))))
 by_cases h11 : o = 11
 ·rw [decide_eq_true h11]
  refine Az rfl rfl (Az rfl rfl (Ab (AQ rfl) rfl (Ab Ah rfl (Af (Aa (AD ?_))))))
  exact Aw rfl rfl rfl ⟨fin.1 h11, rfl⟩
 rw [decide_eq_false h11]
 refine Au rfl rfl Ad rfl (Au rfl rfl (Bi rfl rfl) rfl (Ab (AN rfl) rfl (Ab Ah rfl (Af (Aa ?_)))))
 by_cases h12 : o = 12
 ·rw [decide_eq_true h12]
  refine AD ?_
  exact Aw rfl rfl rfl ⟨fin.2.1 h12, rfl⟩
 rw [decide_eq_false h12]
 refine AD ?_
 exact Aw rfl rfl rfl ⟨fin.2.2 h11 h12, rfl⟩
theorem alike_ret {w : World} {x vc : Value} {f : Fn} {c : Nat → Int} {a b : Nat} (hx : FnV w x f) (hc : IntsV w vc ((List.range f.vals.length).map c)) (ha : a < f.vals.length) (hb : b < f.vals.length) (har : ∀ i, i < f.vals.length → (f.v i).args.length ≤ 100 ∧ ∀ z ∈ (f.v i).args, 0 ≤ z ∧ z < f.vals.length) :
 Ret Tryz.prog 30 #[x, vc, .int .i64 (a : Int), .int .i64 (b : Int)] w fun v w' => ∃ r, v = .bool r ∧ (r = true ↔ AlkC f c a b) ∧ Below w.heap.size w w' := by
 obtain ⟨xv, xb, rfl, hvals, hblks⟩ := hx
 obtain ⟨av, cv, rfl, hvl⟩ := hvals
 refine ret_of_EC Tryz.func30 rfl rfl ?_
 obtain ⟨B, hBd⟩ : ∃ B, B = w.heap.size := ⟨_, rfl⟩
 refine Ae (Ac (Ab (Bu (v := .agg #[.slice av f.vals.length cv, xb]) rfl) rfl (el_new (.cells #[.slice av f.vals.length cv, xb] 30) B (by omega) fun wa hN1 hO1 hZ1 hB1 hK1 => ?_)))
 obtain ⟨b1, hb1⟩ : ∃ b1, b1 = w.heap.size := ⟨_, rfl⟩
 rw [← hb1] at hN1 ⊢
 refine Ab Ah rfl (Af (Aa ?_))
 have hbw : Below b1 w wa := by rw [hb1, ← hBd]; exact hB1
 have hfv : ∀ k, k < f.vals.length → ∃ bb ob, av = some ⟨bb, ob, none⟩ ∧ Quad wa bb (ob + k * 4) (f.v k).op (f.v k).blk (f.v k).args (f.v k).aux := fun k hk => by
  obtain ⟨bb, ob, e, hq⟩ := hvl.resolve_left (fun e => by rw [e] at hk; simp at hk)
  exact ⟨bb, ob, e, (hq k hk).keep hK1⟩
 obtain ⟨bb, ob, rfl, ⟨s1, hcella, ⟨sa, sac, rfl, hia⟩⟩⟩ := hfv a ha
 obtain ⟨_, _, e, ⟨s2, hcellb, ⟨sb, sbc, rfl, hib⟩⟩⟩ := hfv b hb
 cases e
 have g1 : wa.cell? ⟨b1, 0 + 0, none⟩ = some (.slice (some ⟨bb, ob, none⟩) f.vals.length cv) := Am hN1 rfl
 obtain ⟨S0, hS0⟩ : ∃ S0, S0 = wa.heap.size := ⟨_, rfl⟩
 have hsz1 := hbw.size
 have hS0b : b1 < S0 := by rw [hS0]; exact A9 hN1
 have hKd : ∀ W, Below S0 wa W → Keep wa W := fun W hb => Keep.of_below hb (by omega)
 have hd0 : Below S0 wa wa.drew := (Below.refl _ _).drew
 refine AX (fun e W => ∃ X Y, S0 ≤ X ∧ S0 ≤ Y ∧ X ≠ Y ∧ Below S0 wa W ∧ W.heap[X]? = some (.cells #[.int .i64 (f.v a).op, .int .i64 (f.v a).blk, .slice sa (f.v a).args.length sac, .int .i64 (f.v a).aux] 39 (0, 0)) ∧
  W.heap[Y]? = some (.cells #[.int .i64 (f.v b).op, .int .i64 (f.v b).blk, .slice sb (f.v b).args.length sbc, .int .i64 (f.v b).aux] 39 (0, 0)) ∧ At e [(1, vc), (9, .pointer (some ⟨X, 0, none⟩)), (10, .pointer (some ⟨Y, 0, none⟩))]) ?_ ?_
 ·refine Dp mixed (fun W => Below S0 wa W) planK (by kernel_rfl) hd0 ?_
  generalize wa.drew = W0 at hd0 ⊢
  refine Bv rfl (fun _ _ => Ak rfl (Al rfl)) (Bv rfl (fun W hS => Ai rfl (Ag rfl) (hKd W hS _ _ g1)) (Bv rfl (fun _ _ => Ad) (Bv rfl (fun _ _ => A3 (n := 4) rfl rfl (An rfl) ha) (Bv rfl (fun W hS => A5 rfl (A0 rfl) (hcella.keep (hKd W hS))) (Bv rfl (fun _ _ => Ak rfl (Al rfl)) (Bv rfl (fun W hS => Ai rfl (Ag rfl) (hKd W hS _ _ g1)) (Bv rfl (fun _ _ => Ad) (Bv rfl (fun _ _ => A3 (n := 4) rfl rfl (An rfl) hb) (Bv rfl (fun W hS => A5 rfl (A0 rfl) (hcellb.keep (hKd W hS))) ?_)))))))))
  have hz0 := hd0.size
  have key : ∀ (W : World) (p q : Nat) (ca cb : Array Value), Below S0 wa W → S0 ≤ p → S0 ≤ q → p ≠ q → ca.size = 4 → cb.size = 4 → W.heap[p]? = some (.cells ca 39 (0, 0)) → W.heap[q]? = some (.cells cb 39 (0, 0)) →
   ∃ W2, W2 = (W.setRow p #[.int .i64 (f.v a).op, .int .i64 (f.v a).blk, .slice sa (f.v a).args.length sac, .int .i64 (f.v a).aux]).setRow q #[.int .i64 (f.v b).op, .int .i64 (f.v b).blk, .slice sb (f.v b).args.length sbc, .int .i64 (f.v b).aux] ∧ Below S0 wa W2 ∧
     Below S0 wa (W.setRow p #[.int .i64 (f.v a).op, .int .i64 (f.v a).blk, .slice sa (f.v a).args.length sac, .int .i64 (f.v a).aux]) ∧
     (W.setRow p #[.int .i64 (f.v a).op, .int .i64 (f.v a).blk, .slice sa (f.v a).args.length sac, .int .i64 (f.v a).aux]).heap[q]? = some (.cells cb 39 (0, 0)) ∧
     W2.heap[p]? = some (.cells #[.int .i64 (f.v a).op, .int .i64 (f.v a).blk, .slice sa (f.v a).args.length sac, .int .i64 (f.v a).aux] 39 (0, 0)) ∧
     W2.heap[q]? = some (.cells #[.int .i64 (f.v b).op, .int .i64 (f.v b).blk, .slice sb (f.v b).args.length sbc, .int .i64 (f.v b).aux] 39 (0, 0)) := by
   intro W p q ca cb hW hp hq hpq h4 h4' hca hcb
   have e1 := (setRow_other W p q #[.int .i64 (f.v a).op, .int .i64 (f.v a).blk, .slice sa (f.v a).args.length sac, .int .i64 (f.v a).aux] (fun e => hpq e.symm)).trans hcb
   have e2 := setRow_heap W p _ #[.int .i64 (f.v a).op, .int .i64 (f.v a).blk, .slice sa (f.v a).args.length sac, .int .i64 (f.v a).aux] _ _ hca
   refine ⟨_, rfl, below_setRow' (below_setRow' hW hp _) hq _, below_setRow' hW hp _, e1, (setRow_other _ _ _ _ hpq).trans e2, setRow_heap _ _ _ _ _ _ e1⟩
  have hSW : S0 ≤ W0.heap.size := by omega
  have a1 := heap_alloc_new W0 (.cells #[.int .i64 0, .int .i64 0, nilS, .int .i64 0] 39)
  have a2 := Bx W0 (.cells #[.int .i64 0, .int .i64 0, nilS, .int .i64 0] 39)
  have a3 := hd0.alloc hSW (.cells #[.int .i64 0, .int .i64 0, nilS, .int .i64 0] 39)
  have hW1 : ∀ z, z < W0.heap.size → (W0.alloc (.cells #[.int .i64 0, .int .i64 0, nilS, .int .i64 0] 39)).heap[z]? = W0.heap[z]? := fun _ hi => Below.heap_alloc _ _ _ hi
  generalize hWe : W0.alloc (.cells #[.int .i64 0, .int .i64 0, nilS, .int .i64 0] 39) = W1 at a1 a2 a3 hW1
  have c1 := heap_alloc_new W1 (.cells #[.int .i64 0, .int .i64 0, nilS, .int .i64 0] 39)
  have c3 := a3.alloc (by omega) (.cells #[.int .i64 0, .int .i64 0, nilS, .int .i64 0] 39)
  have c4 : (W1.alloc (.cells #[.int .i64 0, .int .i64 0, nilS, .int .i64 0] 39)).heap[W0.heap.size]? = some (.cells #[.int .i64 0, .int .i64 0, nilS, .int .i64 0] 39 (0, 0)) := (Below.heap_alloc _ _ _ (by omega)).trans a1
  generalize hWe2 : W1.alloc (.cells #[.int .i64 0, .int .i64 0, nilS, .int .i64 0] 39) = W2 at c1 c3 c4
  obtain ⟨p, hp⟩ : ∃ p, p = W0.heap.size := ⟨_, rfl⟩
  obtain ⟨q, hq⟩ : ∃ q, q = W1.heap.size := ⟨_, rfl⟩
  rw [← hp] at c4
  rw [← hq] at c1
  refine De ?_ ?_
  ·obtain ⟨W4, h40, h41, h42, h43, h44, h45⟩ := key W2 p q _ _ c3 (by omega) (by omega) (by omega) rfl rfl c4 c1
   refine CG rfl (Bb Cm) ?_
   rw [hWe, ← hp]
   refine ⟨.inr a3, ?_⟩
   refine CG rfl (Bb Cm) ?_
   rw [hWe2, ← hq]
   refine ⟨.inr c3, ?_⟩
   refine Cv rfl (CA rfl rfl c4 (Bc rfl) rfl rfl) ?_
   refine ⟨.inr h42, ?_⟩
   refine Cv rfl (CA rfl rfl h43 (Bc rfl) rfl rfl) ?_
   rw [← h40]
   refine ⟨.inr h41, ?_⟩
   refine CE ?_
   exact AU ⟨p, q, by omega, by omega, by omega, h41, h44, h45, Ar rfl ⟨rfl, rfl, rfl, trivial⟩⟩
  obtain ⟨W4, h40, h41, h42, h43, h44, h45⟩ := key W2 q p _ _ c3 (by omega) (by omega) (by omega) rfl rfl c1 c4
  refine CG rfl (Bb Cm) ?_
  rw [hWe, ← hp]
  refine ⟨.inr a3, ?_⟩
  refine CG rfl (Bb Cm) ?_
  rw [hWe2, ← hq]
  refine ⟨.inr c3, ?_⟩
  refine Cv rfl (CA rfl rfl c1 (Bc rfl) rfl rfl) ?_
  refine ⟨.inr h42, ?_⟩
  refine Cv rfl (CA rfl rfl h43 (Bc rfl) rfl rfl) ?_
  rw [← h40]
  refine ⟨.inr h41, ?_⟩
  refine CE ?_
  exact AU ⟨q, p, by omega, by omega, by omega, h41, h44, h45, Ar rfl ⟨rfl, rfl, rfl, trivial⟩⟩
 rintro e W ⟨X, Y, hX, hY, hXY, hbW, hcX, hcY, ⟨t, rfl⟩⟩
 have x0 : W.cell? ⟨X, 0 + 0, none⟩ = some (.int .i64 (f.v a).op) := Am hcX rfl
 have x1 : W.cell? ⟨X, 0 + 1, none⟩ = some (.int .i64 (f.v a).blk) := Am hcX rfl
 have x2 : W.cell? ⟨X, 0 + 2, none⟩ = some (.slice sa (f.v a).args.length sac) := Am hcX rfl
 have x3 : W.cell? ⟨X, 0 + 3, none⟩ = some (.int .i64 (f.v a).aux) := Am hcX rfl
 have y0 : W.cell? ⟨Y, 0 + 0, none⟩ = some (.int .i64 (f.v b).op) := Am hcY rfl
 have y1 : W.cell? ⟨Y, 0 + 1, none⟩ = some (.int .i64 (f.v b).blk) := Am hcY rfl
 have y2 : W.cell? ⟨Y, 0 + 2, none⟩ = some (.slice sb (f.v b).args.length sbc) := Am hcY rfl
 have y3 : W.cell? ⟨Y, 0 + 3, none⟩ = some (.int .i64 (f.v b).aux) := Am hcY rfl
 have hbG : Below b1 w W := hbw.trans (hbW.mono (by omega))
 have hbF : Below w.heap.size w W := by rw [← hb1]; exact hbG
 refine BV (fun e W' => W' = W ∧ ((f.v a).op = (f.v b).op ∧ (f.v a).aux = (f.v b).aux ∧ (f.v a).args.length = (f.v b).args.length ∧ ((f.v a).op = 13 → (f.v a).blk = (f.v b).blk)) ∧ At e [(1, vc), (9, .pointer (some ⟨X, 0, none⟩)), (10, .pointer (some ⟨Y, 0, none⟩))]) ?_ ?_
 ·refine Ae (Ac (Ab (Ak rfl (Al rfl)) rfl (Ab (Ai rfl (Ag rfl) ‹_›) rfl ?_)))
  refine Ab (Ak rfl (Al rfl)) rfl (Ab (Ai rfl (Ag rfl) ‹_›) rfl ?_)
  refine Ab (Br rfl rfl) rfl (Ab Ad rfl ?_)
  by_cases h1 : (f.v a).op = (f.v b).op
  rotate_left
  ·rw [decide_eq_true h1]
   refine Az rfl rfl (Az rfl rfl (Az rfl rfl (Az rfl rfl (Az rfl rfl (Ab (AQ rfl) rfl (Ab Ad rfl (Az rfl rfl (Az rfl rfl (Az rfl rfl (Az rfl rfl (Az rfl rfl ?_)))))))))))
   refine Az rfl rfl (Az rfl rfl (Ab (AQ rfl) rfl (Ab Ad rfl (Az rfl rfl (Az rfl rfl (Az rfl rfl (Az rfl rfl (Bm rfl rfl (Bm rfl rfl (Bm rfl rfl (Bm rfl rfl ?_)))))))))))
   refine Bm rfl rfl (Az rfl rfl (Ab (AQ rfl) rfl (Af (Aa (Ba rfl rfl (Ae (Ac (Ab Ah rfl (Af (Aa (AD ?_)))))))))))
   refine BO ?_
   exact Aw rfl rfl rfl ⟨false, rfl, ⟨(fun h => by cases h), fun h => absurd h (fun h => h1 h.1.1)⟩, hbG⟩
  rw [decide_eq_false (not_not_intro h1)]
  refine Au rfl rfl (Ak rfl (Al rfl)) rfl (Au rfl rfl (Ai rfl (Ag rfl) ‹_›) rfl ?_)
  refine Au rfl rfl (Ak rfl (Al rfl)) rfl (Au rfl rfl (Ai rfl (Ag rfl) ‹_›) rfl ?_)
  refine Au rfl rfl (Br rfl rfl) rfl (Ab (AN rfl) rfl (Ab Ad rfl ?_))
  by_cases h2 : (f.v a).aux = (f.v b).aux
  rotate_left
  ·rw [decide_eq_true h2]
   refine Az rfl rfl (Az rfl rfl (Az rfl rfl (Az rfl rfl (Az rfl rfl (Az rfl rfl (Az rfl rfl (Ab (AQ rfl) rfl (Ab Ad rfl (Az rfl rfl (Az rfl rfl (Az rfl rfl ?_)))))))))))
   refine Az rfl rfl (Bm rfl rfl (Bm rfl rfl (Bm rfl rfl (Bm rfl rfl (Bm rfl rfl (Az rfl rfl (Ab (AQ rfl) rfl (Af (Aa (Ba rfl rfl (Ae ?_)))))))))))
   refine Ac (Ab Ah rfl (Af (Aa (AD (BO ?_)))))
   exact Aw rfl rfl rfl ⟨false, rfl, ⟨(fun h => by cases h), fun h => absurd h (fun h => h2 h.1.2.1)⟩, hbG⟩
  rw [decide_eq_false (not_not_intro h2)]
  refine Au rfl rfl (Ak rfl (Al rfl)) rfl (Au rfl rfl (Ai rfl (Ag rfl) ‹_›) rfl ?_)
  refine Au rfl rfl (AP rfl (An rfl)) rfl (Au rfl rfl (Ak rfl (Al rfl)) rfl (Au rfl rfl (Ai rfl (Ag rfl) ‹_›) rfl ?_))
  refine Au rfl rfl (AP rfl (An rfl)) rfl (Au rfl rfl (Br rfl rfl) rfl (Ab (AN rfl) rfl (Ab Ad rfl ?_)))
  by_cases h3 : ((f.v a).args.length : Int) = ((f.v b).args.length : Int)
  rotate_left
  ·rw [decide_eq_true h3]
   refine Az rfl rfl (Az rfl rfl (Az rfl rfl (Az rfl rfl (Bm rfl rfl (Bm rfl rfl (Bm rfl rfl (Bm rfl rfl (Bm rfl rfl (Az rfl rfl (Ab (AQ rfl) rfl (Af ?_)))))))))))
   refine Aa (Ba rfl rfl (Ae (Ac (Ab Ah rfl (Af (Aa (AD (BO ?_))))))))
   exact Aw rfl rfl rfl ⟨false, rfl, ⟨(fun h => by cases h), fun h => absurd h (fun h => h3 (congrArg Int.ofNat h.1.2.2.1))⟩, hbG⟩
  rw [decide_eq_false (not_not_intro h3)]
  refine Au rfl rfl (Ak rfl (Al rfl)) rfl (Au rfl rfl (Ai rfl (Ag rfl) ‹_›) rfl ?_)
  refine Au rfl rfl (Bi rfl rfl) rfl (Au rfl rfl Ad rfl ?_)
  by_cases h13 : (f.v a).op = 13
  ·rw [decide_eq_true h13]
   refine Au rfl rfl (Ak rfl (Al rfl)) rfl (Au rfl rfl (Ai rfl (Ag rfl) ‹_›) rfl ?_)
   refine Au rfl rfl (Ak rfl (Al rfl)) rfl (Au rfl rfl (Ai rfl (Ag rfl) ‹_›) rfl ?_)
   refine Au rfl rfl (Br rfl rfl) rfl (Au rfl rfl (AQ rfl) rfl (Ab (AN rfl) rfl (Af (Aa ?_))))
   by_cases h4 : (f.v a).blk = (f.v b).blk
   rotate_left
   ·rw [decide_eq_true h4]
    refine Ba rfl rfl (Ae (Ac (Ab Ah rfl (Af (Aa (AD (BO ?_)))))))
    exact Aw rfl rfl rfl ⟨false, rfl, ⟨(fun h => by cases h), fun h => absurd h (fun h => h4 (h.1.2.2.2 h13))⟩, hbG⟩
   rw [decide_eq_false (not_not_intro h4)]
   refine A6 rfl rfl (Aq ?_)
   exact Ct ⟨rfl, ⟨h1, h2, by omega, fun _ => h4⟩, Ar rfl ⟨rfl, rfl, rfl, trivial⟩⟩
  rw [decide_eq_false h13]
  refine Az rfl rfl (Az rfl rfl (Az rfl rfl (Az rfl rfl (Az rfl rfl (Au rfl rfl (AN rfl) rfl (Ab (AN rfl) rfl (Af (Aa (A6 rfl rfl (Aq ?_))))))))))
  exact Ct ⟨rfl, ⟨h1, h2, by omega, fun h => absurd h h13⟩, Ar rfl ⟨rfl, rfl, rfl, trivial⟩⟩
 rintro e W' ⟨rfl, hs, ⟨t, rfl⟩⟩
 obtain ⟨vb, vo, vcap, hvc⟩ : ∃ vb vo vcap, vc = .slice (some ⟨vb, vo, none⟩) f.vals.length vcap := by
  obtain ⟨vb, vo, vcap, h, _⟩ := Ci hc ha
  exact ⟨vb, vo, vcap, h⟩
 have hcc : ∀ i, i < f.vals.length → w.cell? ⟨vb, vo + i, none⟩ = some (.int .i64 (c i)) := fun i hi => by
  obtain ⟨b', o', cap', h, hcell⟩ := Ci hc hi
  rw [hvc] at h
  cases h
  exact hcell
 subst hvc
 have hal := (har a ha).1
 have hlab := hs.2.2.1
 refine Ae (Ae (Ac (Ab (Ak rfl (Al rfl)) rfl (Ab (Ai rfl (Ag rfl) ‹_›) rfl ?_))))
 refine Ab (AP rfl (An rfl)) rfl (Ab Ad rfl (Af (Aa (Ao ?_))))
 refine EC_loop (fun n e wr => ∃ k, k ≤ (f.v a).args.length ∧ At e [(1, .slice (some ⟨vb, vo, none⟩) f.vals.length vcap), (9, .pointer (some ⟨X, 0, none⟩)), (10, .pointer (some ⟨Y, 0, none⟩)), (57, .int .i64 ((f.v a).args.length : Int)), (58, .int .i64 (k : Int))] ∧ Below W'.heap.size W' wr ∧ (∀ j, j < k → c ((f.v a).args.getD j 0).toNat = c ((f.v b).args.getD j 0).toNat) ∧ n = (f.v a).args.length - k) (f.v a).args.length
  ⟨0, Nat.zero_le _, Ar rfl ⟨rfl, rfl, rfl, rfl, rfl, trivial⟩, Below.refl _ _, fun j hj => absurd hj (Nat.not_lt_zero _), rfl⟩ ?_
 rintro n e wr ⟨k, hk, ⟨t, rfl⟩, hbr, heq, rfl⟩
 refine Ae (Ac (Ab (AW rfl rfl) rfl (Af (Aa (Ae ?_)))))
 refine AG rfl rfl (fun hlt => ?_) (fun hge => ?_)
 rotate_left
 ·have hk : k = (f.v a).args.length := by omega
  subst hk
  refine AI (AB (AC (AA (Aa (Ae (Ac (Ab Ah rfl (Af (Aa (AD ?_))))))))))
  exact Aw rfl rfl rfl ⟨true, rfl, ⟨fun _ => ⟨hs, heq⟩, fun _ => rfl⟩, hbG.trans (hbr.mono (by have := hbF.size; omega))⟩
 have hlt : k < (f.v a).args.length := by omega
 refine Aq (Aa ?_)
 obtain ⟨b2, o2, rfl, ha2⟩ := hia.get (k := k) hlt
 obtain ⟨b3, o3, rfl, hb3⟩ := hib.get (k := k) (by omega)
 obtain ⟨i, hi⟩ : ∃ i, i = ((f.v a).args.getD k 0).toNat := ⟨_, rfl⟩
 obtain ⟨j, hj⟩ : ∃ j, j = ((f.v b).args.getD k 0).toNat := ⟨_, rfl⟩
 have hi2 := (har a ha).2 _ (BG hlt)
 have hj2 := (har b hb).2 _ (BG (show k < (f.v b).args.length by omega))
 have hKr : Keep W' wr.drew := (Keep.of_below hbr (Nat.le_refl _)).trans (Keep.drew wr)
 have hKw : Keep w wr.drew := (Keep.of_below hbF (Nat.le_refl _)).trans hKr
 have hKa : Keep wa wr.drew := (Keep.of_below hbW (by omega)).trans hKr
 have f1 := hKr _ _ x2
 have f2 := hKr _ _ y2
 have f3 := hKa _ _ ha2
 have f4 := hKa _ _ hb3
 have f5 := hKw _ _ (hcc i (by omega))
 have f6 := hKw _ _ (hcc j (by omega))
 refine Ae (Ao (Ae (Ac (Ab Ad rfl (Ab Ah rfl (Af (Aa (Ae (AZ mixed (fun w' => w' = wr.drew) [(0, false), (1, false), (2, false), (3, false), (4, false), (5, false), (6, false), (7, false), (8, false), (9, false), (10, false), (11, false), (12, false), (13, false), (14, false), (15, false), (16, false)] (by kernel_rfl) rfl ?_)))))))))
 have hbr2 : Below W'.heap.size W' wr.drew := hbr.drew
 generalize wr.drew = Wd at *
 refine Aj rfl (fun _ _ => Ad) (Aj rfl (fun _ _ => Ak rfl (Al rfl)) (Aj rfl (fun _ hS => Ai rfl (Ag rfl) (by cases hS; exact f1)) ?_))
 refine Aj rfl (fun _ _ => Ad) (Aj rfl (fun _ _ => x_index1 rfl rfl (An rfl) hlt) (Aj rfl (fun _ hS => Ai rfl (Ag rfl) (by cases hS; exact f3)) ?_))
 refine Aj rfl (fun _ _ => A4 (i := i) rfl rfl (by omega) (An rfl) (by omega)) (Aj rfl (fun _ hS => Ai rfl (Ag rfl) (by cases hS; exact f5)) ?_)
 refine Aj rfl (fun _ _ => Ad) (Aj rfl (fun _ _ => Ak rfl (Al rfl)) (Aj rfl (fun _ hS => Ai rfl (Ag rfl) (by cases hS; exact f2)) ?_))
 refine Aj rfl (fun _ _ => Ad) (Aj rfl (fun _ _ => x_index1 rfl rfl (An rfl) (by omega)) (Aj rfl (fun _ hS => Ai rfl (Ag rfl) (by cases hS; exact f4)) ?_))
 refine Aj rfl (fun _ _ => A4 (i := j) rfl rfl (by omega) (An rfl) (by omega)) (Aj rfl (fun _ hS => Ai rfl (Ag rfl) (by cases hS; exact f6)) ?_)
 refine Aj rfl (fun _ _ => Br rfl rfl) (AR (Aa ?_))
 refine AG rfl rfl (fun hne => ?_) (fun he => ?_)
 ·refine Ae (Ac (Ab Ah rfl (Af (Aa (AD (AO (AJ (Bp (AO (AJ ?_))))))))))
  exact Aw rfl rfl rfl ⟨false, rfl, ⟨(fun h => by cases h), fun h => absurd (h.2 k hlt) (by rw [← hi, ← hj]; exact hne)⟩, hbG.trans (hbr2.mono (by have := hbF.size; omega))⟩
 refine Aq (Ap (Aa (Ac (Ab (x_inc rfl rfl (by omega)) rfl (Ab Ad rfl (Af ?_))))))
 refine Av ((f.v a).args.length - (k + 1)) (by omega) ⟨k + 1, by omega, Ar rfl ⟨rfl, rfl, rfl, rfl, rfl, trivial⟩, hbr2, fun q hq => ?_, rfl⟩
 by_cases e : q = k
 ·subst e; rw [← hi, ← hj]; exact Classical.byContradiction he
 exact heq q (by omega)
end Go.Proofs.YteepnepebilckaaGreatDoor
