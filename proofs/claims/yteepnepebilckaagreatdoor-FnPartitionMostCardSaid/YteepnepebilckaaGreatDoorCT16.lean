/- For every input in which the opcode table reads as laid the law FnPartitionMost returns true, and its argument reads as it did, the table being tied to the text of the program. -/
import Derived.Test.YteepnepebilckaaGreatDoorCT15
namespace Go.Proofs.YteepnepebilckaaGreatDoor
open Go Go.Eng Go.RowKit
set_option maxHeartbeats 4000000
attribute [local irreducible] EC EL DL Ret thenQ blockQ Bf bodyQ onlyN execOp Sem.run World.cell? World.frozen? World.setCell World.alloc
def Cx (k : Int) : Int := if k = 0 then 1 else if k = 1 then 2 else 0
def DA (b : Bk) : Prop := ((((b.kind < 0 ∨ 2 < b.kind) ∨ (b.succs.length : Int) ≠ Cx b.kind) ∨ b.likely < -1) ∨ 1 < b.likely) ∨ (b.kind ≠ 1 ∧ b.likely ≠ 0)
def C9 (n : Nat) (b : Bk) : Prop := (b.kind = 0 ∧ b.ctrl ≠ -1) ∨ (b.kind ≠ 0 ∧ (b.ctrl < 0 ∨ (n : Int) ≤ b.ctrl))
instance (n : Nat) (b : Bk) : Decidable (C9 n b) := inferInstanceAs (Decidable (_ ∨ _))
structure BlkOk (f : Fn) (b : Bk) : Prop where
 one : ¬ DA b
 two : ¬ C9 f.vals.length b
 succs : ∀ s ∈ b.succs, 1 ≤ s ∧ s < f.blks.length
structure ShapeP (f : Fn) : Prop where
 one : 1 ≤ f.blks.length
 nb : f.blks.length ≤ 9
 nv : f.vals.length ≤ 48
 blk : ∀ b, b < f.blks.length → BlkOk f (f.b b)
 rch : ∀ b, b < f.blks.length → Rch f (-1) b
theorem shape_ret {w : World} {x : Value} {f : Fn} (hx : FnV w x f) :
 Ret Tryz.prog 24 #[x] w fun v w' => ∃ b, v = .bool b ∧ (b = true ↔ ShapeP f) ∧ Below w.heap.size w w' := by
 obtain ⟨xv, xb, rfl, hvals, hblks⟩ := hx
 refine ret_of_EC Tryz.func24 rfl rfl ?_
 have hx0 : FnV w (.agg #[xv, xb]) f := ⟨xv, xb, rfl, hvals, hblks⟩
 obtain ⟨ab, cb, rfl, hbl⟩ := hblks
 obtain ⟨av, cv, rfl, hvl⟩ := hvals
 obtain ⟨B, hBd⟩ : ∃ B, B = w.heap.size := ⟨_, rfl⟩
 refine Ae (Ac (Ab (Bu (v := .agg #[.slice av f.vals.length cv, .slice ab f.blks.length cb]) rfl) rfl (el_new (.cells #[.slice av f.vals.length cv, .slice ab f.blks.length cb] 30) B (by omega) fun wa hN1 hO1 hZ1 hB1 hK1 => (Ab Ah rfl (Af (Aa ?_))))))
 obtain ⟨b1, hb1⟩ : ∃ b1, b1 = w.heap.size := ⟨_, rfl⟩
 rw [← hb1] at hN1 ⊢
 have g1 : wa.cell? ⟨b1, 0 + 1, none⟩ = some (.slice ab f.blks.length cb) := Am hN1 rfl
 have g0 : wa.cell? ⟨b1, 0 + 0, none⟩ = some (.slice av f.vals.length cv) := Am hN1 rfl
 have hbw : Below b1 w wa := by rw [hb1, ← hBd]; exact hB1
 refine Ae (Ae (Ac (Ab (Ak rfl (Al rfl)) rfl (Ab (Ai rfl (Ag rfl) ‹_›) rfl ?_))))
 refine Ab (AP rfl (An rfl)) rfl (Ab (AW rfl rfl) rfl (Ab Ad rfl ?_))
 refine Cj 5 (fun e w' => w' = wa ∧ At e [(19, .bool (decide ((f.blks.length : Int) < 1 ∨ (9 : Int) < (f.blks.length : Int)))), (1, .pointer (some ⟨b1, 0, none⟩))]) ?_ ?_
 ·by_cases h1 : (f.blks.length : Int) < 1
  ·rw [decide_eq_true h1]
   refine Az rfl rfl (Az rfl rfl (Az rfl rfl (Az rfl rfl (Ab (AQ rfl) rfl (Af ?_)))))
   exact ⟨rfl, Ar rfl ⟨congrArg Value.bool (decide_eq_true (.inl h1)).symm, rfl, trivial⟩⟩
  rw [decide_eq_false h1]
  refine Au rfl rfl (Ak rfl (Al rfl)) rfl (Au rfl rfl (Ai rfl (Ag rfl) ‹_›) rfl ?_)
  refine Au rfl rfl (AP rfl (An rfl)) rfl (Au rfl rfl (BC rfl rfl) rfl (Ab (AN rfl) rfl (Af ?_)))
  by_cases h2 : (9 : Int) < (f.blks.length : Int)
  ·rw [decide_eq_true h2]
   exact ⟨rfl, Ar rfl ⟨congrArg Value.bool (decide_eq_true (.inr h2)).symm, rfl, trivial⟩⟩
  rw [decide_eq_false h2]
  exact ⟨rfl, Ar rfl ⟨congrArg Value.bool (decide_eq_false (fun h => h.elim h1 h2)).symm, rfl, trivial⟩⟩
 rintro e w' ⟨rfl, t, rfl⟩
 refine Cj 6 (fun e w'' => w'' = w' ∧ At e [(25, .bool (decide (((f.blks.length : Int) < 1 ∨ (9 : Int) < (f.blks.length : Int)) ∨ (48 : Int) < (f.vals.length : Int)))), (1, .pointer (some ⟨b1, 0, none⟩))]) ?_ ?_
 ·refine Ab Ad rfl ?_
  by_cases h1 : (f.blks.length : Int) < 1 ∨ (9 : Int) < (f.blks.length : Int)
  ·rw [decide_eq_true h1]
   refine Az rfl rfl (Az rfl rfl (Az rfl rfl (Az rfl rfl (Ab (AQ rfl) rfl (Af ?_)))))
   exact ⟨rfl, Ar rfl ⟨congrArg Value.bool (decide_eq_true (.inl h1)).symm, rfl, trivial⟩⟩
  rw [decide_eq_false h1]
  refine Au rfl rfl (Ak rfl (Al rfl)) rfl (Au rfl rfl (Ai rfl (Ag rfl) ‹_›) rfl ?_)
  refine Au rfl rfl (AP rfl (An rfl)) rfl (Au rfl rfl (BC rfl rfl) rfl (Ab (AN rfl) rfl (Af ?_)))
  by_cases h2 : (48 : Int) < (f.vals.length : Int)
  ·rw [decide_eq_true h2]
   exact ⟨rfl, Ar rfl ⟨congrArg Value.bool (decide_eq_true (.inr h2)).symm, rfl, trivial⟩⟩
  rw [decide_eq_false h2]
  exact ⟨rfl, Ar rfl ⟨congrArg Value.bool (decide_eq_false (fun h => h.elim h1 h2)).symm, rfl, trivial⟩⟩
 rintro e w'' ⟨rfl, t, rfl⟩
 refine Af (Aa ?_)
 refine AG rfl rfl (fun hbad => ?_) (fun hgood => ?_)
 ·refine Ae (Ac (Ab Ah rfl (Af (Aa (AD (AJ ?_))))))
  refine Aw rfl rfl rfl ⟨false, rfl, ⟨fun h => (by cases h), fun h => ?_⟩, hbw⟩
  have h1 := h.one
  have h2 := h.nb
  have h3 := h.nv
  omega
 refine Aq (Aa ?_)
 have hone : 1 ≤ f.blks.length := by omega
 have hnb : f.blks.length ≤ 9 := by omega
 have hnv : f.vals.length ≤ 48 := by omega
 clear hgood
 obtain ⟨SA, hSA⟩ : ∃ SA, SA = w''.heap.size := ⟨_, rfl⟩
 have hSAw : SA = w.heap.size + 1 := hSA.trans hZ1
 refine BV (fun e wr => At e [(1, .pointer (some ⟨b1, 0, none⟩))] ∧ Below SA w'' wr ∧ ∀ b, b < f.blks.length → BlkOk f (f.b b)) ?_ ?_
 ·refine Ae (Ac (Ab (Ak rfl (Al rfl)) rfl (Ab (Ai rfl (Ag rfl) ‹_›) rfl ?_)))
  refine Ab (AP rfl (An rfl)) rfl (Ab Ad rfl (Af (Aa (Ao ?_))))
  refine EC_loop (fun n e wr => ∃ k, k ≤ f.blks.length ∧ At e [(1, .pointer (some ⟨b1, 0, none⟩)), (27, .slice ab f.blks.length cb), (28, .int .i64 (f.blks.length : Int)), (29, .int .i64 (k : Int))] ∧ Below SA w'' wr ∧ (∀ b, b < k → BlkOk f (f.b b)) ∧ n = f.blks.length - k) f.blks.length
   ⟨0, Nat.zero_le _, Ar rfl ⟨rfl, rfl, rfl, rfl, trivial⟩, Below.refl _ _, fun b hb => absurd hb (Nat.not_lt_zero _), rfl⟩ ?_
  rintro n e wr ⟨k, hk, ⟨t, rfl⟩, hb, hok, rfl⟩
  refine Ae (Ac (Ab (AW rfl rfl) rfl (Af (Aa (Ae ?_)))))
  refine AG rfl rfl (fun hlt => ?_) (fun hge => ?_)
  rotate_left
  ·have hk : k = f.blks.length := by omega
   subst hk
   refine AI (AB (AC (AA ?_)))
   exact Ct ⟨Ar rfl ⟨rfl, trivial⟩, hb, hok⟩
  have hlt : k < f.blks.length := by omega
  obtain ⟨bb, ob, rfl, hq⟩ := hbl.resolve_left (fun e => by rw [e] at hlt; simp at hlt)
  obtain ⟨s0, hcells0, ⟨sa, sc, rfl, hints⟩⟩ := hq k hlt
  have hKr : Keep w wr := hK1.trans (Keep.of_below hb (by omega))
  have hcells := hcells0.keep hKr
  have hszr := hb.size
  refine Aq (Aa (Ae (Ao (Ae (Ac (Ab (A3 (n := 4) rfl rfl (An rfl) hlt) rfl (Ab (A5 rfl (A0 rfl) hcells) rfl (Ab (Bb Er) rfl (Bd (Bh rfl rfl (Bc rfl) rfl rfl) rfl (Af (Aa ?_)))))))))))
  have ho : (f.blks.getD k default) = f.b k := rfl
  simp only [ho] at hcells hints ⊢
  have hBle : B ≤ wr.heap.size := by omega
  refine ec_new (.cells #[.int .i64 (f.b k).kind, .int .i64 (f.b k).ctrl, .slice sa (f.b k).succs.length sc, .int .i64 (f.b k).likely] 54) B (by omega) fun W hN3 hO3 hZ3 hB3 hK3 => ?_
  obtain ⟨V, hV⟩ : ∃ V, V = wr.heap.size := ⟨_, rfl⟩
  rw [← hV] at hN3 ⊢
  have hbW : Below SA w'' W := hb.trans ⟨hB3.os, hB3.tape, hB3.output, hB3.size, fun j hj => hO3 j (by omega)⟩
  have key3 : ∀ {W : World} {ρ : Operand → Value} {d : Option Tmp} {ty : TypeId} {pos : String} {af : Array Edge} {g : Option (Nat × Bool)} {x0 x1 x2 : Operand}, ρ x0 = .int .i64 1 → ρ x1 = .int .i64 2 → ρ x2 = .int .i64 0 → (execOp ρ ⟨d, .buildSlice 35 3 #[(0, x0), (1, x1), (2, x2)], ty, pos, af, g⟩).run Tryz.prog W = .ok (.value (.slice (some ⟨W.heap.size, 0, none⟩) 3 3)) (W.alloc (.cells #[.int .i64 1, .int .i64 2, .int .i64 0] 3)) := by
   intro W ρ d ty pos af g x0 x1 x2 h0 h1 h2
   have key : (Instr.buildSlice 35 3 #[(0, Value.int .i64 1), (1, Value.int .i64 2), (2, Value.int .i64 0)]).run Tryz.prog W = .ok (.slice (some ⟨W.heap.size, 0, none⟩) 3 3) (W.alloc (.cells #[.int .i64 1, .int .i64 2, .int .i64 0] 3)) := by kernel_rfl
   simp [execOp, h0, h1, h2, key]
  refine Ae (Ac (Ab (key3 rfl rfl rfl) rfl ?_))
  have hBle : B ≤ W.heap.size := by omega
  refine el_new (.cells #[.int .i64 1, .int .i64 2, .int .i64 0] 3) B (by omega) fun X hN4 hO4 hZ4 hB4 hK4 => ?_
  obtain ⟨M, hM⟩ : ∃ M, M = W.heap.size := ⟨_, rfl⟩
  rw [← hM] at hN4 ⊢
  refine Ab Ah rfl (Af (Aa ?_))
  have hbX : Below SA w'' X := hbW.trans ⟨hB4.os, hB4.tape, hB4.output, hB4.size, fun j hj => hO4 j (by omega)⟩
  have hN3X : X.heap[V]? = some (.cells #[.int .i64 (f.b k).kind, .int .i64 (f.b k).ctrl, .slice sa (f.b k).succs.length sc, .int .i64 (f.b k).likely] 54 (0, 0)) := (hO4 V (by omega)).trans hN3
  obtain ⟨kk, wk, hkk, hM3, hkw⟩ : ∃ (kk : Nat) (wk : Int), kk < 3 ∧ X.cell? ⟨M, 0 + kk, none⟩ = some (.int .i64 wk) ∧ (¬ ((f.b k).kind < 0 ∨ 2 < (f.b k).kind) → (f.b k).kind = (kk : Int) ∧ wk = Cx (f.b k).kind) := by
   by_cases h0 : (f.b k).kind = 0
   ·exact ⟨0, 1, by decide, Am hN4 rfl, fun _ => ⟨h0, by rw [h0]; rfl⟩⟩
   by_cases h1 : (f.b k).kind = 1
   ·exact ⟨1, 2, by decide, Am hN4 rfl, fun _ => ⟨h1, by rw [h1]; rfl⟩⟩
   by_cases h2 : (f.b k).kind = 2
   ·exact ⟨2, 0, by decide, Am hN4 rfl, fun _ => ⟨h2, by rw [h2]; rfl⟩⟩
   exact ⟨0, 1, by decide, Am hN4 rfl, fun h => absurd h (by omega)⟩
  have hA5 : ((((((f.b k).kind < 0 ∨ 2 < (f.b k).kind) ∨ ((f.b k).succs.length : Int) ≠ wk) ∨ (f.b k).likely < -1) ∨ 1 < (f.b k).likely) ∨ ((f.b k).kind ≠ 1 ∧ (f.b k).likely ≠ 0)) ↔ DA (f.b k) := by
   unfold DA
   by_cases h : (f.b k).kind < 0 ∨ 2 < (f.b k).kind
   ·exact ⟨fun _ => .inl (.inl (.inl (.inl h))), fun _ => .inl (.inl (.inl (.inl h)))⟩
   rw [(hkw h).2]
  have hbelX : Below b1 w X.drew := hbw.trans (hbX.mono (by omega)).drew
  refine Ae (Ae ?_)
  have hc : Cells [(⟨V, 0 + 0, none⟩, .int .i64 (f.b k).kind), (⟨V, 0 + 2, none⟩, .slice sa (f.b k).succs.length sc), (⟨V, 0 + 3, none⟩, .int .i64 (f.b k).likely), (⟨M, 0 + kk, none⟩, .int .i64 wk)] X.drew := (Keep.drew X).cells (.cons (Am hN3X rfl) (.cons (Am hN3X rfl) (.cons (Am hN3X rfl) (.cons hM3 (.nil _)))))
  refine AZ mixed _ [(0, false), (1, false), (2, false), (3, false), (4, false), (5, false), (6, false), (7, false), (8, false), (9, false), (10, false), (11, false), (12, false), (13, false), (14, false), (15, false), (16, false), (17, false), (18, false), (19, false), (20, false), (21, false), (22, false), (23, false), (24, false), (25, false), (26, false), (27, false), (28, false), (29, false), (30, false), (31, false), (32, false), (33, false), (34, false), (35, false), (36, false), (37, false), (38, false)] (by kernel_rfl) hc ?_
  refine DL_cut 8 (fun e w' => w' = X.drew ∧ At e [(41, .bool (decide ((f.b k).kind < 0 ∨ 2 < (f.b k).kind))), (1, .pointer (some ⟨b1, 0, none⟩)), (27, .slice (some ⟨bb, ob, none⟩) f.blks.length cb), (28, .int .i64 (f.blks.length : Int)), (29, .int .i64 (k : Int)), (4, .pointer (some ⟨V, 0, none⟩)), (5, .slice (some ⟨M, 0, none⟩) 3 3)]) rfl ?_ ?_
  ·refine Aj rfl (fun _ _ => Ak rfl (Al rfl)) (Aj rfl (fun _ hS => Ai rfl (Ag rfl) (hS.get (by first | exact mm0 | exact mm1 | exact mm2 | exact mm3 | exact mm4 | exact mm5 | exact mm6 | exact mm7))) ?_)
   refine Aj rfl (fun _ _ => AW rfl rfl) (Aj rfl (fun _ _ => Ad) ?_)
   by_cases h1 : (f.b k).kind < 0
   ·rw [decide_eq_true h1]
    refine AK rfl rfl (AK rfl rfl (AK rfl rfl (Aj rfl (fun _ _ => AQ rfl) (AR ?_))))
    exact ⟨rfl, Ar rfl ⟨congrArg Value.bool (decide_eq_true (.inl h1)).symm, rfl, rfl, rfl, rfl, rfl, rfl, trivial⟩⟩
   rw [decide_eq_false h1]
   refine AF rfl rfl (fun _ _ => Ak rfl (Al rfl)) (AF rfl rfl (fun _ hS => Ai rfl (Ag rfl) (hS.get (by first | exact mm0 | exact mm1 | exact mm2 | exact mm3 | exact mm4 | exact mm5 | exact mm6 | exact mm7))) ?_)
   refine AF rfl rfl (fun _ _ => BC rfl rfl) (Aj rfl (fun _ _ => AN rfl) (AR ?_))
   by_cases h2 : 2 < (f.b k).kind
   ·rw [decide_eq_true h2]
    exact ⟨rfl, Ar rfl ⟨congrArg Value.bool (decide_eq_true (.inr h2)).symm, rfl, rfl, rfl, rfl, rfl, rfl, trivial⟩⟩
   rw [decide_eq_false h2]
   exact ⟨rfl, Ar rfl ⟨congrArg Value.bool (decide_eq_false (fun h => h.elim h1 h2)).symm, rfl, rfl, rfl, rfl, rfl, rfl, trivial⟩⟩
  rintro e w' ⟨rfl, t, rfl⟩
  refine DL_cut 11 (fun e w' => w' = X.drew ∧ At e [(52, .bool (decide (((f.b k).kind < 0 ∨ 2 < (f.b k).kind) ∨ ((f.b k).succs.length : Int) ≠ wk))), (1, .pointer (some ⟨b1, 0, none⟩)), (27, .slice (some ⟨bb, ob, none⟩) f.blks.length cb), (28, .int .i64 (f.blks.length : Int)), (29, .int .i64 (k : Int)), (4, .pointer (some ⟨V, 0, none⟩)), (5, .slice (some ⟨M, 0, none⟩) 3 3)]) rfl ?_ ?_
  ·refine Aj rfl (fun _ _ => Ad) ?_
   by_cases h1 : (f.b k).kind < 0 ∨ 2 < (f.b k).kind
   ·rw [decide_eq_true h1]
    refine AK rfl rfl (AK rfl rfl (AK rfl rfl (AK rfl rfl (AK rfl rfl (AK rfl rfl (AK rfl rfl (AK rfl rfl (AK rfl rfl (Aj rfl (fun _ _ => AQ rfl) (AR ?_))))))))))
    exact ⟨rfl, Ar rfl ⟨congrArg Value.bool (decide_eq_true (.inl h1)).symm, rfl, rfl, rfl, rfl, rfl, rfl, trivial⟩⟩
   rw [decide_eq_false h1]
   obtain ⟨hkz, hwk⟩ := hkw h1
   refine AF rfl rfl (fun _ _ => Ak rfl (Al rfl)) (AF rfl rfl (fun _ hS => Ai rfl (Ag rfl) (hS.get (by first | exact mm0 | exact mm1 | exact mm2 | exact mm3 | exact mm4 | exact mm5 | exact mm6 | exact mm7))) ?_)
   refine AF rfl rfl (fun _ _ => AP rfl (An rfl)) (AF rfl rfl (fun _ _ => Ad) (AF rfl rfl (fun _ _ => Ak rfl (Al rfl)) (AF rfl rfl (fun _ hS => Ai rfl (Ag rfl) (hS.get (by first | exact mm0 | exact mm1 | exact mm2 | exact mm3 | exact mm4 | exact mm5 | exact mm6 | exact mm7))) ?_)))
   refine AF rfl rfl (fun _ _ => A4 rfl rfl hkz (An rfl) hkk) (AF rfl rfl (fun _ hS => Ai rfl (Ag rfl) (hS.get (by first | exact mm0 | exact mm1 | exact mm2 | exact mm3 | exact mm4 | exact mm5 | exact mm6 | exact mm7))) ?_)
   refine AF rfl rfl (fun _ _ => Br rfl rfl) (Aj rfl (fun _ _ => AN rfl) (AR ?_))
   by_cases h2 : ((f.b k).succs.length : Int) ≠ wk
   ·rw [decide_eq_true h2]
    exact ⟨rfl, Ar rfl ⟨congrArg Value.bool (decide_eq_true (.inr h2)).symm, rfl, rfl, rfl, rfl, rfl, rfl, trivial⟩⟩
   rw [decide_eq_false h2]
   exact ⟨rfl, Ar rfl ⟨congrArg Value.bool (decide_eq_false (fun h => h.elim h1 h2)).symm, rfl, rfl, rfl, rfl, rfl, rfl, trivial⟩⟩
  rintro e w' ⟨rfl, t, rfl⟩
  refine DL_cut 5 (fun e w' => w' = X.drew ∧ At e [(57, .bool (decide ((((f.b k).kind < 0 ∨ 2 < (f.b k).kind) ∨ ((f.b k).succs.length : Int) ≠ wk) ∨ (f.b k).likely < -1))), (1, .pointer (some ⟨b1, 0, none⟩)), (27, .slice (some ⟨bb, ob, none⟩) f.blks.length cb), (28, .int .i64 (f.blks.length : Int)), (29, .int .i64 (k : Int)), (4, .pointer (some ⟨V, 0, none⟩)), (5, .slice (some ⟨M, 0, none⟩) 3 3)]) rfl ?_ ?_
  ·refine Aj rfl (fun _ _ => Ad) ?_
   by_cases h1 : ((f.b k).kind < 0 ∨ 2 < (f.b k).kind) ∨ ((f.b k).succs.length : Int) ≠ wk
   ·rw [decide_eq_true h1]
    refine AK rfl rfl (AK rfl rfl (AK rfl rfl (Aj rfl (fun _ _ => AQ rfl) (AR ?_))))
    exact ⟨rfl, Ar rfl ⟨congrArg Value.bool (decide_eq_true (.inl h1)).symm, rfl, rfl, rfl, rfl, rfl, rfl, trivial⟩⟩
   rw [decide_eq_false h1]
   refine AF rfl rfl (fun _ _ => Ak rfl (Al rfl)) (AF rfl rfl (fun _ hS => Ai rfl (Ag rfl) (hS.get (by first | exact mm0 | exact mm1 | exact mm2 | exact mm3 | exact mm4 | exact mm5 | exact mm6 | exact mm7))) ?_)
   refine AF rfl rfl (fun _ _ => AW rfl rfl) (Aj rfl (fun _ _ => AN rfl) (AR ?_))
   by_cases h2 : (f.b k).likely < -1
   ·rw [decide_eq_true h2]
    exact ⟨rfl, Ar rfl ⟨congrArg Value.bool (decide_eq_true (.inr h2)).symm, rfl, rfl, rfl, rfl, rfl, rfl, trivial⟩⟩
   rw [decide_eq_false h2]
   exact ⟨rfl, Ar rfl ⟨congrArg Value.bool (decide_eq_false (fun h => h.elim h1 h2)).symm, rfl, rfl, rfl, rfl, rfl, rfl, trivial⟩⟩
  rintro e w' ⟨rfl, t, rfl⟩
  refine DL_cut 5 (fun e w' => w' = X.drew ∧ At e [(62, .bool (decide (((((f.b k).kind < 0 ∨ 2 < (f.b k).kind) ∨ ((f.b k).succs.length : Int) ≠ wk) ∨ (f.b k).likely < -1) ∨ 1 < (f.b k).likely))), (1, .pointer (some ⟨b1, 0, none⟩)), (27, .slice (some ⟨bb, ob, none⟩) f.blks.length cb), (28, .int .i64 (f.blks.length : Int)), (29, .int .i64 (k : Int)), (4, .pointer (some ⟨V, 0, none⟩)), (5, .slice (some ⟨M, 0, none⟩) 3 3)]) rfl ?_ ?_
  ·refine Aj rfl (fun _ _ => Ad) ?_
   by_cases h1 : (((f.b k).kind < 0 ∨ 2 < (f.b k).kind) ∨ ((f.b k).succs.length : Int) ≠ wk) ∨ (f.b k).likely < -1
   ·rw [decide_eq_true h1]
    refine AK rfl rfl (AK rfl rfl (AK rfl rfl (Aj rfl (fun _ _ => AQ rfl) (AR ?_))))
    exact ⟨rfl, Ar rfl ⟨congrArg Value.bool (decide_eq_true (.inl h1)).symm, rfl, rfl, rfl, rfl, rfl, rfl, trivial⟩⟩
   rw [decide_eq_false h1]
   refine AF rfl rfl (fun _ _ => Ak rfl (Al rfl)) (AF rfl rfl (fun _ hS => Ai rfl (Ag rfl) (hS.get (by first | exact mm0 | exact mm1 | exact mm2 | exact mm3 | exact mm4 | exact mm5 | exact mm6 | exact mm7))) ?_)
   refine AF rfl rfl (fun _ _ => BC rfl rfl) (Aj rfl (fun _ _ => AN rfl) (AR ?_))
   by_cases h2 : 1 < (f.b k).likely
   ·rw [decide_eq_true h2]
    exact ⟨rfl, Ar rfl ⟨congrArg Value.bool (decide_eq_true (.inr h2)).symm, rfl, rfl, rfl, rfl, rfl, rfl, trivial⟩⟩
   rw [decide_eq_false h2]
   exact ⟨rfl, Ar rfl ⟨congrArg Value.bool (decide_eq_false (fun h => h.elim h1 h2)).symm, rfl, rfl, rfl, rfl, rfl, rfl, trivial⟩⟩
  rintro e w' ⟨rfl, t, rfl⟩
  refine DL_cut 10 (fun e w' => w' = X.drew ∧ At e [(72, .bool (decide ((((((f.b k).kind < 0 ∨ 2 < (f.b k).kind) ∨ ((f.b k).succs.length : Int) ≠ wk) ∨ (f.b k).likely < -1) ∨ 1 < (f.b k).likely) ∨ ((f.b k).kind ≠ 1 ∧ (f.b k).likely ≠ 0)))), (1, .pointer (some ⟨b1, 0, none⟩)), (27, .slice (some ⟨bb, ob, none⟩) f.blks.length cb), (28, .int .i64 (f.blks.length : Int)), (29, .int .i64 (k : Int)), (4, .pointer (some ⟨V, 0, none⟩)), (5, .slice (some ⟨M, 0, none⟩) 3 3)]) rfl ?_ ?_
  ·refine Aj rfl (fun _ _ => Ad) ?_
   by_cases h1 : ((((f.b k).kind < 0 ∨ 2 < (f.b k).kind) ∨ ((f.b k).succs.length : Int) ≠ wk) ∨ (f.b k).likely < -1) ∨ 1 < (f.b k).likely
   ·rw [decide_eq_true h1]
    refine AK rfl rfl (AK rfl rfl (AK rfl rfl (AK rfl rfl (DJ rfl rfl (DJ rfl rfl (DJ rfl rfl (AK rfl rfl (Aj rfl (fun _ _ => AQ rfl) (AR ?_)))))))))
    exact ⟨rfl, Ar rfl ⟨congrArg Value.bool (decide_eq_true (.inl h1)).symm, rfl, rfl, rfl, rfl, rfl, rfl, trivial⟩⟩
   rw [decide_eq_false h1]
   refine AF rfl rfl (fun _ _ => Ak rfl (Al rfl)) (AF rfl rfl (fun _ hS => Ai rfl (Ag rfl) (hS.get (by first | exact mm0 | exact mm1 | exact mm2 | exact mm3 | exact mm4 | exact mm5 | exact mm6 | exact mm7))) ?_)
   refine AF rfl rfl (fun _ _ => Br rfl rfl) (AF rfl rfl (fun _ _ => Ad) ?_)
   by_cases h2 : (f.b k).kind ≠ 1
   ·rw [decide_eq_true h2]
    refine AF rfl rfl (fun _ _ => Ak rfl (Al rfl)) (AF rfl rfl (fun _ hS => Ai rfl (Ag rfl) (hS.get (by first | exact mm0 | exact mm1 | exact mm2 | exact mm3 | exact mm4 | exact mm5 | exact mm6 | exact mm7))) ?_)
    refine AF rfl rfl (fun _ _ => Br rfl rfl) (AF rfl rfl (fun _ _ => AQ rfl) (Aj rfl (fun _ _ => AN rfl) (AR ?_)))
    by_cases h3 : (f.b k).likely ≠ 0
    ·rw [decide_eq_true h3]
     exact ⟨rfl, Ar rfl ⟨congrArg Value.bool (decide_eq_true (.inr ⟨h2, h3⟩)).symm, rfl, rfl, rfl, rfl, rfl, rfl, trivial⟩⟩
    rw [decide_eq_false h3]
    exact ⟨rfl, Ar rfl ⟨congrArg Value.bool (decide_eq_false (fun h => h.elim h1 (fun h => h3 h.2))).symm, rfl, rfl, rfl, rfl, rfl, rfl, trivial⟩⟩
   rw [decide_eq_false h2]
   refine AK rfl rfl (AK rfl rfl (AK rfl rfl (AF rfl rfl (fun _ _ => AN rfl) (Aj rfl (fun _ _ => AN rfl) (AR ?_)))))
   exact ⟨rfl, Ar rfl ⟨congrArg Value.bool (decide_eq_false (fun h => h.elim h1 (fun h => h2 h.1))).symm, rfl, rfl, rfl, rfl, rfl, rfl, trivial⟩⟩
  rintro e w' ⟨rfl, t, rfl⟩
  refine AR (Aa ?_)
  refine AG rfl rfl (fun hbad => ?_) (fun hgood1 => ?_)
  ·refine Ae (Ac (Ab Ah rfl (Af (Aa (AD (AJ (AO (AJ (Bp (AO (BO ?_)))))))))))
   exact Aw rfl rfl rfl ⟨false, rfl, ⟨fun h => (by cases h), fun h => absurd (hA5.1 hbad) (h.blk k hlt).one⟩, hbelX⟩
  have hone1 : ¬ DA (f.b k) := fun h => hgood1 (hA5.2 h)
  refine Aq (Aa ?_)
  clear hgood1
  have hslen : (f.b k).succs.length ≤ 2 := by
   have h1 := hone1
   unfold DA Cx at h1
   have h2 : ((f.b k).succs.length : Int) = Cx (f.b k).kind := by
    refine Classical.byContradiction fun h => h1 ?_
    exact .inl (.inl (.inl (.inr h)))
   unfold Cx at h2
   split at h2
   ·omega
   split at h2 <;> omega
  have c0 : X.drew.cell? ⟨V, 0 + 0, none⟩ = some (.int .i64 (f.b k).kind) := hc.get (.head _)
  have c1 : X.drew.cell? ⟨V, 0 + 1, none⟩ = some (.int .i64 (f.b k).ctrl) := Am (w := X.drew) hN3X rfl
  have c2 : X.drew.cell? ⟨V, 0 + 2, none⟩ = some (.slice sa (f.b k).succs.length sc) := hc.get (.tail _ (.head _))
  have hbx : X.drew.heap[b1]? = some (.cells #[.slice av f.vals.length cv, .slice (some ⟨bb, ob, none⟩) f.blks.length cb] 30 (0, 0)) := (hbX.drew.block b1 (by omega)).trans hN1
  have c3 : X.drew.cell? ⟨b1, 0 + 0, none⟩ = some (.slice av f.vals.length cv) := Am hbx rfl
  have c4 : X.drew.cell? ⟨b1, 0 + 1, none⟩ = some (.slice (some ⟨bb, ob, none⟩) f.blks.length cb) := Am hbx rfl
  have hbXd := hbX.drew
  have hKY : Keep w X.drew := hKr.trans (hK3.trans (hK4.trans (Keep.drew X)))
  generalize X.drew = Y at c0 c1 c2 hbx c3 c4 hbXd hbelX hKY ⊢
  refine Ae (Ae (Ac ?_))
  refine Cj 26 (fun e w' => w' = Y ∧ At e [(98, .bool (decide (C9 f.vals.length (f.b k)))), (1, .pointer (some ⟨b1, 0, none⟩)), (27, .slice (some ⟨bb, ob, none⟩) f.blks.length cb), (28, .int .i64 (f.blks.length : Int)), (29, .int .i64 (k : Int)), (4, .pointer (some ⟨V, 0, none⟩)), (5, .slice (some ⟨M, 0, none⟩) 3 3)]) ?_ ?_
  ·refine Ab (Ak rfl (Al rfl)) rfl (Ab (Ai rfl (Ag rfl) ‹_›) rfl ?_)
   refine Ab (Bi rfl rfl) rfl (Ab Ad rfl ?_)
   by_cases hk0 : (f.b k).kind = 0
   ·rw [decide_eq_true hk0]
    refine Au rfl rfl (Ak rfl (Al rfl)) rfl (Au rfl rfl (Ai rfl (Ag rfl) ‹_›) rfl ?_)
    refine Au rfl rfl (Br rfl rfl) rfl (Ab (AQ rfl) rfl (Ab Ad rfl ?_))
    by_cases hc1 : (f.b k).ctrl ≠ -1
    ·rw [decide_eq_true hc1]
     refine Az rfl rfl (Az rfl rfl (Az rfl rfl (Az rfl rfl (Bm rfl rfl (Bm rfl rfl (Bm rfl rfl (Bm rfl rfl (Bm rfl rfl (Bm rfl rfl (Bm rfl rfl (Bm rfl rfl ?_)))))))))))
     refine Bm rfl rfl (Bm rfl rfl (Bm rfl rfl (Az rfl rfl (Ab (AQ rfl) rfl (Af ?_)))))
     exact ⟨rfl, Ar rfl ⟨congrArg Value.bool (decide_eq_true (.inl ⟨hk0, hc1⟩ : C9 f.vals.length (f.b k))).symm, rfl, rfl, rfl, rfl, rfl, rfl, trivial⟩⟩
    rw [decide_eq_false hc1]
    refine Au rfl rfl (Ak rfl (Al rfl)) rfl (Au rfl rfl (Ai rfl (Ag rfl) ‹_›) rfl ?_)
    refine Au rfl rfl (Br rfl rfl) rfl (Au rfl rfl Ad rfl ?_)
    rw [decide_eq_false (show ¬ (f.b k).kind ≠ 0 from fun h => h hk0)]
    refine Az rfl rfl (Az rfl rfl (Az rfl rfl (Az rfl rfl (Bm rfl rfl (Bm rfl rfl (Bm rfl rfl (Bm rfl rfl (Bm rfl rfl (Bm rfl rfl (Az rfl rfl (Au rfl rfl (AN rfl) rfl ?_)))))))))))
    refine Ab (AN rfl) rfl (Af ?_)
    exact ⟨rfl, Ar rfl ⟨congrArg Value.bool (decide_eq_false (fun h => Or.elim h (fun h => hc1 h.2) (fun h => h.1 hk0) : ¬ C9 f.vals.length (f.b k))).symm, rfl, rfl, rfl, rfl, rfl, rfl, trivial⟩⟩
   rw [decide_eq_false hk0]
   refine Az rfl rfl (Az rfl rfl (Az rfl rfl (Ab (AN rfl) rfl (Ab Ad rfl (Au rfl rfl (Ak rfl (Al rfl)) rfl (Au rfl rfl (Ai rfl (Ag rfl) ‹_›) rfl ?_))))))
   refine Au rfl rfl (Br rfl rfl) rfl (Au rfl rfl Ad rfl ?_)
   rw [decide_eq_true (show (f.b k).kind ≠ 0 from hk0)]
   refine Au rfl rfl (Ak rfl (Al rfl)) rfl (Au rfl rfl (Ai rfl (Ag rfl) ‹_›) rfl ?_)
   refine Au rfl rfl (AW rfl rfl) rfl (Au rfl rfl Ad rfl ?_)
   by_cases hc1 : (f.b k).ctrl < 0
   ·rw [decide_eq_true hc1]
    refine Az rfl rfl (Az rfl rfl (Az rfl rfl (Az rfl rfl (Az rfl rfl (Az rfl rfl (Au rfl rfl (AQ rfl) rfl (Au rfl rfl (AQ rfl) rfl (Ab (AN rfl) rfl (Af ?_)))))))))
    exact ⟨rfl, Ar rfl ⟨congrArg Value.bool (decide_eq_true (.inr ⟨hk0, .inl hc1⟩ : C9 f.vals.length (f.b k))).symm, rfl, rfl, rfl, rfl, rfl, rfl, trivial⟩⟩
   rw [decide_eq_false hc1]
   refine Au rfl rfl (Ak rfl (Al rfl)) rfl (Au rfl rfl (Ai rfl (Ag rfl) ‹_›) rfl ?_)
   refine Au rfl rfl (Ak rfl (Al rfl)) rfl (Au rfl rfl (Ai rfl (Ag rfl) ‹_›) rfl ?_)
   refine Au rfl rfl (AP rfl (An rfl)) rfl (Au rfl rfl (CS rfl rfl) rfl (Au rfl rfl (AN rfl) rfl (Au rfl rfl (AQ rfl) rfl (Ab (AN rfl) rfl (Af ?_)))))
   by_cases hc2 : (f.vals.length : Int) ≤ (f.b k).ctrl
   ·rw [decide_eq_true hc2]
    exact ⟨rfl, Ar rfl ⟨congrArg Value.bool (decide_eq_true (.inr ⟨hk0, .inr hc2⟩ : C9 f.vals.length (f.b k))).symm, rfl, rfl, rfl, rfl, rfl, rfl, trivial⟩⟩
   rw [decide_eq_false hc2]
   exact ⟨rfl, Ar rfl ⟨congrArg Value.bool (decide_eq_false (fun h => Or.elim h (fun h => hk0 h.1) (fun h => h.2.elim hc1 hc2) : ¬ C9 f.vals.length (f.b k))).symm, rfl, rfl, rfl, rfl, rfl, rfl, trivial⟩⟩
  rintro e w' ⟨rfl, t, rfl⟩
  refine Af (Aa ?_)
  refine AG rfl rfl (fun hbad => ?_) (fun htwo => ?_)
  ·refine Ae (Ac (Ab Ah rfl (Af (Aa (AD (AJ (AO (AJ (Bp (AO (BO ?_)))))))))))
   exact Aw rfl rfl rfl ⟨false, rfl, ⟨fun h => (by cases h), fun h => absurd hbad (h.blk k hlt).two⟩, hbelX⟩
  refine Aq (Aa (Ae (Ac (Ab (Ak rfl (Al rfl)) rfl (Ab (Ai rfl (Ag rfl) ‹_›) rfl ?_)))))
  refine Ab (AP rfl (An rfl)) rfl (Ab Ad rfl (Af (Aa (Ao ?_))))
  refine EC_loop (fun n e wi => ∃ i, i ≤ (f.b k).succs.length ∧ At e [(1, .pointer (some ⟨b1, 0, none⟩)), (27, .slice (some ⟨bb, ob, none⟩) f.blks.length cb), (28, .int .i64 (f.blks.length : Int)), (29, .int .i64 (k : Int)), (100, .slice sa (f.b k).succs.length sc), (101, .int .i64 ((f.b k).succs.length : Int)), (102, .int .i64 (i : Int))] ∧ wi = w' ∧ (∀ j, j < i → 1 ≤ (f.b k).succs.getD j 0 ∧ (f.b k).succs.getD j 0 < f.blks.length) ∧ n = (f.b k).succs.length - i) (f.b k).succs.length
   ⟨0, Nat.zero_le _, Ar rfl ⟨rfl, rfl, rfl, rfl, rfl, rfl, rfl, trivial⟩, rfl, fun j hj => absurd hj (Nat.not_lt_zero _), rfl⟩ ?_
  rintro n e wi ⟨i, hi, ⟨t, rfl⟩, rfl, hall, rfl⟩
  refine Ae (Ac (Ab (AW rfl rfl) rfl (Af (Aa (Ae ?_)))))
  refine AG rfl rfl (fun hli => ?_) (fun hge => ?_)
  rotate_left
  ·have hi : i = (f.b k).succs.length := by omega
   subst hi
   refine AI (AB (AC (AA (Ap (Aa (Ac (Ab (x_inc rfl rfl (by omega)) rfl (Ab Ad rfl (Af ?_)))))))))
   refine Av (f.blks.length - (k + 1)) (by omega) ⟨k + 1, by omega, Ar rfl ⟨rfl, rfl, rfl, rfl, trivial⟩, hbXd, fun b hbk => ?_, rfl⟩
   by_cases e : b = k
   ·subst e
    refine ⟨hone1, htwo, fun s hs => ?_⟩
    obtain ⟨j, hj, rfl⟩ := List.getElem_of_mem hs
    have := hall j hj
    rwa [List.getD_eq_getElem?_getD, List.getElem?_eq_getElem hj] at this
   exact hok b (by omega)
  have hli : i < (f.b k).succs.length := by omega
  obtain ⟨bi, oi, rfl, hai⟩ := (hints).get hli
  have hai := hKY _ _ hai
  refine Aq (Aa (Ae (Ao (Ae (Ac (Ab (x_index1 rfl rfl (An rfl) (by omega)) rfl (Ab (Ai rfl (Ag rfl) ‹_›) rfl ?_)))))))
  refine Ab Ah rfl (Af (Aa (Ae (Ac ?_))))
  have hlast : ∀ (x : Int), (f.b k).succs.getD i 0 = x → True := fun _ _ => trivial
  refine Cj 9 (fun e w'' => w'' = wi ∧ At e [(114, .bool (decide ((f.b k).succs.getD i 0 < 1 ∨ (f.blks.length : Int) ≤ (f.b k).succs.getD i 0))), (1, .pointer (some ⟨b1, 0, none⟩)), (27, .slice (some ⟨bb, ob, none⟩) f.blks.length cb), (28, .int .i64 (f.blks.length : Int)), (29, .int .i64 (k : Int)), (100, .slice (some ⟨bi, oi, none⟩) (f.b k).succs.length sc), (101, .int .i64 ((f.b k).succs.length : Int)), (102, .int .i64 (i : Int))]) ?_ ?_
  ·refine Ab Ad rfl (Ab (AW rfl rfl) rfl (Ab Ad rfl ?_))
   by_cases h1 : (f.b k).succs.getD i 0 < 1
   ·rw [decide_eq_true h1]
    refine Az rfl rfl (Az rfl rfl (Az rfl rfl (Az rfl rfl (Az rfl rfl (Ab (AQ rfl) rfl (Af ?_))))))
    exact ⟨rfl, Ar rfl ⟨congrArg Value.bool (decide_eq_true (.inl h1)).symm, rfl, rfl, rfl, rfl, rfl, rfl, rfl, trivial⟩⟩
   rw [decide_eq_false h1]
   refine Au rfl rfl Ad rfl (Au rfl rfl (Ak rfl (Al rfl)) rfl (Au rfl rfl (Ai rfl (Ag rfl) ‹_›) rfl ?_))
   refine Au rfl rfl (AP rfl (An rfl)) rfl (Au rfl rfl (CS rfl rfl) rfl (Ab (AN rfl) rfl (Af ?_)))
   by_cases h2 : (f.blks.length : Int) ≤ (f.b k).succs.getD i 0
   ·rw [decide_eq_true h2]
    exact ⟨rfl, Ar rfl ⟨congrArg Value.bool (decide_eq_true (.inr h2)).symm, rfl, rfl, rfl, rfl, rfl, rfl, rfl, trivial⟩⟩
   rw [decide_eq_false h2]
   exact ⟨rfl, Ar rfl ⟨congrArg Value.bool (decide_eq_false (fun h => h.elim h1 h2)).symm, rfl, rfl, rfl, rfl, rfl, rfl, rfl, trivial⟩⟩
  rintro e w'' ⟨rfl, t, rfl⟩
  refine Af (Aa ?_)
  refine AG rfl rfl (fun hbad => ?_) (fun hgood => ?_)
  ·refine Ae (Ac (Ab Ah rfl (Af (Aa (AD (AO (AJ (Bp (AO (AO (AJ ?_)))))))))))
   refine Bp (AO (BO ?_))
   refine Aw rfl rfl rfl ⟨false, rfl, ⟨fun h => (by cases h), fun h => ?_⟩, hbelX⟩
   have := (h.blk k hlt).succs ((f.b k).succs.getD i 0) (by rw [List.getD_eq_getElem?_getD, List.getElem?_eq_getElem hli]; simp)
   omega
  refine Aq (Ap (Aa (Ac (Ab (x_inc rfl rfl (by omega)) rfl (Ab Ad rfl (Af ?_))))))
  refine Av ((f.b k).succs.length - (i + 1)) (by omega) ⟨i + 1, by omega, Ar rfl ⟨rfl, rfl, rfl, rfl, rfl, rfl, rfl, trivial⟩, rfl, fun j hj => ?_, rfl⟩
  by_cases e : j = i
  ·subst e; omega
  exact hall j (by omega)
 rintro e wr ⟨⟨t, rfl⟩, hb, hok⟩
 have hbxr : wr.heap[b1]? = some (.cells #[.slice av f.vals.length cv, .slice ab f.blks.length cb] 30 (0, 0)) := (hb.block b1 (by omega)).trans hN1
 have hKr : Keep w wr := hK1.trans (Keep.of_below hb (by omega))
 have sh : Shp f := ⟨hone, hnb, fun b hbn => ⟨by
  have h1 := (hok b hbn).one
  unfold DA Cx at h1
  have h2 : ((f.b b).succs.length : Int) = Cx (f.b b).kind := by
   refine Classical.byContradiction fun h => h1 ?_
   exact .inl (.inl (.inl (.inr h)))
  unfold Cx at h2
  split at h2
  ·omega
  ·split at h2 <;> omega, fun s hs => by
  have := (hok b hbn).succs s hs
  omega⟩⟩
 have hszr := hb.size
 refine Ae (Ae (Ac (Ab (A5 (cs := [.slice av f.vals.length cv, .slice ab f.blks.length cb]) rfl (A0 rfl) (Bj hbxr)) rfl (Bg (AH Tryz.func34 rfl rfl rfl rfl) rfl (reach_ret (hx0.keep hKr) sh (-1)) ?_))))
 rintro _ w1 ⟨G, S, rfl, hGs, hN, hSr, hb1'⟩
 refine Ab (AP rfl (An rfl)) rfl (Ab Ad rfl (Af (Aa ?_)))
 have hbel1 : Below b1 w w1 := (hbw.trans (hb.mono (by omega))).trans (hb1'.mono (by omega))
 refine Ao ?_
 refine EC_loop (fun n e wi => ∃ i, i ≤ f.blks.length ∧ At e [(118, .slice (some ⟨G, 0, none⟩) f.blks.length f.blks.length), (119, .int .i64 (f.blks.length : Int)), (120, .int .i64 (i : Int))] ∧ wi = w1 ∧ (∀ j, j < i → S j = true) ∧ n = f.blks.length - i) f.blks.length
  ⟨0, Nat.zero_le _, Ar rfl ⟨rfl, rfl, rfl, trivial⟩, rfl, fun j hj => absurd hj (Nat.not_lt_zero _), rfl⟩ ?_
 rintro n e wi ⟨i, hi, ⟨t, rfl⟩, rfl, hall, rfl⟩
 refine Ae (Ac (Ab (AW rfl rfl) rfl (Af (Aa (Ae ?_)))))
 refine AG rfl rfl (fun hli => ?_) (fun hge => ?_)
 rotate_left
 ·have hi : i = f.blks.length := by omega
  subst hi
  refine AI (AB (AC (AA (Aa (Ae (Ac (Ab Ah rfl (Af (Aa (AD ?_))))))))))
  exact Aw rfl rfl rfl ⟨true, rfl, ⟨fun _ => ⟨hone, hnb, hnv, hok, fun b hbn => (hSr b hbn).1 (hall b hbn)⟩, fun _ => rfl⟩, hbel1⟩
 have hli : i < f.blks.length := by omega
 have hcy : wi.cell? ⟨G, 0 + i, none⟩ = some (.bool (S i)) := Am hN (by rw [Nat.zero_add]; exact BM _ hli)
 refine Aq (Aa (Ae (Ao (Ae (Ac (Ab (x_index1 rfl rfl (An rfl) (by omega)) rfl (Ab (Ai rfl (Ag rfl) ‹_›) rfl ?_)))))))
 refine Ab Ah rfl (Af (Aa (Ae (Ac (Ab Ad rfl (Ab (B5 rfl) rfl (Af (Aa ?_))))))))
 rcases Bool.eq_false_or_eq_true (S i) with hSi | hSi
 ·refine A6 (congrArg (fun b => Value.bool (!b)) hSi) rfl (Aq (Ap (Aa (Ac (Ab (x_inc rfl rfl (by omega)) rfl (Ab Ad rfl (Af ?_)))))))
  refine Av (f.blks.length - (i + 1)) (by omega) ⟨i + 1, by omega, Ar rfl ⟨rfl, rfl, rfl, trivial⟩, rfl, fun j hj => ?_, rfl⟩
  by_cases e : j = i
  ·subst e; exact hSi
  exact hall j (by omega)
 refine Ba (congrArg (fun b => Value.bool (!b)) hSi) rfl (Ae (Ac (Ab Ah rfl (Af (Aa (AD (AO (AJ (Bp (AO (AJ ?_)))))))))))
 refine Aw rfl rfl rfl ⟨false, rfl, ⟨fun h => (by cases h), fun h => ?_⟩, hbel1⟩
 rw [(hSr i hli).2 (h.rch i hli)] at hSi
 cases hSi
end Go.Proofs.YteepnepebilckaaGreatDoor
