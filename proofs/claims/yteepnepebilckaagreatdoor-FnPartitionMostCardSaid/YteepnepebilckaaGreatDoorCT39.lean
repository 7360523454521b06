/- For every input in which the opcode table reads as laid the law FnPartitionMost returns true, and its argument reads as it did, the table being tied to the text of the program. -/
import Derived.Test.YteepnepebilckaaGreatDoorCT38
namespace Go.Proofs.YteepnepebilckaaGreatDoor
open Go Go.Eng Go.RowKit
structure ClsL (n : Nat) (xss : List (List Int)) : Prop where
 len : xss.length ≤ 1000
 long : ∀ k, k < xss.length → 2 ≤ (xss.getD k []).length ∧ (xss.getD k []).length ≤ 1000
 rng : ∀ k, k < xss.length → ∀ z ∈ xss.getD k [], 0 ≤ z ∧ z < n
 asc : ∀ k, k < xss.length → (xss.getD k []).Pairwise (· < ·)
 one : ∀ k q, k < xss.length → q < xss.length → ∀ z, z ∈ xss.getD k [] → z ∈ xss.getD q [] → k = q
structure CNum (n : Nat) (xss : List (List Int)) (k i : Nat) (c : Nat → Int) : Prop where
 old : ∀ q, q < k → ∀ z ∈ xss.getD q [], c z.toNat = q
 cur : ∀ z ∈ (xss.getD k []).take i, c z.toNat = k
 out : ∀ z, z < n → (∀ q, q < k → ((z : Nat) : Int) ∉ xss.getD q []) → ((z : Nat) : Int) ∉ (xss.getD k []).take i → c z = -1 - (z : Int)
theorem getI {l : List Int} {i : Nat} (h : i < l.length) : l[i] = l.getD i 0 := by
 rw [List.getD_eq_getElem?_getD, List.getElem?_eq_getElem h]; rfl
theorem EM {l : List Int} {i : Nat} (h : i < l.length) : l.take (i + 1) = l.take i ++ [l.getD i 0] := by
 rw [List.take_succ_eq_append_getElem h, List.getD_eq_getElem?_getD, List.getElem?_eq_getElem h]; rfl
theorem CNum.fresh {n : Nat} {xss : List (List Int)} (hx : ClsL n xss) {k i : Nat} (hk : k < xss.length) (hi : i < (xss.getD k []).length) : (∀ q, q < k → (xss.getD k []).getD i 0 ∉ xss.getD q []) ∧ (xss.getD k []).getD i 0 ∉ (xss.getD k []).take i := by
 have hm := BG hi
 refine ⟨fun q hq h => ?_, fun h => ?_⟩
 ·have := hx.one k q hk (by omega) _ hm h; omega
 obtain ⟨j, hj, e⟩ := List.getElem_of_mem h
 rw [List.length_take] at hj
 rw [List.getElem_take] at e
 have h1 := List.pairwise_iff_getElem.1 (hx.asc k hk) j i (by omega) hi (by omega)
 rw [e, List.getD_eq_getElem?_getD, List.getElem?_eq_getElem hi] at h1
 exact absurd h1 (Int.lt_irrefl _)
theorem CNum.next {n : Nat} {xss : List (List Int)} {k i : Nat} {c : Nat → Int} (h : CNum n xss k i c) (hx : ClsL n xss) (hk : k < xss.length) (hi : i < (xss.getD k []).length) {z : Nat} (hz : (xss.getD k []).getD i 0 = (z : Int)) :
 CNum n xss k (i + 1) (fun x => if x = z then (k : Int) else c x) := by
 obtain ⟨f1, f2⟩ := CNum.fresh hx hk hi
 rw [hz] at f1 f2
 refine ⟨fun q hq y hy => ?_, fun y hy => ?_, fun y hy h1 h2 => ?_⟩
 ·have hr := hx.rng q (by omega) y hy
  show (if y.toNat = z then (k : Int) else c y.toNat) = q
  rw [if_neg (fun e => f1 q hq (by rw [← e, Int.toNat_of_nonneg hr.1]; exact hy))]
  exact h.old q hq y hy
 ·show (if y.toNat = z then (k : Int) else c y.toNat) = k
  by_cases e : y.toNat = z
  ·rw [if_pos e]
  rw [if_neg e]
  rw [EM hi, hz] at hy
  rcases List.mem_append.1 hy with h3 | h3
  ·exact h.cur y h3
  exact absurd (by rw [List.mem_singleton.1 h3]; rfl) e
 rw [EM hi, hz] at h2
 show (if y = z then (k : Int) else c y) = _
 rw [if_neg (fun e => h2 (by rw [e]; exact List.mem_append_right _ (.head _)))]
 exact h.out y hy h1 fun h3 => h2 (List.mem_append_left _ h3)
theorem CNum.roll {n : Nat} {xss : List (List Int)} {k : Nat} {c : Nat → Int} (h : CNum n xss k (xss.getD k []).length c) : CNum n xss (k + 1) 0 c := by
 have hc := h.cur
 have ho := h.out
 rw [List.take_length] at hc ho
 refine ⟨fun q hq y hy => ?_, fun y hy => (by cases hy), fun y hy h1 _ => ho y hy (fun q hq => h1 q (by omega)) (h1 k (by omega))⟩
 by_cases e : q = k
 ·subst e; exact hc y hy
 exact h.old q (by omega) y hy
theorem Gy {n k : Nat} (c : Nat → Int) (hk : k < n) (z : Int) : (((List.range n).map fun i => Value.int .i64 (c i)).set k (.int .i64 z)) = (List.range n).map fun i => .int .i64 (if i = k then z else c i) := by
 refine List.ext_getElem (by simp) fun j h1 h2 => ?_
 rw [List.getElem_set, List.getElem_map, List.getElem_map, List.getElem_range]
 by_cases e : k = j
 ·subst e; rw [if_pos rfl, if_pos rfl]
 rw [if_neg e, if_neg (fun h => e h.symm)]
set_option maxHeartbeats 4000000
attribute [local irreducible] EC EL DL Ret thenQ blockQ Bf bodyQ onlyN execOp Sem.run World.cell? World.frozen? World.setCell World.alloc
theorem classes_ret {w : World} {base : Nat} {v : Value} {us : List Value} {xss : List (List Int)} {n : Nat} (hL : LLs w base v us xss) (hx : ClsL n xss) (hn : n ≤ 48) :
 Ret Tryz.prog 12 #[v, .int .i64 (n : Int)] w fun r w' => ∃ cv c, r = .tuple #[cv, .bool true] ∧ IntsV w' cv ((List.range n).map c) ∧ CNum n xss xss.length 0 c ∧ Below w.heap.size w w' := by
 refine ret_of_EC Tryz.func12 rfl rfl ?_
 obtain ⟨B, hBd⟩ : ∃ B, B = w.heap.size := ⟨_, rfl⟩
 have key0 : ∀ {W : World} {ρ : Operand → Value} {d : Option Tmp} {ty : TypeId} {pos : String} {af : Array Edge} {g : Option (Nat × Bool)}, (execOp ρ ⟨d, .buildSlice 35 0 #[], ty, pos, af, g⟩).run Tryz.prog W = .ok (.value (.slice (some ⟨W.heap.size, 0, none⟩) 0 0)) (W.alloc (.cells #[] 3)) := by
  intro W ρ d ty pos af g
  have key : (Instr.buildSlice 35 0 #[]).run Tryz.prog W = .ok (.slice (some ⟨W.heap.size, 0, none⟩) 0 0) (W.alloc (.cells #[] 3)) := by kernel_rfl
  simp [execOp, key]
 refine Ae (Ac (Ab Ah rfl (Ab Ah rfl (Af (Aa (Ae (Ac (Ab key0 rfl ?_))))))))
 have hBle : B ≤ w.heap.size := by omega
 refine el_new (.cells #[] 3) B (by omega) fun wa hN1 hO1 hZ1 hB1 hK1 => (Ab Ah rfl (Af (Aa ?_)))
 have hrow0 : wa.ownsRow B 3 1 (.slice (some ⟨w.heap.size, 0, none⟩) 0 0) 0 [] := ⟨rfl, .inr ⟨w.heap.size, 0, #[], rfl, by omega, hN1, Nat.le_refl _, by decide, rfl, rfl⟩⟩
 refine AX (fun e W => ∃ vo, At e [(0, v), (1, .int .i64 (n : Int)), (6, vo)] ∧ Below B w W ∧ W.ownsRow B 3 1 vo n ((List.range n).map fun i : Nat => .int .i64 (-1 - (i : Int)))) ?_ ?_
 ·refine Ae (Ac (Ab Ad rfl (Ab Ad rfl (Af (Aa (Ao ?_))))))
  refine EC_loop (fun m e W => ∃ i vo, i ≤ n ∧ At e [(0, v), (1, .int .i64 (n : Int)), (6, vo), (13, .int .i64 (n : Int)), (14, .int .i64 (i : Int))] ∧ Below B w W ∧ W.ownsRow B 3 1 vo i ((List.range i).map fun i : Nat => .int .i64 (-1 - (i : Int))) ∧ m = n - i) n
   ⟨0, _, Nat.zero_le _, Ar rfl ⟨rfl, rfl, rfl, rfl, rfl, trivial⟩, hB1, hrow0, rfl⟩ ?_
  clear hrow0 hN1
  rintro m e W ⟨i, vo, hi, ⟨t, rfl⟩, hb, hrow, rfl⟩
  refine Ae (Ac (Ab (AW rfl rfl) rfl (Af (Aa (Ae ?_)))))
  refine AG rfl rfl (fun hlt => ?_) (fun hge => ?_)
  rotate_left
  ·have hin : i = n := by omega
   subst hin
   refine AI (AB (AC (AA ?_)))
   exact AU ⟨vo, Ar rfl ⟨rfl, rfl, rfl, trivial⟩, hb, hrow⟩
  have hin : i < n := by omega
  refine Aq (Aa (Ae (Ao (Ae (Ac (Ab Ad rfl (Ab Ah rfl (Af (Aa (Ac (Ab Ad rfl ?_)))))))))))
  refine Ab Ad rfl (Ab (Cd (a := -1) (b := (i : Int)) rfl rfl (by omega)) rfl (Ab (Bo (v := .int .i64 (-1 - (i : Int))) rfl rfl Tryz.underlying35 (by kernel_rfl) (z := .int .i64 0) rfl) rfl ?_))
  have hz := hb.size
  have hBle : B ≤ W.heap.size := by omega
  refine el_new (.cells #[.int .i64 (-1 - (i : Int))] 3) B (by omega) fun W5 hN6 hO6 hZ6 hB6 hK6 => ?_
  have hrow6 := Ay hrow (w' := W5) fun k e => hO6 k (As hrow k e).2
  have hlow := As hrow6
  refine By hrow6 (Am hN6 rfl) rfl (by omega) (by decide) (by omega) Tryz.underlying35 Cn rfl rfl rfl rfl ?_
  intro v7 w7 hrow7 hgr7 hwh7
  refine Ab Ah rfl (Af (Ap (Aa ?_)))
  have hb7 : Below B w w7 := (hb.trans ⟨hB6.os, hB6.tape, hB6.output, hB6.size, fun j hj => hO6 j (by omega)⟩).grown hgr7 (by omega) (fun j e => (hlow j e).1)
  refine Ac (Ab (x_inc rfl rfl (by omega)) rfl (Ab Ad rfl (Af ?_)))
  refine Av (n - (i + 1)) (by omega) ⟨i + 1, v7, by omega, Ar rfl ⟨rfl, rfl, rfl, rfl, rfl, trivial⟩, hb7, ?_, rfl⟩
  rw [List.range_succ, List.map_append]
  exact hrow7
 clear hrow0 hN1 hO1 hZ1 hB1 hK1
 rintro e W0 ⟨vo, ⟨t, rfl⟩, hb0, hrow0⟩
 have hul : us.length = xss.length := hL.len
 obtain ⟨va, vcap, hvl⟩ := BH hL.row
 rw [hul] at hvl
 have hLk : ∀ {W : World}, Below B w W → LLs W base v us xss := fun h => hL.on fun k _ hk => h.block k (by omega)
 refine Ae (Ae (Ac (Ab Ad rfl (Ab (AP hvl (An rfl)) rfl (Ab Ad rfl (Af (Aa (Ao ?_))))))))
 refine EC_loop (fun m e W => ∃ k c, k ≤ xss.length ∧ At e [(0, v), (1, .int .i64 (n : Int)), (6, vo), (23, v), (24, .int .i64 (xss.length : Int)), (25, .int .i64 (k : Int))] ∧ Below B w W ∧ W.ownsRow B 3 1 vo n ((List.range n).map fun i => .int .i64 (c i)) ∧ CNum n xss k 0 c ∧ m = xss.length - k) xss.length
  ⟨0, fun i => -1 - (i : Int), Nat.zero_le _, Ar rfl ⟨rfl, rfl, rfl, rfl, rfl, rfl, trivial⟩, hb0, hrow0, ⟨fun q hq => absurd hq (Nat.not_lt_zero _), fun z hz => (by cases hz), fun _ _ _ _ => rfl⟩, rfl⟩ ?_
 clear hrow0 hb0
 rintro m e W ⟨k, c, hk, ⟨t, rfl⟩, hb, hrow, hC, rfl⟩
 have hxl := hx.len
 refine Ae (Ac (Ab (AW rfl rfl) rfl (Af (Aa (Ae ?_)))))
 refine AG rfl rfl (fun hlt => ?_) (fun hge => ?_)
 rotate_left
 ·have hkx : k = xss.length := by omega
  subst hkx
  refine AI (AB (AC (AA (Aa (Ae (Ac (Ab Ad rfl (Ab Ah rfl (Ab Ah rfl (Af (Aa ?_)))))))))))
  refine AD ?_
  refine FN rfl rfl rfl rfl ⟨vo, c, rfl, Cs (base := B) (el := 3) (by rw [List.length_map, List.length_range, List.map_map]; exact hrow), hC, by rw [← hBd]; exact hb⟩
 have hkx : k < xss.length := by omega
 refine Aq (Aa ?_)
 have hLW := hLk hb
 obtain ⟨gb, capb, e1, _, _, _, hcell⟩ := row_form (w := W) (base := base) (el := 35) (v := v) (xs := us) hLW.row (k := k) (by omega)
 rw [hul] at e1
 have hg : us[k]'(by omega) = us.getD k nilS := by rw [List.getD_eq_getElem?_getD, List.getElem?_eq_getElem (by omega)]; rfl
 rw [hg] at hcell
 obtain ⟨m, hm⟩ : ∃ m, m = (xss.getD k []).length := ⟨_, rfl⟩
 have hmm := hx.long k hkx
 rw [← hm] at hmm
 obtain ⟨ya, ycap, hya⟩ := BH (hLW.ints k hkx)
 rw [← hm] at hya
 refine Ae (Ao (Ae (Ac (Ab Ad rfl (Ab (x_index1 (i := k) e1 rfl (An rfl) (by omega)) rfl (Ab (Ai rfl (Ag rfl) hcell) rfl (Ab Ah rfl (Ab Ah rfl (Af (Aa ?_))))))))))
 refine AX (fun e W => ∃ c, At e [(0, v), (1, .int .i64 (n : Int)), (6, vo), (23, v), (24, .int .i64 (xss.length : Int)), (25, .int .i64 (k : Int)), (9, us.getD k nilS)] ∧ Below B w W ∧ W.ownsRow B 3 1 vo n ((List.range n).map fun i => .int .i64 (c i)) ∧ CNum n xss (k + 1) 0 c) ?_ ?_
 ·refine Ae (Ac (Ab Ad rfl (Ab (AP hya (An rfl)) rfl (Ab Ad rfl (Af (Aa (Ao ?_)))))))
  refine EC_loop (fun q e W => ∃ i c, i ≤ m ∧ At e [(0, v), (1, .int .i64 (n : Int)), (6, vo), (23, v), (24, .int .i64 (xss.length : Int)), (25, .int .i64 (k : Int)), (8, .int .i64 (k : Int)), (9, us.getD k nilS), (30, us.getD k nilS), (31, .int .i64 (m : Int)), (32, .int .i64 (i : Int))] ∧ Below B w W ∧ W.ownsRow B 3 1 vo n ((List.range n).map fun i => .int .i64 (c i)) ∧ CNum n xss k i c ∧ q = m - i) m
   ⟨0, c, Nat.zero_le _, Ar rfl ⟨rfl, rfl, rfl, rfl, rfl, rfl, rfl, rfl, rfl, rfl, rfl, trivial⟩, hb, hrow, hC, rfl⟩ ?_
  clear hb hrow hC hLW hcell
  rintro q e W ⟨i, c, hi, ⟨t, rfl⟩, hb, hrow, hC, rfl⟩
  refine Ae (Ac (Ab (AW rfl rfl) rfl (Af (Aa (Ae ?_)))))
  refine AG rfl rfl (fun hlt => ?_) (fun hge => ?_)
  rotate_left
  ·have him : i = m := by omega
   rw [him, hm] at hC
   refine AI (AB (AC (AA ?_)))
   exact AU ⟨c, Ar rfl ⟨rfl, rfl, rfl, rfl, rfl, rfl, rfl, trivial⟩, hb, hrow, hC.roll⟩
  have him : i < m := by omega
  refine Aq (Aa ?_)
  have hLW := hLk hb
  obtain ⟨z, hz⟩ : ∃ z : Nat, (xss.getD k []).getD i 0 = (z : Int) := ⟨_, (Int.toNat_of_nonneg (hx.rng k hkx _ (BG (by omega))).1).symm⟩
  have hzn : z < n := by
   have := (hx.rng k hkx _ (BG (l := xss.getD k []) (k := i) (by omega))).2
   omega
  have elt : ∀ i, i < m → ∃ yb yc, us.getD k nilS = .slice (some ⟨yb, 0, none⟩) m yc ∧ W.cell? ⟨yb, 0 + i, none⟩ = some (.int .i64 ((xss.getD k []).getD i 0)) := fun i hi => by
   obtain ⟨yb, yc, e2, _, _, _, hyc⟩ := row_form (w := W) (base := base) (el := 3) (v := us.getD k nilS) (xs := (xss.getD k []).map (Value.int .i64)) (by rw [List.length_map]; exact hLW.ints k hkx) (k := i) (by rw [List.length_map, ← hm]; exact hi)
   rw [List.length_map, ← hm] at e2
   rw [List.getElem_map] at hyc
   refine ⟨yb, yc, e2, hyc.trans ?_⟩
   exact congrArg (fun z => some (Value.int .i64 z)) (getI (by omega))
  obtain ⟨yb, yc, e2, hyc⟩ := elt i him
  rw [hz] at hyc
  obtain ⟨ob, oc, e3, _, _, _, hoc⟩ := row_form (w := W) (base := B) (el := 3) (v := vo) (xs := (List.range n).map fun i => .int .i64 (c i)) (by rw [List.length_map, List.length_range]; exact hrow) (k := z) (by rw [List.length_map, List.length_range]; exact hzn)
  rw [List.length_map, List.length_range] at e3
  rw [List.getElem_map, List.getElem_range] at hoc
  obtain ⟨f1, f2⟩ := CNum.fresh hx hkx (i := i) (by omega)
  rw [hz] at f1 f2
  have hcz := hC.out z hzn f1 f2
  refine Ae (Ao (Ae (Ac (Ab Ad rfl (Ab (x_index1 (i := i) e2 rfl (An rfl) him) rfl (Ab (Ai rfl (Ag rfl) hyc) rfl (Ab Ah rfl (Ab Ah rfl (Af (Aa ?_))))))))))
  refine AX (fun e W' => W' = W ∧ At e [(0, v), (1, .int .i64 (n : Int)), (6, vo), (23, v), (24, .int .i64 (xss.length : Int)), (25, .int .i64 (k : Int)), (8, .int .i64 (k : Int)), (9, us.getD k nilS), (30, us.getD k nilS), (31, .int .i64 (m : Int)), (32, .int .i64 (i : Int)), (10, .int .i64 (i : Int)), (11, .int .i64 (z : Int))]) ?_ ?_
  ·refine Ae (Ac (Ab Ad rfl (Ab (AW rfl rfl) rfl (Ab Ad rfl ?_))))
   rw [decide_eq_false (show ¬ ((z : Int) < 0) by omega)]
   refine Au rfl rfl Ad rfl (Au rfl rfl Ad rfl (Au rfl rfl (CS rfl rfl) rfl (Ab (AN rfl) rfl (Ab Ad rfl ?_))))
   rw [decide_eq_false (show ¬ ((n : Int) ≤ (z : Int)) by omega)]
   refine Au rfl rfl Ad rfl (Au rfl rfl Ad rfl (Au rfl rfl (x_index1 (i := z) e3 rfl (An rfl) hzn) rfl (Au rfl rfl (Ai rfl (Ag rfl) hoc) rfl (Au rfl rfl (CS rfl rfl) rfl (Ab (AN rfl) rfl (Ab Ad rfl ?_))))))
   rw [decide_eq_false (show ¬ ((0 : Int) ≤ c z) by omega)]
   refine Au rfl rfl Ad rfl (Au rfl rfl (BC rfl rfl) rfl (Au rfl rfl Ad rfl ?_))
   by_cases hi0 : (0 : Int) < (i : Int)
   ·rw [decide_eq_true hi0]
    obtain ⟨yb', yc', e2', hyp⟩ := elt (i - 1) (by omega)
    have hasc : (xss.getD k []).getD (i - 1) 0 < (z : Int) := by
     have h1 := List.pairwise_iff_getElem.1 (hx.asc k hkx) (i - 1) i (by omega) (by omega) (by omega)
     rw [getI (l := xss.getD k []) (i := i - 1) (by omega), getI (l := xss.getD k []) (i := i) (by omega), hz] at h1
     exact h1
    refine Au rfl rfl Ad rfl (Au rfl rfl Ad rfl (Au rfl rfl (Cd (a := (i : Int)) (b := 1) rfl rfl (by omega)) rfl (Au rfl rfl (A4 (i := i - 1) e2' rfl (by omega) (An rfl) (by omega)) rfl (Au rfl rfl (Ai rfl (Ag rfl) hyp) rfl (Au rfl rfl Ad rfl (Au rfl rfl (CS rfl rfl) rfl (Au rfl rfl (AQ rfl) rfl (Ab (AN rfl) rfl (Af (Aa ?_))))))))))
    rw [decide_eq_false (show ¬ ((z : Int) ≤ (xss.getD k []).getD (i - 1) 0) by omega)]
    refine A6 rfl rfl (Aq ?_)
    exact AU ⟨rfl, Ar rfl ⟨rfl, rfl, rfl, rfl, rfl, rfl, rfl, rfl, rfl, rfl, rfl, rfl, rfl, trivial⟩⟩
   rw [decide_eq_false hi0]
   refine Az rfl rfl (Az rfl rfl (Az rfl rfl (Az rfl rfl (Az rfl rfl (Az rfl rfl (Az rfl rfl (Au rfl rfl (AN rfl) rfl (Ab (AN rfl) rfl (Af (Aa (A6 rfl rfl ?_)))))))))))
   refine Aq ?_
   exact AU ⟨rfl, Ar rfl ⟨rfl, rfl, rfl, rfl, rfl, rfl, rfl, rfl, rfl, rfl, rfl, rfl, rfl, trivial⟩⟩
  rintro e W' ⟨rfl, ⟨t, rfl⟩⟩
  have hlow := As hrow
  subst e3
  have hob : B ≤ ob := (hlow ob rfl).1
  have hof : W'.frozen? ⟨ob, 0 + z, none⟩ = false := by
   rcases hrow.2 with ⟨h0, _⟩ | ⟨g', cap', cur, e4, _, hg', _⟩
   ·cases h0
   injection e4 with e5 _ _
   injection e5 with e5
   injection e5 with e5 _ _
   subst e5
   exact AT hg'
  refine Ac (Ab Ad rfl (Ab Ad rfl (Ab Ad rfl (Ab (x_index1 (i := z) rfl rfl (An rfl) hzn) rfl (Bd (AV (v := .int .i64 (k : Int)) rfl rfl rfl (AM rfl) hoc hof) rfl (Af (Ap (Aa ?_))))))))
  have hrow2 := Fl (xs := (List.range n).map fun i => .int .i64 (c i)) (by rw [List.length_map, List.length_range]; exact hrow) (k := z) (by rw [List.length_map, List.length_range]; exact hzn) (.int .i64 (k : Int))
  rw [List.length_set, List.length_map, List.length_range, Gy c hzn] at hrow2
  have hb2 : Below B w (W'.setCell ⟨ob, 0 + z, none⟩ (.int .i64 (k : Int))) := hb.setCell (show B ≤ ob from hob) _
  change EC _ _ _ _ _ (W'.setCell ⟨ob, 0 + z, none⟩ (.int .i64 (k : Int)))
  generalize W'.setCell ⟨ob, 0 + z, none⟩ (.int .i64 (k : Int)) = W2 at hrow2 hb2 ⊢
  refine Ac (Ab (x_inc rfl rfl (by omega)) rfl (Ab Ad rfl (Af ?_)))
  exact Av (m - (i + 1)) (by omega) ⟨i + 1, _, by omega, Ar rfl ⟨rfl, rfl, rfl, rfl, rfl, rfl, rfl, rfl, rfl, rfl, rfl, trivial⟩, hb2, hrow2, hC.next hx hkx (by omega) hz, rfl⟩
 clear hb hrow hC hLW hcell
 rintro e W ⟨c, ⟨t, rfl⟩, hb, hrow, hC⟩
 refine Ae (Ac (Ab Ad rfl (Ab (AP hya (An rfl)) rfl (Ab (AW rfl rfl) rfl (Af (Aa ?_))))))
 refine AG rfl rfl (fun h2 => ?_) (fun h2 => ?_)
 ·exfalso; omega
 refine Aq (Ap (Aa (Ac (Ab (x_inc rfl rfl (by omega)) rfl (Ab Ad rfl (Af ?_))))))
 exact Av (xss.length - (k + 1)) (by omega) ⟨k + 1, c, by omega, Ar rfl ⟨rfl, rfl, rfl, rfl, rfl, rfl, trivial⟩, hb, hrow, hC, rfl⟩
end Go.Proofs.YteepnepebilckaaGreatDoor
namespace Go.Proofs.YteepnepebilckaaGreatDoor
open Go Go.Eng Go.RowKit
section
variable {g : Gph} {fw : Prop} {A : Nat → List Nat} {arr : Nat → Nat} {cls : Nat → Int} {P : List (Nat × Nat)} {rw : Nat → Option Nat}
theorem CseR.mate (h : CseR g fw A arr cls P rw) {x y : Nat} (hx : x < g.nv) (hy : y < g.nv) (e : cls (x + 1) = cls (y + 1)) : x = y ∨ ∃ p ∈ P, ∃ i j, i < p.2 ∧ j < p.2 ∧ x = arr (p.1 + i) ∧ y = arr (p.1 + j) := by
 obtain ⟨pn, hj⟩ := h.pj
 have pk := hj.pi.pk
 obtain ⟨i, hi, rfl⟩ := CP hj.pi.perm hx
 obtain ⟨j, hj2, rfl⟩ := CP hj.pi.perm hy
 by_cases h1 : ∃ p ∈ P, p.1 ≤ i ∧ i < p.1 + p.2
 ·obtain ⟨p, hp, a1, a2⟩ := h1
  have e1 := pk.cin p hp (i - p.1) (by omega)
  rw [show p.1 + (i - p.1) = i by omega] at e1
  obtain ⟨u, hu, e2⟩ := pk.mem_of (o := p.1) (n := p.2) hp hy (by rw [← e, e1])
  exact .inr ⟨p, hp, i - p.1, u, by omega, hu, by rw [show p.1 + (i - p.1) = i by omega], e2⟩
 have e1 := pk.cout i hi fun p hp hpi => h1 ⟨p, hp, hpi⟩
 by_cases h2 : ∃ p ∈ P, p.1 ≤ j ∧ j < p.1 + p.2
 ·obtain ⟨p, hp, a1, a2⟩ := h2
  have e2 := pk.cin p hp (j - p.1) (by omega)
  rw [show p.1 + (j - p.1) = j by omega] at e2
  have := (pk.cpos p hp).1
  omega
 have e2 := pk.cout j hj2 fun p hp hpj => h2 ⟨p, hp, hpj⟩
 exact .inl (by omega)
theorem CseR.clsC (h : CseR g fw A arr cls P rw) : ClsC (g.wa A) cls := by
 obtain ⟨pn, hj⟩ := h.pj
 refine ⟨fun x y hx hy e => ?_, fun x y hx hy e => ?_⟩
 ·rcases h.mate hx hy e with rfl | ⟨p, hp, i, j, hi, hj2, rfl, rfl⟩
  ·rfl
  exact (hj.pi.same p hp i hi).symm.trans (hj.pi.same p hp j hj2)
 rcases h.mate hx hy e with rfl | ⟨p, hp, i, j, hi, hj2, rfl, rfl⟩
 ·rfl
 exact h.stab p hp i j hi hj2
end
end Go.Proofs.YteepnepebilckaaGreatDoor
namespace Go.Proofs.YteepnepebilckaaGreatDoor
open Go Go.Eng Go.RowKit
set_option maxHeartbeats 4000000
attribute [local irreducible] EC EL DL Ret thenQ blockQ Bf bodyQ onlyN execOp Sem.run World.cell? World.frozen? World.setCell World.alloc
theorem fits3_ret {w : World} {x y z : Int} {a : Option Addr} {n c : Nat} :
 Ret Tryz.prog 37 #[.agg #[.int .i64 x, .int .i64 y, .slice a n c, .int .i64 z]] w fun v w' => (∃ b, v = .bool b) ∧ Below w.heap.size w w' := by
 refine ret_of_EC Tryz.func37 rfl rfl ?_
 obtain ⟨B, hBd⟩ : ∃ B, B = w.heap.size := ⟨_, rfl⟩
 refine Ae (Ac (Ab (Bu (v := .agg #[.int .i64 x, .int .i64 y, .slice a n c, .int .i64 z]) rfl) rfl (el_new (.cells #[.int .i64 x, .int .i64 y, .slice a n c, .int .i64 z] 48) B (by omega) fun wa hN1 hO1 hZ1 hB1 hK1 => (Ab Ah rfl (Af (Aa ?_))))))
 have g2 : wa.cell? ⟨w.heap.size, 0 + 2, none⟩ = some (.slice a n c) := Am hN1 rfl
 rw [← hBd] at g2 ⊢
 refine Ae (Ae (Ac (Ab (Ak rfl (Al rfl)) rfl (Ab (Ai rfl (Ag rfl) ‹_›) rfl ?_))))
 refine Ab (AP rfl (An rfl)) rfl (Ab (BC rfl rfl) rfl (Af (Aa ?_)))
 refine AG rfl rfl (fun h => ?_) (fun h => ?_)
 ·refine Ae (Ac (Ab Ah rfl (Af (Aa (AD (AJ ?_))))))
  exact Aw rfl rfl rfl ⟨⟨_, rfl⟩, hB1⟩
 refine Aq (Aa (Ae (Ac (Ab Ah rfl (Af (Aa (AD ?_)))))))
 exact Aw rfl rfl rfl ⟨⟨_, rfl⟩, hB1⟩
theorem FD {w : World} {x y z : Int} {a : Option Addr} {n c : Nat} :
 Ret Tryz.prog 38 #[.agg #[.int .i64 x, .int .i64 y, .slice a n c, .int .i64 z]] w fun v w' => (∃ b, v = .bool b) ∧ Below w.heap.size w w' := by
 refine ret_of_EC Tryz.func38 rfl rfl ?_
 obtain ⟨B, hBd⟩ : ∃ B, B = w.heap.size := ⟨_, rfl⟩
 refine Ae (Ac (Ab (Bu (v := .agg #[.int .i64 x, .int .i64 y, .slice a n c, .int .i64 z]) rfl) rfl (el_new (.cells #[.int .i64 x, .int .i64 y, .slice a n c, .int .i64 z] 53) B (by omega) fun wa hN1 hO1 hZ1 hB1 hK1 => (Ab Ah rfl (Af (Aa ?_))))))
 have g2 : wa.cell? ⟨w.heap.size, 0 + 2, none⟩ = some (.slice a n c) := Am hN1 rfl
 rw [← hBd] at g2 ⊢
 refine Ae (Ae (Ac (Ab (Ak rfl (Al rfl)) rfl (Ab (Ai rfl (Ag rfl) ‹_›) rfl ?_))))
 refine Ab (AP rfl (An rfl)) rfl (Ab (BC rfl rfl) rfl (Af (Aa ?_)))
 refine AG rfl rfl (fun h => ?_) (fun h => ?_)
 ·refine Ae (Ac (Ab Ah rfl (Af (Aa (AD (AJ ?_))))))
  exact Aw rfl rfl rfl ⟨⟨_, rfl⟩, hB1⟩
 refine Aq (Aa (Ae (Ac (Ab Ah rfl (Af (Aa (AD ?_)))))))
 exact Aw rfl rfl rfl ⟨⟨_, rfl⟩, hB1⟩
theorem fits2_ret {w : World} {x : Value} {l : List Vl} (hx : ValsV w x l) :
 Ret Tryz.prog 22 #[x] w fun v w' => ∃ b, v = .bool b ∧ (b = true → l.length ≤ 2147483647) ∧ Below w.heap.size w w' := by
 obtain ⟨av, cv, rfl, hvl⟩ := hx
 refine ret_of_EC Tryz.func22 rfl rfl ?_
 obtain ⟨B, hBd⟩ : ∃ B, B = w.heap.size := ⟨_, rfl⟩
 refine Ae (Ac (Ab Ah rfl (Af (Aa (Ae (Ae (Ac (Ab Ad rfl (Ab (AP rfl (An rfl)) rfl (Ab (BC rfl rfl) rfl (Af ?_)))))))))))
 refine Aa ?_
 refine AG rfl rfl (fun h => ?_) (fun h => ?_)
 ·refine Ae (Ac (Ab Ah rfl (Af (Aa (AD (AJ ?_))))))
  exact Aw rfl rfl rfl ⟨false, rfl, fun h => (by cases h), Below.refl _ _⟩
 refine Aq (Aa ?_)
 have hlen : l.length ≤ 2147483647 := by omega
 refine Ae (Ae (Ac (Ab Ad rfl (Ab (AP rfl (An rfl)) rfl (Ab Ad rfl (Af (Aa (Ao ?_))))))))
 refine EC_loop (fun n e wr => ∃ k, k ≤ l.length ∧ At e [(8, .slice av l.length cv), (9, .int .i64 (l.length : Int)), (10, .int .i64 (k : Int))] ∧ Below B w wr ∧ n = l.length - k) l.length
  ⟨0, Nat.zero_le _, Ar rfl ⟨rfl, rfl, rfl, trivial⟩, Below.refl _ _, rfl⟩ ?_
 rintro n e wr ⟨k, hk, ⟨t, rfl⟩, hb, rfl⟩
 refine Ae (Ac (Ab (AW rfl rfl) rfl (Af (Aa (Ae ?_)))))
 refine AG rfl rfl (fun hlt => ?_) (fun hge => ?_)
 rotate_left
 ·have hk : k = l.length := by omega
  subst hk
  refine AI (AB (AC (AA (Aa (Ae (Ac (Ab Ah rfl (Af (Aa (AD ?_))))))))))
  exact Aw rfl rfl rfl ⟨true, rfl, fun _ => hlen, by rw [← hBd]; exact hb⟩
 have hlt : k < l.length := by omega
 obtain ⟨bb, ob, rfl, hq⟩ := hvl.resolve_left (fun e => by rw [e] at hlt; simp at hlt)
 obtain ⟨s0, hcells0, ⟨sa, sc, rfl, hints⟩⟩ := hq k hlt
 have hcells := hcells0.keep (Keep.of_below hb (by omega))
 have hszr := hb.size
 refine Aq (Aa (Ae (Ao (Ae (Ac (Ab (A3 (n := 4) rfl rfl (An rfl) hlt) rfl (Ab (A5 rfl (A0 rfl) hcells) rfl (Ab (Bb Ei) rfl (Bd (Bh rfl rfl (Bc rfl) rfl rfl) rfl (Af (Aa ?_)))))))))))
 have hBle : B ≤ wr.heap.size := by omega
 refine ec_new (.cells #[.int .i64 (l.getD k default).op, .int .i64 (l.getD k default).blk, .slice sa (l.getD k default).args.length sc, .int .i64 (l.getD k default).aux] 48) B (by omega) fun X hN3 hO3 hZ3 hB3 hK3 => ?_
 obtain ⟨V, hV⟩ : ∃ V, V = wr.heap.size := ⟨_, rfl⟩
 rw [← hV] at hN3 ⊢
 have hbX : Below B w X := hb.trans hB3
 refine Ae (Ac (Ab (A5 (cs := [.int .i64 (l.getD k default).op, .int .i64 (l.getD k default).blk, .slice sa (l.getD k default).args.length sc, .int .i64 (l.getD k default).aux]) rfl (A0 rfl) (Bj hN3)) rfl (Bg (AH Tryz.func37 rfl rfl rfl rfl) rfl fits3_ret ?_)))
 rintro _ Y ⟨⟨b, rfl⟩, hbY⟩
 have hbY : Below B w Y := hbX.trans (hbY.mono (by omega))
 refine Ab (B5 rfl) rfl (Af (Aa ?_))
 cases b with
 | false =>
   refine Ba rfl rfl (Ae (Ac (Ab Ah rfl (Af (Aa (AD (AO (AJ (Bp (AO (AJ ?_)))))))))))
   exact Aw rfl rfl rfl ⟨false, rfl, fun h => (by cases h), by rw [← hBd]; exact hbY⟩
 | true =>
   refine A6 rfl rfl (Aq (Ap (Aa (Ac (Ab (x_inc rfl rfl (by omega)) rfl (Ab Ad rfl (Af ?_)))))))
   exact Av (l.length - (k + 1)) (by omega) ⟨k + 1, by omega, Ar rfl ⟨rfl, rfl, rfl, trivial⟩, hbY, rfl⟩
theorem fits4_ret {w : World} {x : Value} {l : List Bk} (hx : BlksV w x l) :
 Ret Tryz.prog 23 #[x] w fun v w' => ∃ b, v = .bool b ∧ (b = true → l.length ≤ 2147483647) ∧ Below w.heap.size w w' := by
 obtain ⟨av, cv, rfl, hvl⟩ := hx
 refine ret_of_EC Tryz.func23 rfl rfl ?_
 obtain ⟨B, hBd⟩ : ∃ B, B = w.heap.size := ⟨_, rfl⟩
 refine Ae (Ac (Ab Ah rfl (Af (Aa (Ae (Ae (Ac (Ab Ad rfl (Ab (AP rfl (An rfl)) rfl (Ab (BC rfl rfl) rfl (Af ?_)))))))))))
 refine Aa ?_
 refine AG rfl rfl (fun h => ?_) (fun h => ?_)
 ·refine Ae (Ac (Ab Ah rfl (Af (Aa (AD (AJ ?_))))))
  exact Aw rfl rfl rfl ⟨false, rfl, fun h => (by cases h), Below.refl _ _⟩
 refine Aq (Aa ?_)
 have hlen : l.length ≤ 2147483647 := by omega
 refine Ae (Ae (Ac (Ab Ad rfl (Ab (AP rfl (An rfl)) rfl (Ab Ad rfl (Af (Aa (Ao ?_))))))))
 refine EC_loop (fun n e wr => ∃ k, k ≤ l.length ∧ At e [(8, .slice av l.length cv), (9, .int .i64 (l.length : Int)), (10, .int .i64 (k : Int))] ∧ Below B w wr ∧ n = l.length - k) l.length
  ⟨0, Nat.zero_le _, Ar rfl ⟨rfl, rfl, rfl, trivial⟩, Below.refl _ _, rfl⟩ ?_
 rintro n e wr ⟨k, hk, ⟨t, rfl⟩, hb, rfl⟩
 refine Ae (Ac (Ab (AW rfl rfl) rfl (Af (Aa (Ae ?_)))))
 refine AG rfl rfl (fun hlt => ?_) (fun hge => ?_)
 rotate_left
 ·have hk : k = l.length := by omega
  subst hk
  refine AI (AB (AC (AA (Aa (Ae (Ac (Ab Ah rfl (Af (Aa (AD ?_))))))))))
  exact Aw rfl rfl rfl ⟨true, rfl, fun _ => hlen, by rw [← hBd]; exact hb⟩
 have hlt : k < l.length := by omega
 obtain ⟨bb, ob, rfl, hq⟩ := hvl.resolve_left (fun e => by rw [e] at hlt; simp at hlt)
 obtain ⟨s0, hcells0, ⟨sa, sc, rfl, hints⟩⟩ := hq k hlt
 have hcells := hcells0.keep (Keep.of_below hb (by omega))
 have hszr := hb.size
 refine Aq (Aa (Ae (Ao (Ae (Ac (Ab (A3 (n := 4) rfl rfl (An rfl) hlt) rfl (Ab (A5 rfl (A0 rfl) hcells) rfl (Ab (Bb Ek) rfl (Bd (Bh rfl rfl (Bc rfl) rfl rfl) rfl (Af (Aa ?_)))))))))))
 have hBle : B ≤ wr.heap.size := by omega
 refine ec_new (.cells #[.int .i64 (l.getD k default).kind, .int .i64 (l.getD k default).ctrl, .slice sa (l.getD k default).succs.length sc, .int .i64 (l.getD k default).likely] 53) B (by omega) fun X hN3 hO3 hZ3 hB3 hK3 => ?_
 obtain ⟨V, hV⟩ : ∃ V, V = wr.heap.size := ⟨_, rfl⟩
 rw [← hV] at hN3 ⊢
 have hbX : Below B w X := hb.trans hB3
 refine Ae (Ac (Ab (A5 (cs := [.int .i64 (l.getD k default).kind, .int .i64 (l.getD k default).ctrl, .slice sa (l.getD k default).succs.length sc, .int .i64 (l.getD k default).likely]) rfl (A0 rfl) (Bj hN3)) rfl (Bg (AH Tryz.func38 rfl rfl rfl rfl) rfl FD ?_)))
 rintro _ Y ⟨⟨b, rfl⟩, hbY⟩
 have hbY : Below B w Y := hbX.trans (hbY.mono (by omega))
 refine Ab (B5 rfl) rfl (Af (Aa ?_))
 cases b with
 | false =>
   refine Ba rfl rfl (Ae (Ac (Ab Ah rfl (Af (Aa (AD (AO (AJ (Bp (AO (AJ ?_)))))))))))
   exact Aw rfl rfl rfl ⟨false, rfl, fun h => (by cases h), by rw [← hBd]; exact hbY⟩
 | true =>
   refine A6 rfl rfl (Aq (Ap (Aa (Ac (Ab (x_inc rfl rfl (by omega)) rfl (Ab Ad rfl (Af ?_)))))))
   exact Av (l.length - (k + 1)) (by omega) ⟨k + 1, by omega, Ar rfl ⟨rfl, rfl, rfl, trivial⟩, hbY, rfl⟩
theorem fits1_ret {w : World} {x : Value} {f : Fn} (hx : FnV w x f) :
 Ret Tryz.prog 8 #[x] w fun v w' => ∃ b, v = .bool b ∧ (b = true → f.vals.length < 4294967296 ∧ f.blks.length < 4294967296) ∧ Below w.heap.size w w' := by
 obtain ⟨xv, xb, rfl, hvals, hblks⟩ := hx
 refine ret_of_EC Tryz.func8 rfl rfl ?_
 have hx0 : FnV w (.agg #[xv, xb]) f := ⟨xv, xb, rfl, hvals, hblks⟩
 have hvals0 := hvals
 have hblks0 := hblks
 obtain ⟨ab, cb, rfl, hbl⟩ := hblks
 obtain ⟨av, cv, rfl, hvl⟩ := hvals
 obtain ⟨B, hBd⟩ : ∃ B, B = w.heap.size := ⟨_, rfl⟩
 refine Ae (Ac (Ab (Bu (v := .agg #[.slice av f.vals.length cv, .slice ab f.blks.length cb]) rfl) rfl (el_new (.cells #[.slice av f.vals.length cv, .slice ab f.blks.length cb] 25) B (by omega) fun wa hN1 hO1 hZ1 hB1 hK1 => (Ab Ah rfl (Af (Aa ?_))))))
 have g0 : wa.cell? ⟨w.heap.size, 0 + 0, none⟩ = some (.slice av f.vals.length cv) := Am hN1 rfl
 have g1 : wa.cell? ⟨w.heap.size, 0 + 1, none⟩ = some (.slice ab f.blks.length cb) := Am hN1 rfl
 refine Ae (Ae (Ac (Ab (Ak rfl (Al rfl)) rfl (Ab (Ai rfl (Ag rfl) ‹_›) rfl ?_))))
 refine Bg (AH Tryz.func22 rfl rfl rfl rfl) rfl (fits2_ret (hvals0.keep hK1)) ?_
 rintro _ w1 ⟨b, rfl, hb, hbl1⟩
 refine Ab (B5 rfl) rfl (Af (Aa ?_))
 have hK2 : Keep wa w1 := Keep.of_below hbl1 (Nat.le_refl _)
 have g1' := hK2 _ _ g1
 cases b with
 | false =>
   refine Ba rfl rfl (Ae (Ac (Ab Ah rfl (Af (Aa (AD (AJ ?_)))))))
   exact Aw rfl rfl rfl ⟨false, rfl, fun h => (by cases h), by rw [← hBd]; exact hB1.trans (hbl1.mono (by omega))⟩
 | true =>
 refine A6 rfl rfl (Aq (Aa (Ae (Ae (Ac (Ab (Ak rfl (Al rfl)) rfl (Ab (Ai rfl (Ag rfl) ‹_›) rfl ?_)))))))
 refine Bg (AH Tryz.func23 rfl rfl rfl rfl) rfl (fits4_ret ((hblks0.keep hK1).keep hK2)) ?_
 rintro _ w2 ⟨b2, rfl, hb2, hbl2⟩
 refine Ab (B5 rfl) rfl (Af (Aa ?_))
 have hsz1 := hbl1.size
 have hbF : Below w.heap.size w w2 := by rw [← hBd]; exact (hB1.trans (hbl1.mono (by omega))).trans (hbl2.mono (by omega))
 cases b2 with
 | false =>
   refine Ba rfl rfl (Ae (Ac (Ab Ah rfl (Af (Aa (AD (AJ ?_)))))))
   exact Aw rfl rfl rfl ⟨false, rfl, fun h => (by cases h), hbF⟩
 | true =>
   refine A6 rfl rfl (Aq (Aa (Ae (Ac (Ab Ah rfl (Af (Aa (AD ?_))))))))
   exact Aw rfl rfl rfl ⟨true, rfl, fun _ => ⟨by have := hb rfl; omega, by have := hb2 rfl; omega⟩, hbF⟩
end Go.Proofs.YteepnepebilckaaGreatDoor
