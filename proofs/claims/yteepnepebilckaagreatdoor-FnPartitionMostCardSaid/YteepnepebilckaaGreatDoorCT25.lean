/- For every input in which the opcode table reads as laid the law FnPartitionMost returns true, and its argument reads as it did, the table being tied to the text of the program. -/
import Derived.Test.YteepnepebilckaaGreatDoorCT24
namespace Go.Proofs.YteepnepebilckaaGreatDoor
open Go Go.Eng Go.RowKit Go.Shelf
theorem GRep.setCl {w : World} {B : Nat} {L : Lay} {g : Gph} (h : GRep w B L g) (v : Value) : GRep (w.setCell ⟨L.fb, 0 + 5, none⟩ v) B L { g with cl := v } := by
 refine ⟨fun τ => ?_, ⟨h.tags.fb, h.tags.bb, h.tags.vb, fun τ hτ hl => h.tags.sl τ hτ (by cases τ <;> exact hl), h.tags.fbB, h.tags.bbB, h.tags.vbB⟩⟩
 by_cases hτ : τ = .fn
 ·subst hτ
  exact AE (o := 0 + 5) (u := v) (h.comp .fn)
 have := CM (o := 0 + 5) (u := v) h h.tags.fb hτ
 cases τ <;> first | exact this | exact absurd rfl hτ
theorem GRep.setAm {w : World} {B : Nat} {L : Lay} {g : Gph} (h : GRep w B L g) (v : Value) : GRep (w.setCell ⟨L.fb, 0 + 3, none⟩ v) B L { g with am := v } := by
 refine ⟨fun τ => ?_, ⟨h.tags.fb, h.tags.bb, h.tags.vb, fun τ hτ hl => h.tags.sl τ hτ (by cases τ <;> exact hl), h.tags.fbB, h.tags.bbB, h.tags.vbB⟩⟩
 by_cases hτ : τ = .fn
 ·subst hτ
  exact AE (o := 0 + 3) (u := v) (h.comp .fn)
 have := CM (o := 0 + 3) (u := v) h h.tags.fb hτ
 cases τ <;> first | exact this | exact absurd rfl hτ
theorem GE.cl {E : Nat} {L : Lay} {g : Gph} (h : GE E L g) (v : Value) : GE E L { g with cl := v } := ⟨h.fb, h.bb, h.vb, fun τ hτ hl => h.sl τ hτ (by cases τ <;> exact hl)⟩
theorem GE.am {E : Nat} {L : Lay} {g : Gph} (h : GE E L g) (v : Value) : GE E L { g with am := v } := ⟨h.fb, h.bb, h.vb, fun τ hτ hl => h.sl τ hτ (by cases τ <;> exact hl)⟩
structure LLs (w : World) (base : Nat) (v : Value) (us : List Value) (xss : List (List Int)) : Prop where
 row : w.ownsRow base 35 1 v us.length us
 len : us.length = xss.length
 ints : ∀ i, i < xss.length → w.ownsRow base 3 1 (us.getD i nilS) (xss.getD i []).length ((xss.getD i []).map (.int .i64))
 ne : ∀ i, i < xss.length → ∀ k, v.ownBlock = some k → (us.getD i nilS).ownBlock ≠ some k
section
variable {w w' : World} {base : Nat} {v v' l : Value} {us : List Value} {xss : List (List Int)} {ys : List Int}
theorem LLs.on (h : LLs w base v us xss) (hk : ∀ k, base ≤ k → k < w.heap.size → w'.heap[k]? = w.heap[k]?) : LLs w' base v us xss :=
 ⟨Ay h.row fun k e => hk k (As h.row k e).1 (As h.row k e).2, h.len, fun i hi => Ay (h.ints i hi) fun k e => hk k (As (h.ints i hi) k e).1 (As (h.ints i hi) k e).2, h.ne⟩
theorem LLs.push (h : LLs w base v us xss) (hl : w.ownsRow base 3 1 l ys.length (ys.map (.int .i64))) (hne : ∀ k, v.ownBlock = some k → l.ownBlock ≠ some k)
 (hr : w'.ownsRow base 35 1 v' (us.length + 1) (us ++ [l])) (hg : w.grownBy w' v.ownBlock) (hw : v'.ownBlock = v.ownBlock ∨ v'.ownBlock = some w.heap.size) : LLs w' base v' (us ++ [l]) (xss ++ [ys]) := by
 have hlen := h.len
 have g1 : ∀ i, i < us.length → (us ++ [l]).getD i nilS = us.getD i nilS := fun i hi => by simp [List.getD_eq_getElem?_getD, List.getElem?_append_left hi]
 have g2 : ∀ i, i < xss.length → (xss ++ [ys]).getD i [] = xss.getD i [] := fun i hi => by simp [List.getD_eq_getElem?_getD, List.getElem?_append_left hi]
 have g3 : (us ++ [l]).getD us.length nilS = l := by simp [List.getD_eq_getElem?_getD]
 have g4 : (xss ++ [ys]).getD xss.length [] = ys := by simp [List.getD_eq_getElem?_getD]
 refine ⟨by rw [List.length_append]; exact hr, by simp [hlen], fun i hi => ?_, fun i hi k hk => ?_⟩
 ·by_cases e : i = xss.length
  ·subst e
   rw [g4, ← hlen, g3]
   exact Ay hl fun k e => hg.block k (As hl k e).2 fun e2 => hne k e2.symm e
  have hi' : i < xss.length := by simp at hi; omega
  rw [g1 i (by omega), g2 i hi']
  exact Ay (h.ints i hi') fun k e => hg.block k (As (h.ints i hi') k e).2 fun e2 => h.ne i hi' k e2.symm e
 by_cases e : i = xss.length
 ·subst e
  rw [← hlen, g3]
  rcases hw with h1 | h1
  ·exact hne k (h1 ▸ hk)
  intro e2
  have := (As hl k e2).2
  rw [h1] at hk
  injection hk with hk
  omega
 have hi' : i < xss.length := by simp at hi; omega
 rw [g1 i (by omega)]
 rcases hw with h1 | h1
 ·exact h.ne i hi' k (h1 ▸ hk)
 intro e2
 have := (As (h.ints i hi') k e2).2
 rw [h1] at hk
 injection hk with hk
 omega
end
def BJ (xs : List Int) : List Int := xs.mergeSort fun x y => decide (x ≤ y)
theorem Ey (xs : List Int) : (BJ xs).length = xs.length := List.length_mergeSort xs
def clsL (arr : Nat → Nat) (p : Nat × Nat) : List Int := (List.range p.2).map fun j => ((arr (p.1 + j) : Nat) : Int)
theorem sortInts_ret {w : World} {base : Nat} {v : Value} {xs : List Int} (h : w.ownsRow base 3 1 v xs.length (xs.map (.int .i64))) (hne : 0 < xs.length) (hsm : xs.length ≤ 1000) :
 Ret Tryz.prog 82 #[v] w fun u w' => u = .tuple #[] ∧ w'.ownsRow base 3 1 v (BJ xs).length ((BJ xs).map (.int .i64)) ∧ Only (fun j => v.ownBlock = some j) w w' := by
 rcases h.2 with ⟨_, h0⟩ | ⟨g, cap, cur, rfl, hb, hg, h1, h2, h3, h4⟩
 ·omega
 have hcell : ∀ j (hj : j < xs.length), cur[j]? = some (.int .i64 xs[j]) := fun j hj => by
  have : (cur.toList.take (xs.length * 1))[j]? = some (.int .i64 xs[j]) := by rw [h4]; simp [hj]
  rw [List.getElem?_take] at this
  split at this
  ·rwa [Array.getElem?_toList] at this
  cases this
 have hH : Go.Sort.Holds (Value.int .i64) w g 0 xs.toArray := fun j hj => by
  have hj' : j < xs.length := by simpa using hj
  rw [Nat.zero_add]
  refine ⟨Am hg ?_, AT hg⟩
  rw [hcell j hj', getElem!_pos _ j hj]
  simp
 have hr := AnyM.slices_Sort_int GW g 0 cap xs w hH (Array.getElem?_eq_some_iff.1 hg).1 (by omega)
 refine Calls.mono hr ?_
 rintro e w' ⟨rfl, n, os, rfl⟩
 have hl := Ey xs
 refine ⟨_, rfl, rfl, ⟨by simp, .inr ⟨g, cap, Go.Sort.putCells (Value.int .i64) 0 (BJ xs).toArray cur, by rw [hl], hb, ?_, by rw [hl]; exact h1, h2, by rw [← h3]; simp [Go.Sort.putCells], ?_⟩⟩, ?_⟩
 ·show ((w.heap.modify g _) ++ os)[g]? = _
  rw [Array.getElem?_append_left (by rw [Array.size_modify]; exact (Array.getElem?_eq_some_iff.1 hg).1), Array.getElem?_modify, if_pos rfl, hg]
  rfl
 ·refine List.ext_getElem? fun j => ?_
  rw [List.getElem?_take, List.getElem?_map, Array.getElem?_toList]
  by_cases hj : j < xs.length
  ·rw [if_pos (by omega)]
   have hc : j < cur.size := by omega
   unfold Go.Sort.putCells
   rw [Array.getElem?_mapIdx, Array.getElem?_eq_getElem hc]
   have : j < (BJ xs).length := by omega
   simp [this]
  rw [if_neg (by omega), List.getElem?_eq_none (by omega)]; rfl
 refine ⟨rfl, rfl, rfl, ?_, fun j hj hn => ?_⟩
 ·show _ ≤ ((w.heap.modify g _) ++ os).size
  rw [Array.size_append, Array.size_modify]; omega
 show ((w.heap.modify g _) ++ os)[j]? = _
 rw [Array.getElem?_append_left (by rw [Array.size_modify]; exact hj), Array.getElem?_modify, if_neg (fun e => hn (by rw [e]; rfl))]
set_option maxHeartbeats 4000000
attribute [local irreducible] EC EL DL Ret thenQ blockQ Bf bodyQ onlyN execOp Sem.run World.cell? World.frozen? World.setCell World.alloc
theorem keep_ret {w : World} {B E Eb A : Nat} {L : Lay} {g : Gph} {arr : Nat → Nat} {P : List (Nat × Nat)} {pv : Value} (hg : GRep w B L g) (hE : GE E L g) (hEA : E ≤ A) (hEb : E ≤ Eb) (hA : BT w L A g.nv arr) (hn : g.nv ≤ 48)
 (harr : ∀ i, i < g.nv → arr i < g.nv) (hP : ∀ p ∈ P, 2 ≤ p.2 ∧ p.1 + p.2 ≤ g.nv) (hPl : P.length ≤ 1000) (hrow : w.ownsRow Eb 113 1 pv P.length (P.map (slV A (g.nv + 1)))) :
 Ret Tryz.prog 58 #[L.fp, pv] w fun v w' => v = .tuple #[] ∧ ∃ cv us, GRep w' B L { g with cl := cv } ∧ LLs w' w.heap.size cv us (P.map fun p => BJ (clsL arr p)) ∧ Only (fun j => j = L.fb) w w' := by
 refine ret_of_EC Tryz.func58 rfl rfl ?_
 obtain ⟨Bs, hBs⟩ : ∃ Bs, Bs = w.heap.size := ⟨_, rfl⟩
 rw [← hBs]
 have hEB : E ≤ Bs := by rw [hBs]; have := (Array.getElem?_eq_some_iff.1 hA).1; omega
 have hfb := hE.fb
 have hcl0 : w.cell? ⟨L.fb, 0 + 5, none⟩ = some g.cl := Am (hg.comp .fn) rfl
 refine Ae (Ac (Ab Ad rfl (Ab (Ax rfl) rfl (Ab (Ak rfl (Al rfl)) rfl (Bd (AV (v := .slice none 0 0) rfl rfl rfl (AM rfl) hcl0 (AT (hg.comp .fn))) rfl (Af (Aa ?_)))))))
 change EC _ _ _ _ _ (w.setCell ⟨L.fb, 0 + 5, none⟩ (.slice none 0 0))
 have hg1 := hg.setCl (.slice none 0 0)
 have hO1 : Only (fun j => j = L.fb) w (w.setCell ⟨L.fb, 0 + 5, none⟩ (.slice none 0 0)) := (Only.refl _ _).set _ rfl
 generalize w.setCell ⟨L.fb, 0 + 5, none⟩ (.slice none 0 0) = w1 at hg1 hO1 ⊢
 have hgn : ∀ W, Only (fun j => j = L.fb) w W → ∀ k, k < Bs → k ≠ L.fb → W.heap[k]? = w.heap[k]? := fun W h k hk hf => h.block k (by omega) hf
 have hAW : ∀ W, Only (fun j => j = L.fb) w W → BT W L A g.nv arr := fun W h => (h.block A (Array.getElem?_eq_some_iff.1 hA).1 (by omega)).trans hA
 have hrW : ∀ W, Only (fun j => j = L.fb) w W → W.ownsRow Eb 113 1 pv P.length (P.map (slV A (g.nv + 1))) := fun W h => Ay hrow fun k e => h.block k (As hrow k e).2 (by have := (As hrow k e).1; omega)
 obtain ⟨pa, pc, hpv⟩ := BH hrow
 subst hpv
 refine Ae (Ac (Ab Ad rfl (Ab (AP rfl (An rfl)) rfl (Ab Ad rfl (Af (Aa (Ao ?_)))))))
 refine EC_loop (fun m e w2 => ∃ k us cv, k ≤ P.length ∧ GRep w2 B L { g with cl := cv } ∧ LLs w2 Bs cv us ((P.take k).map fun p => BJ (clsL arr p)) ∧ Only (fun j => j = L.fb) w w2 ∧
  At e [(0, L.fp), (12, .slice pa P.length pc), (13, .int .i64 (P.length : Int)), (14, .int .i64 (k : Int))] ∧ m = P.length - k) P.length
  ⟨0, [], .slice none 0 0, Nat.zero_le _, hg1, ⟨World.ownsRow_nil _ _ _ _, rfl, fun i hi => (by simp at hi), fun i hi => (by simp at hi)⟩, hO1, Ar rfl ⟨rfl, rfl, rfl, rfl, trivial⟩, rfl⟩ ?_
 clear hg1 hO1 hcl0
 rintro m e w2 ⟨k, us, cv, hk, hg2, hL, hO, ⟨t, rfl⟩, rfl⟩
 refine Ae (Ac (Ab (AW rfl rfl) rfl (Af (Aa (Ae ?_)))))
 refine AG rfl rfl (fun hlt => ?_) (fun hge => ?_)
 rotate_left
 ·have hkp : k = P.length := by omega
  subst hkp
  rw [List.take_length] at hL
  refine AI (AB (AC (AA ?_)))
  exact BB rfl rfl ⟨rfl, cv, us, hg2, hL, hO⟩
 have hkp : k < P.length := by omega
 refine Aq (Aa ?_)
 have hrw2 := hrW w2 hO
 obtain ⟨gb, capb, e1, hgb, hgb2, _, hcell⟩ := row_form (w := w2) (base := Eb) (el := 113) (v := .slice pa P.length pc) (xs := P.map (slV A (g.nv + 1))) (by rw [List.length_map]; exact hrw2) (k := k) (by rw [List.length_map]; exact hkp)
 rw [List.length_map] at e1
 injection e1 with e1 _ e3
 subst e1
 subst e3
 obtain ⟨q, hq⟩ : ∃ q, q = P[k] := ⟨_, rfl⟩
 have hqP : q ∈ P := by rw [hq]; exact List.getElem_mem _
 rw [List.getElem_map, ← hq] at hcell
 obtain ⟨o, n⟩ := q
 have hcell : w2.cell? ⟨gb, 0 + k, none⟩ = some (.slice (some ⟨A, o, none⟩) n (g.nv + 1 - o)) := hcell
 have hon := hP _ hqP
 have hon2 : 2 ≤ n := hon.1
 have honv : o + n ≤ g.nv := hon.2
 refine Ae (Ao (Ae (Ac (Ab (x_index1 rfl rfl (An rfl) (by omega)) rfl (Ab (Ai rfl (Ag rfl) ‹_›) rfl ?_)))))
 refine Ab Ah rfl (Af (Aa (Ae (Ac (Ab Ah rfl (Af (Aa (BS [(0, L.fp), (12, .slice (some ⟨gb, 0, none⟩) P.length pc), (13, .int .i64 (P.length : Int)), (14, .int .i64 (k : Int)), (5, .slice (some ⟨A, o, none⟩) n (g.nv + 1 - o)), (6, .slice none 0 0)] rfl ⟨rfl, rfl, rfl, rfl, rfl, rfl, trivial⟩ fun t => ?_))))))))
 have hO2 := hO.size
 refine AX (fun e w3 => ∃ l, w3.ownsRow Bs 3 1 l n ((List.range n).map fun i => .int .i64 ((arr (o + i) : Nat) : Int)) ∧ (∀ q, l.ownBlock = some q → w2.heap.size ≤ q) ∧ Only (fun _ => False) w2 w3 ∧
  At e [(0, L.fp), (12, .slice (some ⟨gb, 0, none⟩) P.length pc), (13, .int .i64 (P.length : Int)), (14, .int .i64 (k : Int)), (6, l)]) ?_ ?_
 ·refine Ae (Ac (Ab Ad rfl (Ab (AP rfl (An rfl)) rfl (Ab Ad rfl (Af (Aa (Ao ?_)))))))
  refine EC_loop (fun m e w3 => ∃ j l, j ≤ n ∧ w3.ownsRow Bs 3 1 l j ((List.range j).map fun i => .int .i64 ((arr (o + i) : Nat) : Int)) ∧ (∀ q, l.ownBlock = some q → w2.heap.size ≤ q) ∧ Only (fun _ => False) w2 w3 ∧
   At e [(0, L.fp), (12, .slice (some ⟨gb, 0, none⟩) P.length pc), (13, .int .i64 (P.length : Int)), (14, .int .i64 (k : Int)), (6, l), (18, .slice (some ⟨A, o, none⟩) n (g.nv + 1 - o)), (19, .int .i64 (n : Int)), (20, .int .i64 (j : Int))] ∧ m = n - j) n
   ⟨0, .slice none 0 0, Nat.zero_le _, World.ownsRow_nil _ _ _ _, fun q hq => (by cases hq), Only.refl _ _, Ar rfl ⟨rfl, rfl, rfl, rfl, rfl, rfl, rfl, rfl, trivial⟩, rfl⟩ ?_
  rintro m e w3 ⟨j, l, hj, hl, hlf, hO3, ⟨t, rfl⟩, rfl⟩
  refine Ae (Ac (Ab (AW rfl rfl) rfl (Af (Aa (Ae ?_)))))
  refine AG rfl rfl (fun hlt => ?_) (fun hge => ?_)
  rotate_left
  ·have hjn : j = n := by omega
   subst hjn
   refine AI (AB (AC (AA ?_)))
   exact AU ⟨l, hl, hlf, hO3, Ar rfl ⟨rfl, rfl, rfl, rfl, rfl, trivial⟩⟩
  have hjn : j < n := by omega
  refine Aq (Aa ?_)
  have hOw3 := hO.trans (hO3.mono fun _ h => h.elim)
  have hv : arr (o + j) < g.nv := harr _ (by omega)
  have hg3 : GRep w3 B L { g with cl := cv } := hg2.keepE (hE.cl cv) fun q hq => hO3.block q (by omega) (fun h => h)
  have hid : w3.cell? ⟨L.vb (arr (o + j)), 0 + 0, none⟩ = some (.int .i32 (((arr (o + j) : Nat) : Int) + 1)) := hg3.vID (i := arr (o + j)) hv
  have hca : w3.cell? ⟨A, o + j, none⟩ = some (L.vp (arr (o + j))) := Am (hAW w3 hOw3) (by rw [A7 _ (by omega)]; unfold arV; rw [if_pos (by omega)])
  refine Ae (Ao (Ae (Ac (Ab (x_index1 rfl rfl (An rfl) (by omega)) rfl (Ab (Ai rfl (Ag rfl) ‹_›) rfl ?_)))))
  refine Ab Ah rfl (Af (Aa (Ac (Ab Ad rfl (Ab Ad rfl (Ab (Ax rfl) rfl (Ab (Ak rfl (Al rfl)) rfl (Ab (Ai rfl (Ag rfl) ‹_›) rfl ?_))))))))
  refine Ab (C0 (m := ((arr (o + j) : Nat) : Int) + 1) rfl (by kernel_rfl) (CO rfl) (IntWalk.i64_in _ (by omega))) rfl (Ab (Cd rfl rfl (by omega)) rfl ?_)
  rw [show ((arr (o + j) : Nat) : Int) + 1 - 1 = ((arr (o + j) : Nat) : Int) by omega]
  refine Ab (Bo (v := .int .i64 ((arr (o + j) : Nat) : Int)) rfl rfl Tryz.underlying35 (by kernel_rfl) (z := .int .i64 0) rfl) rfl ?_
  have hs3 := hO3.size
  refine el_new0 (.cells #[.int .i64 ((arr (o + j) : Nat) : Int)] 3) fun w5 hN5 hO5 hZ5 hB5 hK5 => ?_
  have hl5 := Ay hl (w' := w5) fun q e => hO5 q (As hl q e).2
  refine By hl5 (Am hN5 rfl) rfl (by omega) (by decide) (by omega) Tryz.underlying35 Cn rfl rfl rfl rfl ?_
  intro l6 w6 hrow6 hgr6 hwh6
  have hO6 : Only (fun _ => False) w2 w6 := (hO3.bel hs3 hB5).grow hgr6 fun q hq => hlf q hq
  refine Ab Ah rfl (Af (Ap (Aa (Ac (Ab (x_inc rfl rfl (by omega)) rfl (Ab Ad rfl (Af ?_)))))))
  refine Av (n - (j + 1)) (by omega) ⟨j + 1, l6, by omega, ?_, fun q hq => ?_, hO6, Ar rfl ⟨rfl, rfl, rfl, rfl, rfl, rfl, rfl, rfl, trivial⟩, rfl⟩
  ·rw [List.range_succ, List.map_append]
   exact hrow6
  rcases hwh6 with h1 | h1
  ·exact hlf q (h1 ▸ hq)
  rw [h1] at hq
  injection hq with hq
  omega
 rintro e w3 ⟨l, hl, hlf, hO3, ⟨t, rfl⟩⟩
 have hs3 := hO3.size
 have hlc : w3.ownsRow Bs 3 1 l (clsL arr (o, n)).length ((clsL arr (o, n)).map (.int .i64)) := by
  have e1 : (clsL arr (o, n)).length = n := by simp [clsL]
  have e2 : (clsL arr (o, n)).map (Value.int .i64) = (List.range n).map fun i => .int .i64 ((arr (o + i) : Nat) : Int) := by simp [clsL, List.map_map, Function.comp_def]
  rw [e1, e2]; exact hl
 have hcl : (clsL arr (o, n)).length = n := by simp [clsL]
 refine Ae (Ac (Ab Ad rfl (Bg (AH Tryz.func82 rfl rfl rfl rfl) rfl (sortInts_ret hlc (by omega) (by omega)) ?_)))
 rintro _ w4 ⟨rfl, hl4, hO4⟩
 refine Af (Aa ?_)
 have hb4 : Below w2.heap.size w3 w4 := hO4.below hs3 fun q hq => hlf q hq
 have hs4 := hb4.size
 have hk4 : ∀ q, q < w2.heap.size → w4.heap[q]? = w2.heap[q]? := fun q hq => (hb4.block q hq).trans (hO3.block q hq fun h => h)
 have hg4 : GRep w4 B L { g with cl := cv } := hg2.keepE (hE.cl cv) fun q hq => hk4 q (by omega)
 have hL4 := hL.on (w' := w4) fun q _ hq => hk4 q hq
 have hcv4 : w4.cell? ⟨L.fb, 0 + 5, none⟩ = some cv := Am (hg4.comp .fn) rfl
 have hOw4 : Only (fun j => j = L.fb) w w4 := (hO.trans (hO3.mono fun _ h => h.elim)).bel (by omega) hb4
 refine Ac (Ab Ad rfl (Ab Ad rfl (Ab (Ax rfl) rfl (Ab (Ak rfl (Al rfl)) rfl (Ab (Ai rfl (Ag rfl) ‹_›) rfl ?_)))))
 refine Ab Ad rfl (Ab (Bo (v := l) rfl (Bn hl4) Tryz.underlying33 (by kernel_rfl) (z := .slice none 0 0) rfl) rfl ?_)
 have hul := hL.len
 rw [List.length_map, List.length_take] at hul
 refine el_new0 (.cells #[l] 35) fun w5 hN5 hO5 hZ5 hB5 hK5 => ?_
 have hL5 := hL4.on (w' := w5) fun q _ hq => hO5 q hq
 have hg5 : GRep w5 B L { g with cl := cv } := hg4.on hB5
 have hl5 := Ay hl4 (w' := w5) fun q e => hO5 q (As hl4 q e).2
 refine By hL5.row (Am hN5 rfl) (Bn hl4) (by omega) (by decide) (by omega) Tryz.underlying33 F1 rfl rfl rfl rfl ?_
 intro v6 w6 hrow6 hgr6 hwh6
 have hvb : ∀ q, cv.ownBlock = some q → Bs ≤ q ∧ q < w2.heap.size := fun q hq => As hL.row q hq
 have hL6 := hL5.push hl5 (fun q hq e => by have := hvb q hq; have := hlf q e; omega) hrow6 hgr6 hwh6
 have hg6 : GRep w6 B L { g with cl := cv } := hg5.keepE (hE.cl cv) fun q hq => hgr6.block q (by omega) fun e => by have := hvb q e.symm; omega
 have hOw6 : Only (fun j => j = L.fb) w w6 := (hOw4.bel (by omega) hB5).grow hgr6 fun q hq => by have := hvb q hq; omega
 refine Ab (Ax rfl) rfl (Ab (Ak rfl (Al rfl)) rfl (Bd (AV (v := v6) rfl rfl (Bn hrow6) (AM rfl) (old := cv) (Am (hg6.comp .fn) rfl) (AT (hg6.comp .fn))) rfl (Af (Ap (Aa ?_)))))
 change EC _ _ _ _ _ (w6.setCell ⟨L.fb, 0 + 5, none⟩ v6)
 have hg7 := hg6.setCl v6
 have hO7 := hOw6.set (s := L.fb) (o := 0 + 5) v6 rfl
 have hL7 := hL6.on (w' := w6.setCell ⟨L.fb, 0 + 5, none⟩ v6) fun q hq _ => Below.heap_setCell _ _ _ _ (show q ≠ L.fb by omega)
 generalize w6.setCell ⟨L.fb, 0 + 5, none⟩ v6 = w7 at hg7 hO7 hL7 ⊢
 refine Ac (Ab (x_inc rfl rfl (by omega)) rfl (Ab Ad rfl (Af ?_)))
 refine Av (P.length - (k + 1)) (by omega) ⟨k + 1, us ++ [l], v6, by omega, hg7, ?_, hO7, Ar rfl ⟨rfl, rfl, rfl, rfl, trivial⟩, rfl⟩
 rw [List.take_add_one, List.getElem?_eq_getElem hkp, ← hq, List.map_append]
 exact hL7
end Go.Proofs.YteepnepebilckaaGreatDoor
namespace Go.Eng
open Go Go.RowKit
section
variable {P : Program}
def Ec (P : Program) (w : World) (D : Deferred) : Prop := ∃ fv cap f args, D.target = .fn fv cap ∧ (∀ w, (invoke D.target D.args).run P w = .ok (.enter f args) w) ∧
 ∀ u w', Below w.heap.size w w' → CallsD P f args u w' fun e u' w'' => u' = u ∧ ∃ v, e = .returned v ∧ Below w'.heap.size w' w''
theorem Idle.at {D : Deferred} (h : Idle P D) (w : World) : Ec P w D := by
 obtain ⟨fv, cap, f, args, h1, h2, h3⟩ := h
 exact ⟨fv, cap, f, args, h1, h2, fun u w' _ => h3 u w'⟩
theorem leaves_idleW {fn : Func} {tmps : Array Value} {R : Ending → World → Prop} {w0 : World} : ∀ (ds : List Deferred), (∀ D ∈ ds, Ec P w0 D) → ∀ w, Below w0.heap.size w0 w → (∀ w', Below w.heap.size w w' → ∃ v, (results fn tmps).run P w' = .ok v w' ∧ R (.returned v) w') → Leaves P fn tmps R ds .returning w
 | [], _, w, _, h => h w (Below.refl _ _)
 | D :: ds, hd, w, h0, h => by
   obtain ⟨fv, cap, f, args, h1, h2, h3⟩ := hd D (.head _)
   refine ⟨by simp, fv, cap, f, args, h1, h2 w, (h3 .returning w h0).mono ?_⟩
   rintro e u' w' ⟨rfl, v, rfl, hb⟩
   exact leaves_idleW ds (fun D hD => hd D (.tail _ hD)) w' (h0.trans (hb.mono h0.size)) fun w'' hb' => h w'' (hb.trans (hb'.mono hb.size))
def bodyQW (P : Program) (fn : Func) (S : Value → World → Prop) : Exit → Env → World → Prop
 | .normal, e, w | .ret, e, w => (∀ D ∈ e.d, Ec P w D) ∧ ∃ v, ∀ w', Below w.heap.size w w' → (∀ a, Rep fn.ntmps e a → (results fn a.tmps).run P w' = .ok v w') ∧ S v w'
 | _, _, _ => False
theorem ret_of_EC_W {w : World} {f : FuncId} {fn : Func} {c : Code} {l : List Value} {S : Value → World → Prop} (hf : P.funcs[f]? = some fn) (hb : fn.body = some c) (hl : Nat.ble l.length fn.ntmps = true)
 (h : EC P fn.ntmps c (bodyQW P fn S) ⟨env0 l 0, []⟩ w) : Ret P f l.toArray w S := by
 have hl' : l.length ≤ fn.ntmps := Nat.le_of_ble_eq_true hl
 refine calls_of_wp_defers hf hb (h _ _ ⟨?_, rfl, fun k hk => ?_⟩ ?_)
 ·simp; omega
 ·show _ = env0 l 0 k
  rw [env0_spec l 0 k (Nat.zero_le _), Array.getD_eq_getD_getElem?, Array.getElem?_append]
  by_cases hkl : k < l.length
  ·simp [hkl]
  rw [if_neg (by simpa using hkl)]
  simp only [List.size_toArray, Nat.sub_zero]
  rw [List.getElem?_eq_none (by omega)]
  simp [show k - l.length < fn.ntmps - l.length by omega]
 intro x e' a' w' hr' hx
 cases x with
 | normal =>
   obtain ⟨hd, v, hv⟩ := hx
   show Leaves P fn a'.tmps _ a'.defers .returning w'
   rw [hr'.d]
   exact leaves_idleW _ hd w' (Below.refl _ _) fun w'' hb' => ⟨v, (hv w'' hb').1 a' hr', v, rfl, (hv w'' hb').2⟩
 | ret =>
   obtain ⟨hd, v, hv⟩ := hx
   show Leaves P fn a'.tmps _ a'.defers .returning w'
   rw [hr'.d]
   exact leaves_idleW _ hd w' (Below.refl _ _) fun w'' hb' => ⟨v, (hv w'' hb').1 a' hr', v, rfl, (hv w'' hb').2⟩
 | exit i => exact hx.elim
 | goto l => exact hx.elim
 | panic ch => exact hx.elim
 | outgrown => exact hx.elim
theorem Fb {w : World} {fn : Func} {e : Env} {S : Value → World → Prop} (hres : fn.results = #[]) (hd : ∀ D ∈ e.d, Ec P w D) (h : ∀ w', Below w.heap.size w w' → S (.tuple #[]) w') : bodyQW P fn S .normal e w :=
 ⟨hd, _, fun w' hb => ⟨fun a _ => by rw [results_none hres], h w' hb⟩⟩
end
end Go.Eng
namespace Go.Proofs.YteepnepebilckaaGreatDoor
open Go Go.Eng Go.RowKit Go.Shelf
def dropC : Nat → Code → Code
 | 0, c => c
 | n + 1, .seq _ b => dropC n b
 | _ + 1, c => c
noncomputable def BW : Code := Tryz.f41.body.getD .skip
section
variable {w : World} {ρ : Operand → Value} {d : Option Tmp} {ty : TypeId} {pos : String} {af : Array Edge} {g : Option (Nat × Bool)} {x y z : Operand} {r c b : Nat}
theorem FS (hx : ρ x = .map (some r)) (hy : ρ y = .pointer none) (h : w.heap[r]? = some (.map #[] c)) : (execOp ρ ⟨d, .lookup 80 x y false, ty, pos, af, g⟩).run Tryz.prog w = .ok (.value (.int .i32 0)) w := by
 have k0 : (getObj r).run Tryz.prog w = .ok (.map #[] c) w := by simp [getObj, Sem.run, h]
 have k1 : (Instr.checkKey true 10000 98 (.pointer none)).run Tryz.prog w = .ok () w := by kernel_rfl
 have k2 : (Instr.findKey 98 (.pointer none) []).run Tryz.prog w = .ok none w := by kernel_rfl
 have k3 : (zeroValue 21).run Tryz.prog w = .ok (.int .i32 0) w := by kernel_rfl
 simp [execOp, hx, hy, Instr.lookup, run_underlying Tryz.underlying80, k0, k1, k2, k3, Sem.run_bind]
theorem FX (hx : ρ x = .map (some r)) (hy : ρ y = .pointer none) (h : w.heap[r]? = some (.map #[⟨.pointer none, .int .i32 1, b⟩] c)) : (execOp ρ ⟨d, .lookup 80 x y false, ty, pos, af, g⟩).run Tryz.prog w = .ok (.value (.int .i32 1)) w := by
 have k0 : (getObj r).run Tryz.prog w = .ok (.map #[⟨.pointer none, .int .i32 1, b⟩] c) w := by simp [getObj, Sem.run, h]
 have k1 : (Instr.checkKey false 10000 98 (.pointer none)).run Tryz.prog w = .ok () w := by kernel_rfl
 have k2 : (Instr.findKey 98 (.pointer none) [⟨.pointer none, .int .i32 1, b⟩]).run Tryz.prog w = .ok (some (0, .int .i32 1)) w := by kernel_rfl
 simp [execOp, hx, hy, Instr.lookup, run_underlying Tryz.underlying80, k0, k1, k2, Sem.run_bind]
theorem F4 (hx : ρ x = .map (some r)) (h : w.heap[r]? = some (.map #[] c)) : (execOp ρ ⟨d, .call { callee := .builtin .len, args := #[x], argTypes := #[80] }, ty, pos, af, g⟩).run Tryz.prog w = .ok (.value (.int .i64 0)) w := by
 have k0 : (getObj r).run Tryz.prog w = .ok (.map #[] c) w := by simp [getObj, Sem.run, h]
 have key : (Builtin.len_ #[80] ty #[.map (some r)]).run Tryz.prog w = .ok (.int .i64 0) w := by
  simp [Builtin.len_, run_underlying Tryz.underlying80, k0, Sem.run_bind]
  rfl
 unfold execOp
 simp only [resolve, invoke, builtin, Sem.run_bind, Sem.run_pure, Result.andThen_ok, List.map_toArray, List.map_cons, List.map_nil, hx, key]
theorem Gw (hx : ρ x = .map (some r)) (hy : ρ y = .pointer none) (hz : ρ z = .int .i32 1) (h : w.heap[r]? = some (.map #[] c)) :
 (execOp ρ ⟨none, .mapUpdate 80 x y z, ty, pos, af, g⟩).run Tryz.prog w = .ok .skip { w with heap := w.heap.setIfInBounds r (.map #[⟨.pointer none, .int .i32 1, c⟩] (c + 1)) } := by
 have k0 : (getObj r).run Tryz.prog w = .ok (.map #[] c) w := by simp [getObj, Sem.run, h]
 have k9 : (setObj r (.map #[⟨.pointer none, .int .i32 1, c⟩] (c + 1))).run Tryz.prog w = .ok () { w with heap := w.heap.setIfInBounds r (.map #[⟨.pointer none, .int .i32 1, c⟩] (c + 1)) } := by simp [setObj, Sem.run, h]
 have k1 : (Instr.checkKey false 10000 98 (.pointer none)).run Tryz.prog w = .ok () w := by kernel_rfl
 have k2 : (Instr.findKey 98 (.pointer none) []).run Tryz.prog w = .ok none w := by kernel_rfl
 simp [execOp, hx, hy, hz, Instr.mapUpdate, run_underlying Tryz.underlying80, k0, k1, k2, Sem.run_bind, k9]
theorem FK : (execOp ρ ⟨d, .makeMap 80 none, ty, pos, af, g⟩).run Tryz.prog w = .ok (.value (.map (some w.heap.size))) (w.alloc (.map #[] 0)) := by
 simp [execOp, run_makeMap]
theorem GH (hx : ρ x = .map none) (hy : ρ y = .map none) {u : TypeId} : (execOp ρ ⟨d, .binOp .eql 80 x y u, ty, pos, af, g⟩).run Tryz.prog w = .ok (.value (.bool true)) w := by
 have key : (Op.equal 80 (.map none) (.map none)).run Tryz.prog w = .ok true w := by kernel_rfl
 simp [execOp, hx, hy, eqGuard, binOp, key]
theorem Gs {f : FuncId} {cb : Array Value} (hx : ρ x = .func (.func f) #[] cb) : (execOp ρ ⟨none, .defer { callee := .value x, args := #[], argTypes := #[] }, ty, pos, af, g⟩).run Tryz.prog w = .ok (.defer ⟨.fn (.func f) cb, #[]⟩) w := by
 simp [execOp, resolve, Deferred.ofValue, hx]
theorem x_appRoom {P : Program} {t el : TypeId} {zv : Value} {bytes A n M q : Nat} {R : Nat → Value} {u : Value} (ht : P.underlying t = some (.slice el)) (hi : (P.info? el).map (fun i => (i.zero, i.size, i.bytes)) = some (some zv, 1, bytes))
 (hx : ρ x = .slice (some ⟨A, 0, none⟩) n M) (hg : w.heap[A]? = some (.cells (cellsOf R M) el (0, 0))) (hy : ρ y = .slice (some ⟨q, 0, none⟩) 1 1) (hu : w.cell? ⟨q, 0, none⟩ = some u) (h1 : u.oneCell' = true) (hn : n < M) :
 ∃ w', (execOp ρ ⟨d, .call { callee := .builtin .append, args := #[x, y], argTypes := #[t, t] }, ty, pos, af, g⟩).run P w = .ok (.value (.slice (some ⟨A, 0, none⟩) (n + 1) M)) w' ∧
   w'.heap[A]? = some (.cells (cellsOf (fun i => if i = n then u else R i) M) el (0, 0)) ∧ Only (fun j => j = A) w w' := by
 obtain ⟨i, hi1, _, hi3, _⟩ := info_parts hi
 have hr := run_append_room (P := P) w t ty el i ht hi1 A n M (cellsOf R M) hg ⟨q, 0, none⟩ 1 1 [u] (by rw [hi3]; rfl) (fun j y hj => by
  cases j with
  | zero => simp at hj; subst hj; simpa [Addr.add] using hu
  | succ j => simp at hj) (fun y hy => by simp at hy; subst hy; exact h1) (by omega) (by rw [hi3, Cg]; simp; omega)
 have hA := (Array.getElem?_eq_some_iff.1 hg).1
 have hcells : (List.take (n * i.size) (cellsOf R M).toList ++ [u] ++ List.drop (n * i.size + [u].length) (cellsOf R M).toList).toArray = cellsOf (fun i => if i = n then u else R i) M := by
  rw [hi3, Nat.mul_one]
  unfold cellsOf
  congr 1
  refine List.ext_getElem? fun k => ?_
  rw [List.append_assoc]
  by_cases h1 : k < n
  ·rw [List.getElem?_append_left (by simp; omega), List.getElem?_take, if_pos h1]
   simp [List.getElem?_range (show k < M by omega), show k ≠ n by omega]
  have hl : (List.take n ((List.range M).map R)).length = n := by simp; omega
  rw [List.getElem?_append_right (by rw [hl]; omega), hl]
  by_cases h2 : k = n
  ·subst h2
   simp [hn]
  obtain ⟨m, hm⟩ : ∃ m, k - n = m + 1 := ⟨k - n - 1, by omega⟩
  rw [hm]
  simp only [List.cons_append, List.nil_append, List.getElem?_cons_succ, List.getElem?_drop, List.length_singleton]
  rw [show n + 1 + m = k by omega]
  by_cases hk : k < M
  ·simp [List.getElem?_range hk, h2]
  simp [hk]
 refine ⟨w.setRow A (cellsOf (fun i => if i = n then u else R i) M), ?_, setRow_heap w A _ _ _ _ hg, ⟨rfl, rfl, rfl, by simp [World.setRow], fun j hj hn => setRow_other w A j _ hn⟩⟩
 unfold execOp
 simp only [resolve, invoke, builtin, Sem.run_bind, Sem.run_pure, Result.andThen_ok, List.map_toArray, List.map_cons, List.map_nil, hx, hy]
 rw [hr, hcells]
 rfl
end
end Go.Proofs.YteepnepebilckaaGreatDoor
