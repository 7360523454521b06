/- For every input in which the opcode table reads as laid the law FnPartitionMost returns true, and its argument reads as it did, the table being tied to the text of the program. -/
import Derived.Test.YteepnepebilckaaGreatDoorCT26
namespace Go.Eng
open Go Go.RowKit
section
variable {P : Program} {N : Nat} {l : List Oper} {e0 : Env} {Qx : Exit → Act → World → Prop}
theorem draw_defer {p : List (Nat × Value)} {c : Nat} {w : World} {op : Op} {ty : TypeId} {pos : String} {af : Array Edge} {D : Deferred} (ok : Ok N l (noF (p.map (·.1) ++ [c]))) (hlast : ∀ x ∈ p, Anc l x.1 c) (ho : nthO l c = ⟨none, op, ty, pos, af, none⟩)
 (hx : (execOp (runE l e0 p).ev ⟨none, op, ty, pos, af, none⟩).run P w = .ok (.defer D) w) (hQ : ∀ a, Rep N ⟨(runE l e0 p).t, D :: (runE l e0 p).d⟩ a → Qx .normal a w)
 (hpend : ∀ p1 i v p2, p = p1 ++ (i, v) :: p2 → Co P l (runE l e0 p1) i w v) : ∀ (fuel : Nat) (listed : Array Bool) (a : Act),
 left listed ≤ fuel → (∀ i, isL listed i = true → i ∈ p.map (·.1)) → listed.size = l.length → (∀ i, isL listed i = true → ∀ j ∈ edges (nthO l i), isL listed j = true) → Rep N (runE l e0 (p.filter fun x => isL listed x.1)) a →
  wpAny P .any l.toArray Qx fuel listed a w := by
 have hnd := ok.nodup
 rw [noF_fst] at hnd
 have hcl : c < l.length := ok.lt (c, false) (List.mem_map.2 ⟨c, by simp, rfl⟩)
 have hcp : c ∉ p.map (·.1) := fun h => (List.nodup_append.1 hnd).2.2 c h c (by simp) rfl
 intro fuel
 induction fuel with
 | zero =>
   intro listed a hf hsub hsize _ _
   exact absurd (hsub c (CV (by omega) (by rw [hsize]; exact hcl))) hcp
 | succ fuel ih =>
   intro listed a hf hsub hsize hclosed hrep
   refine ⟨fun hr => ?_, fun i hi => ?_⟩
   ·exact absurd (hsub c (St.stuck ok hsize hr c (by rw [noF_fst]; simp))) hcp
   obtain ⟨hil, hiL, hir⟩ := (mem_ready hsize).1 hi
   have hsz : i < listed.size := by rw [hsize]; exact hil
   have hleft := D4 hsz hiL
   obtain ⟨okO', okG'⟩ := ok.ok i hil
   have hset : ∀ j, isL (listed.setIfInBounds i true) j = (Nat.beq j i || isL listed j) := fun j => DG hsz
   have hclosed' : ∀ k, isL (listed.setIfInBounds i true) k = true → ∀ j ∈ edges (nthO l k), isL (listed.setIfInBounds i true) j = true := by
    intro k hk j hj
    rw [hset] at hk ⊢
    simp only [Bool.or_eq_true] at hk ⊢
    rcases hk with hk | hk
    ·right; rw [beq_true hk] at hj; exact hir j hj
    right; exact hclosed k hk j hj
   have hiπ : i ∈ p.map (·.1) ++ [c] := by
    have := ok.full i hil
    rw [noF_fst] at this; exact this
   by_cases hip : i ∈ p.map (·.1)
   ·obtain ⟨x, hx', hxi⟩ := List.mem_map.1 hip
    obtain ⟨p1, p2, hp⟩ := List.append_of_mem hx'
    obtain ⟨i', v⟩ := x
    dsimp only at hxi
    subst hxi
    have hd := hpend p1 i' v p2 hp
    have hn : i' ∉ p1.map (·.1) ∧ i' ∉ p2.map (·.1) := by
     have h1 := (List.nodup_append.1 hnd).1
     rw [hp, List.map_append, List.map_cons] at h1
     refine ⟨fun h => (List.nodup_append.1 h1).2.2 i' h i' (by simp) rfl, ?_⟩
     exact (List.nodup_cons.1 (List.nodup_append.1 h1).2.1).1
    have hlook : ∀ t ∈ names l (nthO l i'), (p.filter fun x => isL listed x.1).filter (fun x => (nthO l x.1).dst == some t) = p1.filter (fun x => (nthO l x.1).dst == some t) := by
     intro t ht
     refine CU (p2 := (i', v) :: p2) (s := noF [c]) ok hp (.inl ?_) ?_ hil hclosed hiL hir t ht
     ·rw [noF_fst, noF_fst, hp]; simp
     intro x hx
     rcases List.mem_cons.1 hx with rfl | hx
     ·exact .inl rfl
     right; simp; exact ⟨_, hx⟩
    have hd' : Co P l (runE l e0 (p.filter fun x => isL listed x.1)) i' w v :=
     Dv okO' (fun t ht => (B6 l t _ _ e0 (hlook t (by unfold names; exact List.mem_append_right _ ht))).symm) hd
    refine Dw hil okO' okG' hrep hd' (ih _ _ (by omega) (fun k hk => ?_) (by simp [hsize]) hclosed' ?_)
    ·rw [hset] at hk
     simp only [Bool.or_eq_true] at hk
     rcases hk with hk | hk
     ·rw [beq_true hk]; exact hip
     exact hsub k hk
    refine Es hiL hsz hrep ?_ ⟨p1, p2, hp, hn⟩
    intro q1 q2 hq t htd x hx hxd
    have hqq : q1 = p1 ∧ q2 = p2 := by
     have h1 : p1 ++ (i', v) :: p2 = q1 ++ (i', v) :: q2 := by rw [← hp, hq]
     rcases List.append_eq_append_iff.1 h1 with ⟨r, hr1, hr2⟩ | ⟨r, hr1, hr2⟩
     ·cases r with
      | nil => simp at hr1 hr2; exact ⟨hr1, hr2.symm⟩
      | cons y r =>
        simp at hr2
        exfalso
        apply hn.2
        rw [hr2.2]; simp
     cases r with
     | nil => simp at hr1 hr2; exact ⟨hr1.symm, hr2⟩
     | cons y r =>
       simp at hr2
       exfalso
       apply hn.1
       rw [hr1, ← hr2.1]; simp
    rw [hqq.2] at hx
    have hf := hlook t (by unfold names; rw [htd]; simp)
    cases hLx : isL listed x.1 with
    | false => rfl
    | true =>
      exfalso
      have hm : x ∈ (p.filter fun x => isL listed x.1).filter (fun x => (nthO l x.1).dst == some t) := by
       rw [List.mem_filter, List.mem_filter]
       exact ⟨⟨by rw [hp]; simp [hx], hLx⟩, by simp [hxd]⟩
      rw [hf, List.mem_filter] at hm
      have h1 := (List.nodup_append.1 hnd).1
      rw [hp, List.map_append, List.map_cons] at h1
      exact (List.nodup_append.1 h1).2.2 x.1 (List.mem_map.2 ⟨x, hm.1, rfl⟩) x.1 (by simp; right; exact ⟨_, hx⟩) rfl
   have hic : i = c := by
    rcases List.mem_append.1 hiπ with h | h
    ·exact absurd h hip
    simpa using h
   subst hic
   have hall : ∀ x ∈ p, isL listed x.1 = true := fun x hx => CB hclosed (hlast x hx) hir
   rw [Dh hall] at hrep
   have hfin : ∀ a', Rep N ⟨(runE l e0 p).t, D :: (runE l e0 p).d⟩ a' → wpAny P .any l.toArray Qx fuel (listed.setIfInBounds i true) a' w := by
    intro a' hr'
    have hallL : ∀ j, j < l.length → isL (listed.setIfInBounds i true) j = true := fun j hj => by
     rw [hset]
     have := ok.full j hj
     rw [noF_fst] at this
     rcases List.mem_append.1 this with h | h
     ·obtain ⟨x, hx, rfl⟩ := List.mem_map.1 h
      rw [hall x hx]; simp
     have : j = i := by simpa using h
     rw [this, Nat.beq_refl]; rfl
    have hnone : Region.ready .any l.toArray (listed.setIfInBounds i true) = [] := by
     cases hr : Region.ready .any l.toArray (listed.setIfInBounds i true) with
     | nil => rfl
     | cons j r =>
       exfalso
       have hm : j ∈ Region.ready .any l.toArray (listed.setIfInBounds i true) := by rw [hr]; simp
       obtain ⟨hjl, hjL, _⟩ := (mem_ready (by simp [hsize])).1 hm
       rw [hallL j hjl] at hjL; cases hjL
    cases fuel with
    | zero => exact ⟨hnone, hQ a' hr'⟩
    | succ f => exact ⟨fun _ => hQ a' hr', fun j hj => by rw [hnone] at hj; cases hj⟩
   have hw : Region.wanted (nthO l i) (yielded l.toArray a.tmps) = true := by rw [ho]; rfl
   unfold wpOp
   rw [C3 hil]
   dsimp only
   rw [hw, if_pos rfl]
   refine .inl ?_
   unfold Oper.wp
   rw [hrep.exec okO', ho, hx]
   simp only [Oper.upon]
   exact hfin _ ⟨hrep.size, by show D :: a.defers = D :: _; rw [hrep.d], hrep.t⟩
theorem peelR {S : World → Prop} {Q : Env → World → Prop} {w : World} : ∀ (π : List Nat) (e : Env), DL P l S Q (noF π) e w → ∃ q : List (Nat × Value), q.map (·.1) = π ∧ Q (runE l e q) w ∧ ∀ q1 i v q2, q = q1 ++ (i, v) :: q2 → ∀ w', S w' → Co P l (runE l e q1) i w' v
 | [], e, h => ⟨[], rfl, h, by simp⟩
 | i :: π, e, h => by
   obtain ⟨v, hv, hr⟩ := h
   obtain ⟨q, h1, h2, h3⟩ := peelR π _ hr
   refine ⟨(i, v) :: q, by simp [h1], h2, ?_⟩
   intro q1 i' v' q2 hq w' hw'
   cases q1 with
   | nil =>
     simp at hq
     obtain ⟨⟨rfl, rfl⟩, _⟩ := hq
     exact hv w' hw'
   | cons y q1 =>
     simp at hq
     obtain ⟨rfl, hq⟩ := hq
     exact h3 q1 i' v' q2 hq w' hw'
theorem Gl {id : Nat} {Q : Exit → Env → World → Prop} {e : Env} {w : World} (hm : P.follows .mixedOrders = true) (π : List Nat) (c : Nat) (hc : chk N l (noF (π ++ [c])) = true) (hl : (π.all fun x => ((bits l).getD c 0).testBit x) = true)
 (h : DL P l (fun w' => w' = w.drew) (fun e1 w1 => ∃ op ty pos af D, nthO l c = ⟨none, op, ty, pos, af, none⟩ ∧ (execOp e1.ev ⟨none, op, ty, pos, af, none⟩).run P w1 = .ok (.defer D) w1 ∧ Q .normal ⟨e1.t, D :: e1.d⟩ w1) (noF π) e w.drew) :
 EC P N (.region id l.toArray true) Q e w := by
 intro Qx a hr hq
 refine wp_region_any hm ?_
 obtain ⟨q, h1, ⟨op, ty, pos, af, D, h2, h3, h4⟩, h5⟩ := peelR π _ h
 have hrep : ∀ i, isL (Array.replicate l.toArray.size false) i = false := by
  intro i
  unfold isL
  rw [Array.getD_eq_getD_getElem?, Array.getElem?_replicate]
  split <;> rfl
 rw [List.all_eq_true] at hl
 refine draw_defer (e0 := e) (p := q) (c := c) (by rw [h1]; exact ok_of_chk hc) (fun x hx => BN l _ _ (hl _ (by rw [← h1]; exact List.mem_map.2 ⟨x, hx, rfl⟩))) h2 h3 (fun a' ha => hq _ _ _ _ ha h4) (fun p1 i v p2 hp => h5 p1 i v p2 hp _ rfl) _ _ _ ?_ (fun i hi => ?_) (by simp) (fun i hi => ?_) ?_
 ·unfold left
  refine Nat.le_trans (List.length_filter_le _ _) ?_
  simp
 ·rw [hrep] at hi; cases hi
 ·rw [hrep] at hi; cases hi
 rw [BZ (fun x _ => hrep x.1)]
 exact hr
end
end Go.Eng
namespace Go.Proofs.YteepnepebilckaaGreatDoor
open Go Go.Eng Go.RowKit Go.Shelf
def D53 (VE n : Nat) : Deferred := ⟨.fn (.func 53) #[], #[.agg #[], .slice (some ⟨VE, 0, none⟩) n n]⟩
structure Bl where
 (E Eb A fbx abx vbx VE : Nat)
structure Bl.Ok (b : Bl) : Prop where
 e : b.E ≤ b.A ∧ b.E ≤ b.fbx ∧ b.E ≤ b.abx ∧ b.E ≤ b.vbx ∧ b.E ≤ b.VE
 n1 : b.A ≠ b.fbx ∧ b.A ≠ b.abx ∧ b.A ≠ b.vbx ∧ b.A ≠ b.VE
 n2 : b.fbx ≠ b.abx ∧ b.fbx ≠ b.vbx ∧ b.fbx ≠ b.VE ∧ b.abx ≠ b.vbx ∧ b.abx ≠ b.VE ∧ b.vbx ≠ b.VE
 hi : b.A < b.Eb ∧ b.fbx < b.Eb ∧ b.abx < b.Eb
set_option maxHeartbeats 4000000
attribute [local irreducible] EC EL DL Ret thenQ blockQ Bf bodyQ onlyN execOp Sem.run World.cell? World.frozen? World.setCell World.alloc
theorem cseA3 {w w0 : World} {B fbx abx A r E : Nat} {L : Lay} {g : Gph} {Q : Exit → Env → World → Prop} {t : Nat → Value} (hg : GRep w B L g) (ham : g.am = .map (some r)) (hE : GE E L g) (hn : g.nv ≤ 48) (hfE : E ≤ fbx) (haE : E ≤ abx) (hAE : E ≤ A)
 (hne : fbx ≠ abx ∧ fbx ≠ A ∧ abx ≠ A) (hfb : w.heap[fbx]? = some (.cells #[L.fp] 71 (0, 0))) (hG : GS w0 w L g.nv abx A r (preK g g.nb)) (hperm : (preK g g.nb).Perm (List.range g.nv))
 (hblk : ∀ i, i < g.nv → g.blk i < g.nb) (hty : ∀ x y, g.op x = g.op y → g.ty x = g.ty y) (hop : ∀ i, i < g.nv → g.op i ≤ 15)
 (h : ∀ t w' arr Pl pv Eb, Part0 g (fun i => (preK g g.nb).getD i 0) arr Pl → BT w' L A g.nv arr → Only (fun j => j = A) w w' → fbx < Eb → abx < Eb → A < Eb → E ≤ Eb → Eb ≤ w'.heap.size → w'.ownsRow Eb 113 1 pv Pl.length (Pl.map (slV A (g.nv + 1))) →
   EC Tryz.prog Tryz.f41.ntmps (dropC 7 BW) Q (Env.sets ⟨t, [D48 fbx abx]⟩ [(1, .pointer (some ⟨fbx, 0, none⟩)), (7, pv)]) w') :
 EC Tryz.prog Tryz.f41.ntmps (dropC 6 BW) Q (Env.sets ⟨t, [D48 fbx abx]⟩ [(1, .pointer (some ⟨fbx, 0, none⟩)), (2, .pointer (some ⟨abx, 0, none⟩))]) w := by
 have hl : (preK g g.nb).length = g.nv := by rw [hperm.length_eq, List.length_range]
 have hfbl := (Array.getElem?_eq_some_iff.1 hfb).1
 have hal := (Array.getElem?_eq_some_iff.1 hG.a).1
 have hAl := (Array.getElem?_eq_some_iff.1 hG.arr).1
 have hA0 : BT w L A g.nv (fun i => (preK g g.nb).getD i 0) := by
  unfold BT
  rw [hG.arr, hl]
  rfl
 have ha0 : w.cell? ⟨abx, 0, none⟩ = some (.slice (some ⟨A, 0, none⟩) g.nv (g.nv + 1)) := Am hG.a (by rw [hl]; rfl)
 have hf0 : w.cell? ⟨fbx, 0, none⟩ = some L.fp := Am hfb rfl
 have hm0 : w.cell? ⟨L.fb, 0 + 3, none⟩ = some (.map (some r)) := Am (hg.comp .fn) (by rw [ham]; rfl)
 have hA1 : BT w.drew L A g.nv (fun i => (preK g g.nb).getD i 0) := hA0
 have ha1 := Keep.drew w _ _ ha0
 have hf1 := Keep.drew w _ _ hf0
 have hm1 := Keep.drew w _ _ hm0
 have hg1 := hg.drew
 have hs1 : w.drew.heap.size = w.heap.size := rfl
 have hO1 : Only (fun j => j = A) w w.drew := (Only.refl _ _).drew
 refine Ae ?_
 have hc : Cells [(⟨abx, 0, none⟩, .slice (some ⟨A, 0, none⟩) g.nv (g.nv + 1)), (⟨fbx, 0, none⟩, L.fp), (⟨L.fb, 0 + 3, none⟩, .map (some r))] w.drew := .cons ha1 (.cons hf1 (.cons hm1 (.nil _)))
 refine AZ mixed _ [(0, false), (1, false), (2, false), (3, false), (4, false), (5, true), (6, false)] (by kernel_rfl) hc ?_
 generalize w.drew = W at *
 refine Aj rfl (fun _ hS => Ai rfl (Ag rfl) (hS.get (by first | exact mm0 | exact mm1 | exact mm2 | exact mm3 | exact mm4 | exact mm5 | exact mm6 | exact mm7))) ?_
 refine Aj rfl (fun _ hS => Ai rfl (Ag rfl) (hS.get (by first | exact mm0 | exact mm1 | exact mm2 | exact mm3 | exact mm4 | exact mm5 | exact mm6 | exact mm7))) ?_
 refine Aj rfl (fun _ _ => Ax rfl) (Aj rfl (fun _ _ => Ak rfl (Al rfl)) (Aj rfl (fun _ hS => Ai rfl (Ag rfl) (hS.get (by first | exact mm0 | exact mm1 | exact mm2 | exact mm3 | exact mm4 | exact mm5 | exact mm6 | exact mm7))) ?_))
 refine BL rfl (AH Tryz.func51 rfl rfl rfl rfl) (part_ret hg1 hE hAE hA1 hn (fun i hi => ?_) ?_ hblk hty hop) ?_
 ·have := hperm.mem_iff.1 (Bt (l := preK g g.nb) (k := i) (by omega))
  exact List.mem_range.1 this
 ·rw [elems_of hl fun j _ => rfl]
  exact hperm.nodup_iff.2 List.nodup_range
 rintro pv w2 ⟨arr, Pl, h1, h2, h3, h4⟩
 have hfl := hE.fb
 have hk : ∀ q o u, q < W.heap.size → q ≠ A → W.cell? ⟨q, o, none⟩ = some u → w2.cell? ⟨q, o, none⟩ = some u := fun q o u hq hqA hu => (World.cell?_of_block (a := ⟨q, o, none⟩) (h3.block q hq hqA)).trans hu
 refine ⟨.inr (.cons (hk _ _ _ (by omega) (by omega) ha1) (.cons (hk _ _ _ (by omega) (by omega) hf1) (.cons (hk _ _ _ (by omega) (by omega) hm1) (.nil _)))), ?_⟩
 refine Aj rfl (fun _ _ => Ah) (AR (Aa (Be [D48 fbx abx] [(1, .pointer (some ⟨fbx, 0, none⟩)), (7, pv)] rfl ⟨rfl, rfl, trivial⟩ fun t => ?_)))
 exact h t w2 arr Pl pv W.heap.size h1 h2 (hO1.trans h3) (by omega) (by omega) (by omega) (by omega) h3.size h4
theorem cseB1 {w : World} {B fbx abx E : Nat} {L : Lay} {g : Gph} {Q : Exit → Env → World → Prop} {pv : Value} {t : Nat → Value} (hg : GRep w B L g) (hn : g.nv ≤ 48) (hfb : w.heap[fbx]? = some (.cells #[L.fp] 71 (0, 0)))
 (h : ∀ t w' vbx VE, w.heap.size ≤ vbx → w.heap.size ≤ VE → vbx ≠ VE → Below w.heap.size w w' →
   w'.heap[vbx]? = some (.cells #[.slice (some ⟨VE, 0, none⟩) (g.nv + 1) (g.nv + 1)] 110 (0, 0)) → w'.heap[VE]? = some (.cells (cellsOf (fun _ => .int .i32 0) (g.nv + 1)) 88 (0, 0)) →
   EC Tryz.prog Tryz.f41.ntmps (dropC 9 BW) Q (Env.sets ⟨t, [D53 VE (g.nv + 1), D48 fbx abx]⟩ [(1, .pointer (some ⟨fbx, 0, none⟩)), (7, pv), (8, .pointer (some ⟨vbx, 0, none⟩))]) w') :
 EC Tryz.prog Tryz.f41.ntmps (dropC 7 BW) Q (Env.sets ⟨t, [D48 fbx abx]⟩ [(1, .pointer (some ⟨fbx, 0, none⟩)), (7, pv)]) w := by
 have hfbl := (Array.getElem?_eq_some_iff.1 hfb).1
 have hfl := Bq hg
 refine AX (fun e w' => ∃ vbx VE, w.heap.size ≤ vbx ∧ w.heap.size ≤ VE ∧ vbx ≠ VE ∧ Below w.heap.size w w' ∧
  w'.heap[vbx]? = some (.cells #[.slice (some ⟨VE, 0, none⟩) (g.nv + 1) (g.nv + 1)] 110 (0, 0)) ∧ w'.heap[VE]? = some (.cells (cellsOf (fun _ => .int .i32 0) (g.nv + 1)) 88 (0, 0)) ∧
  AtD e [D48 fbx abx] [(1, .pointer (some ⟨fbx, 0, none⟩)), (7, pv), (8, .pointer (some ⟨vbx, 0, none⟩))]) ?_ ?_
 ·refine Dp mixed (fun w' => Below w.heap.size w w') planA (by kernel_rfl) ⟨rfl, rfl, rfl, Nat.le_refl _, fun _ _ => rfl⟩ ?_
  have hfc : ∀ W, Below w.heap.size w W → W.cell? ⟨fbx, 0, none⟩ = some L.fp := fun W hb => Am ((hb.block fbx hfbl).trans hfb) rfl
  have hgW : ∀ W, Below w.heap.size w W → GRep W B L g := fun W hb => hg.on hb
  have hbd : Below w.heap.size w w.drew := ⟨rfl, rfl, rfl, Nat.le_refl _, fun _ _ => rfl⟩
  generalize w.drew = W0 at hbd ⊢
  refine Bv rfl (fun _ hS => Ai rfl (Ag rfl) (hfc _ hS)) (Bv rfl (fun _ _ => Ax rfl) (Bv rfl (fun _ hS => BY rfl ((hgW _ hS).comp .fn)) (Bv rfl (fun _ _ => BX rfl) (Bv rfl (fun _ hS => Ai rfl (Ag rfl) (hfc _ hS)) ?_))))
  refine De ?_ ?_
  ·refine CR rfl (AH Tryz.func47 rfl rfl rfl rfl) (NumValues_ret (hgW _ hbd) hn) ?_
   rintro _ wx ⟨rfl, ew⟩
   rw [ew]
   clear ew wx
   refine ⟨.inr hbd, ?_⟩
   refine De ?_ ?_
   ·refine CR rfl (AH Tryz.func52 rfl rfl rfl rfl) (allocID_ret (n := g.nv + 1) (by omega)) ?_
    rintro _ W1 ⟨A, rfl, hAg, hAc, hAb⟩
    have hszd := hbd.size
    have hbA := hbd.trans (hAb.mono hszd)
    refine ⟨.inr hbA, ?_⟩
    refine CG rfl (Bb D2) ?_
    obtain ⟨abx, habx⟩ : ∃ abx, abx = W1.heap.size := ⟨_, rfl⟩
    have hszb := hbA.size
    have hbB := hbA.trans ((Below.refl W1.heap.size W1).alloc (Nat.le_refl _) (.cells #[.slice none 0 0] 110) |>.mono hszb)
    have hNb := heap_alloc_new W1 (.cells #[.slice none 0 0] 110)
    have hOb : ∀ zz, zz < W1.heap.size → (W1.alloc (.cells #[.slice none 0 0] 110)).heap[zz]? = W1.heap[zz]? := fun _ hi => Below.heap_alloc _ _ _ hi
    have hZb := Bx W1 (.cells #[.slice none 0 0] 110)
    rw [← habx] at hNb ⊢
    refine ⟨.inr hbB, ?_⟩
    generalize W1.alloc (.cells #[.slice none 0 0] 110) = W2 at hbB hNb hOb hZb ⊢
    have hA2 : W2.heap[A]? = some (.cells (cellsOf (fun _ => .int .i32 0) (g.nv + 1)) 88 (0, 0)) := (hOb A (Array.getElem?_eq_some_iff.1 hAc).1).trans hAc
    have hAl := (Array.getElem?_eq_some_iff.1 hAc).1
    refine Cv rfl (AV (v := .slice (some ⟨A, 0, none⟩) (g.nv + 1) (g.nv + 1)) rfl rfl rfl (AM rfl) (old := .slice none 0 0) (Am hNb rfl) (AT hNb)) ?_
    have hSa := AE (o := 0) (u := .slice (some ⟨A, 0, none⟩) (g.nv + 1) (g.nv + 1)) hNb
    have hSA : abx ≠ A → (W2.setCell ⟨abx, 0, none⟩ (.slice (some ⟨A, 0, none⟩) (g.nv + 1) (g.nv + 1))).heap[A]? = some (.cells (cellsOf (fun _ => .int .i32 0) (g.nv + 1)) 88 (0, 0)) := fun hh => (Below.heap_setCell _ _ _ _ (fun e => hh e.symm)).trans hA2
    have hbS := hbB.setCell (p := ⟨abx, 0, none⟩) (show w.heap.size ≤ abx by omega) (.slice (some ⟨A, 0, none⟩) (g.nv + 1) (g.nv + 1))
    refine ⟨.inr hbS, ?_⟩
    refine CE ?_
    exact AU ⟨abx, A, by omega, by omega, by omega, hbS, hSa, hSA (by omega), AS rfl ⟨rfl, rfl, rfl, trivial⟩⟩
   refine CG rfl (Bb D2) ?_
   obtain ⟨abx, habx⟩ : ∃ abx, abx = W0.heap.size := ⟨_, rfl⟩
   have hszb := hbd.size
   have hbB := hbd.trans ((Below.refl W0.heap.size W0).alloc (Nat.le_refl _) (.cells #[.slice none 0 0] 110) |>.mono hszb)
   have hNb := heap_alloc_new W0 (.cells #[.slice none 0 0] 110)
   have hOb : ∀ zz, zz < W0.heap.size → (W0.alloc (.cells #[.slice none 0 0] 110)).heap[zz]? = W0.heap[zz]? := fun _ hi => Below.heap_alloc _ _ _ hi
   have hZb := Bx W0 (.cells #[.slice none 0 0] 110)
   rw [← habx] at hNb ⊢
   refine ⟨.inr hbB, ?_⟩
   generalize W0.alloc (.cells #[.slice none 0 0] 110) = W1 at hbB hNb hOb hZb ⊢
   have hbl := (Array.getElem?_eq_some_iff.1 hNb).1
   refine CR rfl (AH Tryz.func52 rfl rfl rfl rfl) (allocID_ret (n := g.nv + 1) (by omega)) ?_
   rintro _ W2 ⟨A, rfl, hAg, hAc, hAb⟩
   have hszd := hbB.size
   have hbA := hbB.trans (hAb.mono hszd)
   refine ⟨.inr hbA, ?_⟩
   have hA2 := hAc
   replace hNb := (hAb.block abx hbl).trans hNb
   replace hbB := hbA
   refine Cv rfl (AV (v := .slice (some ⟨A, 0, none⟩) (g.nv + 1) (g.nv + 1)) rfl rfl rfl (AM rfl) (old := .slice none 0 0) (Am hNb rfl) (AT hNb)) ?_
   have hSa := AE (o := 0) (u := .slice (some ⟨A, 0, none⟩) (g.nv + 1) (g.nv + 1)) hNb
   have hSA : abx ≠ A → (W2.setCell ⟨abx, 0, none⟩ (.slice (some ⟨A, 0, none⟩) (g.nv + 1) (g.nv + 1))).heap[A]? = some (.cells (cellsOf (fun _ => .int .i32 0) (g.nv + 1)) 88 (0, 0)) := fun hh => (Below.heap_setCell _ _ _ _ (fun e => hh e.symm)).trans hA2
   have hbS := hbB.setCell (p := ⟨abx, 0, none⟩) (show w.heap.size ≤ abx by omega) (.slice (some ⟨A, 0, none⟩) (g.nv + 1) (g.nv + 1))
   refine ⟨.inr hbS, ?_⟩
   refine CE ?_
   exact AU ⟨abx, A, by omega, by omega, by omega, hbS, hSa, hSA (by omega), AS rfl ⟨rfl, rfl, rfl, trivial⟩⟩
  refine CG rfl (Bb D2) ?_
  obtain ⟨abx, habx⟩ : ∃ abx, abx = W0.heap.size := ⟨_, rfl⟩
  have hszb := hbd.size
  have hbB := hbd.trans ((Below.refl W0.heap.size W0).alloc (Nat.le_refl _) (.cells #[.slice none 0 0] 110) |>.mono hszb)
  have hNb := heap_alloc_new W0 (.cells #[.slice none 0 0] 110)
  have hOb : ∀ zz, zz < W0.heap.size → (W0.alloc (.cells #[.slice none 0 0] 110)).heap[zz]? = W0.heap[zz]? := fun _ hi => Below.heap_alloc _ _ _ hi
  have hZb := Bx W0 (.cells #[.slice none 0 0] 110)
  rw [← habx] at hNb ⊢
  refine ⟨.inr hbB, ?_⟩
  generalize W0.alloc (.cells #[.slice none 0 0] 110) = W1 at hbB hNb hOb hZb ⊢
  have hbl := (Array.getElem?_eq_some_iff.1 hNb).1
  have hbd0 := hbd
  replace hbd := hbB
  refine CR rfl (AH Tryz.func47 rfl rfl rfl rfl) (NumValues_ret (hgW _ hbd) hn) ?_
  rintro _ wx ⟨rfl, ew⟩
  rw [ew]
  clear ew wx
  refine ⟨.inr hbd, ?_⟩
  refine CR rfl (AH Tryz.func52 rfl rfl rfl rfl) (allocID_ret (n := g.nv + 1) (by omega)) ?_
  rintro _ W2 ⟨A, rfl, hAg, hAc, hAb⟩
  have hszd := hbB.size
  have hbA := hbB.trans (hAb.mono hszd)
  refine ⟨.inr hbA, ?_⟩
  have hA2 := hAc
  replace hNb := (hAb.block abx hbl).trans hNb
  replace hbB := hbA
  refine Cv rfl (AV (v := .slice (some ⟨A, 0, none⟩) (g.nv + 1) (g.nv + 1)) rfl rfl rfl (AM rfl) (old := .slice none 0 0) (Am hNb rfl) (AT hNb)) ?_
  have hSa := AE (o := 0) (u := .slice (some ⟨A, 0, none⟩) (g.nv + 1) (g.nv + 1)) hNb
  have hSA : abx ≠ A → (W2.setCell ⟨abx, 0, none⟩ (.slice (some ⟨A, 0, none⟩) (g.nv + 1) (g.nv + 1))).heap[A]? = some (.cells (cellsOf (fun _ => .int .i32 0) (g.nv + 1)) 88 (0, 0)) := fun hh => (Below.heap_setCell _ _ _ _ (fun e => hh e.symm)).trans hA2
  have hbS := hbB.setCell (p := ⟨abx, 0, none⟩) (show w.heap.size ≤ abx by omega) (.slice (some ⟨A, 0, none⟩) (g.nv + 1) (g.nv + 1))
  refine ⟨.inr hbS, ?_⟩
  refine CE ?_
  exact AU ⟨abx, A, by omega, by omega, by omega, hbS, hSa, hSA (by omega), AS rfl ⟨rfl, rfl, rfl, trivial⟩⟩
 rintro e w' ⟨vbx, VE, h1, h2, h3, hb, h6, h7, ⟨t, rfl⟩⟩
 refine Ae ?_
 have hgw := hg.on hb
 have hf1 : w'.drew.cell? ⟨fbx, 0, none⟩ = some L.fp := Keep.drew w' _ _ (Am ((hb.block fbx hfbl).trans hfb) rfl)
 have hv1 : w'.drew.cell? ⟨vbx, 0, none⟩ = some (.slice (some ⟨VE, 0, none⟩) (g.nv + 1) (g.nv + 1)) := Keep.drew w' _ _ (Am h6 rfl)
 have hfn := hgw.drew.comp .fn
 have hb1 : Below w.heap.size w w'.drew := hb.drew
 have h61 : w'.drew.heap[vbx]? = _ := h6
 have h71 : w'.drew.heap[VE]? = _ := h7
 refine Gl mixed [0, 1, 2, 3, 4] 5 (by kernel_rfl) (by kernel_rfl) ?_
 generalize w'.drew = W at *
 refine Aj rfl (fun _ hS => Ai rfl (Ag rfl) (by cases hS; with_reducible assumption)) ?_
 refine Aj rfl (fun _ _ => Ax rfl) (Aj rfl (fun _ hS => by cases hS; exact BY rfl hfn) ?_)
 refine Aj rfl (fun _ hS => BX rfl) (Aj rfl (fun _ hS => Ai rfl (Ag rfl) (by cases hS; with_reducible assumption)) ?_)
 refine AR ⟨_, _, _, _, _, rfl, Df rfl rfl, ?_⟩
 refine Aa (Be [D53 VE (g.nv + 1), D48 fbx abx] [(1, .pointer (some ⟨fbx, 0, none⟩)), (7, pv), (8, .pointer (some ⟨vbx, 0, none⟩))] rfl ⟨rfl, rfl, rfl, trivial⟩ fun t => ?_)
 exact h t W vbx VE h1 h2 h3 hb1 h61 h71
end Go.Proofs.YteepnepebilckaaGreatDoor
namespace Go.Proofs.YteepnepebilckaaGreatDoor
open Go Go.Eng Go.RowKit Go.Shelf
structure PI (g : Gph) (arr : Nat → Nat) (cls : Nat → Int) (P : List (Nat × Nat)) (pn : Int) : Prop where
 perm : (elems arr g.nv).Perm (List.range g.nv)
 long : ∀ p ∈ P, 2 ≤ p.2 ∧ p.1 + p.2 ≤ g.nv
 apart : P.Pairwise fun a b => a.1 + a.2 ≤ b.1 ∨ b.1 + b.2 ≤ a.1
 cin : ∀ p ∈ P, ∀ i, i < p.2 → cls (arr (p.1 + i) + 1) = cls (arr p.1 + 1)
 cpos : ∀ p ∈ P, 0 < cls (arr p.1 + 1) ∧ cls (arr p.1 + 1) < pn
 cne : ∀ p ∈ P, ∀ q ∈ P, cls (arr p.1 + 1) = cls (arr q.1 + 1) → p = q
 cout : ∀ i, i < g.nv → (∀ p ∈ P, ¬ (p.1 ≤ i ∧ i < p.1 + p.2)) → cls (arr i + 1) = -((arr i : Int) + 1)
 same : ∀ p ∈ P, ∀ i, i < p.2 → key g (arr p.1) = key g (arr (p.1 + i))
theorem BP {arr : Nat → Nat} {n : Nat} (h : (elems arr n).Perm (List.range n)) {i : Nat} (hi : i < n) : arr i < n := by
 have : arr i ∈ elems arr n := List.mem_map.2 ⟨i, List.mem_range.2 hi, rfl⟩
 exact List.mem_range.1 (h.mem_iff.1 this)
theorem Ce {arr : Nat → Nat} {n : Nat} (h : (elems arr n).Perm (List.range n)) {i j : Nat} (hi : i < n) (hj : j < n) (e : arr i = arr j) : i = j := by
 have hn : (elems arr n).Nodup := h.nodup_iff.2 List.nodup_range
 have h1 : i < (elems arr n).length := by rw [BK]; exact hi
 have h2 : j < (elems arr n).length := by rw [BK]; exact hj
 refine (List.getElem_inj (h₀ := h1) (h₁ := h2) hn).1 ?_
 simpa [elems] using e
theorem CP {arr : Nat → Nat} {n : Nat} (h : (elems arr n).Perm (List.range n)) {v : Nat} (hv : v < n) : ∃ i, i < n ∧ arr i = v := by
 have : v ∈ elems arr n := h.mem_iff.2 (List.mem_range.2 hv)
 obtain ⟨i, hi, e⟩ := List.mem_map.1 this
 exact ⟨i, List.mem_range.1 hi, e⟩
structure Nu (arr : Nat → Nat) (nv : Nat) (P : List (Nat × Nat)) (k j : Nat) (cls : Nat → Int) : Prop where
 old : ∀ q (hq : q < P.length), q < k → ∀ i, i < P[q].2 → cls (arr (P[q].1 + i) + 1) = (q : Int) + 1
 cur : ∀ hk : k < P.length, ∀ i, i < j → cls (arr (P[k].1 + i) + 1) = (k : Int) + 1
 out : ∀ i, i < nv → (∀ q (hq : q < P.length), q < k → ¬ (P[q].1 ≤ i ∧ i < P[q].1 + P[q].2)) → (∀ hk : k < P.length, ¬ (P[k].1 ≤ i ∧ i < P[k].1 + j)) → cls (arr i + 1) = -((arr i : Int) + 1)
section
variable {arr : Nat → Nat} {nv k j : Nat} {P : List (Nat × Nat)} {cls : Nat → Int}
theorem Nu.next (h : Nu arr nv P k j cls) (hp : (elems arr nv).Perm (List.range nv)) (hl : ∀ p ∈ P, 2 ≤ p.2 ∧ p.1 + p.2 ≤ nv) (ha : P.Pairwise fun a b => a.1 + a.2 ≤ b.1) (hk : k < P.length) (hj : j < P[k].2) :
 Nu arr nv P k (j + 1) (fun x => if x = arr (P[k].1 + j) + 1 then (k : Int) + 1 else cls x) := by
 have hlk := hl _ (List.getElem_mem hk)
 have inj : ∀ i, i < nv → arr i = arr (P[k].1 + j) → i = P[k].1 + j := fun i hi e => Ce hp hi (by omega) e
 refine ⟨fun q hq hqk i hi => ?_, fun _ i hi => ?_, fun i hi h1 h2 => ?_⟩
 ·have hlq := hl _ (List.getElem_mem hq)
  have h1 := List.pairwise_iff_getElem.1 ha q k hq hk hqk
  show (if arr (P[q].1 + i) + 1 = arr (P[k].1 + j) + 1 then _ else _) = _
  rw [if_neg (fun e => by have := inj (P[q].1 + i) (by omega) (by omega); omega)]
  exact h.old q hq hqk i hi
 ·show (if arr (P[k].1 + i) + 1 = arr (P[k].1 + j) + 1 then _ else _) = _
  by_cases e : i = j
  ·subst e; rw [if_pos rfl]
  rw [if_neg (fun e2 => by have := inj (P[k].1 + i) (by omega) (by omega); omega)]
  exact h.cur hk i (by omega)
 show (if arr i + 1 = arr (P[k].1 + j) + 1 then _ else _) = _
 have h3 := h2 hk
 rw [if_neg (fun e => by have := inj i hi (by omega); omega)]
 exact h.out i hi h1 fun hk => by have := h2 hk; omega
theorem Nu.roll (h : Nu arr nv P k j cls) (hk : k < P.length) (hj : j = P[k].2) : Nu arr nv P (k + 1) 0 cls := by
 refine ⟨fun q hq hqk i hi => ?_, fun _ i hi => by omega, fun i hi h1 _ => ?_⟩
 ·by_cases e : q = k
  ·subst e; exact h.cur hk i (by omega)
  exact h.old q hq (by omega) i hi
 refine h.out i hi (fun q hq hqk => h1 q hq (by omega)) fun hk => ?_
 have := h1 k hk (by omega)
 rw [hj]; exact this
theorem Nu.pi {g : Gph} {arr0 : Nat → Nat} (h : Nu arr g.nv P P.length 0 cls) (hp : (elems arr g.nv).Perm (List.range g.nv)) (h0 : Part0 g arr0 arr P) : PI g arr cls P ((P.length : Int) + 1) := by
 have old : ∀ p ∈ P, ∃ q, ∃ hq : q < P.length, p = P[q] ∧ ∀ i, i < p.2 → cls (arr (p.1 + i) + 1) = (q : Int) + 1 := fun p hpm => by
  obtain ⟨q, hq, e⟩ := List.getElem_of_mem hpm
  subst e
  exact ⟨q, hq, rfl, h.old q hq hq⟩
 refine ⟨hp, h0.long, h0.apart.imp fun h => .inl h, fun p hpm i hi => ?_, fun p hpm => ?_, fun p hpm p' hpm' e => ?_, fun i hi hn => ?_, h0.same⟩
 ·obtain ⟨q, hq, _, h1⟩ := old p hpm
  have := h0.long p hpm
  have h2 : cls (arr p.1 + 1) = (q : Int) + 1 := h1 0 (by omega)
  rw [h1 i hi, h2]
 ·obtain ⟨q, hq, _, h1⟩ := old p hpm
  have := h0.long p hpm
  have h2 : cls (arr p.1 + 1) = (q : Int) + 1 := h1 0 (by omega)
  rw [h2]; omega
 ·obtain ⟨q, hq, eq, h1⟩ := old p hpm
  obtain ⟨q', hq', eq', h1'⟩ := old p' hpm'
  have := h0.long p hpm
  have := h0.long p' hpm'
  have h2 : cls (arr p.1 + 1) = (q : Int) + 1 := h1 0 (by omega)
  have h2' : cls (arr p'.1 + 1) = (q' : Int) + 1 := h1' 0 (by omega)
  rw [h2, h2'] at e
  have : q = q' := by omega
  subst this
  rw [eq, eq']
 exact h.out i hi (fun q hq _ => hn _ (List.getElem_mem hq)) fun hk => absurd hk (Nat.lt_irrefl _)
end
def comm (k : Nat) : Bool := k == 2 || k == 4 || k == 5 || k == 6 || k == 7 || k == 11 || k == 12
structure St (w : World) (B : Nat) (L : Lay) (b : Bl) (g : Gph) (arr : Nat → Nat) (cls : Nat → Int) (pv : Value) (P : List (Nat × Nat)) : Prop where
 rep : GRep w B L g
 ar : BT w L b.A g.nv arr
 ve : w.heap[b.VE]? = some (.cells (cellsOf (fun i => .int .i32 (cls i)) (g.nv + 1)) 88 (0, 0))
 fb : w.heap[b.fbx]? = some (.cells #[L.fp] 71 (0, 0))
 vb : w.heap[b.vbx]? = some (.cells #[.slice (some ⟨b.VE, 0, none⟩) (g.nv + 1) (g.nv + 1)] 110 (0, 0))
 ab : w.heap[b.abx]? = some (.cells #[.slice (some ⟨b.A, 0, none⟩) g.nv (g.nv + 1)] 78 (0, 0))
 row : w.ownsRow b.Eb 113 1 pv P.length (P.map (slV b.A (g.nv + 1)))
 ne : pv.ownBlock ≠ some b.vbx ∧ pv.ownBlock ≠ some b.VE
 opt : ∀ k, k < 21 → w.cell? ⟨0, k, none⟩ = some (.bool (comm k))
section
variable {w w' : World} {B : Nat} {L : Lay} {b : Bl} {g : Gph} {arr : Nat → Nat} {cls : Nat → Int} {pv : Value} {P : List (Nat × Nat)}
theorem A9 {o : Obj} {k : Nat} (h : w.heap[k]? = some o) : k < w.heap.size := (Array.getElem?_eq_some_iff.1 h).1
theorem St.same (h : St w B L b g arr cls pv P) (hk : ∀ k, k < w.heap.size → w'.heap[k]? = w.heap[k]?) : St w' B L b g arr cls pv P :=
 ⟨h.rep.keep hk, (hk _ (A9 h.ar)).trans h.ar, (hk _ (A9 h.ve)).trans h.ve, (hk _ (A9 h.fb)).trans h.fb, (hk _ (A9 h.vb)).trans h.vb, (hk _ (A9 h.ab)).trans h.ab, Ay h.row fun k e => hk k (As h.row k e).2, h.ne, fun k hk2 => (World.cell?_of_block (a := ⟨0, k, none⟩) (hk 0 (by have := Bq h.rep; omega))).trans (h.opt k hk2)⟩
theorem St.below (h : St w B L b g arr cls pv P) (hb : Below w.heap.size w w') : St w' B L b g arr cls pv P := h.same fun k hk => hb.block k hk
theorem St.setVE (h : St w B L b g arr cls pv P) (hE : GE b.E L g) (hb : b.Ok) (s : Nat) (z : Int) : St (w.setCell ⟨b.VE, 0 + s, none⟩ (.int .i32 z)) B L b g arr (fun x => if x = s then z else cls x) pv P := by
 have hoth : ∀ k, k ≠ b.VE → (w.setCell ⟨b.VE, 0 + s, none⟩ (.int .i32 z)).heap[k]? = w.heap[k]? := fun k hk => Below.heap_setCell _ _ _ _ hk
 have h1 := hb.e
 have h2 := hb.n1
 have h3 := hb.n2
 refine ⟨h.rep.keepE hE fun k hk => hoth k (by omega), (hoth _ (by omega)).trans h.ar, ?_, (hoth _ (by omega)).trans h.fb, (hoth _ (by omega)).trans h.vb, (hoth _ (by omega)).trans h.ab, Ay h.row fun k e => hoth k (fun e2 => h.ne.2 (by rw [e, e2])), h.ne, fun k hk2 => (World.cell?_of_block (a := ⟨0, k, none⟩) (hoth 0 (by have := hE.fb; omega))).trans (h.opt k hk2)⟩
 rw [AE h.ve, cellsOf_set]
 congr 2
 refine Bz fun i _ => ?_
 by_cases e : i = s
 ·rw [if_pos (by omega), if_pos e]
 rw [if_neg (by omega), if_neg e]
theorem St.vec (h : St w B L b g arr cls pv P) {v : Nat} (hv : v < g.nv) : w.cell? ⟨b.VE, 0 + (v + 1), none⟩ = some (.int .i32 (cls (v + 1))) := Am h.ve (by rw [Nat.zero_add]; exact A7 _ (by omega))
theorem St.arc (h : St w B L b g arr cls pv P) {i : Nat} (hi : i < g.nv) : w.cell? ⟨b.A, i, none⟩ = some (L.vp (arr i)) := Am h.ar (by rw [A7 _ (by omega)]; unfold arV; rw [if_pos hi])
theorem St.fc (h : St w B L b g arr cls pv P) : w.cell? ⟨b.fbx, 0, none⟩ = some L.fp := Am h.fb rfl
theorem St.vbc (h : St w B L b g arr cls pv P) : w.cell? ⟨b.vbx, 0, none⟩ = some (.slice (some ⟨b.VE, 0, none⟩) (g.nv + 1) (g.nv + 1)) := Am h.vb rfl
end
set_option maxHeartbeats 4000000
attribute [local irreducible] EC EL DL Ret thenQ blockQ Bf bodyQ onlyN execOp Sem.run World.cell? World.frozen? World.setCell World.alloc
section
variable {w : World} {B : Nat} {L : Lay} {b : Bl} {g : Gph} {arr : Nat → Nat} {cls : Nat → Int} {pv : Value} {P : List (Nat × Nat)} {Q : Exit → Env → World → Prop} {t : Nat → Value}
theorem cseB2 (hs : St w B L b g arr cls pv P) (hz : ∀ x, x = 0 ∨ g.nv < x → cls x = 0) (hE : GE b.E L g) (hb : b.Ok) (hn : g.nv ≤ 48) (hnb : g.nb ≤ 9) (hbv : ∀ k, k < g.nb → ∀ v ∈ g.bvals k, v < g.nv) (hperm : (preK g g.nb).Perm (List.range g.nv))
 (h : ∀ t w' cls', St w' B L b g arr cls' pv P → (∀ x, x = 0 ∨ g.nv < x → cls' x = 0) → (∀ v, v < g.nv → cls' (v + 1) = -((v : Int) + 1)) → Only (fun j => j = b.VE) w w' →
   EC Tryz.prog Tryz.f41.ntmps (dropC 10 BW) Q (Env.sets ⟨t, [D53 b.VE (g.nv + 1), D48 b.fbx b.abx]⟩ [(1, .pointer (some ⟨b.fbx, 0, none⟩)), (7, pv), (8, .pointer (some ⟨b.vbx, 0, none⟩))]) w') :
 EC Tryz.prog Tryz.f41.ntmps (dropC 9 BW) Q (Env.sets ⟨t, [D53 b.VE (g.nv + 1), D48 b.fbx b.abx]⟩ [(1, .pointer (some ⟨b.fbx, 0, none⟩)), (7, pv), (8, .pointer (some ⟨b.vbx, 0, none⟩))]) w := by
 obtain ⟨ds, hds⟩ : ∃ ds, ds = [D53 b.VE (g.nv + 1), D48 b.fbx b.abx] := ⟨_, rfl⟩
 rw [← hds] at h ⊢
 obtain ⟨fa, fc, hfs⟩ := hs.rep.fblocksV
 have htot : (preK g g.nb).length = g.nv := by rw [hperm.length_eq, List.length_range]
 have h1 := hs.rep.fBlocks
 rw [hfs] at h1
 have h2 := hs.fc
 refine Ae (Ae (Ac (Ab (Ai rfl (Ag rfl) ‹_›) rfl ?_)))
 refine Ab (Ax rfl) rfl (Ab (Ak rfl (Al rfl)) rfl (Ab (Ai rfl (Ag rfl) ‹_›) rfl ?_))
 refine Ab (AP rfl (An rfl)) rfl (Ab Ad rfl (Af (Aa (Ao ?_))))
 refine EC_loop (fun m e w1 => ∃ k cls, k ≤ g.nb ∧ St w1 B L b g arr cls pv P ∧ (∀ x, x = 0 ∨ g.nv < x → cls x = 0) ∧ (∀ v ∈ preK g k, cls (v + 1) = -((v : Int) + 1)) ∧ Only (fun j => j = b.VE) w w1 ∧
  AtD e ds [(1, .pointer (some ⟨b.fbx, 0, none⟩)), (7, pv), (8, .pointer (some ⟨b.vbx, 0, none⟩)), (154, .slice fa g.nb fc), (155, .int .i64 (g.nb : Int)), (156, .int .i64 (k : Int))] ∧ m = g.nb - k) g.nb
  ⟨0, cls, Nat.zero_le _, hs, hz, fun v hv => (by cases hv), Only.refl _ _, AS rfl ⟨rfl, rfl, rfl, rfl, rfl, rfl, trivial⟩, rfl⟩ ?_
 clear h1 h2 hs hz
 rintro m e w1 ⟨k, cls, hk, hs, hz, hc, hO, ⟨t, rfl⟩, rfl⟩
 refine Ae (Ac (Ab (AW rfl rfl) rfl (Af (Aa (Ae ?_)))))
 refine AG rfl rfl (fun hlt => ?_) (fun hge => ?_)
 rotate_left
 ·have hkn : k = g.nb := by omega
  rw [hkn] at hc
  refine AI (AB (AC (AA (Aa (Be ds [(1, .pointer (some ⟨b.fbx, 0, none⟩)), (7, pv), (8, .pointer (some ⟨b.vbx, 0, none⟩))] rfl ⟨rfl, rfl, rfl, trivial⟩ fun t => ?_)))))
  exact h t w1 cls hs hz (fun v hv => hc v (hperm.mem_iff.2 (List.mem_range.2 hv))) hO
 have hkn : k < g.nb := by omega
 refine Aq (Aa ?_)
 obtain ⟨fb, fcc, e1, _, hbc, _⟩ := hs.rep.fblocksE hkn
 rw [hfs] at e1
 injection e1 with e1 _ e3
 subst e1
 obtain ⟨va, vc, hvs⟩ := Row.len (hs.rep.comp (.bvals k) hkn)
 obtain ⟨nk, hnk⟩ : ∃ nk, nk = (g.bvals k).length := ⟨_, rfl⟩
 rw [← hnk] at hvs
 have hkl : nk ≤ 1000 := by
  have h3 := preK_lt g (n := g.nb) hkn (i := nk - 1)
  rw [htot, List.length_append, List.length_take] at h3
  by_cases h4 : nk = 0
  ·omega
  have := h3 (by omega); omega
 have h1 := hs.rep.bVals hkn
 rw [hvs] at h1
 refine Ae (Ao (Ae (Ac (Ab (x_index1 rfl rfl (An rfl) (by omega)) rfl (Ab (Ai rfl (Ag rfl) ‹_›) rfl ?_)))))
 refine Ab Ah rfl (Af (Aa (Ae (Ac (Ab Ad rfl (Ab (Ax rfl) rfl (Ab (Ak rfl (Al rfl)) rfl (Ab (Ai rfl (Ag rfl) ‹_›) rfl ?_))))))))
 refine Ab (AP rfl (An rfl)) rfl (Ab Ad rfl (Af (Aa (Ao ?_))))
 refine EC_loop (fun m e w2 => ∃ i cls, i ≤ nk ∧ St w2 B L b g arr cls pv P ∧ (∀ x, x = 0 ∨ g.nv < x → cls x = 0) ∧ (∀ v ∈ preK g k ++ (g.bvals k).take i, cls (v + 1) = -((v : Int) + 1)) ∧ Only (fun j => j = b.VE) w w2 ∧
  AtD e ds [(1, .pointer (some ⟨b.fbx, 0, none⟩)), (7, pv), (8, .pointer (some ⟨b.vbx, 0, none⟩)), (154, .slice (some ⟨fb, 0, none⟩) g.nb fc), (155, .int .i64 (g.nb : Int)), (156, .int .i64 (k : Int)),
   (163, .slice va nk vc), (164, .int .i64 (nk : Int)), (165, .int .i64 (i : Int))] ∧ m = nk - i) nk
  ⟨0, cls, Nat.zero_le _, hs, hz, by simpa using hc, hO, AS rfl ⟨rfl, rfl, rfl, rfl, rfl, rfl, rfl, rfl, rfl, trivial⟩, rfl⟩ ?_
 clear h1 hs hz hc hO hbc
 rintro m e w2 ⟨i, cls, hi, hs, hz, hc, hO, ⟨t, rfl⟩, rfl⟩
 refine Ae (Ac (Ab (AW rfl rfl) rfl (Af (Aa (Ae ?_)))))
 refine AG rfl rfl (fun hlt => ?_) (fun hge => ?_)
 rotate_left
 ·have hin : i = nk := by omega
  have e : preK g k ++ (g.bvals k).take i = preK g (k + 1) := by rw [hin, hnk, List.take_length, Cf]
  rw [e] at hc
  refine AI (AB (AC (AA (Ap (Aa (Ac (Ab (x_inc rfl rfl (by omega)) rfl (Ab Ad rfl (Af ?_)))))))))
  exact Av (g.nb - (k + 1)) (by omega) ⟨k + 1, cls, by omega, hs, hz, hc, hO, AS rfl ⟨rfl, rfl, rfl, rfl, rfl, rfl, trivial⟩, rfl⟩
 have hin : i < nk := by omega
 refine Aq (Aa ?_)
 obtain ⟨vb, vcc, e2, _, hvc, _⟩ := Row.elem (hs.rep.comp (.bvals k) hkn) (k := i) (by omega)
 rw [hvs] at e2
 injection e2 with e2 _ e4
 subst e2
 obtain ⟨v, hve⟩ : ∃ v, v = (g.bvals k).getD i 0 := ⟨_, rfl⟩
 rw [← hve] at hvc
 have hvn : v < g.nv := by rw [hve]; exact hbv k hkn _ (Bt (by omega))
 have hnext : preK g k ++ (g.bvals k).take (i + 1) = (preK g k ++ (g.bvals k).take i) ++ [v] := by
  rw [List.take_add_one, List.append_assoc]
  congr 2
  rw [hve, List.getD_eq_getElem?_getD, List.getElem?_eq_getElem (by omega)]; rfl
 refine Ae (Ao (Ae (Ac (Ab (x_index1 rfl rfl (An rfl) (by omega)) rfl (Ab (Ai rfl (Ag rfl) ‹_›) rfl ?_)))))
 refine Ab Ah rfl (Af (Aa ?_))
 have hsd : St w2.drew B L b g arr cls pv P := hs.same fun _ _ => rfl
 have hOd : Only (fun j => j = b.VE) w w2.drew := hO.drew
 have hid := hsd.rep.vID hvn
 have hvb := hsd.vbc
 have hvv := hsd.vec hvn
 have hvf : w2.drew.frozen? ⟨b.VE, 0 + (v + 1), none⟩ = false := AT hsd.ve
 refine AZ mixed (fun w' => w' = w2.drew) [(0, false), (1, false), (2, false), (3, false), (4, false), (5, false), (6, false), (7, false), (8, false), (9, false), (10, false), (11, true)] (by kernel_rfl) rfl ?_
 generalize w2.drew = W at *
 refine Aj rfl (fun _ hS => Ai rfl (Ag rfl) (by cases hS; with_reducible assumption)) ?_
 refine Aj rfl (fun _ _ => Ad) (Aj rfl (fun _ _ => Ax rfl) (Aj rfl (fun _ _ => Ak rfl (Al rfl)) (Aj rfl (fun _ hS => Ai rfl (Ag rfl) (by cases hS; with_reducible assumption)) ?_)))
 refine Aj rfl (fun _ _ => Ad) (Aj rfl (fun _ _ => Ax rfl) (Aj rfl (fun _ _ => Ak rfl (Al rfl)) (Aj rfl (fun _ hS => Ai rfl (Ag rfl) (by cases hS; with_reducible assumption)) ?_)))
 refine Aj rfl (fun _ _ => x_neg (c := -((v : Int) + 1)) rfl (by rw [IntWalk.i32_in _ (by omega)]; omega)) ?_
 refine Aj rfl (fun _ _ => A4 (i := v + 1) rfl rfl (by omega) (An rfl) (by omega)) (Cb rfl (AV (v := .int .i32 (-((v : Int) + 1))) rfl rfl rfl (AM rfl) hvv hvf) (.inl rfl) (AR (Ap (Aa ?_))))
 have hs2 := hsd.setVE hE hb (v + 1) (-((v : Int) + 1))
 have hO2 := hOd.set (s := b.VE) (o := 0 + (v + 1)) (.int .i32 (-((v : Int) + 1))) rfl
 change EC _ _ _ _ _ (W.setCell ⟨b.VE, 0 + (v + 1), none⟩ (.int .i32 (-((v : Int) + 1))))
 generalize W.setCell ⟨b.VE, 0 + (v + 1), none⟩ (.int .i32 (-((v : Int) + 1))) = w3 at hs2 hO2 ⊢
 refine Ac (Ab (x_inc rfl rfl (by omega)) rfl (Ab Ad rfl (Af ?_)))
 refine Av (nk - (i + 1)) (by omega) ⟨i + 1, _, by omega, hs2, fun x hx => (by show (if x = v + 1 then _ else _) = _; rw [if_neg (by omega)]; exact hz x hx), fun x hx => ?_, hO2, AS rfl ⟨rfl, rfl, rfl, rfl, rfl, rfl, rfl, rfl, rfl, trivial⟩, rfl⟩
 rw [hnext] at hx
 show (if x + 1 = v + 1 then _ else _) = _
 by_cases e : x = v
 ·rw [if_pos (by omega), e]
 rw [if_neg (by omega)]
 rcases List.mem_append.1 hx with h3 | h3
 ·exact hc x h3
 exact absurd (by simpa using h3) e
end
end Go.Proofs.YteepnepebilckaaGreatDoor
