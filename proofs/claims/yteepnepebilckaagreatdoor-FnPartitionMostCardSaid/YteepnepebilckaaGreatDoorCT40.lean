/- For every input in which the opcode table reads as laid the law FnPartitionMost returns true, and its argument reads as it did, the table being tied to the text of the program. -/
import Derived.Test.YteepnepebilckaaGreatDoorCT39
import Derived.Test.YteepnepebilckaaGreatDoorRows
import Derived.Test.YteepnepebilckaaGreatDoorTie
namespace Go.Proofs.YteepnepebilckaaGreatDoor
open Go Go.Eng Go.RowKit
section
variable {g : Gph} {fw : Prop} {A : Nat → List Nat} {arr : Nat → Nat} {cls : Nat → Int} {P : List (Nat × Nat)} {rw : Nat → Option Nat}
theorem CZ (arr : Nat → Nat) (p : Nat × Nat) (z : Int) : z ∈ BJ (clsL arr p) ↔ ∃ j, j < p.2 ∧ z = ((arr (p.1 + j) : Nat) : Int) := by
 unfold BJ clsL
 rw [List.mem_mergeSort, List.mem_map]
 constructor
 ·rintro ⟨j, hj, rfl⟩
  exact ⟨j, List.mem_range.1 hj, rfl⟩
 rintro ⟨j, hj, rfl⟩
 exact ⟨j, List.mem_range.2 hj, rfl⟩
theorem CQ {P : List (Nat × Nat)} {arr : Nat → Nat} {k : Nat} (hk : k < P.length) : (P.map fun p => BJ (clsL arr p)).getD k [] = BJ (clsL arr P[k]) := by
 rw [List.getD_eq_getElem?_getD, List.getElem?_map, List.getElem?_eq_getElem hk]; rfl
theorem CseR.clsL (h : CseR g fw A arr cls P rw) (hn : g.nv ≤ 48) : ClsL g.nv (P.map fun p => BJ (clsL arr p)) := by
 obtain ⟨pn, hj⟩ := h.pj
 have pk := hj.pi.pk
 have hlen : ∀ p : Nat × Nat, (BJ (Go.Proofs.YteepnepebilckaaGreatDoor.clsL arr p)).length = p.2 := fun p => by
  rw [Ey]; unfold Go.Proofs.YteepnepebilckaaGreatDoor.clsL; simp
 refine ⟨?_, fun k hk => ?_, fun k hk z hz => ?_, fun k hk => ?_, fun k q hk hq z h1 h2 => ?_⟩
 ·have h1 : (P.map fun p => p.1).Nodup := by
   refine List.nodup_iff_pairwise_ne.2 (List.pairwise_map.2 (hj.pi.apart.imp_of_mem fun {a b} ha hb hab e => ?_))
   have := hj.pi.long a ha
   have := hj.pi.long b hb
   omega
  have h2 := h1.length_le_of_subset (l₂ := List.range g.nv) fun x hx => by
   obtain ⟨p, hp, rfl⟩ := List.mem_map.1 hx
   have := hj.pi.long p hp
   exact List.mem_range.2 (show p.1 < g.nv by have h3 : p.1 + p.2 ≤ g.nv := this.2; omega)
  rw [List.length_map, List.length_range] at h2
  rw [List.length_map]; omega
 ·rw [List.length_map] at hk
  rw [CQ hk, hlen]
  have := hj.pi.long _ (List.getElem_mem hk)
  have h3 : P[k].1 + P[k].2 ≤ g.nv := this.2
  omega
 ·rw [List.length_map] at hk
  rw [CQ hk] at hz
  obtain ⟨j, hj2, rfl⟩ := (CZ _ _ _).1 hz
  have := hj.pi.long _ (List.getElem_mem hk)
  have h3 : P[k].1 + P[k].2 ≤ g.nv := this.2
  have := BP hj.pi.perm (i := P[k].1 + j) (show P[k].1 + j < g.nv by omega)
  exact ⟨by omega, Int.ofNat_lt.2 this⟩
 ·rw [List.length_map] at hk
  rw [CQ hk]
  have hl := hj.pi.long _ (List.getElem_mem hk)
  have h3 : P[k].1 + P[k].2 ≤ g.nv := hl.2
  have hs : (BJ (Go.Proofs.YteepnepebilckaaGreatDoor.clsL arr P[k])).Pairwise fun a b => decide (a ≤ b) = true := List.pairwise_mergeSort (le := fun x y : Int => decide (x ≤ y)) (fun a b c h1 h2 => decide_eq_true (Int.le_trans (of_decide_eq_true h1) (of_decide_eq_true h2))) (fun a b => by
   rcases Int.le_total a b with h | h <;> simp [h]) _
  have hnd : (BJ (Go.Proofs.YteepnepebilckaaGreatDoor.clsL arr P[k])).Nodup := by
   refine (List.mergeSort_perm _ _).nodup_iff.2 ?_
   unfold Go.Proofs.YteepnepebilckaaGreatDoor.clsL
   refine List.nodup_iff_pairwise_ne.2 (List.pairwise_map.2 (List.Pairwise.imp_of_mem (fun {a b} ha hb hab e => ?_) List.nodup_range))
   have ha := List.mem_range.1 ha
   have hb := List.mem_range.1 hb
   have := Ce hj.pi.perm (i := P[k].1 + a) (j := P[k].1 + b) (by omega) (by omega) (Int.ofNat_inj.1 e)
   exact hab (by omega)
  refine (hs.and (List.nodup_iff_pairwise_ne.1 hnd)).imp fun {a b} h => ?_
  have h1 := of_decide_eq_true h.1
  have h2 := h.2
  omega
 rw [List.length_map] at hk hq
 rw [CQ hk] at h1
 rw [CQ hq] at h2
 obtain ⟨j, hj1, rfl⟩ := (CZ _ _ _).1 h1
 obtain ⟨j', hj2, e⟩ := (CZ _ _ _).1 h2
 have e := Int.ofNat_inj.1 e
 have c1 := pk.cin _ (List.getElem_mem hk) j hj1
 have c2 := pk.cin _ (List.getElem_mem hq) j' hj2
 rw [e, c2] at c1
 exact (List.getElem_inj pk.nodup).1 (pk.cne _ (List.getElem_mem hk) _ (List.getElem_mem hq) c1.symm)
theorem CseR.num (h : CseR g fw A arr cls P rw) {c : Nat → Int} (hc : CNum g.nv (P.map fun p => BJ (Go.Proofs.YteepnepebilckaaGreatDoor.clsL arr p)) (P.map fun p => BJ (Go.Proofs.YteepnepebilckaaGreatDoor.clsL arr p)).length 0 c) {x y : Nat} (hx : x < g.nv) (hy : y < g.nv) : c x = c y ↔ cls (x + 1) = cls (y + 1) := by
 obtain ⟨pn, hj⟩ := h.pj
 have pk := hj.pi.pk
 have inn : ∀ {x}, (∃ p ∈ P, ∃ i, i < p.2 ∧ x = arr (p.1 + i)) → ∃ k, ∃ hk : k < P.length, c x = k ∧ cls (x + 1) = cls (arr P[k].1 + 1) := fun {x} hx => by
  obtain ⟨p, hp, i, hi, rfl⟩ := hx
  obtain ⟨k, hk, rfl⟩ := List.getElem_of_mem hp
  refine ⟨k, hk, ?_, pk.cin _ hp i hi⟩
  have := hc.old k (by rw [List.length_map]; exact hk) ((arr (P[k].1 + i) : Nat) : Int) (by rw [CQ hk]; exact (CZ _ _ _).2 ⟨i, hi, rfl⟩)
  exact this
 have outn : ∀ {x}, x < g.nv → (¬ ∃ p ∈ P, ∃ i, i < p.2 ∧ x = arr (p.1 + i)) → c x = -1 - (x : Int) ∧ cls (x + 1) = -((x : Int) + 1) := fun {x} hx hno => by
  refine ⟨hc.out x hx (fun q hq hm => ?_) (by rw [List.take_zero]; exact fun h => by cases h), ?_⟩
  ·rw [List.length_map] at hq
   rw [CQ hq] at hm
   obtain ⟨j, hj2, e⟩ := (CZ _ _ _).1 hm
   exact hno ⟨_, List.getElem_mem hq, j, hj2, Int.ofNat_inj.1 e⟩
  obtain ⟨i, hi, rfl⟩ := CP hj.pi.perm hx
  exact pk.cout i hi fun p hp hpi => hno ⟨p, hp, i - p.1, by omega, by rw [show p.1 + (i - p.1) = i by omega]⟩
 by_cases hxi : ∃ p ∈ P, ∃ i, i < p.2 ∧ x = arr (p.1 + i) <;> by_cases hyi : ∃ p ∈ P, ∃ i, i < p.2 ∧ y = arr (p.1 + i)
 ·obtain ⟨k, hk, a1, a2⟩ := inn hxi
  obtain ⟨q, hq, b1, b2⟩ := inn hyi
  rw [a1, b1, a2, b2]
  constructor
  ·intro e
   have e := Int.ofNat_inj.1 e
   subst e; rfl
  intro e
  have := (List.getElem_inj pk.nodup).1 (pk.cne _ (List.getElem_mem hk) _ (List.getElem_mem hq) e)
  rw [this]
 ·obtain ⟨k, hk, a1, a2⟩ := inn hxi
  obtain ⟨b1, b2⟩ := outn hy hyi
  have := (pk.cpos _ (List.getElem_mem hk)).1
  rw [a1, b1, a2, b2]
  constructor <;> intro e <;> omega
 ·obtain ⟨k, hk, a1, a2⟩ := inn hyi
  obtain ⟨b1, b2⟩ := outn hx hxi
  have := (pk.cpos _ (List.getElem_mem hk)).1
  rw [a1, b1, a2, b2]
  constructor <;> intro e <;> omega
 obtain ⟨a1, a2⟩ := outn hx hxi
 obtain ⟨b1, b2⟩ := outn hy hyi
 rw [a1, b1, a2, b2]
 constructor <;> intro e <;> omega
end
theorem head_key {f : Fn} {x y : Nat} (hbx : 0 ≤ (f.v x).blk) (hby : 0 ≤ (f.v y).blk) : Ea f x y ↔ key (toG f) x = key (toG f) y := by
 have hl : ∀ x, ((toG f).args x).length = (f.v x).args.length := fun x => List.length_map ..
 unfold Ea key
 rw [hl, hl]
 show (_ ↔ [(f.v x).op, (f.v x).aux, _, if (f.v x).op = 13 then (((f.v x).blk.toNat : Nat) : Int) + 1 else 0] = [(f.v y).op, (f.v y).aux, _, if (f.v y).op = 13 then (((f.v y).blk.toNat : Nat) : Int) + 1 else 0])
 constructor
 ·rintro ⟨a, b, c, d⟩
  rw [a, b, c]
  by_cases e : (f.v y).op = 13
  ·rw [if_pos e, if_pos e, d (a.trans e)]
  rw [if_neg e, if_neg e]
 intro h
 injection h with a h
 injection h with b h
 injection h with c h
 injection h with d _
 refine ⟨a, b, by omega, fun e => ?_⟩
 rw [if_pos e, if_pos (a ▸ e)] at d
 omega
theorem CseR.most {f : Fn} (hP : GoodP f) {fw : Prop} {A : Nat → List Nat} {arr : Nat → Nat} {cls : Nat → Int} {P : List (Nat × Nat)} {rw : Nat → Option Nat} (h : CseR (toG f) fw A arr cls P rw) (hc : ∀ k, k < f.vals.length → ¬ Cw (f.v k).op) {x y : Nat} (hx : x < f.vals.length) (hy : y < f.vals.length) :
 RT f (f.vals.length + 1) x y ↔ cls (x + 1) = cls (y + 1) := by
 have hop : ∀ i, i < f.vals.length → 0 ≤ (f.v i).op := fun i hi => (hP.val hi).1
 have hncom : ∀ v, v < (toG f).nv → comm ((toG f).op v).toNat = false := fun v hv => by
  cases e : comm ((toG f).op v).toNat with
  | false => rfl
  | true => exact absurd ((comm_I (hop v hv)).1 e) (hc v hv)
 have hgd : ∀ i k, ((toG f).args i).getD k 0 = ((f.v i).args.getD k 0).toNat := fun i k => Dl _ _
 have hal : ∀ i, ((toG f).args i).length = (f.v i).args.length := fun i => List.length_map ..
 have hrg : ∀ i, i < f.vals.length → ∀ z ∈ (f.v i).args, z.toNat < f.vals.length := fun i hi z hz => by
  have := hP.args hi z hz; omega
 obtain ⟨pn, hj⟩ := h.pj
 constructor
 ·intro hr
  refine hj.most hncom (fun x y => x < f.vals.length ∧ y < f.vals.length ∧ RT f (f.vals.length + 1) x y) ⟨fun x y hxy => ?_, fun x y hxy k hk => ?_⟩ x y hx hy ⟨hx, hy, hr⟩
  ·exact (head_key (hP.val hxy.1).2.2.1 (hP.val hxy.2.1).2.2.1).1 hxy.2.2.2.1
  have h1 := RT.stable f.vals.length hrg x y hxy.1 hxy.2.1 hxy.2.2
  have hk : k < (f.v x).args.length := by rw [← hal]; exact hk
  rw [hgd, hgd]
  exact ⟨hrg x hxy.1 _ (BG hk), hrg y hxy.2.1 _ (BG (by have := h1.2.1.2.2.1; omega)), h1.2.2 k hk⟩
 intro e
 have cc := h.clsC
 have hA : ∀ v, v < f.vals.length → A v = (toG f).args v := fun v hv => by
  rcases h.sw.args v with h1 | ⟨h1, _⟩
  ·exact h1
  rw [hncom v hv] at h1; cases h1
 have key : ∀ t x y, x < f.vals.length → y < f.vals.length → cls (x + 1) = cls (y + 1) → RT f t x y := fun t => by
  induction t with
  | zero => exact fun _ _ _ _ _ => trivial
  | succ t ih =>
    intro x y hx hy e
    have k1 : Go.Proofs.YteepnepebilckaaGreatDoor.key ((toG f).wa A) x = Go.Proofs.YteepnepebilckaaGreatDoor.key ((toG f).wa A) y := cc.key x y hx hy e
    have k2 : Go.Proofs.YteepnepebilckaaGreatDoor.key (toG f) x = Go.Proofs.YteepnepebilckaaGreatDoor.key (toG f) y := by
     unfold Go.Proofs.YteepnepebilckaaGreatDoor.key at k1 ⊢
     rw [show ((toG f).wa A).args x = (toG f).args x from hA x hx, show ((toG f).wa A).args y = (toG f).args y from hA y hy] at k1
     exact k1
    have hh := (head_key (hP.val hx).2.2.1 (hP.val hy).2.2.1).2 k2
    refine ⟨ih x y hx hy e, hh, fun k hk => ?_⟩
    have h3 := cc.arg hx hy e (k := k) (by rw [show ((toG f).wa A).args x = (toG f).args x from hA x hx, hal]; exact hk)
    rw [show ((toG f).wa A).args x = (toG f).args x from hA x hx, show ((toG f).wa A).args y = (toG f).args y from hA y hy, hgd, hgd] at h3
    exact ih _ _ (hrg x hx _ (BG hk)) (hrg y hy _ (BG (by have := hh.2.2.1; omega))) h3
 exact key _ x y hx hy e
theorem har_of {f : Fn} (hP : GoodP f) : ∀ i, i < f.vals.length → (f.v i).args.length ≤ 100 ∧ ∀ z ∈ (f.v i).args, 0 ≤ z ∧ z < f.vals.length := fun i hi => by
 have := hP.wf.args i hi
 exact ⟨by omega, this.2⟩
section
variable {P : Program} {w : World} {ρ : Operand → Value} {d : Option Tmp} {ty : TypeId} {pos : String} {af : Array Edge} {g : Option (Nat × Bool)}
theorem x_ex0 {x : Operand} {a b : Value} (hx : ρ x = .tuple #[a, b]) : (execOp ρ ⟨d, .extract x 0, ty, pos, af, g⟩).run P w = .ok (.value a) w := by
 have key : (Instr.extract (.tuple #[a, b]) 0).run P w = .ok a w := rfl
 simp [execOp, hx, key]
theorem x_ex1 {x : Operand} {a b : Value} (hx : ρ x = .tuple #[a, b]) : (execOp ρ ⟨d, .extract x 1, ty, pos, af, g⟩).run P w = .ok (.value b) w := by
 have key : (Instr.extract (.tuple #[a, b]) 1).run P w = .ok b w := rfl
 simp [execOp, hx, key]
end
set_option maxHeartbeats 4000000
attribute [local irreducible] EC EL DL Ret thenQ blockQ Bf bodyQ onlyN execOp Sem.run World.cell? World.frozen? World.setCell World.alloc
theorem FnPartitionMost_ret {w : World} {x : Value} {f : Fn} (hx : FnV w x f) (ht : Tabl w) :
 Ret Tryz.prog 4 #[x] w fun v w' => v = .bool true ∧ Below w.heap.size w w' := by
 obtain ⟨xv, xb, rfl, hvals, hblks⟩ := hx
 refine ret_of_EC Tryz.func4 rfl rfl ?_
 have hx0 : FnV w (.agg #[xv, xb]) f := ⟨xv, xb, rfl, hvals, hblks⟩
 obtain ⟨ab, cb, rfl, hbl⟩ := hblks
 obtain ⟨av, cv, rfl, hvl⟩ := hvals
 obtain ⟨B, hBd⟩ : ∃ B, B = w.heap.size := ⟨_, rfl⟩
 refine Ae (Ac (Ab (Bu (v := .agg #[.slice av f.vals.length cv, .slice ab f.blks.length cb]) rfl) rfl (el_new (.cells #[.slice av f.vals.length cv, .slice ab f.blks.length cb] 25) B (by omega) fun wa hN1 hO1 hZ1 hB1 hK1 => (Ab Ah rfl (Af (Aa ?_))))))
 obtain ⟨b1, hb1⟩ : ∃ b1, b1 = w.heap.size := ⟨_, rfl⟩
 rw [← hb1] at hN1 ⊢
 have hbw : Below b1 w wa := by rw [hb1, ← hBd]; exact hB1
 refine Ae (Ae (Ac (Ab (A5 (cs := [.slice av f.vals.length cv, .slice ab f.blks.length cb]) rfl (A0 rfl) (Bj hN1)) rfl (Bg (AH Tryz.func8 rfl rfl rfl rfl) rfl (fits1_ret (hx0.keep hK1)) ?_))))
 rintro _ w1 ⟨sb, rfl, hfit, hbs⟩
 refine Ab (B5 rfl) rfl (Af (Aa ?_))
 have hb1w : Below b1 w w1 := hbw.trans (hbs.mono (by omega))
 have hsz1 := hbs.size
 cases sb with
 | false =>
   refine Ba rfl rfl (Ae (Ac (Ab Ah rfl (Af (Aa (AD (AJ ?_)))))))
   exact Aw rfl rfl rfl ⟨rfl, hb1w⟩
 | true =>
 refine A6 rfl rfl (Aq (Aa ?_))
 obtain ⟨hf1, hf2⟩ := hfit rfl
 have hbx1 : w1.heap[b1]? = some (.cells #[.slice av f.vals.length cv, .slice ab f.blks.length cb] 25 (0, 0)) := (hbs.block b1 (by omega)).trans hN1
 have hKe1 : Keep w w1 := hK1.trans (Keep.of_below hbs (Nat.le_refl _))
 refine Ae (Ac (Ab (A5 (cs := [.slice av f.vals.length cv, .slice ab f.blks.length cb]) rfl (A0 rfl) (Bj hbx1)) rfl (Bg (AH Tryz.func9 rfl rfl rfl rfl) rfl (laws_conv_ret (hx0.keep hKe1) hf1 hf2) ?_)))
 rintro vc w2 ⟨hvc, hbl2⟩
 have hsz2 := hbl2.size
 have hvc0 := hvc
 obtain ⟨cxv, cxb, rfl, cvals, cblks⟩ := hvc
 obtain ⟨cab, ccb, rfl, hcbl⟩ := cblks
 obtain ⟨cav, ccv, rfl, hcvl⟩ := cvals
 refine Ab (Bb DE) rfl (Bd (Bh rfl rfl (Bc rfl) rfl rfl) rfl (Af (Aa ?_)))
 have hBle : B ≤ w2.heap.size := by omega
 refine ec_new (.cells #[.slice cav f.vals.length ccv, .slice cab f.blks.length ccb] 30) B (by omega) fun w3 hN3 hO3 hZ3 hB3 hK3 => ?_
 obtain ⟨b5, hb5⟩ : ∃ b5, b5 = w2.heap.size := ⟨_, rfl⟩
 rw [← hb5] at hN3 ⊢
 have hb3w : Below b1 w w3 := (hb1w.trans (hbl2.mono (by omega))).trans ⟨hB3.os, hB3.tape, hB3.output, hB3.size, fun j hj => hO3 j (by omega)⟩
 have hKe3 : Keep w w3 := (hKe1.trans (Keep.of_below hbl2 (Nat.le_refl _))).trans hK3
 have hvc3 := hvc0.keep hK3
 have hbx3 : w3.heap[b1]? = some (.cells #[.slice av f.vals.length cv, .slice ab f.blks.length cb] 25 (0, 0)) := (hO3 b1 (by omega)).trans ((hbl2.block b1 (by omega)).trans hbx1)
 refine Ae (Ae (Ac (Ab (A5 (cs := [.slice cav f.vals.length ccv, .slice cab f.blks.length ccb]) rfl (A0 rfl) (Bj hN3)) rfl (Bg (AH Tryz.func10 rfl rfl rfl rfl) rfl (Good_ret hvc3) ?_))))
 rintro _ w4 ⟨gb, rfl, hgood, hbl4⟩
 refine Ab (B5 rfl) rfl (Af (Aa ?_))
 have hK4 := Keep.of_below hbl4 (Nat.le_refl _)
 have hsz4 := hbl4.size
 have hb4 : Below b1 w w4 := hb3w.trans (hbl4.mono (by omega))
 cases gb with
 | false =>
   refine Ba rfl rfl (Ae (Ac (Ab Ah rfl (Af (Aa (AD (AJ ?_)))))))
   exact Aw rfl rfl rfl ⟨rfl, hb4⟩
 | true =>
 refine A6 rfl rfl (Aq (Aa ?_))
 have hgd := hgood.1 rfl
 have hKe4 : Keep w w4 := hKe3.trans hK4
 have hx4 := hx0.keep hKe4
 have hv4 := hvc3.keep hK4
 have ht4 := ht.keep hKe4
 have hbx4 : w4.heap[b1]? = some (.cells #[.slice av f.vals.length cv, .slice ab f.blks.length cb] 25 (0, 0)) := (hbl4.block b1 (by omega)).trans hbx3
 have hsx4 : w4.heap[b5]? = some (.cells #[.slice cav f.vals.length ccv, .slice cab f.blks.length ccb] 30 (0, 0)) := (hbl4.block b5 (A9 hN3)).trans hN3
 have hcv4 : ∀ k, k < f.vals.length → ∃ bb ob, cav = some ⟨bb, ob, none⟩ ∧ Quad w4 bb (ob + k * 4) (f.v k).op (f.v k).blk (f.v k).args (f.v k).aux := fun k hk => by
  obtain ⟨bb, ob, e, hq⟩ := hcvl.resolve_left (fun e => by rw [e] at hk; simp at hk)
  exact ⟨bb, ob, e, ((hq k hk).keep hK3).keep hK4⟩
 have hn48 := hgd.wf.nv
 have hzb : b1 < w4.heap.size ∧ b5 < w4.heap.size := ⟨A9 hbx4, A9 hsx4⟩
 have har := har_of hgd
 have g0 : w4.cell? ⟨b5, 0 + 0, none⟩ = some (.slice cav f.vals.length ccv) := Am hsx4 rfl
 obtain ⟨S0, hS0⟩ : ∃ S0, S0 = w4.heap.size := ⟨_, rfl⟩
 refine BV (fun e wr => At e [(1, .pointer (some ⟨b1, 0, none⟩)), (3, .pointer (some ⟨b5, 0, none⟩))] ∧ Below S0 w4 wr ∧ ∀ i, i < f.vals.length → ¬ Cw (f.v i).op) ?_ ?_
 ·refine Ae (Ac (Ab (Ak rfl (Al rfl)) rfl (Ab (Ai rfl (Ag rfl) ‹_›) rfl ?_)))
  refine Ab (AP rfl (An rfl)) rfl (Ab Ad rfl (Af (Aa (Ao ?_))))
  refine EC_loop (fun n e wr => ∃ k, k ≤ f.vals.length ∧ At e [(1, .pointer (some ⟨b1, 0, none⟩)), (3, .pointer (some ⟨b5, 0, none⟩)), (20, .slice cav f.vals.length ccv), (21, .int .i64 (f.vals.length : Int)), (22, .int .i64 (k : Int))] ∧ Below S0 w4 wr ∧ (∀ i, i < k → ¬ Cw (f.v i).op) ∧ n = f.vals.length - k) f.vals.length
   ⟨0, Nat.zero_le _, Ar rfl ⟨rfl, rfl, rfl, rfl, rfl, trivial⟩, Below.refl _ _, fun i hi => absurd hi (Nat.not_lt_zero _), rfl⟩ ?_
  rintro n e wr ⟨k, hk, ⟨t, rfl⟩, hb, hno, rfl⟩
  refine Ae (Ac (Ab (AW rfl rfl) rfl (Af (Aa (Ae ?_)))))
  refine AG rfl rfl (fun hlt => ?_) (fun hge => ?_)
  rotate_left
  ·have hk : k = f.vals.length := by omega
   subst hk
   refine AI (AB (AC (AA ?_)))
   exact Ct ⟨Ar rfl ⟨rfl, rfl, trivial⟩, hb, hno⟩
  have hlt : k < f.vals.length := by omega
  obtain ⟨bb, ob, rfl, ⟨s0, hcells0, ⟨sa, sc, rfl, _⟩⟩⟩ := hcv4 k hlt
  have hKr : Keep w4 wr := Keep.of_below hb (by omega)
  have hcells := hcells0.keep hKr
  have hszr := hb.size
  refine Aq (Aa (Ae (Ao (Ae (Ac (Ab (A3 (n := 4) rfl rfl (An rfl) hlt) rfl (Ab (A5 rfl (A0 rfl) hcells) rfl (Ab (Bb Cm) rfl (Bd (Bh rfl rfl (Bc rfl) rfl rfl) rfl (Af (Aa ?_)))))))))))
  have hBle : B ≤ wr.heap.size := by omega
  refine ec_new (.cells #[.int .i64 (f.v k).op, .int .i64 (f.v k).blk, .slice sa (f.v k).args.length sc, .int .i64 (f.v k).aux] 39) B (by omega) fun X hN7 hO7 hZ7 hB7 hK7 => ?_
  obtain ⟨V, hV⟩ : ∃ V, V = wr.heap.size := ⟨_, rfl⟩
  rw [← hV] at hN7 ⊢
  have hbX : Below S0 w4 X := hb.trans ⟨hB7.os, hB7.tape, hB7.output, hB7.size, fun j hj => hO7 j (by omega)⟩
  have v0 : X.cell? ⟨V, 0 + 0, none⟩ = some (.int .i64 (f.v k).op) := Am hN7 rfl
  refine Ae (Ac (Ab (Ak rfl (Al rfl)) rfl (Ab (Ai rfl (Ag rfl) ‹_›) rfl ?_)))
  refine Bg (AH Tryz.func14 rfl rfl rfl rfl) rfl (E9 _) ?_
  rintro _ wx ⟨rfl, ew⟩
  rw [ew]
  clear ew wx
  refine Af (Aa ?_)
  refine AG rfl rfl (fun hc => ?_) (fun hc => ?_)
  ·refine Ae (Ac (Ab Ah rfl (Af (Aa (AD (AO (AJ (Bp (AO (BO ?_))))))))))
   exact Aw rfl rfl rfl ⟨rfl, hb4.trans (hbX.mono (by omega))⟩
  refine Aq (Ap (Aa (Ac (Ab (x_inc rfl rfl (by omega)) rfl (Ab Ad rfl (Af ?_))))))
  refine Av (f.vals.length - (k + 1)) (by omega) ⟨k + 1, by omega, Ar rfl ⟨rfl, rfl, rfl, rfl, rfl, trivial⟩, hbX, fun i hi => ?_, rfl⟩
  by_cases e : i = k
  ·subst e; exact hc
  exact hno i (by omega)
 rintro e w5 ⟨⟨t, rfl⟩, hb5', hnc⟩
 have hK5 : Keep w4 w5 := Keep.of_below hb5' (by omega)
 have hz5 := hb5'.size
 have c1 := hK5 _ _ (Am (o := 0 + 0) (v := .slice av f.vals.length cv) hbx4 rfl)
 have c2 := hK5 _ _ (Am (o := 0 + 1) (v := .slice ab f.blks.length cb) hbx4 rfl)
 have hd5 : Below w5.heap.size w5 w5.drew := (Below.refl _ _).drew
 have ag5 : ∀ {W : World}, Below w5.heap.size w5 W → CellsAt W b1 0 [.slice av f.vals.length cv, .slice ab f.blks.length cb] := fun {W} h j u hj => Keep.of_below h (Nat.le_refl _) _ _ (hK5 _ _ (Bj hbx4 j u hj))
 refine AX (fun e W => ∃ cv6 c A arr cls P rw, At e [(3, .pointer (some ⟨b5, 0, none⟩)), (6, cv6), (7, .bool true)] ∧ Below w5.heap.size w5 W ∧ IntsV W cv6 ((List.range f.vals.length).map c) ∧ CseR (toG f) False A arr cls P rw ∧ ∀ x y, x < f.vals.length → y < f.vals.length → (c x = c y ↔ cls (x + 1) = cls (y + 1))) ?_ ?_
 ·refine AZ mixed (fun W => Below w5.heap.size w5 W) [(0, false), (2, false), (3, false), (4, false), (1, true), (5, true), (6, false), (7, false), (8, false), (9, false), (10, false)] (by kernel_rfl) hd5 ?_
  generalize w5.drew = Wd at hd5 ⊢
  refine Aj rfl (fun _ hS => A5 (cs := [.slice av f.vals.length cv, .slice ab f.blks.length cb]) rfl (A0 rfl) (ag5 hS)) (Aj rfl (fun _ _ => Ak rfl (Al rfl)) (Aj rfl (fun _ hS => Ai rfl (Ag rfl) (Keep.of_below hS (Nat.le_refl _) _ _ c1)) (Aj rfl (fun _ _ => AP rfl (An rfl)) ?_)))
  have hKd : Keep w4 Wd := hK5.trans (Keep.of_below hd5 (Nat.le_refl _))
  refine BL rfl (AH Tryz.func11 rfl rfl rfl rfl) (implPart_ret (fw := False) (hx4.keep hKd) hgd (ht4.keep hKd) fun h => h.elim) ?_
  rintro pv W6 ⟨⟨A, arr, cls, P, rw, us, hR, hL⟩, hb6⟩
  have hz6 := hd5.size
  have hb56 := hd5.trans (hb6.mono hz6)
  refine ⟨.inr hb56, ?_⟩
  refine BL rfl (AH Tryz.func12 rfl rfl rfl rfl) (classes_ret (n := f.vals.length) hL (hR.clsL hn48) hn48) ?_
  rintro _ W7 ⟨cv6, c, rfl, hI, hC, hb7⟩
  have hb57 := hb56.trans (hb7.mono hb56.size)
  refine ⟨.inr hb57, ?_⟩
  refine Aj rfl (fun _ _ => Ad) (Aj rfl (fun _ _ => x_ex0 rfl) (Aj rfl (fun _ _ => x_ex1 rfl) (Aj rfl (fun _ _ => Ah) (Aj rfl (fun _ _ => Ah) (AR ?_)))))
  exact AU ⟨cv6, c, A, arr, cls, P, rw, Ar rfl ⟨rfl, rfl, rfl, trivial⟩, hb57, hI, hR, fun x y hx hy => hR.num hC hx hy⟩
 rintro e W ⟨cv6, c, A, arr, cls, P, rw, ⟨t, rfl⟩, hbW, hI, hR, hnum⟩
 have hmost := fun {x y} hx hy => hR.most (x := x) (y := y) hgd hnc hx hy
 have hKW : Keep w4 W := hK5.trans (Keep.of_below hbW (Nat.le_refl _))
 have agW : CellsAt W b5 0 [.slice cav f.vals.length ccv, .slice cab f.blks.length ccb] := fun j u hj => hKW _ _ (Bj hsx4 j u hj)
 refine Ae (Ae (Ac (Ab Ad rfl (Ab (B5 rfl) rfl (Af (Aa (A6 rfl rfl (Aq (Aa (Ae (Ac ?_)))))))))))
 refine Ab (A5 (cs := [.slice cav f.vals.length ccv, .slice cab f.blks.length ccb]) rfl (A0 rfl) agW) rfl (Bg (AH Tryz.func15 rfl rfl rfl rfl) rfl (Classes_ret (hv4.keep hKW) hn48 har) ?_)
 rintro wv W8 ⟨C, hIC, hM, hb8⟩
 refine Ab Ah rfl (Af (Aa ?_))
 have hI8 := hI.keep (Keep.of_below hb8 (Nat.le_refl _))
 have hbF : Below b1 w W8 := ((hb4.trans (hb5'.mono (by omega))).trans (hbW.mono (by omega))).trans (hb8.mono (by have := hbW.size; omega))
 obtain ⟨S1, hS1⟩ : ∃ S1, S1 = W8.heap.size := ⟨_, rfl⟩
 have hzF := hbF.size
 obtain ⟨wa', wc', hwv⟩ : ∃ a c, wv = .slice a f.vals.length c := by
  obtain ⟨a, c, e, _⟩ := hIC
  exact ⟨a, c, by simpa using e⟩
 refine Ae (Ae (Ac (Ab Ad rfl (Ab (AP hwv (An rfl)) rfl (Ab Ad rfl (Af (Aa (Ao ?_))))))))
 refine EC_loop (fun n e wr => ∃ i, i ≤ f.vals.length ∧ At e [(6, cv6), (8, wv), (43, wv), (44, .int .i64 (f.vals.length : Int)), (45, .int .i64 (i : Int))] ∧ Below S1 W8 wr ∧ n = f.vals.length - i) f.vals.length
  ⟨0, Nat.zero_le _, Ar rfl ⟨rfl, rfl, rfl, rfl, rfl, trivial⟩, Below.refl _ _, rfl⟩ ?_
 rintro n e wr ⟨i, hi, ⟨t, rfl⟩, hb, rfl⟩
 refine Ae (Ac (Ab (AW rfl rfl) rfl (Af (Aa (Ae ?_)))))
 refine AG rfl rfl (fun hlt => ?_) (fun hge => ?_)
 rotate_left
 ·refine AI (AB (AC (AA (Aa (Ae (Ac (Ab Ah rfl (Af (Aa (AD ?_))))))))))
  exact Aw rfl rfl rfl ⟨rfl, hbF.trans (hb.mono (by omega))⟩
 have hin : i < f.vals.length := by omega
 refine Aq (Aa (Ae (Ao (Ae (Ac (Ab Ad rfl (Ab Ah rfl (Af (Aa (Ae (Ac ?_)))))))))))
 refine Ab Ad rfl (Ab Ad rfl (Af (Aa (Ao ?_))))
 refine EC_loop (fun n e wq => ∃ k, k ≤ i ∧ At e [(6, cv6), (8, wv), (43, wv), (44, .int .i64 (f.vals.length : Int)), (45, .int .i64 (i : Int)), (9, .int .i64 (i : Int)), (48, .int .i64 (i : Int)), (49, .int .i64 (k : Int))] ∧ Below S1 W8 wq ∧ n = i - k) i
  ⟨0, Nat.zero_le _, Ar rfl ⟨rfl, rfl, rfl, rfl, rfl, rfl, rfl, rfl, trivial⟩, hb, rfl⟩ ?_
 rintro n e wq ⟨k, hk, ⟨t, rfl⟩, hbq, rfl⟩
 refine Ae (Ac (Ab (AW rfl rfl) rfl (Af (Aa (Ae ?_)))))
 refine AG rfl rfl (fun hlt2 => ?_) (fun hge2 => ?_)
 rotate_left
 ·refine AI (AB (AC (AA (Ap (Aa (Ac (Ab (x_inc rfl rfl (by omega)) rfl (Ab Ad rfl (Af ?_)))))))))
  exact Av (f.vals.length - (i + 1)) (by omega) ⟨i + 1, by omega, Ar rfl ⟨rfl, rfl, rfl, rfl, rfl, trivial⟩, hbq, rfl⟩
 have hki : k < i := by omega
 refine Aq (Aa ?_)
 have hKq : Keep W8 wq.drew := (Keep.of_below hbq (by omega)).trans (Keep.drew wq)
 obtain ⟨p1, p2, p3, e1, d1⟩ := Ci (hIC.keep hKq) hin
 obtain ⟨_, _, _, e1', d2⟩ := Ci (hIC.keep hKq) (k := k) (by omega)
 rw [e1] at e1'
 cases e1'
 obtain ⟨q1, q2, q3, e2, d3⟩ := Ci (hI8.keep hKq) hin
 obtain ⟨_, _, _, e2', d4⟩ := Ci (hI8.keep hKq) (k := k) (by omega)
 rw [e2] at e2'
 cases e2'
 have hiff : (((C i : Nat) : Int) = ((C k : Nat) : Int)) ↔ c i = c k := by
  rw [hnum i k hin (by omega), ← hmost hin (show k < f.vals.length by omega), ← hM.iff hin (show k < f.vals.length by omega)]
  exact Int.ofNat_inj
 refine Ae (Ao (Ae (Ac (Ab Ad rfl (Ab Ah rfl (Af (Aa (Ae (AZ mixed (fun w' => w' = wq.drew) [(0, false), (1, false), (2, false), (3, false), (4, false), (5, false), (6, false), (7, false), (8, false), (9, false), (10, false), (11, false), (12, false), (13, false), (14, false), (15, false), (16, false), (17, false), (18, false)] (by kernel_rfl) rfl ?_)))))))))
 have hbq2 : Below S1 W8 wq.drew := hbq.drew
 generalize wq.drew = Wd at *
 refine Aj rfl (fun _ _ => Ad) (Aj rfl (fun _ _ => Ad) (Aj rfl (fun _ _ => x_index1 (i := i) e1 rfl (An rfl) (by omega)) (Aj rfl (fun _ hS => Ai rfl (Ag rfl) (by cases hS; exact d1)) ?_)))
 refine Aj rfl (fun _ _ => Ad) (Aj rfl (fun _ _ => Ad) (Aj rfl (fun _ _ => x_index1 (i := k) e1 rfl (An rfl) (by omega)) (Aj rfl (fun _ hS => Ai rfl (Ag rfl) (by cases hS; exact d2)) ?_)))
 refine Aj rfl (fun _ _ => Bi rfl rfl) (Aj rfl (fun _ _ => Ad) (Aj rfl (fun _ _ => Ad) (Aj rfl (fun _ _ => x_index1 (i := i) e2 rfl (An rfl) (by omega)) (Aj rfl (fun _ hS => Ai rfl (Ag rfl) (by cases hS; exact d3)) ?_))))
 refine Aj rfl (fun _ _ => Ad) (Aj rfl (fun _ _ => Ad) (Aj rfl (fun _ _ => x_index1 (i := k) e2 rfl (An rfl) (by omega)) (Aj rfl (fun _ hS => Ai rfl (Ag rfl) (by cases hS; exact d4)) ?_)))
 refine Aj rfl (fun _ _ => Bi rfl rfl) (Aj rfl (fun _ _ => EV rfl rfl) (AR (Aa ?_)))
 rw [show (decide (((C i : Nat) : Int) = ((C k : Nat) : Int)) != decide (c i = c k)) = false by rw [decide_eq_decide.2 hiff]; exact bne_self_eq_false _]
 refine A6 rfl rfl (Aq (Ap (Aa (Ac (Ab (x_inc rfl rfl (by omega)) rfl (Ab Ad rfl (Af ?_)))))))
 exact Av (i - (k + 1)) (by omega) ⟨k + 1, by omega, Ar rfl ⟨rfl, rfl, rfl, rfl, rfl, rfl, rfl, rfl, trivial⟩, hbq2, rfl⟩
end Go.Proofs.YteepnepebilckaaGreatDoor
namespace Go.Proofs.YteepnepebilckaaGreatDoor
open Go Go.ChangeShapes Go.WideShapes Go.ChangeAt Go.RowKit Go.Deep Go.Joins
section
variable {H : Type} {enc : TypeId × Value → H} {w : World} {spare : Nat → Bool}
theorem len4 {α : Type} {l : List α} (h : l.length = 4) : ∃ a b c d, l = [a, b, c, d] := by
 match l, h with
 | [a, b, c, d], _ => exact ⟨a, b, c, d, rfl⟩
theorem open_intsV {t e : TypeId} {fuel : Nat} {v : Value} {x : DataW H × List MemPlace} (ht : Tryz.prog.underlying t = some (.slice e)) (he : Tryz.prog.underlying e = some (.int .i64)) (hc : Tryz.prog.cellsOf e = 1)
 (h : DataW.trod enc Tryz.prog w 0 (fun _ => true) true fuel t [v] = some x) : ∃ l, IntsV w v l := by
 rcases open_ints ht he hc h with ⟨h1, _⟩ | ⟨a, len, cap, zs, h1, _, hl, _, hz, _, hcell, _⟩
 ·simp only [List.cons.injEq, and_true] at h1
  subst h1
  exact ⟨[], none, 0, rfl, Nat.le_refl _, .inl rfl⟩
 simp only [List.cons.injEq, and_true] at h1
 subst h1
 simp only [if_true] at hz
 have hlen : (zs.take len).length = len := by rw [List.length_take]; omega
 refine ⟨zs.take len, some a, cap, by rw [hlen], by rw [hlen]; exact hl, ?_⟩
 cases len with
 | zero => exact .inl (by simp)
 | succ n =>
   right
   obtain ⟨b, o, spot⟩ := a
   have h0 := hcell 0 (by omega)
   have hs : spot = none := by
    have := World.cell?_spot h0
    simpa [Addr.add] using this
   subst hs
   refine ⟨b, o, rfl, fun k hk => ?_⟩
   rw [hlen] at hk
   have h1 := hcell k (by omega)
   rw [add_plain] at h1
   have hg : (zs.take (n + 1)).getD k 0 = zs.getD k 0 := by
    rw [List.getD_eq_getElem?_getD, List.getD_eq_getElem?_getD, List.getElem?_take, if_pos hk]
   rw [h1, hg]
theorem DZ {t : TypeId} {f0 f1 f2 f3 : Field} {fuel : Nat} {b o : Nat} {cs : List Value} {x : DataW H × List MemPlace}
 (ht : Tryz.prog.underlying t = some (.struct #[f0, f1, f2, f3])) (hC : Tryz.prog.cellsOf t = 4)
 (h0 : f0.offset = 0 ∧ Tryz.prog.cellsOf f0.type = 1 ∧ Tryz.prog.underlying f0.type = some (.int .i64)) (h1 : f1.offset = 1 ∧ Tryz.prog.cellsOf f1.type = 1 ∧ Tryz.prog.underlying f1.type = some (.int .i64))
 (h2 : f2.offset = 2 ∧ Tryz.prog.cellsOf f2.type = 1 ∧ f2.type = 35) (h3 : f3.offset = 3 ∧ Tryz.prog.cellsOf f3.type = 1 ∧ Tryz.prog.underlying f3.type = some (.int .i64))
 (hcs : ∀ i, i < 4 → w.cell? ⟨b, o + i, none⟩ = cs[i]?)
 (h : DataW.trod enc Tryz.prog w 0 (fun _ => true) true fuel t cs = some x) : ∃ p q l z, Quad w b o p q l z := by
 obtain ⟨xs, n, _, _, hl, hx, hf⟩ := DataW.trod_struct ht h
 rw [hC] at hl
 obtain ⟨c0, c1, c2, c3, rfl⟩ := len4 hl
 obtain ⟨y0, y1, y2, y3, rfl⟩ := len4 (hx.trans rfl)
 have k0 := hf 0 f0 rfl
 have k1 := hf 1 f1 rfl
 have k2 := hf 2 f2 rfl
 have k3 := hf 3 f3 rfl
 rw [h0.1, h0.2.1] at k0
 rw [h1.1, h1.2.1] at k1
 rw [h2.1, h2.2.1, h2.2.2] at k2
 rw [h3.1, h3.2.1] at k3
 obtain ⟨p, e0, _⟩ := DataW.trod_int h0.2.2 (show DataW.trod enc Tryz.prog w 0 (fun _ => true) true n f0.type [c0] = some y0 from k0)
 obtain ⟨q, e1, _⟩ := DataW.trod_int h1.2.2 (show DataW.trod enc Tryz.prog w 0 (fun _ => true) true n f1.type [c1] = some y1 from k1)
 obtain ⟨z, e3, _⟩ := DataW.trod_int h3.2.2 (show DataW.trod enc Tryz.prog w 0 (fun _ => true) true n f3.type [c3] = some y3 from k3)
 obtain ⟨l, hli⟩ := open_intsV Tryz.underlying35 Tryz.underlying3 (by kernel_rfl) (show DataW.trod enc Tryz.prog w 0 (fun _ => true) true n 35 [c2] = some y2 from k2)
 simp only [List.cons.injEq, and_true] at e0 e1 e3
 subst e0; subst e1; subst e3
 refine ⟨p, q, l, z, c2, fun j v hj => ?_, hli⟩
 have hlt : j < 4 := by
  have := (List.getElem?_eq_some_iff.1 hj).1
  simpa using this
 rw [hcs j hlt]; exact hj
theorem open_vals {fuel : Nat} {v : Value} {x : DataW H × List MemPlace} (h : DataW.trod enc Tryz.prog w 0 (fun _ => true) true fuel 22 [v] = some x) : ∃ l, ValsV w v l := by
 rcases open_slice Tryz.underlying22 h with ⟨h1, _⟩ | ⟨a, len, cap, m, n, D, Pl, h1, _, hl, _, hm, _, hx⟩
 ·simp only [List.cons.injEq, and_true] at h1
  subst h1
  exact ⟨[], none, 0, rfl, .inl rfl⟩
 simp only [List.cons.injEq, and_true] at h1
 subst h1
 simp only [if_true] at hm
 have hC : Tryz.prog.cellsOf 48 = 4 := by kernel_rfl
 cases len with
 | zero => exact ⟨[], some a, cap, rfl, .inl rfl⟩
 | succ k =>
   obtain ⟨b, o, spot⟩ := a
   have hs : spot = none := by
    obtain ⟨cs', h2, _⟩ := hx 0 (by omega)
    obtain ⟨_, h3, h4⟩ := World.cells?_some h2
    have h5 := h4 0 (by rw [hC]; omega)
    rw [List.getElem?_eq_getElem (by omega)] at h5
    have := World.cell?_spot h5
    simpa [Addr.add] using this
   subst hs
   have hq : ∀ i, i < k + 1 → ∃ (y : Int × Int × List Int × Int), Quad w b (o + i * 4) y.1 y.2.1 y.2.2.1 y.2.2.2 := fun i hi => by
    obtain ⟨cs', h2, h3⟩ := hx i (by omega)
    rw [hC] at h2
    obtain ⟨_, h4, h5⟩ := World.cells?_some h2
    obtain ⟨p, q, l, z, hq⟩ := DZ (b := b) (o := o + i * 4) Tryz.underlying48 hC ⟨rfl, by kernel_rfl, Tryz.underlying3⟩ ⟨rfl, by kernel_rfl, Tryz.underlying3⟩ ⟨rfl, by kernel_rfl, rfl⟩ ⟨rfl, by kernel_rfl, Tryz.underlying2⟩ (fun j hj => by
     have := h5 j hj
     rw [add_plain, add_plain] at this
     exact this) h3
    exact ⟨(p, q, l, z), hq⟩
   obtain ⟨Y, hY⟩ := choose_lt hq
   refine ⟨(List.range (k + 1)).map fun i => ⟨(Y i).1, (Y i).2.1, (Y i).2.2.1, (Y i).2.2.2⟩, some ⟨b, o, none⟩, cap, by simp, .inr ⟨b, o, rfl, fun i hi => ?_⟩⟩
   have hi' : i < k + 1 := by simpa using hi
   rw [List.getD_eq_getElem?_getD, List.getElem?_map, List.getElem?_range hi']
   exact hY i hi'
theorem open_blks {fuel : Nat} {v : Value} {x : DataW H × List MemPlace} (h : DataW.trod enc Tryz.prog w 0 (fun _ => true) true fuel 23 [v] = some x) : ∃ l, BlksV w v l := by
 rcases open_slice Tryz.underlying23 h with ⟨h1, _⟩ | ⟨a, len, cap, m, n, D, Pl, h1, _, hl, _, hm, _, hx⟩
 ·simp only [List.cons.injEq, and_true] at h1
  subst h1
  exact ⟨[], none, 0, rfl, .inl rfl⟩
 simp only [List.cons.injEq, and_true] at h1
 subst h1
 simp only [if_true] at hm
 have hC : Tryz.prog.cellsOf 53 = 4 := by kernel_rfl
 cases len with
 | zero => exact ⟨[], some a, cap, rfl, .inl rfl⟩
 | succ k =>
   obtain ⟨b, o, spot⟩ := a
   have hs : spot = none := by
    obtain ⟨cs', h2, _⟩ := hx 0 (by omega)
    obtain ⟨_, h3, h4⟩ := World.cells?_some h2
    have h5 := h4 0 (by rw [hC]; omega)
    rw [List.getElem?_eq_getElem (by omega)] at h5
    have := World.cell?_spot h5
    simpa [Addr.add] using this
   subst hs
   have hq : ∀ i, i < k + 1 → ∃ (y : Int × Int × List Int × Int), Quad w b (o + i * 4) y.1 y.2.1 y.2.2.1 y.2.2.2 := fun i hi => by
    obtain ⟨cs', h2, h3⟩ := hx i (by omega)
    rw [hC] at h2
    obtain ⟨_, h4, h5⟩ := World.cells?_some h2
    obtain ⟨p, q, l, z, hq⟩ := DZ (b := b) (o := o + i * 4) Tryz.underlying53 hC ⟨rfl, by kernel_rfl, Tryz.underlying3⟩ ⟨rfl, by kernel_rfl, Tryz.underlying3⟩ ⟨rfl, by kernel_rfl, rfl⟩ ⟨rfl, by kernel_rfl, Tryz.underlying3⟩ (fun j hj => by
     have := h5 j hj
     rw [add_plain, add_plain] at this
     exact this) h3
    exact ⟨(p, q, l, z), hq⟩
   obtain ⟨Y, hY⟩ := choose_lt hq
   refine ⟨(List.range (k + 1)).map fun i => ⟨(Y i).1, (Y i).2.1, (Y i).2.2.1, (Y i).2.2.2⟩, some ⟨b, o, none⟩, cap, by simp, .inr ⟨b, o, rfl, fun i hi => ?_⟩⟩
   have hi' : i < k + 1 := by simpa using hi
   rw [List.getD_eq_getElem?_getD, List.getElem?_map, List.getElem?_range hi']
   exact hY i hi'
set_option maxRecDepth 100000 in
theorem GO {r : Reach} {b0 : Nat} {v : Value} {d : DataW H} {p : List MemPlace} (hv : Value.okWide Tryz.prog w r b0 25 v)
 (h : DataW.Trod enc Tryz.prog w 0 (fun _ => true) true 25 v d p) : ∃ f, FnV w v f := by
 obtain ⟨v0, v1, y0, y1, n, rfl, _, _, h0, h1⟩ := open_agg2 Tryz.underlying25 (by kernel_rfl) (by kernel_rfl) hv h
 obtain ⟨l0, k0⟩ := open_vals h0
 obtain ⟨l1, k1⟩ := open_blks h1
 exact ⟨⟨l0, l1⟩, v0, v1, rfl, k0, k1⟩
end
theorem ownK : ownKnob Tryz.prog.godebug = none := by kernel_rfl
theorem laidK : laidOutB Tryz.prog = true := by kernel_rfl
end Go.Proofs.YteepnepebilckaaGreatDoor
namespace Go.Proofs.YteepnepebilckaaGreatDoor
open Go Go.ChangeShapes Go.WideShapes Go.ChangeAt Go.WideElems Go.RowKit Go.Deep Go.Joins
def Eg : String := "loop.example/pub-passesoverblocks/pub/ssapasses.opcodeTable"
def D8 : List (String × DataW Unit) := [(Eg, Rows.laid_loop_example_pub_passesoverblocks_pub_ssapasses_opcodeTable)]
theorem gOp : Tryz.prog.globalNamed Eg = some 0 := by kernel_rfl
theorem tOp : (Tryz.prog.globals[0]?).map (·.type) = some 117 := by kernel_rfl
theorem gs_one {H : Type} {enc : TypeId × Value → H} {W : World} {sp : Nat → Bool} {gs : List (DataW H)} {q : List MemPlace} (h : DataW.TrodVars enc Tryz.prog W sp [Eg] gs q) : ∃ d, gs = [d] := by
 obtain ⟨_, _, _, _, d, _, e, _⟩ := trodVars_one h
 exact ⟨d, e⟩
set_option maxRecDepth 100000 in
theorem Ge (os : Os) (args : Array Value) : laidMetH Tryz.prog D8 ((World.doorLaid Tryz.prog 22 os).forCall (fun _ _ => 0) ⟨#[], args, []⟩).memory :=
 laidMetH_of_parts3 (fuel := 8) (laidMet_of_run' 8 (by kernel_rfl) (by kernel_rfl)) (by kernel_rfl) (by kernel_rfl)
theorem FQ : ∀ k, k < 21 → [false, false, true, false, true, true, true, true, false, false, false, true, true, false, false, false, false, false, false, false, false][k]? = some (comm k) := by decide
set_option maxRecDepth 100000 in
theorem tabl_of_laid {W : World} (h : laidMetH Tryz.prog D8 W) : Tabl W := by
 rw [MakeChecks.laidMetH_plain _ _ _ (by kernel_rfl)] at h
 obtain ⟨ps, ⟨g0, t0, cs0, f0, p0, q0, hg0, ht0, hv0, hd0, _⟩, _, _⟩ := h
 obtain rfl := Option.some.inj (gOp.symm.trans hg0)
 obtain rfl := Option.some.inj (tOp.symm.trans ht0)
 intro k hk
 have hc := World.var?_cell hg0 hv0 k
 obtain ⟨xs, m1, rfl, hx1, hlen, hn3, hel⟩ := DataW.trod_array Tryz.underlying117 hd0
 have c1 : Tryz.prog.cellsOf 116 = 1 := by kernel_rfl
 have cb : Tryz.prog.cellsOf 4 = 1 := by kernel_rfl
 have h0 := hel k hk
 rw [c1, Nat.mul_one] at h0
 simp only [Prod.mk.injEq] at hx1
 have hxs : (xs.map (·.1))[k]? = some (.agg [.lit (.bool (comm k))]) := by
  have e : DataW.agg (xs.map (·.1)) = (.agg (([false, false, true, false, true, true, true, true, false, false, false, true, true, false, false, false, false, false, false, false, false] : List Bool).map fun b => .agg [.lit (.bool b)]) : DataW Unit) := hx1.1.symm
  injection e with e
  rw [e, List.getElem?_map, FQ k hk]
  rfl
 obtain ⟨y, hy, hy2⟩ : ∃ y, xs[k]? = some y ∧ y.1 = .agg [.lit (.bool (comm k))] := by
  rw [List.getElem?_map] at hxs
  obtain ⟨y, h1, h2⟩ := Option.map_eq_some_iff.1 hxs
  exact ⟨y, h1, h2⟩
 rw [hy] at h0
 obtain ⟨y0, n, e1, hl, h1⟩ := trod_struct1 Tryz.underlying116 h0
 rw [e1] at hy2
 injection hy2 with hy2
 injection hy2 with hy2 _
 rw [c1] at hl
 have hlk : k < cs0.toList.length := by
  rw [List.length_take, List.length_drop] at hl
  omega
 have hd : (cs0.toList.drop k).take 1 = [cs0.toList[k]] := by
  rw [List.drop_eq_getElem_cons hlk]; rfl
 rw [hd] at h1
 have h1 : DataW.trod (fun _ => ()) Tryz.prog W 0 (fun _ => true) false n 4 [cs0.toList[k]] = some y0 := by
  have : (([cs0.toList[k]].drop 0).take (Tryz.prog.cellsOf 4)) = [cs0.toList[k]] := by rw [cb]; rfl
  rw [← this]; exact h1
 obtain ⟨b, e2, e3⟩ := DataW.trod_bool Tryz.underlying4 h1
 rw [hc]
 have hk2 : k < cs0.size := by simpa using hlk
 rw [Array.getElem?_eq_getElem hk2]
 simp only [List.cons.injEq, and_true] at e2
 have e4 : cs0[k] = .bool b := by simpa using e2
 rw [e4]
 rw [e3] at hy2
 injection hy2 with hy2
 injection hy2 with hy2
 rw [hy2]
end Go.Proofs.YteepnepebilckaaGreatDoor
