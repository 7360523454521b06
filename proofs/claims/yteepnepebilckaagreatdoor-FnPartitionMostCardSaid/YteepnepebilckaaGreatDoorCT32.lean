/- For every input in which the opcode table reads as laid the law FnPartitionMost returns true, and its argument reads as it did, the table being tied to the text of the program. -/
import Derived.Test.YteepnepebilckaaGreatDoorCT31
namespace Go.Proofs.YteepnepebilckaaGreatDoor
open Go Go.Eng Go.RowKit Go.Shelf
section
variable {g0 g : Gph} {arr : Nat → Nat} {cls : Nat → Int} {P : List (Nat × Nat)} {pn : Int} {fw : Prop} {o n m i : Nat} {D : List Nat}
theorem Phi_perm {P P' : List (Nat × Nat)} (h : P.Perm P') : Phi P = Phi P' := by
 induction h with
 | nil => rfl
 | cons x _ ih => simp [Phi] at ih ⊢; omega
 | swap x y l => simp [Phi]; omega
 | trans _ _ a b => exact a.trans b
theorem clsD_S (hp : D.Perm (clsD arr o n)) : clsD (AY arr o n D) o n = D := by
 have hl : D.length = n := by rw [hp.length_eq, BA]
 refine List.ext_getElem (by rw [BA, hl]) fun j h1 h2 => ?_
 have h3 := BR (arr := AY arr o n D) (o := o) (n := n) (j := j) (by omega)
 rw [arrS_in (by omega), List.getD_eq_getElem?_getD, List.getElem?_eq_getElem h1, List.getD_eq_getElem?_getD, List.getElem?_eq_getElem h2] at h3
 exact h3
theorem PJ.cut (h : PJ g0 g arr cls P pn fw) (hi : i < P.length) (hPi : P[i] = (o, n)) (hm : m = if comm (g.op (arr o)).toNat then n else 0) (hargs : ∀ v, v < g0.nv → ∀ x ∈ g0.args v, x < g0.nv)
 (hso : SortOut (fun x y => ca cls ((gsw g cls arr o m).args x) ((gsw g cls arr o m).args y)) (clsD arr o n) D) (h1 : (spt (gsw g cls arr o m) cls (AY arr o n D) o n).length ≠ 1)
 {R : (Nat → Int) × List (Nat × Nat) × Int} (hR : R = parts (AY arr o n D) o (spt (gsw g cls arr o m) cls (AY arr o n D) o n ++ [n]) cls (popP P i) pn) :
 PJ g0 (gsw g cls arr o m) (AY arr o n D) R.1 R.2.1 R.2.2 fw ∧ R.2.2 + Phi R.2.1 + 1 ≤ pn + Phi P ∧ pn ≤ R.2.2 := by
 have hX : (o, n) ∈ P := hPi ▸ List.getElem_mem hi
 have hpk := h.pi.pk
 have hXl := h.pi.long _ hX
 have hn : 2 ≤ n := hXl.1
 have hon : o + n ≤ g.nv := hXl.2
 have hnv : g.nv = g0.nv := by rw [h.sw.eq]
 have hpk1 : PK (gsw g cls arr o m) (AY arr o n D) cls P pn := (hpk.gsw o m).sortS hX hso.perm
 have hpp := popP_perm hi
 rw [hPi] at hpp
 have hpk2 := hpk1.of_perm hpp
 obtain ⟨r0, hr0⟩ := E3 (g := gsw g cls arr o m) (cls := cls) (arr := AY arr o n D) (o := o) n
 have hinc := spt_inc (g := gsw g cls arr o m) (cls := cls) (arr := AY arr o n D) (o := o) (n := n) (by omega)
 have hks : ∀ k, k ∈ spt (gsw g cls arr o m) cls (AY arr o n D) o n → k = 0 ∨ k ∈ r0 ++ [n] := fun k hk => by
  rw [hr0] at hk
  rcases List.mem_cons.1 hk with h2 | h2
  ·exact .inl h2
  exact .inr (List.mem_append_left _ h2)
 have hks2 : ∀ k, k ∈ r0 ++ [n] → k ∈ spt (gsw g cls arr o m) cls (AY arr o n D) o n ∨ k = n := fun k hk => by
  rcases List.mem_append.1 hk with h2 | h2
  ·exact .inl (by rw [hr0]; exact .tail _ h2)
  exact .inr (by simpa using h2)
 have hrl : 2 ≤ (r0 ++ [n]).length := by
  rw [hr0] at h1
  rw [List.length_append]
  simp at h1 ⊢
  have : r0.length ≠ 0 := fun e => h1 (List.eq_nil_of_length_eq_zero e)
  omega
 have hc : spt (gsw g cls arr o m) cls (AY arr o n D) o n ++ [n] = 0 :: (r0 ++ [n]) := by rw [hr0]; rfl
 rw [hc] at hinc hR
 have hpo := parts_ok (g := gsw g cls arr o m) (arr := AY arr o n D) (o := o) (n := n) (r0 ++ [n]) 0 cls (popP P i) pn (by simp) hinc (fun _ => by simp) hpk2 h.pos
 rw [← hR] at hpo
 have hmem : ∀ p ∈ popP P i, p ∈ P := fun p hp => hpp.mem_iff.2 (List.mem_append_left _ hp)
 have hneX : ∀ p ∈ popP P i, p ≠ (o, n) := fun p hp e => by
  have := (List.nodup_append.1 hpk2.nodup).2.2 p hp (o, n) (.head _)
  exact this e
 refine ⟨⟨hpo.pk.pi fun p hp => ?_, ?_, h.sw.gsw hm (h.opeq hX), fun hcm Rl hcg x y hx hy hxy => ?_, fun hf p hp => ?_⟩, ?_, hpo.le⟩
 ·rcases hpo.new p hp with h2 | h2
  ·exact (h.pi.long p (hmem p h2)).1
  exact h2.1
 ·have := hpo.le; have := h.pos; omega
 ·-- congruent values stay together
  have hm0 : m = 0 := by
   rw [hm, if_neg]
   have : g.op = g0.op := by rw [h.sw.eq]
   rw [this, hcm (arr o) (by rw [← hnv]; exact BP h.pi.perm (by omega))]
   simp
  have hge : ∀ v, v < g0.nv → (gsw g cls arr o m).args v = g0.args v := fun v hv => by
   rw [hm0, D0]
   rcases h.sw.args v with h2 | ⟨h2, _⟩
   ·exact h2
   rw [hcm v hv] at h2; cases h2
  have hold := h.most hcm Rl hcg x y hx hy hxy
  have hx' : x < (gsw g cls arr o m).nv := by show x < g.nv; omega
  have hy' : y < (gsw g cls arr o m).nv := by show y < g.nv; omega
  have e0 : cls (AY arr o n D o + 1) = cls (AY arr o n D o + 1) := rfl
  by_cases hxc : cls (x + 1) = cls (AY arr o n D o + 1)
  ·obtain ⟨u, hu, rfl⟩ := hpk1.mem_of hX hx' hxc
   obtain ⟨v, hv, rfl⟩ := hpk1.mem_of hX hy' (by rw [← hold, hxc])
   have hve : vcl (gsw g cls arr o m) cls (AY arr o n D (o + u)) = vcl (gsw g cls arr o m) cls (AY arr o n D (o + v)) := by
    unfold vcl
    rw [hge _ hx, hge _ hy]
    have hkl : (g0.args (AY arr o n D (o + u))).length = (g0.args (AY arr o n D (o + v))).length := by
     have hk := hcg.key _ _ hxy
     unfold key at hk
     injection hk with _ hk
     injection hk with _ hk
     injection hk with hk _
     omega
    refine List.ext_getElem (by simpa using hkl) fun k h5 h6 => ?_
    rw [List.length_map] at h5 h6
    have h7 := hcg.args _ _ hxy k h5
    rw [List.getD_eq_getElem?_getD, List.getElem?_eq_getElem h5, List.getD_eq_getElem?_getD, List.getElem?_eq_getElem h6] at h7
    have h7 : Rl ((g0.args (AY arr o n D (o + u)))[k]) ((g0.args (AY arr o n D (o + v)))[k]) := h7
    rw [List.getElem_map, List.getElem_map]
    exact h.most hcm Rl hcg _ _ (hargs _ hx _ (List.getElem_mem h5)) (hargs _ hy _ (List.getElem_mem h6)) h7
   have hlen1 : ∀ i, i < n → ((gsw g cls arr o m).args (AY arr o n D (o + i))).length = ((gsw g cls arr o m).args (AY arr o n D o)).length := fun i hi => by
    have hk := hpk1.same _ hX i hi
    unfold key at hk
    injection hk with _ hk
    injection hk with _ hk
    injection hk with hk _
    have hk : (((gsw g cls arr o m).args (AY arr o n D o)).length : Int) = ((gsw g cls arr o m).args (AY arr o n D (o + i))).length := hk
    omega
   have hone : ∀ a c, a < c → c < n → vcl (gsw g cls arr o m) cls (AY arr o n D (o + a)) = vcl (gsw g cls arr o m) cls (AY arr o n D (o + c)) → R.1 (AY arr o n D (o + a) + 1) = R.1 (AY arr o n D (o + c) + 1) := fun a c hac hcn he => by
    refine hpo.one a c (Nat.zero_le _) hac hcn fun k hk => ?_
    rcases hks2 k hk with h5 | h5
    ·exact spt_same (D := clsD arr o n) (by rw [clsD_S hso.perm]; exact hso) (BA _ _ _) hlen1 hac hcn he k h5
    omega
   rcases Nat.lt_trichotomy u v with h5 | h5 | h5
   ·exact hone u v h5 hv hve
   ·rw [h5]
   exact (hone v u h5 hu hve.symm).symm
  have hout : ∀ z, z < (gsw g cls arr o m).nv → cls (z + 1) ≠ cls (AY arr o n D o + 1) → R.1 (z + 1) = cls (z + 1) := fun z hz hne => by
   obtain ⟨q, hq, rfl⟩ := CP hpk1.perm hz
   refine hpo.out q hq fun hin => hne ?_
   have h5 := hpk1.cin _ hX (q - o) (by show q - o < n; omega)
   have h5 : cls (AY arr o n D (o + (q - o)) + 1) = cls (AY arr o n D o + 1) := h5
   rw [show o + (q - o) = q by omega] at h5
   exact h5
  rw [hout x hx' hxc, hout y hy' (by rw [← hold]; exact hxc)]
  exact hold
 ·have hfX := h.few hf _ hX
  rcases hpo.new p hp with h2 | ⟨h2, h3, h4, h5⟩
  ·have h3 := h.few hf p (hmem p h2)
   refine ⟨h3.1, fun a c hac hcp => ?_⟩
   have hd := hpk.apart p (hmem p h2) _ hX (hneX p h2)
   have hout : ∀ q, q < p.2 → AY arr o n D (p.1 + q) = arr (p.1 + q) := fun q hq => Cy (by
    rcases hd with h6 | h6
    ·have h6 : p.1 + p.2 ≤ o := h6; omega
    have h6 : o + n ≤ p.1 := h6; omega)
   rw [hout a (by omega), hout c hcp]
   exact h3.2 a c hac hcp
  have hn12 : n ≤ 12 := hfX.1
  refine ⟨by omega, fun a c hac hcp => ?_⟩
  obtain ⟨b0, hb0⟩ : ∃ b0, p.1 = o + b0 := ⟨p.1 - o, by omega⟩
  rw [hb0] at h3 h4 h5 ⊢
  have hD := hso.stb (by rw [BA]; exact hn12) (fun a c hac hc => by
   rw [BA] at hc
   rw [BR (by omega), BR hc]
   exact hfX.2 a c hac hc) (b0 + a) (b0 + c) (by omega) (by rw [BA]; omega)
  have e1 : AY arr o n D (o + b0 + a) = D.getD (b0 + a) 0 := by rw [Nat.add_assoc]; exact arrS_in (by omega)
  have e2 : AY arr o n D (o + b0 + c) = D.getD (b0 + c) 0 := by rw [Nat.add_assoc]; exact arrS_in (by omega)
  have hal := spt_alike (g := gsw g cls arr o m) (cls := cls) (arr := AY arr o n D) (o := o) (n := n) (u := b0 + a) (v := b0 + c) (by omega) (by omega) fun k hk h6 => by
   rcases hks k hk with h7 | h7
   ·omega
   exact h5 k h7 ⟨by omega, by omega⟩
  rw [show o + (b0 + a) = o + b0 + a by omega, show o + (b0 + c) = o + b0 + c by omega] at hal
  have hne : AY arr o n D (o + b0 + a) ≠ AY arr o n D (o + b0 + c) := fun e4 => by
   have := Ce hpk1.perm (show o + b0 + a < g.nv by omega) (show o + b0 + c < g.nv by omega) e4
   omega
  rcases hD with h6 | h6
  ·exfalso
   rw [ca_lexc, ← e1, ← e2] at h6
   have e5 := (lexc_eq (vcl (gsw g cls arr o m) cls (AY arr o n D (o + b0 + a))) (vcl (gsw g cls arr o m) cls (AY arr o n D (o + b0 + c))) (by rw [hal])).2 hal
   unfold vcl at e5
   omega
  omega
 have h2 := hpo.phi
 have h3 := Phi_perm hpp
 rw [Fp] at h3
 have h3 : Phi P = Phi (popP P i) + (2 * (n : Int) - 3) := h3
 have h4 : (2 : Int) ≤ ((r0 ++ [n]).length : Int) := by exact_mod_cast hrl
 omega
end
end Go.Proofs.YteepnepebilckaaGreatDoor
namespace Go.Proofs.YteepnepebilckaaGreatDoor
open Go Go.Eng Go.RowKit Go.Shelf
structure GA (g : Gph) : Prop where
 nv : g.nv ≤ 48
 op : ∀ v, v < g.nv → 0 ≤ g.op v ∧ g.op v ≤ 15
 two : ∀ v, v < g.nv → comm (g.op v).toNat = true → (g.args v).length = 2
 lt : ∀ v, v < g.nv → ∀ x ∈ g.args v, x < g.nv
 small : ∀ v, v < g.nv → (g.args v).length ≤ 1000
theorem GA.sw {g0 g : Gph} (h : GA g0) (s : SwO g0 g) : GA g := by
 have e1 : g.nv = g0.nv := by rw [s.eq]
 have e2 : g.op = g0.op := by rw [s.eq]
 have hl : ∀ v, (g.args v).length = (g0.args v).length := fun v => by
  rcases s.args v with h1 | ⟨_, a, b, h1, h2⟩
  ·rw [h1]
  rw [h1, h2]; rfl
 have hm : ∀ v x, x ∈ g.args v → x ∈ g0.args v := fun v x hx => by
  rcases s.args v with h1 | ⟨_, a, b, h1, h2⟩
  ·rw [← h1]; exact hx
  rw [h2] at hx
  rw [h1]
  simp at hx ⊢
  rcases hx with h3 | h3
  ·exact .inr h3
  exact .inl h3
 refine ⟨by rw [e1]; exact h.nv, fun v hv => by rw [e2]; exact h.op v (by omega), fun v hv hc => by rw [hl]; rw [e2] at hc; exact h.two v (by omega) hc, fun v hv x hx => by rw [e1]; exact h.lt v (by omega) x (hm v x hx), fun v hv => by rw [hl]; exact h.small v (by omega)⟩
theorem stab_other {g : Gph} {arr : Nat → Nat} {cls : Nat → Int} {P : List (Nat × Nat)} {pn : Int} {o n m : Nat} {D : List Nat} (h : PK g arr cls P pn) (hX : (o, n) ∈ P) (hmn : m ≤ n) {p : Nat × Nat} (hp : p ∈ P) (hne : p ≠ (o, n)) (hs : Dg g arr cls p) :
 Dg (gsw g cls arr o m) (AY arr o n D) cls p := by
 have hd := h.apart p hp _ hX hne
 have hXl := h.long _ hX
 have hpl := h.long p hp
 have key : ∀ q, q < p.2 → vcl (gsw g cls arr o m) cls (AY arr o n D (p.1 + q)) = vcl g cls (arr (p.1 + q)) := fun q hq => by
  have h0 : p.1 + q < o ∨ o + n ≤ p.1 + q := by
   rcases hd with h1 | h1
   ·have h1 : p.1 + p.2 ≤ o := h1; omega
   have h1 : o + n ≤ p.1 := h1; omega
  rw [Cy (by omega)]
  unfold vcl
  have h2 : (gsw g cls arr o m).args (arr (p.1 + q)) = g.args (arr (p.1 + q)) := by
   show (if inC arr o m (arr (p.1 + q)) then _ else _) = _
   rw [if_neg]
   intro h3
   obtain ⟨i, hi, e⟩ := DK.1 h3
   have hon : o + n ≤ g.nv := hXl.2
   have := Ce h.perm (show p.1 + q < g.nv by omega) (show o + i < g.nv by omega) e
   omega
  rw [h2]
 intro u v hu hv
 rw [key u hu, key v hv]
 exact hs u v hu hv
set_option maxHeartbeats 4000000
attribute [local irreducible] EC EL DL Ret thenQ blockQ Bf bodyQ onlyN execOp Sem.run World.cell? World.frozen? World.setCell World.alloc
section
variable {w : World} {B Bs : Nat} {L : Lay} {b : Bl} {g : Gph} {arr : Nat → Nat} {cls : Nat → Int} {pv sp : Value} {P : List (Nat × Nat)} {Q : Exit → Env → World → Prop} {t : Nat → Value} {ds : List Deferred} {pn : Int} {mbx i o n : Nat} {chg : Bool}
theorem cseD0 (hs : St w B L b g arr cls pv P) (hi : i < P.length) (hP : P[i] = (o, n))
 (h : ∀ t, EC Tryz.prog Tryz.f41.ntmps (dropC 1 BD) Q (Env.sets ⟨t, ds⟩ [(1, .pointer (some ⟨b.fbx, 0, none⟩)), (7, pv), (8, .pointer (some ⟨b.vbx, 0, none⟩)), (13, .int .i32 pn), (18, .pointer (some ⟨mbx, 0, none⟩)), (19, sp), (20, .bool chg), (21, .int .i64 (i : Int)), (22, .slice (some ⟨b.A, o, none⟩) n (g.nv + 1 - o))]) w) :
 EC Tryz.prog Tryz.f41.ntmps (dropC 0 BD) Q (Env.sets ⟨t, ds⟩ [(1, .pointer (some ⟨b.fbx, 0, none⟩)), (7, pv), (8, .pointer (some ⟨b.vbx, 0, none⟩)), (13, .int .i32 pn), (18, .pointer (some ⟨mbx, 0, none⟩)), (19, sp), (20, .bool chg), (21, .int .i64 (i : Int))]) w := by
 have hml : (P.map (slV b.A (g.nv + 1))).length = P.length := List.length_map ..
 obtain ⟨gb, capb, e1, _, _, _, hcell⟩ := row_form (w := w) (base := b.Eb) (el := 113) (v := pv) (xs := P.map (slV b.A (g.nv + 1))) (by rw [hml]; exact hs.row) (k := i) (by rw [hml]; exact hi)
 rw [hml] at e1
 subst e1
 rw [List.getElem_map, hP] at hcell
 have hcell : w.cell? ⟨gb, 0 + i, none⟩ = some (.slice (some ⟨b.A, o, none⟩) n (g.nv + 1 - o)) := hcell
 refine Ae (Ac (Ab Ad rfl (Ab Ad rfl (Ab (x_index1 rfl rfl (An rfl) (by omega)) rfl (Ab (Ai rfl (Ag rfl) ‹_›) rfl ?_)))))
 refine Ab Ah rfl (Af (Aa (Be ds [(1, .pointer (some ⟨b.fbx, 0, none⟩)), (7, .slice (some ⟨gb, 0, none⟩) P.length capb), (8, .pointer (some ⟨b.vbx, 0, none⟩)), (13, .int .i32 pn), (18, .pointer (some ⟨mbx, 0, none⟩)), (19, sp), (20, .bool chg), (21, .int .i64 (i : Int)), (22, .slice (some ⟨b.A, o, none⟩) n (g.nv + 1 - o))] rfl ⟨rfl, rfl, rfl, rfl, rfl, rfl, rfl, rfl, rfl, trivial⟩ fun t => ?_)))
 exact h t
end
end Go.Proofs.YteepnepebilckaaGreatDoor
namespace Go.Proofs.YteepnepebilckaaGreatDoor
open Go Go.Eng Go.RowKit Go.Shelf
theorem Sp.only {w w' : World} {Bs : Nat} {sp pv : Value} {l : List Nat} {A : Nat → Prop} (h : Sp w Bs sp pv l) (hO : Only A w w') (hA : ∀ k, sp.ownBlock = some k → ¬ A k) : Sp w' Bs sp pv l :=
 ⟨Ay h.row fun k e => hO.block k (As h.row k e).2 (hA k e), h.ne⟩
theorem Sp.lo {w : World} {Bs : Nat} {sp pv : Value} {l : List Nat} (h : Sp w Bs sp pv l) : ∀ k, sp.ownBlock = some k → Bs ≤ k := fun k e => (As h.row k e).1
set_option maxHeartbeats 4000000
attribute [local irreducible] EC EL DL Ret thenQ blockQ Bf bodyQ onlyN execOp Sem.run World.cell? World.frozen? World.setCell World.alloc
section
variable {w : World} {B Bs : Nat} {L : Lay} {b : Bl} {g0 g : Gph} {arr : Nat → Nat} {cls : Nat → Int} {pv sp : Value} {P : List (Nat × Nat)} {Q : Exit → Env → World → Prop} {t : Nat → Value} {ds : List Deferred} {pn : Int} {mbx i o n : Nat} {chg : Bool} {l0 : List Nat} {fw : Prop}
theorem cseClass (hs : St w B L b g arr cls pv P) (hj : PJ g0 g arr cls P pn fw) (ga : GA g0) (hE : GE b.E L g) (hB : 0 < B) (hBE : B ≤ b.E) (hb : b.Ok) (hb2 : b.Ok2 Bs) (hBs : Bs ≤ w.heap.size) (hEb : b.Eb ≤ w.heap.size) (hsp : Sp w Bs sp pv l0) (hi : i < P.length) (hP : P[i] = (o, n)) (hpn : pn ≤ 1000) (hPl : P.length ≤ 1000)
 (hstay : ∀ t w' m D sp' l', (m = if comm (g.op (arr o)).toNat then n else 0) → m ≤ n → SortOut (fun x y => ca cls ((gsw g cls arr o m).args x) ((gsw g cls arr o m).args y)) (clsD arr o n) D → (spt (gsw g cls arr o m) cls (AY arr o n D) o n).length = 1 → St w' B L b (gsw g cls arr o m) (AY arr o n D) cls pv P → PJ g0 (gsw g cls arr o m) (AY arr o n D) cls P pn fw → Dg (gsw g cls arr o m) (AY arr o n D) cls (o, n) → Sp w' Bs sp' pv l' → Below B w w' →
   Q (.exit 15) (Env.sets ⟨t, ds⟩ [(1, .pointer (some ⟨b.fbx, 0, none⟩)), (7, pv), (8, .pointer (some ⟨b.vbx, 0, none⟩)), (13, .int .i32 pn), (18, .pointer (some ⟨mbx, 0, none⟩)), (19, sp'), (20, .bool chg), (21, .int .i64 (i : Int)), (22, .slice (some ⟨b.A, o, none⟩) n (g.nv + 1 - o))]) w')
 (hcut : ∀ t w' m D sp' pv' l' (R : (Nat → Int) × List (Nat × Nat) × Int), (m = if comm (g.op (arr o)).toNat then n else 0) → SortOut (fun x y => ca cls ((gsw g cls arr o m).args x) ((gsw g cls arr o m).args y)) (clsD arr o n) D → (spt (gsw g cls arr o m) cls (AY arr o n D) o n).length ≠ 1 →
   R = parts (AY arr o n D) o (spt (gsw g cls arr o m) cls (AY arr o n D) o n ++ [n]) cls (popP P i) pn → St w' B L b (gsw g cls arr o m) (AY arr o n D) R.1 pv' R.2.1 → PJ g0 (gsw g cls arr o m) (AY arr o n D) R.1 R.2.1 R.2.2 fw → R.2.2 + Phi R.2.1 + 1 ≤ pn + Phi P → Sp w' Bs sp' pv' l' → Below B w w' →
   Q .normal (Env.sets ⟨t, ds⟩ [(1, .pointer (some ⟨b.fbx, 0, none⟩)), (7, pv'), (8, .pointer (some ⟨b.vbx, 0, none⟩)), (13, .int .i32 R.2.2), (18, .pointer (some ⟨mbx, 0, none⟩)), (19, sp'), (20, .bool true), (21, .int .i64 ((i : Int) - 1)), (22, .slice (some ⟨b.A, o, none⟩) n (g.nv + 1 - o))]) w') :
 EC Tryz.prog Tryz.f41.ntmps (dropC 0 BD) Q (Env.sets ⟨t, ds⟩ [(1, .pointer (some ⟨b.fbx, 0, none⟩)), (7, pv), (8, .pointer (some ⟨b.vbx, 0, none⟩)), (13, .int .i32 pn), (18, .pointer (some ⟨mbx, 0, none⟩)), (19, sp), (20, .bool chg), (21, .int .i64 (i : Int))]) w := by
 have hX : (o, n) ∈ P := hP ▸ List.getElem_mem hi
 have hXl := hj.pi.long _ hX
 have hn2 : 2 ≤ n := hXl.1
 have hon : o + n ≤ g.nv := hXl.2
 have gag := ga.sw hj.sw
 have he := hb.e
 have h2 := hb2.all
 refine cseD0 hs hi hP fun t => (cseD1 hs hE hb hB gag.nv hj.pi.perm hon (by omega) gag.op (hj.opeq hX) gag.two gag.lt fun t w1 hs1 hb1 hO1 => ?_)
 obtain ⟨m, hm⟩ : ∃ m, m = if comm (g.op (arr o)).toNat then n else 0 := ⟨_, rfl⟩
 have hmn : m ≤ n := by rw [hm]; split <;> omega
 rw [← hm] at hs1
 have ga1 : GA (gsw g cls arr o m) := ga.sw (hj.sw.gsw hm (hj.opeq hX))
 have hE1 : GE b.E L (gsw g cls arr o m) := hE.gsw m o
 have hsp1 := hsp.only hO1 fun k e => by have := hsp.lo k e; omega
 have hlen1 : ∀ i, i < n → ((gsw g cls arr o m).args (arr (o + i))).length = ((gsw g cls arr o m).args (arr o)).length := fun i hi => by
  have h3 : ∀ x, ((gsw g cls arr o m).args x).length = (g.args x).length := fun x => by
   show (if inC arr o m x then ordA cls (g.args x) else g.args x).length = _
   split
   ·exact ordA_len cls _
   rfl
  rw [h3, h3]; exact hj.leneq hX i hi
 refine cseD2 (g := gsw g cls arr o m) hs1 hE1 hb ga1.nv hj.pi.perm hon (by omega) hlen1 ga1.small ga1.lt fun t w2 D hso hs2 hO2 => ?_
 have hsp2 := hsp1.only hO2 fun k e h3 => by have := hsp.lo k e; omega
 have hpk1 : PK (gsw g cls arr o m) (AY arr o n D) cls P pn := (hj.pi.pk.gsw o m).sortS hX hso.perm
 have hlen2 : ∀ i, i < n → ((gsw g cls arr o m).args (AY arr o n D (o + i))).length = ((gsw g cls arr o m).args (AY arr o n D o)).length := fun i hi => by
  have hk := hpk1.same _ hX i hi
  unfold key at hk
  injection hk with _ hk
  injection hk with _ hk
  injection hk with hk _
  have hk : (((gsw g cls arr o m).args (AY arr o n D o)).length : Int) = ((gsw g cls arr o m).args (AY arr o n D (o + i))).length := hk
  omega
 have z1 := hO1.size
 have z2 := hO2.size
 refine cseD3a (g := gsw g cls arr o m) hs2 hE1 hb hb2 (by omega) hsp2 fun t w3 sp3 hs3 hsp3 hb3 z3 => (cseD3b (g := gsw g cls arr o m) hs3 hE1 hb hb2 (by omega) hsp3 ga1.nv hpk1.perm hon (by omega) hlen2 ga1.small ga1.lt fun t w4 sp4 hs4 hsp4 hb4 => ?_)
 have z4 := hb4.size
 have hbl2 : Below B w1 w2 := hO2.below (by omega) fun j hj => by omega
 have hbl4 : Below B w w4 := ((hb1.trans hbl2).trans (hb3.mono (by omega))).trans (hb4.mono (by omega))
 refine cseD4 (g := gsw g cls arr o m) hsp4 (fun h1 t => hstay t w4 m D sp4 _ hm hmn hso h1 hs4 (hj.stay hX hm hso h1).1 (hj.stay hX hm hso h1).2 hsp4 hbl4) (fun h1 t => ?_)
 refine cseD5 (g := gsw g cls arr o m) hs4 hE1 hb hi hPl fun t w5 pv5 hs5 hpe hO5 => ?_
 have z5 := hO5.size
 have hpvl : ∀ k, pv.ownBlock = some k → b.Eb ≤ k := fun k e => (As hs4.row k e).1
 have hhi := hb.hi
 have hsp5 : Sp w5 Bs sp4 pv5 (spt (gsw g cls arr o m) cls (AY arr o n D) o n) := ⟨(hsp4.only hO5 fun k e e2 => hsp4.ne k e2 e).row, fun k e => hsp4.ne k (hpe ▸ e)⟩
 have hbl5 : Below B w w5 := hbl4.trans (hO5.below (by omega) fun j hj => by have := hpvl j hj; omega)
 have hsl := spt_len (gsw g cls arr o m) cls (AY arr o n D) o n
 have hnv : g.nv ≤ 48 := gag.nv
 refine cseD6a (g := gsw g cls arr o m) hs5 hE1 hb hb2 (by omega) hsp5 (by omega) fun t w6 sp6 hs6 hsp6 hb6 z6 => (cseD6b (g := gsw g cls arr o m) hs6 hE1 hBE (by omega) hb hb2 hsp6 (cuts_of (by omega) (by omega)) ga1.nv hpk1.perm hon ⟨by have := hj.pos; omega, hpn⟩ (by rw [ES]; omega) fun t w7 pv7 hs7 hsp7 hb7 => ?_)
 have hc := hj.cut hi hP hm ga.lt hso h1 rfl
 exact hcut t w7 m D sp6 pv7 _ _ hm hso h1 rfl hs7 hc.1 hc.2.1 hsp7 ((hbl5.trans (hb6.mono (by omega))).trans hb7)
end
end Go.Proofs.YteepnepebilckaaGreatDoor
namespace Go.Proofs.YteepnepebilckaaGreatDoor
open Go Go.Eng Go.RowKit Go.Shelf
structure MS where
 args : Nat → List Nat
 arr : Nat → Nat
 cls : Nat → Int
 P : List (Nat × Nat)
 pn : Int
 i : Nat
 chg : Bool
def swA (args : Nat → List Nat) (cls : Nat → Int) (arr : Nat → Nat) (o m : Nat) : Nat → List Nat := fun v => if inC arr o m v then ordA cls (args v) else args v
def sptA (args : Nat → List Nat) (cls : Nat → Int) (arr : Nat → Nat) (o m : Nat) : List Nat := 0 :: (List.range m).filter fun j => decide (1 ≤ j ∧ ((args (arr (o + j - 1))).map fun a => cls (a + 1)) ≠ ((args (arr (o + j))).map fun a => cls (a + 1)))
noncomputable def mone (op : Nat → Int) (s : MS) (o n : Nat) : MS :=
 let A := swA s.args s.cls s.arr o (if comm (op (s.arr o)).toNat then n else 0)
 let a := AY s.arr o n (D9 (fun x y => ca s.cls (A x) (A y)) (clsD s.arr o n))
 if (sptA A s.cls a o n).length = 1 then ⟨A, a, s.cls, s.P, s.pn, s.i + 1, s.chg⟩
 else let R := parts a o (sptA A s.cls a o n ++ [n]) s.cls (popP s.P s.i) s.pn; ⟨A, a, R.1, R.2.1, R.2.2, s.i, true⟩
noncomputable def Di (op : Nat → Int) (s : MS) : MS :=
 if h : s.i < s.P.length then mone op s s.P[s.i].1 s.P[s.i].2
 else if s.chg then { s with i := 0, chg := false } else s
noncomputable def mit (op : Nat → Int) (s0 : MS) : Nat → MS
 | 0 => s0
 | n + 1 => Di op (mit op s0 n)
def Rc (op : Nat → Int) (s0 s : MS) : Prop := ∃ n, s = mit op s0 n
section
variable {g : Gph} {arr : Nat → Nat} {cls : Nat → Int} {P : List (Nat × Nat)} {pn : Int} {s0 : MS} {o n m i : Nat} {D : List Nat} {chg : Bool} {op : Nat → Int}
theorem Rc.stay (h : Rc op s0 ⟨g.args, arr, cls, P, pn, i, chg⟩) (hop : g.op = op) (hi : i < P.length) (hP : P[i] = (o, n)) (hm : m = if comm (g.op (arr o)).toNat then n else 0) (hso : SortOut (fun x y => ca cls ((gsw g cls arr o m).args x) ((gsw g cls arr o m).args y)) (clsD arr o n) D)
 (h1 : (spt (gsw g cls arr o m) cls (AY arr o n D) o n).length = 1) : Rc op s0 ⟨(gsw g cls arr o m).args, AY arr o n D, cls, P, pn, i + 1, chg⟩ := by
 obtain ⟨k, hk⟩ := h
 refine ⟨k + 1, ?_⟩
 show _ = Di op (mit op s0 k)
 rw [← hk]
 have hd := hso.det
 subst hd hm hop
 unfold Di
 rw [dif_pos (show (⟨g.args, arr, cls, P, pn, i, chg⟩ : MS).i < (⟨g.args, arr, cls, P, pn, i, chg⟩ : MS).P.length from hi)]
 show _ = mone g.op _ P[i].1 P[i].2
 rw [hP]
 exact (if_pos h1).symm
theorem Rc.cut (h : Rc op s0 ⟨g.args, arr, cls, P, pn, i, chg⟩) (hop : g.op = op) (hi : i < P.length) (hP : P[i] = (o, n)) (hm : m = if comm (g.op (arr o)).toNat then n else 0) (hso : SortOut (fun x y => ca cls ((gsw g cls arr o m).args x) ((gsw g cls arr o m).args y)) (clsD arr o n) D)
 (h1 : (spt (gsw g cls arr o m) cls (AY arr o n D) o n).length ≠ 1) {R : (Nat → Int) × List (Nat × Nat) × Int} (hR : R = parts (AY arr o n D) o (spt (gsw g cls arr o m) cls (AY arr o n D) o n ++ [n]) cls (popP P i) pn) :
 Rc op s0 ⟨(gsw g cls arr o m).args, AY arr o n D, R.1, R.2.1, R.2.2, i, true⟩ := by
 obtain ⟨k, hk⟩ := h
 refine ⟨k + 1, ?_⟩
 show _ = Di op (mit op s0 k)
 rw [← hk]
 have hd := hso.det
 subst hd hm hR hop
 unfold Di
 rw [dif_pos (show (⟨g.args, arr, cls, P, pn, i, chg⟩ : MS).i < (⟨g.args, arr, cls, P, pn, i, chg⟩ : MS).P.length from hi)]
 show _ = mone g.op _ P[i].1 P[i].2
 rw [hP]
 exact (if_neg h1).symm
theorem Rc.again (h : Rc op s0 ⟨g.args, arr, cls, P, pn, i, true⟩) (hi : ¬ i < P.length) : Rc op s0 ⟨g.args, arr, cls, P, pn, 0, false⟩ := by
 obtain ⟨k, hk⟩ := h
 refine ⟨k + 1, ?_⟩
 show _ = Di op (mit op s0 k)
 rw [← hk]
 unfold Di
 rw [dif_neg (show ¬ (⟨g.args, arr, cls, P, pn, i, true⟩ : MS).i < (⟨g.args, arr, cls, P, pn, i, true⟩ : MS).P.length from hi)]
 exact (if_pos rfl).symm
theorem Phi_ge : ∀ {P : List (Nat × Nat)}, (∀ p ∈ P, 2 ≤ p.2) → (P.length : Int) ≤ Phi P
 | [], _ => by simp [Phi]
 | p :: P, h => by
   have h1 := h p (.head _)
   have h2 := Phi_ge (P := P) fun q hq => h q (.tail _ hq)
   unfold Phi at h2 ⊢
   simp only [List.map_cons, List.sum_cons, List.length_cons]
   omega
end
set_option maxHeartbeats 4000000
attribute [local irreducible] EC EL DL Ret thenQ blockQ Bf bodyQ onlyN execOp Sem.run World.cell? World.frozen? World.setCell World.alloc
section
variable {w : World} {B Bs : Nat} {L : Lay} {b : Bl} {g0 g : Gph} {arr : Nat → Nat} {cls : Nat → Int} {pv : Value} {P : List (Nat × Nat)} {Q : Exit → Env → World → Prop} {t : Nat → Value} {ds : List Deferred} {pn : Int} {mbx : Nat} {fw : Prop} {s0 : MS}
theorem cseMain (hs : St w B L b g arr cls pv P) (hj : PJ g0 g arr cls P pn fw) (ga : GA g0) (hE : GE b.E L g) (hB : 0 < B) (hBE : B ≤ b.E) (hb : b.Ok) (hb2 : b.Ok2 w.heap.size) (hEb : b.Eb ≤ w.heap.size) (hM : pn + Phi P ≤ 999) (hs0 : s0 = ⟨g.args, arr, cls, P, pn, 0, false⟩)
 (h : ∀ t w' g' arr' cls' pv' P' pn' i', St w' B L b g' arr' cls' pv' P' → PJ g0 g' arr' cls' P' pn' fw → GE b.E L g' → (∀ p ∈ P', Dg g' arr' cls' p) → Rc g0.op s0 ⟨g'.args, arr', cls', P', pn', i', false⟩ → ¬ i' < P'.length → P'.length ≤ 999 → Below B w w' →
   EC Tryz.prog Tryz.f41.ntmps (dropC 15 BW) Q (Env.sets ⟨t, ds⟩ [(1, .pointer (some ⟨b.fbx, 0, none⟩)), (7, pv'), (18, .pointer (some ⟨mbx, 0, none⟩))]) w') :
 EC Tryz.prog Tryz.f41.ntmps (dropC 14 BW) Q (Env.sets ⟨t, ds⟩ [(1, .pointer (some ⟨b.fbx, 0, none⟩)), (7, pv), (8, .pointer (some ⟨b.vbx, 0, none⟩)), (13, .int .i32 pn), (18, .pointer (some ⟨mbx, 0, none⟩)), (19, .slice none 0 0)]) w := by
 obtain ⟨W0, hW0⟩ : ∃ W0, W0 = w.heap.size := ⟨_, rfl⟩
 rw [← hW0] at hb2 hEb
 have hBw : B ≤ W0 := by have := hb2.all; omega
 refine Ae (Ao ?_)
 refine EC_loop (fun m e w1 => ∃ g arr cls pv P pn sp l, St w1 B L b g arr cls pv P ∧ PJ g0 g arr cls P pn fw ∧ GE b.E L g ∧ Sp w1 W0 sp pv l ∧ Below B w w1 ∧ Rc g0.op s0 ⟨g.args, arr, cls, P, pn, 0, false⟩ ∧
  AtD e ds [(1, .pointer (some ⟨b.fbx, 0, none⟩)), (7, pv), (8, .pointer (some ⟨b.vbx, 0, none⟩)), (13, .int .i32 pn), (18, .pointer (some ⟨mbx, 0, none⟩)), (19, sp)] ∧ (m : Int) = pn + Phi P ∧ m ≤ 999) (pn + Phi P).toNat
  ⟨g, arr, cls, pv, P, pn, .slice none 0 0, [], hs, hj, hE, ⟨World.ownsRow_nil _ _ _ _, fun _ _ h => by cases h⟩, Below.refl _ _, ⟨0, hs0.symm⟩, AS rfl ⟨rfl, rfl, rfl, rfl, rfl, rfl, trivial⟩, by have := hj.pos; have := Phi_ge fun p hp => (hj.pi.long p hp).1; omega, by omega⟩ ?_
 clear hs hj hE hM hs0
 rintro m e w1 ⟨g, arr, cls, pv, P, pn, sp, l, hs, hj, hE, hsp, hbl, hrc, ⟨t, rfl⟩, hm, hm9⟩
 refine Ao (Ae (Ac (Ab Ah rfl (Af (Aa ?_)))))
 refine AX (fun e w2 => ∃ g arr cls pv P pn sp l i chg, St w2 B L b g arr cls pv P ∧ PJ g0 g arr cls P pn fw ∧ GE b.E L g ∧ Sp w2 W0 sp pv l ∧ Below B w w2 ∧ Rc g0.op s0 ⟨g.args, arr, cls, P, pn, i, chg⟩ ∧
  pn + Phi P ≤ m ∧ (chg = true → pn + Phi P < m) ∧ (chg = false → ∀ k (hk : k < P.length), k < i → Dg g arr cls P[k]) ∧ ¬ i < P.length ∧
  AtD e ds [(1, .pointer (some ⟨b.fbx, 0, none⟩)), (7, pv), (8, .pointer (some ⟨b.vbx, 0, none⟩)), (13, .int .i32 pn), (18, .pointer (some ⟨mbx, 0, none⟩)), (19, sp), (20, .bool chg)]) ?_ ?_
 ·refine Ae (Ac (Ab Ah rfl (Af (Aa (Ao ?_)))))
  refine EC_loop (fun q e w2 => ∃ g arr cls pv P pn sp l i chg, St w2 B L b g arr cls pv P ∧ PJ g0 g arr cls P pn fw ∧ GE b.E L g ∧ Sp w2 W0 sp pv l ∧ Below B w w2 ∧ Rc g0.op s0 ⟨g.args, arr, cls, P, pn, i, chg⟩ ∧
   pn + Phi P ≤ m ∧ (chg = true → pn + Phi P < m) ∧ (chg = false → ∀ k (hk : k < P.length), k < i → Dg g arr cls P[k]) ∧
   AtD e ds [(1, .pointer (some ⟨b.fbx, 0, none⟩)), (7, pv), (8, .pointer (some ⟨b.vbx, 0, none⟩)), (13, .int .i32 pn), (18, .pointer (some ⟨mbx, 0, none⟩)), (19, sp), (20, .bool chg), (21, .int .i64 (i : Int))] ∧ q = (pn + Phi P).toNat * 1000 + (P.length - i)) ((pn + Phi P).toNat * 1000 + (P.length - 0))
   ⟨g, arr, cls, pv, P, pn, sp, l, 0, false, hs, hj, hE, hsp, hbl, hrc, by omega, fun h => (by cases h), fun _ k _ h => absurd h (Nat.not_lt_zero _), AS rfl ⟨rfl, rfl, rfl, rfl, rfl, rfl, rfl, rfl, trivial⟩, rfl⟩ ?_
  clear hs hj hE hsp hbl hrc hm
  rintro q e w2 ⟨g, arr, cls, pv, P, pn, sp, l, i, chg, hs, hj, hE, hsp, hbl, hrc, hm1, hm2, hst, ⟨t, rfl⟩, rfl⟩
  have hpos := hj.pos
  have hPg := Phi_ge fun p hp => (hj.pi.long p hp).1
  obtain ⟨pa, pc, hpv⟩ := BH hs.row
  refine Ae (Ae (Ac ?_))
  rw [hpv]
  refine Ab Ad rfl (Ab Ad rfl (Ab (AP rfl (An rfl)) rfl (Ab (AW rfl rfl) rfl (Af (Aa ?_)))))
  refine AG rfl rfl (fun hlt => ?_) (fun hge => ?_)
  rotate_left
  ·have hi : ¬ i < P.length := by omega
   refine AI (AB (AC (AA ?_)))
   exact AU ⟨g, arr, cls, pv, P, pn, sp, l, i, chg, hs, hj, hE, hsp, hbl, hrc, hm1, hm2, hst, hi, AS rfl ⟨rfl, hpv.symm, rfl, rfl, rfl, rfl, rfl, trivial⟩⟩
  have hi : i < P.length := by omega
  obtain ⟨o, ho⟩ : ∃ o, o = P[i].1 := ⟨_, rfl⟩
  obtain ⟨n, hn⟩ : ∃ n, n = P[i].2 := ⟨_, rfl⟩
  have hP : P[i] = (o, n) := by rw [ho, hn]
  have hX : (o, n) ∈ P := hP ▸ List.getElem_mem hi
  refine Aq (Aa ?_)
  have hsz := hbl.size
  have hop : g.op = g0.op := by rw [hj.sw.eq]
  refine Ae (Ao (Be ds [(1, .pointer (some ⟨b.fbx, 0, none⟩)), (7, pv), (8, .pointer (some ⟨b.vbx, 0, none⟩)), (13, .int .i32 pn), (18, .pointer (some ⟨mbx, 0, none⟩)), (19, sp), (20, .bool chg), (21, .int .i64 (i : Int))] rfl ⟨rfl, hpv.symm, rfl, rfl, rfl, rfl, rfl, rfl, trivial⟩ fun t => ?_))
  refine cseClass hs hj ga hE hB hBE hb hb2 (by omega) (by omega) hsp hi hP (by omega) (by omega) (fun t w3 m' D sp' l' hm' hmn hso h1 hs' hj' hS hsp' hbl' => ?_) (fun t w3 m' D sp' pv' l' R hm' hso h1 hR hs' hj' hph hsp' hbl' => ?_)
  ·refine AA (Aa (Ac (Ab Ad rfl (Ab (x_inc rfl rfl (by omega)) rfl (Ab Ah rfl (Af ?_))))))
   refine Av ((pn + Phi P).toNat * 1000 + (P.length - (i + 1))) (by omega) ⟨_, _, cls, pv, P, pn, sp', l', i + 1, chg, hs', hj', hE.gsw m' o, hsp', hbl.trans hbl', hrc.stay hop hi hP hm' hso h1, hm1, hm2, fun hc k hk hki => ?_, AS rfl ⟨rfl, rfl, rfl, rfl, rfl, rfl, rfl, rfl, trivial⟩, rfl⟩
   by_cases e : k = i
   ·subst e
    rw [hP]; exact hS
   refine stab_other hj.pi.pk hX hmn (List.getElem_mem hk) (fun e2 => e ?_) (hst hc k hk (by omega))
   rw [← hP] at e2
   exact (List.getElem_inj hj.pi.pk.nodup).1 e2
  refine Ap (Aa (Ac (Ab Ad rfl (Ab (Cl (c := (i : Int)) rfl rfl (by rw [IntWalk.i64_in _ (by omega)]; omega)) rfl ?_))))
  refine Ab Ah rfl (Af ?_)
  have hPg' := Phi_ge fun p hp => (hj'.pi.long p hp).1
  have hpos' := hj'.pos
  exact Av ((R.2.2 + Phi R.2.1).toNat * 1000 + (R.2.1.length - i)) (by omega) ⟨_, _, R.1, pv', R.2.1, R.2.2, sp', l', i, true, hs', hj', hE.gsw m' o, hsp', hbl.trans hbl', hrc.cut hop hi hP hm' hso h1 hR, by omega, fun _ => by omega, fun h => (by cases h), AS rfl ⟨rfl, rfl, rfl, rfl, rfl, rfl, rfl, rfl, trivial⟩, rfl⟩
 clear hs hj hE hsp hbl hrc hm
 rintro e w2 ⟨g, arr, cls, pv, P, pn, sp, l, i, chg, hs, hj, hE, hsp, hbl, hrc, hm1, hm2, hst, hi, ⟨t, rfl⟩⟩
 have hpos := hj.pos
 have hPg := Phi_ge fun p hp => (hj.pi.long p hp).1
 refine Ae (Ac (Ab Ad rfl (Ab (B5 rfl) rfl (Af (Aa ?_)))))
 cases chg with
 | true =>
   refine A6 rfl rfl (Aq (Ap ?_))
   have := hm2 rfl
   exact Av (pn + Phi P).toNat (by omega) ⟨g, arr, cls, pv, P, pn, sp, l, hs, hj, hE, hsp, hbl, hrc.again hi, AS rfl ⟨rfl, rfl, rfl, rfl, rfl, rfl, trivial⟩, by omega, by omega⟩
 | false =>
   refine Ba rfl rfl (AI (Cr rfl (AC (AA (Aa (Be ds [(1, .pointer (some ⟨b.fbx, 0, none⟩)), (7, pv), (18, .pointer (some ⟨mbx, 0, none⟩))] rfl ⟨rfl, rfl, rfl, trivial⟩ fun t => ?_))))))
   refine h t w2 g arr cls pv P pn i hs hj hE (fun p hp => ?_) hrc hi (by omega) hbl
   obtain ⟨k, hk, rfl⟩ := List.getElem_of_mem hp
   exact hst rfl k hk (by omega)
end
end Go.Proofs.YteepnepebilckaaGreatDoor
