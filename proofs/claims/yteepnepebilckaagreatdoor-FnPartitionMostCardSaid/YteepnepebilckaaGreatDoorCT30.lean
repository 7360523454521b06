/- For every input in which the opcode table reads as laid the law FnPartitionMost returns true, and its argument reads as it did, the table being tied to the text of the program. -/
import Derived.Test.YteepnepebilckaaGreatDoorCT29
namespace Go.Proofs.YteepnepebilckaaGreatDoor
open Go Go.Eng Go.RowKit Go.Shelf
def upR (cls : Nat → Int) (arr : Nat → Nat) (lo m : Nat) (z : Int) : Nat → Int := fun x => if (List.range m).any (fun q => x == arr (lo + q) + 1) then z else cls x
theorem Gh (cls : Nat → Int) (arr : Nat → Nat) (lo : Nat) (z : Int) : upR cls arr lo 0 z = cls := by
 unfold upR
 simp
theorem upR_succ (cls : Nat → Int) (arr : Nat → Nat) (lo m : Nat) (z : Int) : (fun x => if x = arr (lo + m) + 1 then z else upR cls arr lo m z x) = upR cls arr lo (m + 1) z := by
 funext x
 unfold upR
 rw [List.range_succ, List.any_append]
 by_cases h : x = arr (lo + m) + 1
 ·rw [if_pos h]; simp [h]
 rw [if_neg h]; simp [h]
def parts (arr : Nat → Nat) (o : Nat) : List Nat → (Nat → Int) → List (Nat × Nat) → Int → (Nat → Int) × List (Nat × Nat) × Int
 | a :: c :: r, cls, P, pn =>
   if c - a = 1 then parts arr o (c :: r) (fun x => if x = arr (o + a) + 1 then -((arr (o + a) : Int) + 1) else cls x) P pn
   else parts arr o (c :: r) (upR cls arr (o + a) (c - a) pn) (P ++ [(o + a, c - a)]) (pn + 1)
 | [_], cls, P, pn => (cls, P, pn)
 | [], cls, P, pn => (cls, P, pn)
theorem parts_two (arr : Nat → Nat) (o a c : Nat) (r : List Nat) (cls : Nat → Int) (P : List (Nat × Nat)) (pn : Int) : parts arr o (a :: c :: r) cls P pn =
 if c - a = 1 then parts arr o (c :: r) (fun x => if x = arr (o + a) + 1 then -((arr (o + a) : Int) + 1) else cls x) P pn
 else parts arr o (c :: r) (upR cls arr (o + a) (c - a) pn) (P ++ [(o + a, c - a)]) (pn + 1) := by rw [parts]
structure Cuts (ks : List Nat) (n : Nat) : Prop where
 len : 1 ≤ ks.length ∧ ks.length ≤ 1000
 mono : ∀ q, q + 1 < ks.length → ks.getD q 0 < ks.getD (q + 1) 0 ∧ ks.getD (q + 1) 0 ≤ n
set_option maxHeartbeats 4000000
attribute [local irreducible] EC EL DL Ret thenQ blockQ Bf bodyQ onlyN execOp Sem.run World.cell? World.frozen? World.setCell World.alloc
section
variable {w : World} {B Bs : Nat} {L : Lay} {b : Bl} {g : Gph} {arr : Nat → Nat} {cls : Nat → Int} {pv sp : Value} {P : List (Nat × Nat)} {Q : Exit → Env → World → Prop} {t : Nat → Value} {ds : List Deferred} {pn iv : Int} {mbx o n : Nat} {chg : Bool} {l : List Nat}
theorem cseD6a (hs : St w B L b g arr cls pv P) (hE : GE b.E L g) (hb : b.Ok) (hb2 : b.Ok2 Bs) (hBs : Bs ≤ w.heap.size) (hsp : Sp w Bs sp pv l) (hl : l.length ≤ 1000)
 (h : ∀ t w' sp, St w' B L b g arr cls pv P → Sp w' Bs sp pv (l ++ [n]) → Below Bs w w' → w.heap.size ≤ w'.heap.size →
   EC Tryz.prog Tryz.f41.ntmps (dropC 10 BD) Q (Env.sets ⟨t, ds⟩ [(1, .pointer (some ⟨b.fbx, 0, none⟩)), (7, pv), (8, .pointer (some ⟨b.vbx, 0, none⟩)), (13, .int .i32 pn), (18, .pointer (some ⟨mbx, 0, none⟩)), (19, sp), (20, .bool chg), (21, .int .i64 iv), (22, .slice (some ⟨b.A, o, none⟩) n (g.nv + 1 - o))]) w') :
 EC Tryz.prog Tryz.f41.ntmps (dropC 9 BD) Q (Env.sets ⟨t, ds⟩ [(1, .pointer (some ⟨b.fbx, 0, none⟩)), (7, pv), (8, .pointer (some ⟨b.vbx, 0, none⟩)), (13, .int .i32 pn), (18, .pointer (some ⟨mbx, 0, none⟩)), (19, sp), (20, .bool chg), (21, .int .i64 iv), (22, .slice (some ⟨b.A, o, none⟩) n (g.nv + 1 - o))]) w := by
 refine Ae (Ac (Ab Ad rfl (Ab Ad rfl (Ab (AP rfl (An rfl)) rfl (Ab (Bo (v := .int .i64 (n : Int)) rfl rfl Tryz.underlying35 (by kernel_rfl) (z := .int .i64 0) rfl) rfl (el_new0 (.cells #[.int .i64 (n : Int)] 3) fun w5 hN5 hO5 hZ5 hB5 hK5 => ?_))))))
 have hsp5 := hsp.same (w' := w5) fun k hk => hO5 k hk
 have hs5 := hs.below hB5
 refine By hsp5.row (Am hN5 rfl) rfl (by omega) (by decide) (by omega) Tryz.underlying35 Cn rfl rfl rfl rfl ?_
 intro sp6 w6 hrow6 hgr6 hwh6
 have hspk : ∀ k, sp.ownBlock = some k → Bs ≤ k := fun k e => (As hsp5.row k e).1
 have hs6 := hs5.grow hb hb2 hE hgr6 hspk fun k e => hsp.ne k e
 have hb6 : Below Bs w w6 := (hB5.mono (by omega)).trans ⟨hgr6.os, hgr6.tape, hgr6.output, hgr6.size, fun k hk => hgr6.block k (by omega) fun e => by have := hspk k e.symm; omega⟩
 have hSp6 : Sp w6 Bs sp6 pv (l ++ [n]) := by
  refine ⟨?_, fun k e => ?_⟩
  ·have : nI (l ++ [n]) = nI l ++ [.int .i64 (n : Int)] := by simp [nI]
   rw [this, List.length_append]
   exact hrow6
  rcases hwh6 with h1 | h1
  ·rw [h1]; exact hsp.ne k e
  rw [h1]
  intro e2
  injection e2 with e2
  have := (As hs5.row k e).2
  omega
 have hsz6 := hgr6.size
 refine Ab Ah rfl (Af (Aa (Be ds [(1, .pointer (some ⟨b.fbx, 0, none⟩)), (7, pv), (8, .pointer (some ⟨b.vbx, 0, none⟩)), (13, .int .i32 pn), (18, .pointer (some ⟨mbx, 0, none⟩)), (19, sp6), (20, .bool chg), (21, .int .i64 iv), (22, .slice (some ⟨b.A, o, none⟩) n (g.nv + 1 - o))] rfl ⟨rfl, rfl, rfl, rfl, rfl, rfl, rfl, rfl, rfl, trivial⟩ fun t => ?_)))
 exact h t w6 sp6 hs6 hSp6 hb6 (by omega)
theorem cseD6b (hs : St w B L b g arr cls pv P) (hE : GE b.E L g) (hBE : B ≤ b.E) (hEbw : b.Eb ≤ w.heap.size) (hb : b.Ok) (hBs : b.Ok2 Bs) (hsp : Sp w Bs sp pv l) (hl : Cuts l n) (hn : g.nv ≤ 48) (hp : (elems arr g.nv).Perm (List.range g.nv)) (ho : o + n ≤ g.nv)
 (hpn : 0 ≤ pn ∧ pn ≤ 1000) (hPl : P.length ≤ 1000)
 (h : ∀ t w' pv', St w' B L b g arr (parts arr o l cls P pn).1 pv' (parts arr o l cls P pn).2.1 → Sp w' Bs sp pv' l → Below B w w' →
   Q .normal (Env.sets ⟨t, ds⟩ [(1, .pointer (some ⟨b.fbx, 0, none⟩)), (7, pv'), (8, .pointer (some ⟨b.vbx, 0, none⟩)), (13, .int .i32 (parts arr o l cls P pn).2.2), (18, .pointer (some ⟨mbx, 0, none⟩)), (19, sp), (20, .bool true), (21, .int .i64 iv), (22, .slice (some ⟨b.A, o, none⟩) n (g.nv + 1 - o))]) w') :
 EC Tryz.prog Tryz.f41.ntmps (dropC 10 BD) Q (Env.sets ⟨t, ds⟩ [(1, .pointer (some ⟨b.fbx, 0, none⟩)), (7, pv), (8, .pointer (some ⟨b.vbx, 0, none⟩)), (13, .int .i32 pn), (18, .pointer (some ⟨mbx, 0, none⟩)), (19, sp), (20, .bool chg), (21, .int .i64 iv), (22, .slice (some ⟨b.A, o, none⟩) n (g.nv + 1 - o))]) w := by
 obtain ⟨sa, sc, hsv⟩ := BH hsp.row
 subst hsv
 obtain ⟨fin, hfin⟩ : ∃ fin, fin = parts arr o l cls P pn := ⟨_, rfl⟩
 rw [← hfin] at h
 refine Ae (Ae (Ac (Ab Ah rfl (Af (Aa (Ao ?_))))))
 refine EC_loop (fun m e w1 => ∃ jj cls' pv' P' pn', jj + 1 ≤ l.length ∧ parts arr o (l.drop jj) cls' P' pn' = fin ∧ St w1 B L b g arr cls' pv' P' ∧ Sp w1 Bs (.slice sa l.length sc) pv' l ∧ Below B w w1 ∧ (0 ≤ pn' ∧ pn' ≤ 1000 + jj) ∧ P'.length ≤ 1000 + jj ∧
  AtD e ds [(1, .pointer (some ⟨b.fbx, 0, none⟩)), (7, pv'), (8, .pointer (some ⟨b.vbx, 0, none⟩)), (13, .int .i32 pn'), (18, .pointer (some ⟨mbx, 0, none⟩)), (19, .slice sa l.length sc), (20, .bool chg), (21, .int .i64 iv), (22, .slice (some ⟨b.A, o, none⟩) n (g.nv + 1 - o)), (38, .int .i64 (jj : Int))] ∧ m = l.length - jj) l.length
  ⟨0, cls, pv, P, pn, hl.len.1, hfin.symm, hs, hsp, Below.refl _ _, ⟨hpn.1, by omega⟩, by omega, AS rfl ⟨rfl, rfl, rfl, rfl, rfl, rfl, rfl, rfl, rfl, rfl, trivial⟩, rfl⟩ ?_
 clear hs hsp hpn hPl hfin
 rintro m e w1 ⟨jj, cls', pv', P', pn', hjj, hpa, hs, hsp, hbl, hpn', hPl', ⟨t, rfl⟩, rfl⟩
 have hll := hl.len.2
 refine Ae (Ae (Ac (Ab Ad rfl (Ab Ad rfl (Ab (AP rfl (An rfl)) rfl (Ab (Cd rfl rfl (by omega)) rfl (Ab (AW rfl rfl) rfl (Af (Aa ?_)))))))))
 refine AG rfl rfl (fun hlt => ?_) (fun hge => ?_)
 rotate_left
 ·have hjl : jj + 1 = l.length := by omega
  have hd : l.drop jj = [l.getD jj 0] := by rw [CC (by omega), List.drop_eq_nil_of_le (by omega)]
  rw [hd] at hpa
  have hpa : (cls', P', pn') = fin := hpa
  rw [← hpa] at h
  refine AI (AB (AC (AA (Aa (Ac (Ab Ah rfl (Af (Q_atD ds [(1, .pointer (some ⟨b.fbx, 0, none⟩)), (7, pv'), (8, .pointer (some ⟨b.vbx, 0, none⟩)), (13, .int .i32 pn'), (18, .pointer (some ⟨mbx, 0, none⟩)), (19, .slice sa l.length sc), (20, .bool true), (21, .int .i64 iv), (22, .slice (some ⟨b.A, o, none⟩) n (g.nv + 1 - o))] rfl ⟨rfl, rfl, rfl, rfl, rfl, rfl, rfl, rfl, rfl, trivial⟩ fun t => ?_))))))))
  exact h t w1 pv' hs hsp hbl
 have hjl : jj + 1 < l.length := by omega
 refine Aq (Aa ?_)
 obtain ⟨a, hae⟩ : ∃ a, a = l.getD jj 0 := ⟨_, rfl⟩
 obtain ⟨c, hce⟩ : ∃ c, c = l.getD (jj + 1) 0 := ⟨_, rfl⟩
 have hac := hl.mono jj hjl
 rw [← hae, ← hce] at hac
 have hd1 : l.drop jj = a :: c :: l.drop (jj + 1 + 1) := by rw [CC (by omega), CC hjl, ← hae, ← hce]
 have hd2 : l.drop (jj + 1) = c :: l.drop (jj + 1 + 1) := by rw [CC hjl, ← hce]
 rw [hd1, parts_two, ← hd2] at hpa
 have hnl : (nI l).length = l.length := by simp [nI]
 have hrs : w1.ownsRow Bs 3 1 (.slice sa l.length sc) (nI l).length (nI l) := by rw [hnl]; exact hsp.row
 obtain ⟨gs, cs, e1, _, _, _, hca⟩ := row_form hrs (k := jj) (by rw [hnl]; omega)
 obtain ⟨gs', cs', e1', _, _, _, hcc⟩ := row_form hrs (k := jj + 1) (by rw [hnl]; omega)
 rw [e1] at e1'
 injection e1' with e2 _ _
 injection e2 with e2
 injection e2 with e2
 subst e2
 injection e1 with e1 _ e3
 subst e1
 subst e3
 have hca : w1.cell? ⟨gs, 0 + jj, none⟩ = some (.int .i64 (a : Int)) := by
  rw [hca, hae, List.getD_eq_getElem?_getD, List.getElem?_eq_getElem (show jj < l.length by omega)]
  simp [nI]
 have hcc : w1.cell? ⟨gs, 0 + (jj + 1), none⟩ = some (.int .i64 (c : Int)) := by
  rw [hcc, hce, List.getD_eq_getElem?_getD, List.getElem?_eq_getElem hjl]
  simp [nI]
 have hca1 := Keep.drew w1 _ _ hca
 have hcc1 := Keep.drew w1 _ _ hcc
 have hs1 : St w1.drew B L b g arr cls' pv' P' := hs.same fun _ _ => rfl
 have hsp1 : Sp w1.drew Bs (.slice (some ⟨gs, 0, none⟩) l.length sc) pv' l := hsp.same fun _ _ => rfl
 have hb1 : Below B w w1.drew := hbl.drew
 clear hs hsp hbl hca hcc hrs
 refine Ae (Ao (Ae (AZ mixed (fun w' => w' = w1.drew) [(0, false), (1, false), (2, false), (3, false), (4, false), (5, false), (6, false), (7, false), (8, false), (9, false), (10, false), (11, false)] (by kernel_rfl) rfl ?_)))
 generalize w1.drew = V at *
 refine Aj rfl (fun _ _ => Ad) (Aj rfl (fun _ _ => Ad) (Aj rfl (fun _ _ => Ad) (Aj rfl (fun _ _ => x_index1 rfl rfl (An rfl) (by omega)) (Aj rfl (fun _ hS => Ai rfl (Ag rfl) (by cases hS; with_reducible assumption)) ?_))))
 refine Aj rfl (fun _ _ => Ad) (Aj rfl (fun _ _ => Ad) (Aj rfl (fun _ _ => x_inc rfl rfl (by omega)) (Aj rfl (fun _ _ => x_index1 rfl rfl (An rfl) (by omega)) (Aj rfl (fun _ hS => Ai rfl (Ag rfl) (by cases hS; with_reducible assumption)) ?_))))
 refine Aj rfl (fun _ _ => x_sliceLH Tryz.underlying113 CF rfl rfl rfl (by omega) (by omega) (by omega)) (Aj rfl (fun _ _ => Ah) (AR (Aa (Ae (Ae (Ac (Ab Ad rfl (Ab (AP rfl (An rfl)) rfl (Ab (Bi rfl rfl) rfl (Af (Aa ?_)))))))))))
 refine Be ds [(1, .pointer (some ⟨b.fbx, 0, none⟩)), (7, pv'), (8, .pointer (some ⟨b.vbx, 0, none⟩)), (13, .int .i32 pn'), (18, .pointer (some ⟨mbx, 0, none⟩)), (19, .slice (some ⟨gs, 0, none⟩) l.length sc), (20, .bool chg), (21, .int .i64 iv), (22, .slice (some ⟨b.A, o, none⟩) n (g.nv + 1 - o)), (38, .int .i64 (jj : Int)), (39, .slice (some ⟨b.A, o + a, none⟩) (c - a) (g.nv + 1 - o - a)), (407, .bool (decide (((c - a : Nat) : Int) = 1)))] rfl ⟨rfl, rfl, rfl, rfl, rfl, rfl, rfl, rfl, rfl, rfl, rfl, rfl, trivial⟩ fun t => ?_
 clear hca1 hcc1
 refine AG rfl rfl (fun h1 => ?_) (fun h1 => ?_)
 ·rw [if_pos (by omega)] at hpa
  have hvn : arr (o + a) < g.nv := BP hp (by omega)
  obtain ⟨v, hv⟩ : ∃ v, v = arr (o + a) := ⟨_, rfl⟩
  have hs2 : St V.drew B L b g arr cls' pv' P' := hs1.same fun _ _ => rfl
  have hsp2 : Sp V.drew Bs (.slice (some ⟨gs, 0, none⟩) l.length sc) pv' l := hsp1.same fun _ _ => rfl
  have hb3 : Below B w V.drew := hb1.drew
  have h2 : V.drew.cell? ⟨b.A, o + a + 0, none⟩ = some (L.vp (arr (o + a))) := hs2.arc (i := o + a) (by omega)
  rw [← hv] at h2 hvn hpa
  have hid := hs2.rep.vID hvn
  have hvb := hs2.vbc
  have hvv := hs2.vec hvn
  have hvf : V.drew.frozen? ⟨b.VE, 0 + (v + 1), none⟩ = false := AT hs2.ve
  refine Ae (AZ mixed (fun w' => w' = V.drew) [(0, false), (1, false), (2, false), (3, false), (4, false), (5, false), (6, false), (7, false), (8, false), (9, false), (10, false), (11, false), (12, false), (13, false), (14, false), (15, true)] (by kernel_rfl) rfl ?_)
  generalize V.drew = W at *
  refine Aj rfl (fun _ hS => Ai rfl (Ag rfl) (by cases hS; with_reducible assumption)) ?_
  refine Aj rfl (fun _ _ => Ad) (Aj rfl (fun _ _ => x_index0 rfl rfl (An rfl) (by omega)) (Aj rfl (fun _ hS => Ai rfl (Ag rfl) (by cases hS; with_reducible assumption)) ?_))
  refine Aj rfl (fun _ _ => Ax rfl) (Aj rfl (fun _ _ => Ak rfl (Al rfl)) (Aj rfl (fun _ hS => Ai rfl (Ag rfl) (by cases hS; with_reducible assumption)) ?_))
  refine Aj rfl (fun _ _ => Ad) (Aj rfl (fun _ _ => x_index0 rfl rfl (An rfl) (by omega)) (Aj rfl (fun _ hS => Ai rfl (Ag rfl) (by cases hS; with_reducible assumption)) ?_))
  refine Aj rfl (fun _ _ => Ax rfl) (Aj rfl (fun _ _ => Ak rfl (Al rfl)) (Aj rfl (fun _ hS => Ai rfl (Ag rfl) (by cases hS; with_reducible assumption)) ?_))
  refine Aj rfl (fun _ _ => x_neg (c := -((v : Int) + 1)) rfl (by rw [IntWalk.i32_in _ (by omega)]; omega)) ?_
  refine Aj rfl (fun _ _ => A4 (i := v + 1) rfl rfl (by omega) (An rfl) (by omega)) (Cb rfl (AV (v := .int .i32 (-((v : Int) + 1))) rfl rfl rfl (AM rfl) hvv hvf) (.inl rfl) (AR (Aa ?_)))
  have hs3 := hs2.setVE hE hb (v + 1) (-((v : Int) + 1))
  have hsp3 : Sp (W.setCell ⟨b.VE, 0 + (v + 1), none⟩ (.int .i32 (-((v : Int) + 1)))) Bs (.slice (some ⟨gs, 0, none⟩) l.length sc) pv' l := ⟨Ay hsp2.row fun k e => Below.heap_setCell _ _ _ _ (by have := (As hsp2.row k e).1; have := hBs.all; show k ≠ b.VE; omega), hsp2.ne⟩
  have hb4 := hb3.setCell (p := ⟨b.VE, 0 + (v + 1), none⟩) (Nat.le_trans hBE hb.e.2.2.2.2) (.int .i32 (-((v : Int) + 1)))
  change EC _ _ _ _ _ (W.setCell ⟨b.VE, 0 + (v + 1), none⟩ (.int .i32 (-((v : Int) + 1))))
  generalize W.setCell ⟨b.VE, 0 + (v + 1), none⟩ (.int .i32 (-((v : Int) + 1))) = w5 at hs3 hsp3 hb4 ⊢
  refine AI (AB (AA (Aa (Ac (Ab Ad rfl (Ab (x_inc rfl rfl (by omega)) rfl (Ab Ah rfl (Af ?_))))))))
  exact Av (l.length - (jj + 1)) (by omega) ⟨jj + 1, _, pv', P', pn', by omega, hpa, hs3, hsp3, hb4, ⟨hpn'.1, by omega⟩, by omega, AS rfl ⟨rfl, rfl, rfl, rfl, rfl, rfl, rfl, rfl, rfl, rfl, trivial⟩, rfl⟩
 rw [if_neg (by omega)] at hpa
 refine Aq (Aa ?_)
 obtain ⟨m, hm⟩ : ∃ m, m = c - a := ⟨_, rfl⟩
 rw [← hm] at hpa ⊢
 refine AX (fun e w2 => St w2 B L b g arr (upR cls' arr (o + a) m pn') pv' P' ∧ Sp w2 Bs (.slice (some ⟨gs, 0, none⟩) l.length sc) pv' l ∧ Below B w w2 ∧ AtD e ds [(1, .pointer (some ⟨b.fbx, 0, none⟩)), (7, pv'), (8, .pointer (some ⟨b.vbx, 0, none⟩)), (13, .int .i32 pn'), (18, .pointer (some ⟨mbx, 0, none⟩)), (19, .slice (some ⟨gs, 0, none⟩) l.length sc), (20, .bool chg), (21, .int .i64 iv), (22, .slice (some ⟨b.A, o, none⟩) n (g.nv + 1 - o)), (38, .int .i64 (jj : Int)), (39, .slice (some ⟨b.A, o + a, none⟩) m (g.nv + 1 - o - a))]) ?_ ?_
 ·refine Ae (Ac (Ab Ad rfl (Ab (AP rfl (An rfl)) rfl (Ab Ad rfl (Af (Aa (Ao ?_)))))))
  refine EC_loop (fun mm e w2 => ∃ q, q ≤ m ∧ St w2 B L b g arr (upR cls' arr (o + a) q pn') pv' P' ∧ Sp w2 Bs (.slice (some ⟨gs, 0, none⟩) l.length sc) pv' l ∧ Below B w w2 ∧ AtD e ds [(1, .pointer (some ⟨b.fbx, 0, none⟩)), (7, pv'), (8, .pointer (some ⟨b.vbx, 0, none⟩)), (13, .int .i32 pn'), (18, .pointer (some ⟨mbx, 0, none⟩)), (19, .slice (some ⟨gs, 0, none⟩) l.length sc), (20, .bool chg), (21, .int .i64 iv), (22, .slice (some ⟨b.A, o, none⟩) n (g.nv + 1 - o)), (38, .int .i64 (jj : Int)), (39, .slice (some ⟨b.A, o + a, none⟩) m (g.nv + 1 - o - a)), (423, .slice (some ⟨b.A, o + a, none⟩) m (g.nv + 1 - o - a)), (424, .int .i64 (m : Int)), (425, .int .i64 (q : Int))] ∧ mm = m - q) m
   ⟨0, Nat.zero_le _, by rw [Gh]; exact hs1, hsp1, hb1, AS rfl ⟨rfl, rfl, rfl, rfl, rfl, rfl, rfl, rfl, rfl, rfl, rfl, rfl, rfl, rfl, trivial⟩, rfl⟩ ?_
  clear hs1 hsp1 hb1
  rintro mm e w2 ⟨q, hq, hs1, hsp1, hb1, ⟨t, rfl⟩, rfl⟩
  refine Ae (Ac (Ab (AW rfl rfl) rfl (Af (Aa (Ae ?_)))))
  refine AG rfl rfl (fun hlt => ?_) (fun hge => ?_)
  rotate_left
  ·have hqm : q = m := by omega
   subst hqm
   refine AI (AB (AC (AA ?_)))
   exact AU ⟨hs1, hsp1, hb1, AS rfl ⟨rfl, rfl, rfl, rfl, rfl, rfl, rfl, rfl, rfl, rfl, rfl, trivial⟩⟩
  have hqm : q < m := by omega
  refine Aq (Aa ?_)
  have hvn : arr (o + a + q) < g.nv := BP hp (by omega)
  obtain ⟨v, hv⟩ : ∃ v, v = arr (o + a + q) := ⟨_, rfl⟩
  have h2 := hs1.arc (i := o + a + q) (by omega)
  rw [← hv] at h2 hvn
  refine Ae (Ao (Ae (Ac (Ab (x_index1 rfl rfl (An rfl) (by omega)) rfl (Ab (Ai rfl (Ag rfl) ‹_›) rfl ?_)))))
  refine Ab Ah rfl (Af (Aa ?_))
  have hs2 : St w2.drew B L b g arr (upR cls' arr (o + a) q pn') pv' P' := hs1.same fun _ _ => rfl
  have hsp2 : Sp w2.drew Bs (.slice (some ⟨gs, 0, none⟩) l.length sc) pv' l := hsp1.same fun _ _ => rfl
  have hb3 : Below B w w2.drew := hb1.drew
  have hid := hs2.rep.vID hvn
  have hvb := hs2.vbc
  have hvv := hs2.vec hvn
  have hvf : w2.drew.frozen? ⟨b.VE, 0 + (v + 1), none⟩ = false := AT hs2.ve
  refine AZ mixed (fun w' => w' = w2.drew) [(0, false), (1, false), (2, false), (3, false), (4, false), (5, false), (6, false), (7, true)] (by kernel_rfl) rfl ?_
  generalize w2.drew = W at *
  refine Aj rfl (fun _ hS => Ai rfl (Ag rfl) (by cases hS; with_reducible assumption)) ?_
  refine Aj rfl (fun _ _ => Ad) (Aj rfl (fun _ _ => Ax rfl) (Aj rfl (fun _ _ => Ak rfl (Al rfl)) (Aj rfl (fun _ hS => Ai rfl (Ag rfl) (by cases hS; with_reducible assumption)) ?_)))
  refine Aj rfl (fun _ _ => Ad) (Aj rfl (fun _ _ => A4 (i := v + 1) rfl rfl (by omega) (An rfl) (by omega)) (Cb rfl (AV (v := .int .i32 pn') rfl rfl rfl (AM rfl) hvv hvf) (.inl rfl) (AR (Ap (Aa ?_)))))
  have hs3 := hs2.setVE hE hb (v + 1) pn'
  rw [hv, upR_succ, ← hv] at hs3
  have hsp3 : Sp (W.setCell ⟨b.VE, 0 + (v + 1), none⟩ (.int .i32 pn')) Bs (.slice (some ⟨gs, 0, none⟩) l.length sc) pv' l := ⟨Ay hsp2.row fun k e => Below.heap_setCell _ _ _ _ (by have := (As hsp2.row k e).1; have := hBs.all; show k ≠ b.VE; omega), hsp2.ne⟩
  have hb4 := hb3.setCell (p := ⟨b.VE, 0 + (v + 1), none⟩) (Nat.le_trans hBE hb.e.2.2.2.2) (.int .i32 pn')
  change EC _ _ _ _ _ (W.setCell ⟨b.VE, 0 + (v + 1), none⟩ (.int .i32 pn'))
  generalize W.setCell ⟨b.VE, 0 + (v + 1), none⟩ (.int .i32 pn') = w5 at hs3 hsp3 hb4 ⊢
  refine Ac (Ab (x_inc rfl rfl (by omega)) rfl (Ab Ad rfl (Af ?_)))
  exact Av (m - (q + 1)) (by omega) ⟨q + 1, by omega, hs3, hsp3, hb4, AS rfl ⟨rfl, rfl, rfl, rfl, rfl, rfl, rfl, rfl, rfl, rfl, rfl, rfl, rfl, rfl, trivial⟩, rfl⟩
 rintro e w2 ⟨hs2, hsp2, hb2, ⟨t, rfl⟩⟩
 clear hs1 hsp1 hb1
 refine Ae (Ac (Ab Ad rfl (Ab (Cl (c := pn' + 1) rfl rfl (IntWalk.i32_in _ (by omega))) rfl (Ab Ah rfl (Af (Aa ?_))))))
 have hrw := hs2.row
 refine Ac (Ab Ad rfl (Ab Ad rfl (Ab (Bo (v := slV b.A (g.nv + 1) (o + a, m)) (by show Value.slice _ _ (g.nv + 1 - o - a) = Value.slice _ _ (g.nv + 1 - (o + a)); rw [Nat.sub_sub]) rfl Tryz.underlying108 (by kernel_rfl) (z := .slice none 0 0) rfl) rfl ?_)))
 have hsz2 := hb2.size
 have hBw2 : B ≤ w2.heap.size := by have := A9 hs2.ar; have := hb.e; omega
 have hhi := hb.hi
 have hee := hb.e
 refine el_new0 (.cells #[slV b.A (g.nv + 1) (o + a, m)] 113) fun w5 hN5 hO5 hZ5 hB5 hK5 => ?_
 have hs5 := hs2.below hB5
 have hsp5 := hsp2.same (w' := w5) fun k hk => hO5 k hk
 refine By hs5.row (Am hN5 rfl) rfl (by omega) (by decide) (by omega) Tryz.underlying108 Eu rfl rfl rfl rfl ?_
 intro pv6 w6 hrow6 hgr6 hwh6
 have hpk : ∀ k, pv'.ownBlock = some k → b.Eb ≤ k := fun k e => (As hs5.row k e).1
 have hs6 : St w6 B L b g arr (upR cls' arr (o + a) m pn') pv6 (P' ++ [(o + a, m)]) := by
  refine hs5.setPv hE hb ⟨hgr6.os, hgr6.tape, hgr6.output, hgr6.size, fun j hj hn => hgr6.block j hj fun e => hn e.symm⟩ ?_ ?_
  ·rw [List.length_append, List.map_append]; exact hrow6
  rcases hwh6 with h5 | h5
  ·rw [h5]; exact hs5.ne
  rw [h5]
  have h6 := A9 hs5.vb
  have h7 := A9 hs5.ve
  exact ⟨fun e => by injection e with e; omega, fun e => by injection e with e; omega⟩
 have hsp6 : Sp w6 Bs (.slice (some ⟨gs, 0, none⟩) l.length sc) pv6 l := by
  refine ⟨Ay hsp5.row fun k e => hgr6.block k (As hsp5.row k e).2 fun e2 => hsp5.ne k e2.symm e, fun k e => ?_⟩
  rcases hwh6 with h5 | h5
  ·rw [h5] at e; exact hsp5.ne k e
  rw [h5] at e
  injection e with e
  intro e2
  have := (As hsp5.row k e2).2
  omega
 have hb6 : Below B w w6 := (hb2.trans (hB5.mono hBw2)).trans ⟨hgr6.os, hgr6.tape, hgr6.output, hgr6.size, fun k hk => hgr6.block k (by omega) fun e => by have := hpk k e.symm; omega⟩
 refine Ab Ah rfl (Af (Ap (Aa (Ac (Ab Ad rfl (Ab (x_inc rfl rfl (by omega)) rfl (Ab Ah rfl (Af ?_))))))))
 exact Av (l.length - (jj + 1)) (by omega) ⟨jj + 1, _, pv6, _, pn' + 1, by omega, hpa, hs6, hsp6, hb6, ⟨by omega, by omega⟩, by rw [List.length_append]; simp; omega, AS rfl ⟨rfl, rfl, rfl, rfl, rfl, rfl, rfl, rfl, rfl, rfl, trivial⟩, rfl⟩
end
end Go.Proofs.YteepnepebilckaaGreatDoor
