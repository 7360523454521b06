/- For every input in which the opcode table reads as laid the law FnPartitionMost returns true, and its argument reads as it did, the table being tied to the text of the program. -/
import Derived.Test.YteepnepebilckaaGreatDoorCT33
namespace Go.Proofs.YteepnepebilckaaGreatDoor
open Go Go.Eng Go.RowKit Go.Shelf
theorem GRep.cong {w : World} {B : Nat} {L : Lay} {g : Gph} (h : GRep w B L g) {A C : Nat → List Nat} (hA : ∀ v, v < g.nv → A v = g.args v) (hC : ∀ k, k < g.nb → C k = g.ctrl k) : GRep w B L { g with args := A, ctrl := C } := by
 refine ⟨fun τ => ?_, h.tags.same rfl rfl⟩
 have h1 := h.comp τ
 cases τ with
 | args i => intro hi; show Row _ _ _ _ ((A i).map L.vp); rw [hA i hi]; exact h1 hi
 | ctrl i => intro hi; show Row _ _ _ _ ((C i).map L.vp); rw [hC i hi]; exact h1 hi
 | _ => exact h1
theorem GE.ac {E : Nat} {L : Lay} {g : Gph} (h : GE E L g) (A C : Nat → List Nat) : GE E L { g with args := A, ctrl := C } := ⟨h.fb, h.bb, h.vb, fun τ hτ hl => h.sl τ hτ (by cases τ <;> exact hl)⟩
def fR (rw : Nat → Option Nat) (x : Nat) : Nat := (rw (x + 1)).getD x
open Classical in
noncomputable def Cz (g : Gph) (f : Nat → Nat) (S : List Nat) : Nat → List Nat := fun x => if x ∈ S then (g.args x).map f else g.args x
def Cp (g : Gph) (f : Nat → Nat) (k : Nat) : Nat → List Nat := fun x => if x < k then (g.ctrl x).map f else g.ctrl x
def mpt (f : Nat → Nat) (l : List Nat) (a : Nat) : List Nat := (l.take a).map f ++ l.drop a
theorem mpt_len (f : Nat → Nat) (l : List Nat) (a : Nat) : (mpt f l a).length = l.length := by unfold mpt; simp; omega
theorem mpt_get (f : Nat → Nat) {l : List Nat} {a : Nat} (h : a < l.length) : (mpt f l a).getD a 0 = l.getD a 0 := by
 unfold mpt
 rw [List.getD_eq_getElem?_getD, List.getElem?_append_right (by simp; omega), List.getD_eq_getElem?_getD]
 simp [show min a l.length = a by omega]
theorem Fi (f : Nat → Nat) (l : List Nat) : mpt f l l.length = l.map f := by unfold mpt; simp
theorem mpt_set (f : Nat → Nat) {l : List Nat} {a : Nat} (h : a < l.length) : (mpt f l a).set a (f (l.getD a 0)) = mpt f l (a + 1) := by
 have hg : l.getD a 0 = l[a] := by rw [List.getD_eq_getElem?_getD, List.getElem?_eq_getElem h]; rfl
 unfold mpt
 rw [List.set_append_right _ _ (by simp; omega), hg]
 have h6 : a - ((l.take a).map f).length = 0 := by simp; omega
 rw [h6, List.drop_eq_getElem_cons h, List.set_cons_zero, List.take_succ_eq_append_getElem h, List.map_append, List.append_assoc]
 rfl
theorem EY (f : Nat → Nat) {l : List Nat} {a : Nat} (h : a < l.length) (e : f (l.getD a 0) = l.getD a 0) : mpt f l a = mpt f l (a + 1) := by
 have hg : l.getD a 0 = l[a] := by rw [List.getD_eq_getElem?_getD, List.getElem?_eq_getElem h]; rfl
 rw [hg] at e
 unfold mpt
 rw [List.drop_eq_getElem_cons h, List.take_succ_eq_append_getElem h, List.map_append, List.append_assoc]
 show _ = _ ++ ([f l[a]] ++ _)
 rw [e]; rfl
noncomputable def BU (g : Gph) (f : Nat → Nat) (S : List Nat) (v a : Nat) : Nat → List Nat := fun x => if x = v then mpt f (g.args v) a else Cz g f S x
theorem FE (g : Gph) (f : Nat → Nat) {S : List Nat} {v : Nat} (hv : v ∉ S) : BU g f S v 0 = Cz g f S := by
 funext x
 unfold BU Cz
 by_cases e : x = v
 ·subst e; rw [if_pos rfl, if_neg hv]; rfl
 rw [if_neg e]
theorem mapP_all (g : Gph) (f : Nat → Nat) {S : List Nat} {v : Nat} : BU g f S v (g.args v).length = Cz g f (S ++ [v]) := by
 funext x
 unfold BU Cz
 by_cases e : x = v
 ·subst e; rw [if_pos rfl, if_pos (by simp), Fi]
 rw [if_neg e]
 by_cases h : x ∈ S
 ·rw [if_pos h, if_pos (by simp [h])]
 rw [if_neg h, if_neg (by simp [h, e])]
theorem F9 (g : Gph) (f : Nat → Nat) {S : List Nat} {v a : Nat} (h : a < (g.args v).length) : (fun x => if x = v then (BU g f S v a v).set a (f ((g.args v).getD a 0)) else BU g f S v a x) = BU g f S v (a + 1) := by
 funext x
 by_cases e : x = v
 ·subst e
  rw [if_pos rfl]
  unfold BU
  rw [if_pos rfl, if_pos rfl]
  exact mpt_set f h
 rw [if_neg e]
 unfold BU
 rw [if_neg e, if_neg e]
theorem F2 (g : Gph) (f : Nat → Nat) {S : List Nat} {v a : Nat} (h : a < (g.args v).length) (e : f ((g.args v).getD a 0) = (g.args v).getD a 0) : BU g f S v a = BU g f S v (a + 1) := by
 funext x
 unfold BU
 rw [EY f h e]
def B4 (g : Gph) (f : Nat → Nat) (k a : Nat) : Nat → List Nat := fun x => if x = k then mpt f (g.ctrl k) a else Cp g f k x
theorem ctrP_zero (g : Gph) (f : Nat → Nat) (k : Nat) : B4 g f k 0 = Cp g f k := by
 funext x
 unfold B4 Cp
 by_cases e : x = k
 ·subst e; rw [if_pos rfl, if_neg (by omega)]; rfl
 rw [if_neg e]
theorem ctrP_all (g : Gph) (f : Nat → Nat) (k : Nat) : B4 g f k (g.ctrl k).length = Cp g f (k + 1) := by
 funext x
 unfold B4 Cp
 by_cases e : x = k
 ·subst e; rw [if_pos rfl, if_pos (by omega), Fi]
 rw [if_neg e]
 by_cases h : x < k
 ·rw [if_pos h, if_pos (by omega)]
 rw [if_neg h, if_neg (by omega)]
theorem Gr (g : Gph) (f : Nat → Nat) {k a : Nat} (h : a < (g.ctrl k).length) : (fun x => if x = k then (B4 g f k a k).set a (f ((g.ctrl k).getD a 0)) else B4 g f k a x) = B4 g f k (a + 1) := by
 funext x
 by_cases e : x = k
 ·subst e
  rw [if_pos rfl]
  unfold B4
  rw [if_pos rfl, if_pos rfl]
  exact mpt_set f h
 rw [if_neg e]
 unfold B4
 rw [if_neg e, if_neg e]
theorem FI (g : Gph) (f : Nat → Nat) {k a : Nat} (h : a < (g.ctrl k).length) (e : f ((g.ctrl k).getD a 0) = (g.ctrl k).getD a 0) : B4 g f k a = B4 g f k (a + 1) := by
 funext x
 unfold B4
 rw [EY f h e]
set_option maxHeartbeats 4000000
attribute [local irreducible] EC EL DL Ret thenQ blockQ Bf bodyQ onlyN execOp Sem.run World.cell? World.frozen? World.setCell World.alloc
theorem Fe {w : World} {B E : Nat} {L : Lay} {g : Gph} (h : GRep w B L g) (hE : GE E L g) {i k j : Nat} (hi : i < g.nv) (hk : k < (g.args i).length) :
 Ret Tryz.prog 69 #[L.vp i, .int .i64 (k : Int), L.vp j] w fun v w' => v = .tuple #[] ∧ GRep w' B L (g.setArg i k j) ∧ Below B w w' ∧ Only (fun j => j < E) w w' := by
 obtain ⟨b, cap, hv, hob, hc, hf⟩ := h.argsE hi hk
 have h1 := h.vArgs hi
 rw [hv] at h1
 have hlt := (h.slLt (τ := .args i) rfl hi b hob).1
 have hle : b < E := hE.sl (.args i) rfl hi b hob
 refine ret_of_EC Tryz.func69 rfl rfl (Ac (Ab Ad rfl (Ab (Ax rfl) rfl (Ab (Ak rfl (Al rfl)) rfl (Ab (Ai rfl (Ag rfl) ‹_›) rfl ?_)))))
 refine Ab Ad rfl (Ab Ad rfl (Ab (x_index1 rfl rfl (An rfl) (by omega)) rfl (Bd (AV rfl rfl rfl (AM rfl) hc (hf _)) rfl (Af ?_))))
 refine BB rfl rfl ⟨rfl, ?_, Dr hlt, (Only.refl _ w).set (L.vp j) hle⟩
 rw [Nat.zero_add]
 exact h.setArg hi hk hob
theorem Dt {w : World} {B E : Nat} {L : Lay} {g : Gph} (h : GRep w B L g) (hE : GE E L g) {b k j : Nat} (hb : b < g.nb) (hk : k < (g.ctrl b).length) :
 Ret Tryz.prog 71 #[L.bp b, .int .i64 (k : Int), L.vp j] w fun v w' => v = .tuple #[] ∧ GRep w' B L (g.setCtrl b k j) ∧ Below B w w' ∧ Only (fun j => j < E) w w' := by
 obtain ⟨b1, cap, hv, hob, hc, hf⟩ := h.ctrlE hb hk
 have h1 := h.bCtrl hb
 rw [hv] at h1
 have hlt := (h.slLt (τ := .ctrl b) rfl hb b1 hob).1
 have hle : b1 < E := hE.sl (.ctrl b) rfl hb b1 hob
 refine ret_of_EC Tryz.func71 rfl rfl (Ac (Ab Ad rfl (Ab (Ax rfl) rfl (Ab (Ak rfl (Al rfl)) rfl (Ab (Ai rfl (Ag rfl) ‹_›) rfl ?_)))))
 refine Ab Ad rfl (Ab Ad rfl (Ab (x_index1 rfl rfl (An rfl) (by omega)) rfl (Bd (AV rfl rfl rfl (AM rfl) hc (hf _)) rfl (Af ?_))))
 refine BB rfl rfl ⟨rfl, ?_, Dr hlt, (Only.refl _ w).set (L.vp j) hle⟩
 rw [Nat.zero_add]
 exact h.setCtrl hb hk hob
section
variable {w : World} {B E fbx RB : Nat} {L : Lay} {g : Gph} {Q : Exit → Env → World → Prop} {t : Nat → Value} {ds : List Deferred} {rw : Nat → Option Nat}
theorem cseG (h0 : GRep w B L g) (hE : GE E L g) (hER : E ≤ RB) (hn : g.nv ≤ 48) (hnb : g.nb ≤ 9) (hbv : ∀ k, k < g.nb → ∀ v ∈ g.bvals k, v < g.nv) (hperm : (preK g g.nb).Perm (List.range g.nv)) (ha : ∀ v, v < g.nv → (g.args v).length ≤ 1000 ∧ ∀ x ∈ g.args v, x < g.nv)
 (hct : ∀ k, k < g.nb → (g.ctrl k).length ≤ 1000 ∧ ∀ c ∈ g.ctrl k, c < g.nv) (hop : ∀ v, v < g.nv → g.op v ≤ 15) (hfb : w.heap[fbx]? = some (.cells #[L.fp] 71 (0, 0))) (hR : w.heap[RB]? = some (.cells (cellsOf (fun i => ptO L (rw i)) (g.nv + 1)) 97 (0, 0)))
 (h : ∀ t w', GRep w' B L (g.mv (fR rw)) → Below B w w' → Only (fun j => j < E) w w' → Q .normal (Env.sets ⟨t, ds⟩ []) w') :
 EC Tryz.prog Tryz.f41.ntmps (dropC 20 BW) Q (Env.sets ⟨t, ds⟩ [(1, .pointer (some ⟨fbx, 0, none⟩)), (43, .slice (some ⟨RB, 0, none⟩) (g.nv + 1) (g.nv + 1))]) w := by
 obtain ⟨f, hf⟩ : ∃ f, f = fR rw := ⟨_, rfl⟩
 rw [← hf] at h
 obtain ⟨fa, fc, hfs⟩ := h0.fblocksV
 have h1 := h0.fBlocks
 rw [hfs] at h1
 have h2 : w.cell? ⟨fbx, 0, none⟩ = some L.fp := Am hfb rfl
 have htot : (preK g g.nb).length = g.nv := by rw [hperm.length_eq, List.length_range]
 have hnod : (preK g g.nb).Nodup := hperm.nodup_iff.2 List.nodup_range
 have hRw : ∀ W, Only (fun j => j < E) w W → W.heap[RB]? = some (.cells (cellsOf (fun i => ptO L (rw i)) (g.nv + 1)) 97 (0, 0)) := fun W hO => (hO.block RB (A9 hR) (by omega)).trans hR
 have hBw : B ≤ w.heap.size := h0.baseLe
 have hgn : ∀ {W W' : World}, Gn W W' → Only (fun j => j < E) w W → Below B w W → Only (fun j => j < E) w W' ∧ Below B w W' := fun hG hO hb => by
  have := hO.size
  exact ⟨hO.bel this hG.below, hb.trans (hG.below.mono (by omega))⟩
 refine Ae (Ac (Ab (Ai rfl (Ag rfl) ‹_›) rfl ?_))
 refine Ab (Ax rfl) rfl (Ab (Ak rfl (Al rfl)) rfl (Ab (Ai rfl (Ag rfl) ‹_›) rfl ?_))
 refine Ab (AP rfl (An rfl)) rfl (Ab Ad rfl (Af (Aa (Ao ?_))))
 refine EC_loop (fun m e w1 => ∃ k, k ≤ g.nb ∧ GRep w1 B L { g with args := Cz g f (preK g k), ctrl := Cp g f k } ∧ Below B w w1 ∧ Only (fun j => j < E) w w1 ∧ AtD e ds [(1, .pointer (some ⟨fbx, 0, none⟩)), (43, .slice (some ⟨RB, 0, none⟩) (g.nv + 1) (g.nv + 1)), (525, .slice fa g.nb fc), (526, .int .i64 (g.nb : Int)), (527, .int .i64 (k : Int))] ∧ m = g.nb - k) g.nb
  ⟨0, Nat.zero_le _, h0.cong (fun v _ => if_neg (by simp [preK])) (fun k _ => if_neg (Nat.not_lt_zero _)), Below.refl _ _, Only.refl _ _, AS rfl ⟨rfl, rfl, rfl, rfl, rfl, trivial⟩, rfl⟩ ?_
 clear h1 h2 hfb
 rintro m e w1 ⟨k, hk, hg, hbl, hO, ⟨t, rfl⟩, rfl⟩
 refine Ae (Ac (Ab (AW rfl rfl) rfl (Af (Aa (Ae ?_)))))
 refine AG rfl rfl (fun hlt => ?_) (fun hge => ?_)
 rotate_left
 ·have hkn : k = g.nb := by omega
  rw [hkn] at hg
  refine AI (AB (AC (AA ?_)))
  refine h _ w1 ?_ hbl hO
  exact hg.cong (A := fun v => (g.args v).map f) (C := fun b => (g.ctrl b).map f) (fun v hv => (if_pos (hperm.mem_iff.2 (List.mem_range.2 hv))).symm) fun b hb => (if_pos hb).symm
 have hkn : k < g.nb := by omega
 refine Aq (Aa ?_)
 obtain ⟨fb, fcc, e1, _, hbc, _⟩ := hg.fblocksE hkn
 rw [hfs] at e1
 injection e1 with e1 _ e3
 subst e1
 obtain ⟨va, vc, hvs⟩ := Row.len (hg.comp (.bvals k) hkn)
 obtain ⟨nk, hnk⟩ : ∃ nk, nk = (g.bvals k).length := ⟨_, rfl⟩
 rw [show ({ g with args := Cz g f (preK g k), ctrl := Cp g f k } : Gph).bvals k = g.bvals k from rfl, ← hnk] at hvs
 have hkl : nk ≤ 1000 := by
  have h3 := preK_lt g (n := g.nb) hkn (i := nk - 1)
  rw [htot, List.length_append, List.length_take] at h3
  by_cases h4 : nk = 0
  ·omega
  have := h3 (by omega); omega
 have h1 := hg.bVals hkn
 rw [hvs] at h1
 refine Ae (Ao (Ae (Ac (Ab (x_index1 rfl rfl (An rfl) (by omega)) rfl (Ab (Ai rfl (Ag rfl) ‹_›) rfl ?_)))))
 refine Ab Ah rfl (Af (Aa ?_))
 refine AX (fun e w2 => GRep w2 B L { g with args := Cz g f (preK g (k + 1)), ctrl := Cp g f k } ∧ Below B w w2 ∧ Only (fun j => j < E) w w2 ∧ AtD e ds [(1, .pointer (some ⟨fbx, 0, none⟩)), (43, .slice (some ⟨RB, 0, none⟩) (g.nv + 1) (g.nv + 1)), (525, .slice (some ⟨fb, 0, none⟩) g.nb fc), (526, .int .i64 (g.nb : Int)), (527, .int .i64 (k : Int)), (51, L.bp k)]) ?_ ?_
 ·refine Ae (Ac (Ab Ad rfl (Ab (Ax rfl) rfl (Ab (Ak rfl (Al rfl)) rfl (Ab (Ai rfl (Ag rfl) ‹_›) rfl ?_)))))
  refine Ab (AP rfl (An rfl)) rfl (Ab Ad rfl (Af (Aa (Ao ?_))))
  refine EC_loop (fun m e w2 => ∃ i, i ≤ nk ∧ GRep w2 B L { g with args := Cz g f (preK g k ++ (g.bvals k).take i), ctrl := Cp g f k } ∧ Below B w w2 ∧ Only (fun j => j < E) w w2 ∧ AtD e ds [(1, .pointer (some ⟨fbx, 0, none⟩)), (43, .slice (some ⟨RB, 0, none⟩) (g.nv + 1) (g.nv + 1)), (525, .slice (some ⟨fb, 0, none⟩) g.nb fc), (526, .int .i64 (g.nb : Int)), (527, .int .i64 (k : Int)), (51, L.bp k), (534, .slice va nk vc), (535, .int .i64 (nk : Int)), (536, .int .i64 (i : Int))] ∧ m = nk - i) nk
   ⟨0, Nat.zero_le _, by simpa using hg, hbl, hO, AS rfl ⟨rfl, rfl, rfl, rfl, rfl, rfl, rfl, rfl, rfl, trivial⟩, rfl⟩ ?_
  clear h1 hg hbl hO hbc
  rintro m e w2 ⟨i, hi, hg, hbl, hO, ⟨t, rfl⟩, rfl⟩
  refine Ae (Ac (Ab (AW rfl rfl) rfl (Af (Aa (Ae ?_)))))
  refine AG rfl rfl (fun hlt => ?_) (fun hge => ?_)
  rotate_left
  ·have hin : i = nk := by omega
   have e : preK g k ++ (g.bvals k).take i = preK g (k + 1) := by rw [hin, hnk, List.take_length, Cf]
   rw [e] at hg
   refine AI (AB (AC (AA ?_)))
   exact AU ⟨hg, hbl, hO, AS rfl ⟨rfl, rfl, rfl, rfl, rfl, rfl, trivial⟩⟩
  have hin : i < nk := by omega
  refine Aq (Aa ?_)
  obtain ⟨vb, vcc, e2, _, hvc, _⟩ := Row.elem (hg.comp (.bvals k) hkn) (k := i) (by show i < (g.bvals k).length; omega)
  rw [show ({ g with args := Cz g f (preK g k ++ (g.bvals k).take i), ctrl := Cp g f k } : Gph).bvals k = g.bvals k from rfl] at e2 hvc
  rw [hvs] at e2
  injection e2 with e2 _ e4
  subst e2
  obtain ⟨v, hve⟩ : ∃ v, v = (g.bvals k).getD i 0 := ⟨_, rfl⟩
  rw [← hve] at hvc
  have hvn : v < g.nv := by rw [hve]; exact hbv k hkn _ (Bt (by omega))
  obtain ⟨S, hS⟩ : ∃ S, S = preK g k ++ (g.bvals k).take i := ⟨_, rfl⟩
  have hnext : preK g k ++ (g.bvals k).take (i + 1) = S ++ [v] := by
   rw [List.take_add_one, ← List.append_assoc, ← hS]
   congr 1
   rw [hve, List.getD_eq_getElem?_getD, List.getElem?_eq_getElem (by omega)]; rfl
  have hvS : v ∉ S := by
   have h3 : (S ++ [v]).Sublist (preK g g.nb) := by
    rw [← hnext]
    refine (List.Sublist.append_left (List.take_sublist _ _) _).trans ?_
    rw [← Cf]
    obtain ⟨d, hd⟩ : ∃ d, g.nb = k + 1 + d := ⟨g.nb - (k + 1), by omega⟩
    have e : List.range (k + 1 + d) = List.range (k + 1) ++ (List.range d).map (k + 1 + ·) := List.range_add ..
    show ((List.range (k + 1)).flatMap g.bvals).Sublist ((List.range g.nb).flatMap g.bvals)
    rw [hd, e, List.flatMap_append]
    exact List.sublist_append_left _ _
   have h4 := h3.nodup hnod
   intro hm
   exact (List.nodup_append.1 h4).2.2 v hm v (.head _) rfl
  rw [← hS] at hg
  obtain ⟨na, hna⟩ : ∃ na, na = (g.args v).length := ⟨_, rfl⟩
  have hnal : na ≤ 1000 := by rw [hna]; exact (ha v hvn).1
  have hg0 : GRep w2 B L { g with args := BU g f S v 0, ctrl := Cp g f k } := by rw [FE g f hvS]; exact hg
  obtain ⟨aa, ac, has⟩ := hg0.argsV hvn
  have hl0 : (({ g with args := BU g f S v 0, ctrl := Cp g f k } : Gph).args v).length = na := by
   show (BU g f S v 0 v).length = na
   unfold BU
   rw [if_pos rfl, mpt_len, hna]
  rw [hl0] at has
  have hva := hg0.vArgs hvn
  rw [has] at hva
  refine Ae (Ao (Ae (Ac (Ab (x_index1 rfl rfl (An rfl) (by omega)) rfl (Ab (Ai rfl (Ag rfl) ‹_›) rfl ?_)))))
  refine Ab Ah rfl (Af (Aa (Ae (Ac (Ab Ad rfl (Ab (Ax rfl) rfl (Ab (Ak rfl (Al rfl)) rfl (Ab (Ai rfl (Ag rfl) ‹_›) rfl ?_))))))))
  refine Ab (AP rfl (An rfl)) rfl (Ab Ad rfl (Af (Aa (Ao ?_))))
  refine EC_loop (fun m e w3 => ∃ a, a ≤ na ∧ GRep w3 B L { g with args := BU g f S v a, ctrl := Cp g f k } ∧ Below B w w3 ∧ Only (fun j => j < E) w w3 ∧ AtD e ds [(1, .pointer (some ⟨fbx, 0, none⟩)), (43, .slice (some ⟨RB, 0, none⟩) (g.nv + 1) (g.nv + 1)), (525, .slice (some ⟨fb, 0, none⟩) g.nb fc), (526, .int .i64 (g.nb : Int)), (527, .int .i64 (k : Int)), (51, L.bp k), (534, .slice (some ⟨vb, 0, none⟩) nk vc), (535, .int .i64 (nk : Int)), (536, .int .i64 (i : Int)), (53, L.vp v), (543, .slice aa na ac), (544, .int .i64 (na : Int)), (545, .int .i64 (a : Int))] ∧ m = na - a) na
   ⟨0, Nat.zero_le _, hg0, hbl, hO, AS rfl ⟨rfl, rfl, rfl, rfl, rfl, rfl, rfl, rfl, rfl, rfl, rfl, rfl, rfl, trivial⟩, rfl⟩ ?_
  clear hg hg0 hbl hO hvc hva
  rintro m e w3 ⟨a, haa, hg, hbl, hO, ⟨t, rfl⟩, rfl⟩
  refine Ae (Ac (Ab (AW rfl rfl) rfl (Af (Aa (Ae ?_)))))
  refine AG rfl rfl (fun hlt => ?_) (fun hge => ?_)
  rotate_left
  ·have han : a = na := by omega
   rw [han, hna, mapP_all, ← hnext] at hg
   refine AI (AB (AC (AA (Ap (Aa (Ac (Ab (x_inc rfl rfl (by omega)) rfl (Ab Ad rfl (Af ?_)))))))))
   exact Av (nk - (i + 1)) (by omega) ⟨i + 1, by omega, hg, hbl, hO, AS rfl ⟨rfl, rfl, rfl, rfl, rfl, rfl, rfl, rfl, rfl, trivial⟩, rfl⟩
  have han : a < na := by omega
  refine Aq (Aa ?_)
  have hlen : (({ g with args := BU g f S v a, ctrl := Cp g f k } : Gph).args v).length = na := by
   show (BU g f S v a v).length = na
   unfold BU
   rw [if_pos rfl, mpt_len, hna]
  obtain ⟨y, hy⟩ : ∃ y, y = (g.args v).getD a 0 := ⟨_, rfl⟩
  have hyn : y < g.nv := by rw [hy]; exact (ha v hvn).2 _ (Bt (by omega))
  obtain ⟨ab, acc, e5, _, hac, _⟩ := hg.argsE (k := a) hvn (by rw [hlen]; exact han)
  have hgy : (({ g with args := BU g f S v a, ctrl := Cp g f k } : Gph).args v).getD a 0 = y := by
   show (BU g f S v a v).getD a 0 = y
   unfold BU
   rw [if_pos rfl, mpt_get f (by omega), hy]
  rw [hgy] at hac
  rw [hlen, has] at e5
  injection e5 with e5 _ e6
  subst e5
  have hRc : w3.cell? ⟨RB, 0 + (y + 1), none⟩ = some (ptO L (rw (y + 1))) := Am (hRw w3 hO) (by rw [Nat.zero_add]; exact A7 _ (by omega))
  have hid := hg.vID (i := y) hyn
  refine Ae (Ao (Ae (Ac (Ab Ad rfl (Ab (x_index1 rfl rfl (An rfl) (by omega)) rfl (Ab (Ai rfl (Ag rfl) ‹_›) rfl ?_))))))
  refine Ab Ah rfl (Ab Ah rfl (Af (Aa (Ae (Ac (Ab Ad rfl (Ab Ad rfl (Ab (Ax rfl) rfl (Ab (Ak rfl (Al rfl)) rfl (Ab (Ai rfl (Ag rfl) hid) rfl (Ab (A4 (i := y + 1) rfl rfl (by omega) (An rfl) (by omega)) rfl ?_)))))))))))
  refine Ab (Ai rfl (Ag rfl) hRc) rfl (Ab Ah rfl (Af (Aa ?_)))
  have hfy : f y = (rw (y + 1)).getD y := by rw [hf]; rfl
  cases hrw : rw (y + 1) with
  | none =>
    rw [hrw] at hfy
    refine Ae (Ac (Ab Ad rfl (Ab (CD (p := none) rfl rfl (BQ rfl)) rfl (Af (Aa (A6 rfl rfl (Aq (Ap (Aa (Ac (Ab (x_inc rfl rfl (by omega)) rfl ?_)))))))))))
    refine Ab Ad rfl (Af ?_)
    rw [F2 g f (by omega) (by rw [← hy]; exact hfy)] at hg
    exact Av (na - (a + 1)) (by omega) ⟨a + 1, by omega, hg, hbl, hO, AS rfl ⟨rfl, rfl, rfl, rfl, rfl, rfl, rfl, rfl, rfl, rfl, rfl, rfl, rfl, trivial⟩, rfl⟩
  | some z =>
    rw [hrw] at hfy
    have hfy : f y = z := hfy
    refine Ae (Ac (Ab Ad rfl (Ab (CD (p := some ⟨L.vb z, 0, none⟩) rfl rfl (BQ rfl)) rfl (Af (Aa (Ba rfl rfl (Ae (Ae (Ac (Ab Ad rfl (Ab (Ax rfl) rfl ?_)))))))))))
    refine Ab (Fu rfl (hg.val (i := y) hyn)) rfl (Ab (D3 rfl) rfl (Bg (AH Tryz.func64 rfl rfl rfl rfl) rfl Dk ?_))
    rintro _ w4 ⟨rfl, hG4⟩
    obtain ⟨hO4, hb4⟩ := hgn hG4 hO hbl
    have hg4 := hg.on hG4.below
    refine Ab (Bi (a := 0) (b := 1) rfl rfl) rfl ?_
    rw [show decide ((0 : Int) = 1) = false from rfl]
    refine Ab Ad rfl (Az rfl rfl (Az rfl rfl (Az rfl rfl (Az rfl rfl (Az rfl rfl (Ab (AN rfl) rfl (Af (Aa (A6 rfl rfl (Aq (Aa ?_)))))))))))
    refine Ac (Ab Ad rfl (Ab Ad rfl (Ab Ad rfl (Bg (AH Tryz.func69 rfl rfl rfl rfl) rfl (Fe (j := z) hg4 (hE.ac _ _) hvn (by rw [hlen]; exact han)) ?_))))
    rintro _ w5 ⟨rfl, hg5, hb5, hO5⟩
    refine Af (Ap (Aa (Ac (Ab (x_inc rfl rfl (by omega)) rfl (Ab Ad rfl (Af ?_))))))
    have hg6 : GRep w5 B L { g with args := BU g f S v (a + 1), ctrl := Cp g f k } := by
     rw [← F9 g f (by omega), ← hy, hfy]
     exact hg5
    exact Av (na - (a + 1)) (by omega) ⟨a + 1, by omega, hg6, hb4.trans hb5, hO4.trans hO5, AS rfl ⟨rfl, rfl, rfl, rfl, rfl, rfl, rfl, rfl, rfl, rfl, rfl, rfl, rfl, trivial⟩, rfl⟩
 clear h1 hg hbl hO hbc
 rintro e w2 ⟨hg, hbl, hO, ⟨t, rfl⟩⟩
 obtain ⟨cn, hcn⟩ : ∃ cn, cn = (g.ctrl k).length := ⟨_, rfl⟩
 have hcnl : cn ≤ 1000 := by rw [hcn]; exact (hct k hkn).1
 have hg0 : GRep w2 B L { g with args := Cz g f (preK g (k + 1)), ctrl := B4 g f k 0 } := by rw [ctrP_zero]; exact hg
 have hlen : ∀ a, (({ g with args := Cz g f (preK g (k + 1)), ctrl := B4 g f k a } : Gph).ctrl k).length = cn := fun a => by
  show (B4 g f k a k).length = cn
  unfold B4
  rw [if_pos rfl, mpt_len, hcn]
 obtain ⟨ca, cc, hcs⟩ := hg0.ctrlV hkn
 rw [hlen] at hcs
 refine Ae (Ac (Ab Ad rfl (Bg (AH Tryz.func70 rfl rfl rfl rfl) rfl (DW hg0 (b := k) hkn) ?_)))
 rintro _ wx ⟨rfl, ew⟩
 rw [ew, hcs]
 clear ew wx
 refine Ab (AP rfl (An rfl)) rfl (Ab Ad rfl (Af (Aa (Ao ?_))))
 refine EC_loop (fun m e w3 => ∃ a, a ≤ cn ∧ GRep w3 B L { g with args := Cz g f (preK g (k + 1)), ctrl := B4 g f k a } ∧ Below B w w3 ∧ Only (fun j => j < E) w w3 ∧ AtD e ds [(1, .pointer (some ⟨fbx, 0, none⟩)), (43, .slice (some ⟨RB, 0, none⟩) (g.nv + 1) (g.nv + 1)), (525, .slice (some ⟨fb, 0, none⟩) g.nb fc), (526, .int .i64 (g.nb : Int)), (527, .int .i64 (k : Int)), (51, L.bp k), (617, .slice ca cn cc), (618, .int .i64 (cn : Int)), (619, .int .i64 (a : Int))] ∧ m = cn - a) cn
  ⟨0, Nat.zero_le _, hg0, hbl, hO, AS rfl ⟨rfl, rfl, rfl, rfl, rfl, rfl, rfl, rfl, rfl, trivial⟩, rfl⟩ ?_
 clear hg hg0 hbl hO
 rintro m e w3 ⟨a, haa, hg, hbl, hO, ⟨t, rfl⟩, rfl⟩
 refine Ae (Ac (Ab (AW rfl rfl) rfl (Af (Aa (Ae ?_)))))
 refine AG rfl rfl (fun hlt => ?_) (fun hge => ?_)
 rotate_left
 ·have han : a = cn := by omega
  rw [han, hcn, ctrP_all] at hg
  refine AI (AB (AC (AA (Ap (Aa (Ac (Ab (x_inc rfl rfl (by omega)) rfl (Ab Ad rfl (Af ?_)))))))))
  exact Av (g.nb - (k + 1)) (by omega) ⟨k + 1, by omega, hg, hbl, hO, AS rfl ⟨rfl, rfl, rfl, rfl, rfl, trivial⟩, rfl⟩
 have han : a < cn := by omega
 refine Aq (Aa ?_)
 obtain ⟨y, hy⟩ : ∃ y, y = (g.ctrl k).getD a 0 := ⟨_, rfl⟩
 have hyn : y < g.nv := by rw [hy]; exact (hct k hkn).2 _ (Bt (by omega))
 obtain ⟨ab, acc, e5, _, hac, _⟩ := hg.ctrlE (k := a) hkn (by rw [hlen]; exact han)
 have hgy : (({ g with args := Cz g f (preK g (k + 1)), ctrl := B4 g f k a } : Gph).ctrl k).getD a 0 = y := by
  show (B4 g f k a k).getD a 0 = y
  unfold B4
  rw [if_pos rfl, mpt_get f (by omega), hy]
 rw [hgy] at hac
 rw [hlen, hcs] at e5
 injection e5 with e5 _ e6
 subst e5
 have hRc : w3.cell? ⟨RB, 0 + (y + 1), none⟩ = some (ptO L (rw (y + 1))) := Am (hRw w3 hO) (by rw [Nat.zero_add]; exact A7 _ (by omega))
 have hid := hg.vID (i := y) hyn
 refine Ae (Ao (Ae (Ac (Ab Ad rfl (Ab (x_index1 rfl rfl (An rfl) (by omega)) rfl (Ab (Ai rfl (Ag rfl) ‹_›) rfl ?_))))))
 refine Ab Ah rfl (Ab Ah rfl (Af (Aa (Ae (Ac (Ab Ad rfl (Ab Ad rfl (Ab (Ax rfl) rfl (Ab (Ak rfl (Al rfl)) rfl (Ab (Ai rfl (Ag rfl) hid) rfl (Ab (A4 (i := y + 1) rfl rfl (by omega) (An rfl) (by omega)) rfl ?_)))))))))))
 refine Ab (Ai rfl (Ag rfl) hRc) rfl (Ab Ah rfl (Af (Aa ?_)))
 have hfy : f y = (rw (y + 1)).getD y := by rw [hf]; rfl
 cases hrw : rw (y + 1) with
 | none =>
   rw [hrw] at hfy
   refine Ae (Ac (Ab Ad rfl (Ab (CD (p := none) rfl rfl (BQ rfl)) rfl (Af (Aa (A6 rfl rfl (Aq (Ap (Aa (Ac (Ab (x_inc rfl rfl (by omega)) rfl ?_)))))))))))
   refine Ab Ad rfl (Af ?_)
   rw [FI g f (by omega) (by rw [← hy]; exact hfy)] at hg
   exact Av (cn - (a + 1)) (by omega) ⟨a + 1, by omega, hg, hbl, hO, AS rfl ⟨rfl, rfl, rfl, rfl, rfl, rfl, rfl, rfl, rfl, trivial⟩, rfl⟩
 | some z =>
   rw [hrw] at hfy
   have hfy : f y = z := hfy
   have hoy := hg.vOp (i := y) hyn
   have hoy2 : g.op y ≤ 15 := hop y hyn
   refine Ae (Ac (Ab Ad rfl (Ab (CD (p := some ⟨L.vb z, 0, none⟩) rfl rfl (BQ rfl)) rfl (Af (Aa (Ba rfl rfl (Ae (Ae (Ac (Ab Ad rfl (Ab (Ax rfl) rfl ?_)))))))))))
   refine Ab (Ak rfl (Al rfl)) rfl (Ab (Ai rfl (Ag rfl) hoy) rfl (Ab (Bi rfl rfl) rfl (Af (Aa ?_))))
   refine AG rfl rfl (fun h17 => ?_) (fun h17 => ?_)
   ·exfalso
    have h17 : g.op y = 17 := h17
    omega
   refine Aq (Aa (Ac (Ab Ad rfl (Ab Ad rfl (Ab Ad rfl (Bg (AH Tryz.func71 rfl rfl rfl rfl) rfl (Dt (j := z) hg (hE.ac _ _) hkn (by rw [hlen]; exact han)) ?_))))))
   rintro _ w5 ⟨rfl, hg5, hb5, hO5⟩
   refine Af (Ap (Aa (Ac (Ab (x_inc rfl rfl (by omega)) rfl (Ab Ad rfl (Af ?_))))))
   have hg6 : GRep w5 B L { g with args := Cz g f (preK g (k + 1)), ctrl := B4 g f k (a + 1) } := by
    rw [← Gr g f (by omega), ← hy, hfy]
    exact hg5
   exact Av (cn - (a + 1)) (by omega) ⟨a + 1, by omega, hg6, hbl.trans hb5, hO.trans hO5, AS rfl ⟨rfl, rfl, rfl, rfl, rfl, rfl, rfl, rfl, rfl, trivial⟩, rfl⟩
end
end Go.Proofs.YteepnepebilckaaGreatDoor
