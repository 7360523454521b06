/- Functions as data and graphs: good the one, good the other. -/
import Derived.Test.YteepnepebilckaaP3
import Derived.Test.YteepnepebilckaaV7
namespace Go.Proofs.Yteepnepebilckaa
open Go Go.Eng

theorem flatMap_eq {α β : Type} {p q : α → List β} : ∀ {l : List α}, (∀ x ∈ l, p x = q x) → l.flatMap p = l.flatMap q
  | [], _ => rfl
  | a :: l, h => by
    rw [List.flatMap_cons, List.flatMap_cons, h a (.head _), flatMap_eq fun x hx => h x (.tail _ hx)]
theorem getD_toNat (l : List Int) (k : Nat) : (l.map Int.toNat).getD k 0 = (l.getD k 0).toNat := by
  rw [List.getD_eq_getElem?_getD, List.getD_eq_getElem?_getD, List.getElem?_map]
  cases l[k]? <;> rfl
theorem getD_memI {l : List Int} {k : Nat} (hk : k < l.length) : l.getD k 0 ∈ l := by
  rw [List.getD_eq_getElem?_getD, List.getElem?_eq_getElem hk]; simp
theorem getD_nats (l : List Nat) (k : Nat) : (nats l).getD k 0 = ((l.getD k 0 : Nat) : Int) := by
  unfold nats
  rw [List.getD_eq_getElem?_getD, List.getD_eq_getElem?_getD, List.getElem?_map]
  cases l[k]? <;> rfl
theorem toNat_nats (l : List Nat) : (nats l).map Int.toNat = l := by
  unfold nats
  rw [List.map_map]
  conv => rhs; rw [← List.map_id l]
  exact List.map_congr_left fun _ _ => rfl

section
variable {f : Fn}
theorem succs_nn (h0 : ∀ b, b < f.blks.length → ∀ s ∈ (f.b b).succs, 0 ≤ s ∧ s < f.blks.length) : ∀ b s, s ∈ (f.b b).succs → 0 ≤ s := by
  intro b s hs
  by_cases hb : b < f.blks.length
  · exact (h0 b hb s hs).1
  · have : f.b b = default := by
      unfold Fn.b
      rw [List.getD_eq_getElem?_getD, List.getElem?_eq_none (by omega)]; rfl
    rw [this] at hs
    cases hs
theorem predsOf_eq (h0 : ∀ b s, s ∈ (f.b b).succs → 0 ≤ s) (b : Nat) : predsOf f b = predsL (toG f).succs f.blks.length b := by
  unfold predsOf predsL
  refine flatMap_eq fun i _ => ?_
  show _ = (((f.b i).succs.map Int.toNat).filter fun s => s == b).map fun _ => i
  rw [List.filter_map, List.map_map]
  have : (f.b i).succs.filter (fun s => s == (b : Int)) = (f.b i).succs.filter ((fun s => s == b) ∘ Int.toNat) := by
    refine List.filter_congr fun s hs => ?_
    have := h0 i s hs
    show (s == (b : Int)) = (s.toNat == b)
    exact Bool.eq_iff_iff.2 (by rw [beq_iff_eq, beq_iff_eq]; omega)
  rw [this]
  rfl
theorem rch_iff (h0 : ∀ b s, s ∈ (f.b b).succs → 0 ≤ s) {wo i : Nat} : Rch f (wo : Int) i ↔ RchS (toG f).succs wo i := by
  constructor
  · intro h
    induction h with
    | entry h => exact .entry fun e => h (by omega)
    | @step b s _ hs hw ih =>
      have := h0 b s hs
      exact .step ih (List.mem_map.2 ⟨s, hs, rfl⟩) fun e => hw (by omega)
  · intro h
    induction h with
    | entry h => exact .entry fun e => h (by omega)
    | @step b s _ hs hw ih =>
      obtain ⟨z, hz, rfl⟩ := List.mem_map.1 (show s ∈ (f.b b).succs.map Int.toNat from hs)
      have := h0 b z hz
      exact .step ih hz fun e => hw (by omega)
theorem rch_all (h0 : ∀ b s, s ∈ (f.b b).succs → 0 ≤ s) (h1 : 1 ≤ f.blks.length) (h2 : ∀ b, b < f.blks.length → ∀ s ∈ (f.b b).succs, 0 ≤ s ∧ s < f.blks.length) {i : Nat} :
    Rch f (-1) i ↔ RchS (toG f).succs f.blks.length i := by
  constructor
  · intro h
    have key : i < f.blks.length ∧ RchS (toG f).succs f.blks.length i := by
      induction h with
      | entry h => exact ⟨h1, .entry (by omega)⟩
      | @step b s _ hs hw ih =>
        have := h2 b ih.1 s hs
        exact ⟨by omega, .step ih.2 (List.mem_map.2 ⟨s, hs, rfl⟩) (by omega)⟩
    exact key.2
  · intro h
    induction h with
    | entry h => exact .entry (by decide)
    | @step b s _ hs hw ih =>
      obtain ⟨z, hz, rfl⟩ := List.mem_map.1 (show s ∈ (f.b b).succs.map Int.toNat from hs)
      have := h0 b z hz
      exact .step ih hz fun e => by omega

/-- A chain of copies ends in time. -/
theorem rank_small {g : Gph} {r : Nat → Nat} (_hc : CInv g r) : ∃ p : Nat → Nat, (∀ v, v < g.nv → p v < g.nv) ∧ ∀ i j, i < g.nv → j < g.nv → r j < r i → p j < p i := by
  refine ⟨fun v => (List.range g.nv).countP fun u => decide (r u < r v), fun v hv => ?_, fun i j hi hj hr => ?_⟩
  · have h1 : (List.range g.nv).countP (fun u => decide (r u < r v)) < (List.range g.nv).countP (fun _ => true) :=
      countP_lt (fun _ _ _ => rfl) ⟨v, List.mem_range.2 hv, rfl, decide_eq_false (Nat.lt_irrefl _)⟩
    have h2 : (List.range g.nv).countP (fun _ => true) ≤ (List.range g.nv).length := List.countP_le_length
    rw [List.length_range] at h2
    exact Nat.lt_of_lt_of_le h1 h2
  · exact countP_lt (fun x _ hx => decide_eq_true (by have := of_decide_eq_true hx; omega)) ⟨j, List.mem_range.2 hj, decide_eq_true hr, decide_eq_false (Nat.lt_irrefl _)⟩

theorem truthN_stay {g : Gph} (hop : ∀ v, v < g.nv → (f.v v).op = g.op v) (har : ∀ v, v < g.nv → ((f.v v).args.getD 0 0).toNat = (g.args v).getD 0 0) {r : Nat → Nat} (hc : CInv g r) {p : Nat → Nat}
    (hp : ∀ i j, i < g.nv → j < g.nv → r j < r i → p j < p i) :
    ∀ n m v, v < g.nv → p v ≤ n → p v ≤ m → truthN f n v = truthN f m v := by
  intro n
  induction n with
  | zero =>
    intro m v hv h1 h2
    by_cases ht : isT (f.v v).op
    · rw [truthN_t ht, truthN_t ht]
    · by_cases ho : (f.v v).op = 14
      · exfalso
        rw [hop v hv] at ho
        obtain ⟨j, hj, hr⟩ := hc.copy v hv ho
        have := hp v j hv (hc.closed v hv j (by rw [hj]; exact .head _)) hr
        omega
      · rw [truthN_z ht, truthN_o ht ho]
  | succ n ih =>
    intro m v hv h1 h2
    by_cases ht : isT (f.v v).op
    · rw [truthN_t ht, truthN_t ht]
    · by_cases ho : (f.v v).op = 14
      · have ho' := ho
        rw [hop v hv] at ho'
        obtain ⟨j, hj, hr⟩ := hc.copy v hv ho'
        have hjn := hc.closed v hv j (by rw [hj]; exact .head _)
        have hlt := hp v j hv hjn hr
        have hja : ((f.v v).args.getD 0 0).toNat = j := by rw [har v hv, hj]; rfl
        obtain ⟨m', rfl⟩ : ∃ m', m = m' + 1 := ⟨m - 1, by omega⟩
        rw [truthN_c ht ho, truthN_c ht ho, hja]
        exact ih m' j hjn (by omega) (by omega)
      · rw [truthN_o ht ho, truthN_o ht ho]

theorem truthN_T {T : Nat → Bool} {g : Gph} (hop : ∀ v, v < g.nv → (f.v v).op = g.op v) (har : ∀ v, v < g.nv → ((f.v v).args.getD 0 0).toNat = (g.args v).getD 0 0) {r : Nat → Nat} (hc : CInv g r) {p : Nat → Nat}
    (hp : ∀ i j, i < g.nv → j < g.nv → r j < r i → p j < p i) (hT : ∀ i, i < g.nv → T i = if isT (g.op i) then true else if g.op i = 14 then T ((g.args i).getD 0 0) else false) :
    ∀ n v, v < g.nv → p v ≤ n → truthN f n v = T v := by
  intro n
  induction n with
  | zero =>
    intro v hv h1
    rw [hT v hv, ← hop v hv]
    by_cases ht : isT (f.v v).op
    · rw [truthN_t ht, if_pos ht]
    · by_cases ho : (f.v v).op = 14
      · exfalso
        rw [hop v hv] at ho
        obtain ⟨j, hj, hr⟩ := hc.copy v hv ho
        have := hp v j hv (hc.closed v hv j (by rw [hj]; exact .head _)) hr
        omega
      · rw [truthN_z ht, if_neg ht, if_neg ho]
  | succ n ih =>
    intro v hv h1
    rw [hT v hv, ← hop v hv]
    by_cases ht : isT (f.v v).op
    · rw [truthN_t ht, if_pos ht]
    · by_cases ho : (f.v v).op = 14
      · have ho' := ho
        rw [hop v hv] at ho'
        obtain ⟨j, hj, hr⟩ := hc.copy v hv ho'
        have hjn := hc.closed v hv j (by rw [hj]; exact .head _)
        have hlt := hp v j hv hjn hr
        have hja : ((f.v v).args.getD 0 0).toNat = j := by rw [har v hv, hj]; rfl
        rw [truthN_c ht ho, if_neg ht, if_pos ho, hja, hj]
        exact ih j hjn (by omega)
      · rw [truthN_o ht ho, if_neg ht, if_neg ho]

theorem GoodP.succs (h : GoodP f) : ∀ b, b < f.blks.length → ∀ s ∈ (f.b b).succs, 0 ≤ s ∧ s < f.blks.length := fun b hb s hs => by
  have := (h.shp.blk b hb).succs s hs
  omega
theorem GoodP.nn (h : GoodP f) : ∀ b s, s ∈ (f.b b).succs → 0 ≤ s := succs_nn h.succs
theorem GoodP.kind (h : GoodP f) {b : Nat} (hb : b < f.blks.length) : (0 ≤ (f.b b).kind ∧ (f.b b).kind ≤ 2 ∧ ((f.b b).succs.length : Int) = ways (f.b b).kind) ∧ (-1 ≤ (f.b b).likely ∧ (f.b b).likely ≤ 1 ∧ ((f.b b).kind ≠ 1 → (f.b b).likely = 0)) := by
  have h1 := (h.shp.blk b hb).one
  unfold Bad1 at h1
  refine ⟨⟨?_, ?_, ?_⟩, ?_, ?_, ?_⟩
  · refine Classical.byContradiction fun e => h1 (.inl (.inl (.inl (.inl (.inl ?_))))); omega
  · refine Classical.byContradiction fun e => h1 (.inl (.inl (.inl (.inl (.inr ?_))))); omega
  · refine Classical.byContradiction fun e => h1 (.inl (.inl (.inl (.inr ?_)))); exact e
  · refine Classical.byContradiction fun e => h1 (.inl (.inl (.inr ?_))); omega
  · refine Classical.byContradiction fun e => h1 (.inl (.inr ?_)); omega
  · intro hk
    refine Classical.byContradiction fun e => h1 (.inr ⟨hk, e⟩)
theorem GoodP.ctl2 (h : GoodP f) {b : Nat} (hb : b < f.blks.length) : ((f.b b).kind = 0 → (f.b b).ctrl = -1) ∧ ((f.b b).kind ≠ 0 → 0 ≤ (f.b b).ctrl ∧ (f.b b).ctrl < f.vals.length) := by
  have h1 := (h.shp.blk b hb).two
  unfold Bad2 at h1
  refine ⟨fun hk => Classical.byContradiction fun e => h1 (.inl ⟨hk, e⟩), fun hk => ⟨?_, ?_⟩⟩
  · refine Classical.byContradiction fun e => h1 (.inr ⟨hk, .inl ?_⟩); omega
  · refine Classical.byContradiction fun e => h1 (.inr ⟨hk, .inr ?_⟩); omega
theorem GoodP.val (h : GoodP f) {i : Nat} (hi : i < f.vals.length) : 0 ≤ (f.v i).op ∧ (f.v i).op ≤ 15 ∧ 0 ≤ (f.v i).blk ∧ (f.v i).blk < f.blks.length ∧ ((f.v i).args.length : Int) = manyI (f.v i).op ((predsOf f (f.v i).blk.toNat).length : Nat) := by
  have h1 := h.fst i hi
  unfold BadA at h1
  refine ⟨?_, ?_, ?_, ?_, ?_⟩
  · refine Classical.byContradiction fun e => h1 (.inl (.inl (.inl (.inl ?_)))); omega
  · refine Classical.byContradiction fun e => h1 (.inl (.inl (.inl (.inr ?_)))); omega
  · refine Classical.byContradiction fun e => h1 (.inl (.inl (.inr ?_))); omega
  · refine Classical.byContradiction fun e => h1 (.inl (.inr ?_)); omega
  · exact Classical.byContradiction fun e => h1 (.inr e)
theorem GoodP.args (h : GoodP f) {i : Nat} (hi : i < f.vals.length) : ∀ a ∈ (f.v i).args, 0 ≤ a ∧ a < f.vals.length := by
  intro a ha
  obtain ⟨k, hk, rfl⟩ := List.getElem_of_mem ha
  have := ((h.snd i hi).2 k hk).1
  rwa [List.getD_eq_getElem?_getD, List.getElem?_eq_getElem hk] at this

theorem GoodP.goodA (h : GoodP f) : GoodA (toG f) := by
  have hnn := h.nn
  have hpr : ∀ b, (toG f).preds b = predsL (toG f).succs f.blks.length b := predsOf_eq hnn
  have hblk : ∀ i, i < f.vals.length → (((toG f).blk i : Nat) : Int) = (f.v i).blk := fun i hi => by
    have := h.val hi
    show (((f.v i).blk.toNat : Nat) : Int) = _
    omega
  have hlen : ∀ i, ((toG f).args i).length = (f.v i).args.length := fun i => List.length_map ..
  refine { toFrm := ⟨h.shp.one, h.shp.nb, h.shp.nv, fun i hi => ?_, fun b hb => ?_, fun b hb => (h.kind hb).2, fun b hb s hs => ?_, fun b hb => (rch_all hnn h.shp.one h.succs).1 (h.shp.rch b hb), fun b _ => hpr b, fun b hb => ?_⟩, ops := fun i hi => ?_, aux := fun i hi => ?_, args := fun i hi k hk => ?_ }
  · have := h.val hi
    show (f.v i).blk.toNat < f.blks.length
    omega
  · obtain ⟨h1, h2, h3⟩ := (h.kind hb).1
    refine ⟨h1, h2, ?_⟩
    show (((f.b b).succs.map Int.toNat).length : Int) = _
    rw [List.length_map]; exact h3
  · obtain ⟨z, hz, rfl⟩ := List.mem_map.1 (show s ∈ (f.b b).succs.map Int.toNat from hs)
    have := (h.shp.blk b hb).succs z hz
    show 1 ≤ z.toNat ∧ z.toNat < f.blks.length
    omega
  · show (List.range f.vals.length).filter _ = _
    refine List.filter_congr fun i hi => ?_
    have h1 := hblk i (List.mem_range.1 hi)
    show ((f.v i).blk == (b : Int)) = ((toG f).blk i == b)
    exact Bool.eq_iff_iff.2 (by rw [beq_iff_eq, beq_iff_eq]; omega)
  · obtain ⟨h1, h2, _, _, h5⟩ := h.val hi
    refine ⟨h1, h2, ?_⟩
    rw [hlen]; exact h5
  · have h1 := (h.snd i hi).1
    rw [hlen]
    unfold BadB at h1
    refine ⟨fun ho => ⟨?_, ?_⟩, fun ho => ?_, fun ho => ?_⟩
    · refine Classical.byContradiction fun e => h1 (.inl (.inl ⟨ho, .inl ?_⟩))
      exact Int.not_le.1 e
    · refine Classical.byContradiction fun e => h1 (.inl (.inl ⟨ho, .inr ?_⟩))
      exact Int.not_le.1 e
    · exact Classical.byContradiction fun e => h1 (.inl (.inr ⟨ho, e⟩))
    · refine Classical.byContradiction fun e => h1 (.inr ⟨ho, ?_⟩)
      omega
  · rw [hlen] at hk
    obtain ⟨⟨h1, h2⟩, h3⟩ := (h.snd i hi).2 k hk
    have hg : ((toG f).args i).getD k 0 = ((f.v i).args.getD k 0).toNat := getD_toNat _ _
    rw [hg]
    obtain ⟨a, ha⟩ : ∃ a : Nat, (f.v i).args.getD k 0 = (a : Int) := ⟨_, (Int.toNat_of_nonneg h1).symm⟩
    rw [ha] at h2 h3 ⊢
    have han : a < f.vals.length := by omega
    refine ⟨han, ?_⟩
    unfold KnownF at h3
    unfold KnownG
    show if (f.v i).op = 13 then Dom _ ((toG f).blk a) _ else ((toG f).blk a ≠ _ ∧ Dom _ ((toG f).blk a) _) ∨ ((toG f).blk a = _ ∧ a < i)
    rw [show ((a : Int)).toNat = a from rfl, ← hblk a han] at h3
    have hbi := hblk i hi
    split
    · rename_i ho
      rw [if_pos ho] at h3
      exact fun hr => h3 ((rch_iff hnn).2 hr)
    · rename_i ho
      rw [if_neg ho, ← hbi] at h3
      rcases h3 with ⟨h4, h5⟩ | ⟨h4, h5⟩
      · exact .inl ⟨fun e => h4 (by rw [e]), fun hr => h5 ((rch_iff hnn).2 hr)⟩
      · exact .inr ⟨by omega, by omega⟩

theorem GoodP.good (h : GoodP f) : GoodG (truthN f 48) (toG f) := by
  have hA := h.goodA
  have hnn := h.nn
  have hlen : ∀ i, ((toG f).args i).length = (f.v i).args.length := fun i => List.length_map ..
  have hg : ∀ i k, ((toG f).args i).getD k 0 = ((f.v i).args.getD k 0).toNat := fun i k => getD_toNat _ _
  have hc := hA.cinv
  obtain ⟨p, hp1, hp2⟩ := rank_small hc
  have hnv : (toG f).nv ≤ 48 := hA.nv
  refine { toGoodA := hA, tru := fun i hi ho k hk => ?_, tr := fun i hi => ?_, ctrl := fun b hb => ?_ }
  · rw [hg]
    exact h.tru i hi k (by rw [← hlen]; exact hk) ho
  · show _ = if isT (f.v i).op then true else if (f.v i).op = 14 then _ else false
    by_cases ht : isT (f.v i).op
    · rw [truthN_t ht, if_pos ht]
    · by_cases ho : (f.v i).op = 14
      · rw [if_neg ht, if_pos ho, truthN_c ht ho, hg]
        obtain ⟨j, hj, hr⟩ := hc.copy i hi ho
        have hjn := hc.closed i hi j (by rw [hj]; exact .head _)
        have hja : ((f.v i).args.getD 0 0).toNat = j := by rw [← hg, hj]; rfl
        have h1 := hp2 i j hi hjn hr
        have h2 := hp1 i hi
        rw [hja]
        exact truthN_stay (f := f) (g := toG f) (fun _ _ => rfl) (fun v _ => (hg v 0).symm) hc hp2 47 48 j hjn (by omega) (by omega)
      · rw [truthN_o ht ho, if_neg ht, if_neg ho]
  · have h1 := h.ctl2 hb
    by_cases hk : (f.b b).kind = 0
    · left
      refine ⟨hk, ?_⟩
      show (if 0 ≤ (f.b b).ctrl then [(f.b b).ctrl.toNat] else []) = []
      rw [h1.1 hk]; rfl
    · right
      obtain ⟨h2, h3⟩ := h1.2 hk
      obtain ⟨h4, h5⟩ := h.ctl b hb hk
      refine ⟨(f.b b).ctrl.toNat, ?_, hk, ?_, ?_, h5⟩
      · show (if 0 ≤ (f.b b).ctrl then [(f.b b).ctrl.toNat] else []) = _
        rw [if_pos h2]
      · show (f.b b).ctrl.toNat < f.vals.length
        omega
      · intro hr
        refine h4 ?_
        have := (h.val (i := (f.b b).ctrl.toNat) (by omega)).2.2.1
        have hr2 := (rch_iff hnn).2 hr
        have e : (((toG f).blk (f.b b).ctrl.toNat : Nat) : Int) = (f.v (f.b b).ctrl.toNat).blk := by
          show (((f.v (f.b b).ctrl.toNat).blk.toNat : Nat) : Int) = _
          omega
        rwa [e] at hr2

theorem GoodP.wf (h : GoodP f) : Wf f := by
  have hg := h.good
  refine ⟨h.shp.nb, h.shp.nv, h.shp.one, fun i hi => ?_, fun i hi => ⟨?_, h.args hi⟩, fun b hb => ⟨?_, h.succs b hb⟩, fun b hb => ?_, fun b hb => ?_⟩
  · have := h.val hi
    omega
  · have := hg.alen (i := i) hi
    have e : ((toG f).args i).length = (f.v i).args.length := List.length_map ..
    omega
  · have := hg.slen (b := b) hb
    have e : ((toG f).succs b).length = (f.b b).succs.length := List.length_map ..
    omega
  · have h1 := h.ctl2 hb
    by_cases hk : (f.b b).kind = 0
    · have := h1.1 hk; omega
    · have := h1.2 hk; omega
  · have := (h.kind hb).2
    omega

/-- A good graph is a good function. -/
theorem GoodG.goodP {T : Nat → Bool} {g : Gph} (h : GoodG T g) : GoodP (toF g) := by
  have hnv : (toF g).vals.length = g.nv := toF_nv g
  have hnb : (toF g).blks.length = g.nb := toF_nb g
  have hop : ∀ v, v < g.nv → ((toF g).v v).op = g.op v := fun v hv => by rw [toF_v hv]; rfl
  have har : ∀ v, v < g.nv → ((toF g).v v).args = nats (g.args v) := fun v hv => by rw [toF_v hv]; rfl
  have hbl : ∀ v, v < g.nv → ((toF g).v v).blk = (g.blk v : Int) := fun v hv => by rw [toF_v hv]; rfl
  have hlen : ∀ v, v < g.nv → ((toF g).v v).args.length = (g.args v).length := fun v hv => by rw [har v hv]; exact List.length_map ..
  have hsu : ∀ b, b < g.nb → ((toF g).b b).succs = nats (g.succs b) := fun b hb => by rw [toF_b hb]; rfl
  have hki : ∀ b, b < g.nb → ((toF g).b b).kind = g.kind b := fun b hb => by rw [toF_b hb]; rfl
  have hct : ∀ b, b < g.nb → ((toF g).b b).ctrl = ctl (g.ctrl b) := fun b hb => by rw [toF_b hb]; rfl
  have hli : ∀ b, b < g.nb → ((toF g).b b).likely = g.likely b := fun b hb => by rw [toF_b hb]; rfl
  have hsn : ∀ b, b < (toF g).blks.length → ∀ s ∈ ((toF g).b b).succs, 0 ≤ s ∧ s < (toF g).blks.length := fun b hb s hs => by
    rw [hnb] at hb ⊢
    rw [hsu b hb] at hs
    obtain ⟨z, hz, rfl⟩ := List.mem_map.1 hs
    have := h.succs b hb z hz
    omega
  have hnn := succs_nn hsn
  have hS : ∀ b, b < g.nb → (toG (toF g)).succs b = g.succs b := fun b hb => by
    show ((toF g).b b).succs.map Int.toNat = _
    rw [hsu b hb, toNat_nats]
  have hS2 : ∀ b, ¬ b < g.nb → (toG (toF g)).succs b = [] := fun b hb => by
    show ((toF g).b b).succs.map Int.toNat = _
    have : (toF g).b b = default := by
      unfold Fn.b
      rw [List.getD_eq_getElem?_getD, List.getElem?_eq_none (by omega)]; rfl
    rw [this]; rfl
  have hR : ∀ w i, RchS (toG (toF g)).succs w i → RchS g.succs w i := fun w i hr => by
    induction hr with
    | entry h => exact .entry h
    | @step b s _ hs hw ih =>
      by_cases hb : b < g.nb
      · rw [hS b hb] at hs; exact .step ih hs hw
      · rw [hS2 b hb] at hs; cases hs
  have hR2 : ∀ w i, RchS g.succs w i → i < g.nb ∧ RchS (toG (toF g)).succs w i := fun w i hr => by
    induction hr with
    | entry h2 => exact ⟨h.one, .entry h2⟩
    | @step b s _ hs hw ih => exact ⟨(h.succs b ih.1 s hs).2, .step ih.2 (by rw [hS b ih.1]; exact hs) hw⟩
  have hpr : ∀ b, b < g.nb → predsOf (toF g) b = g.preds b := fun b hb => by
    rw [predsOf_eq hnn, h.preds b hb, hnb]
    unfold predsL
    refine flatMap_eq fun i hi => ?_
    rw [hS i (List.mem_range.1 hi)]
  have hdom : ∀ w i, Dom g.succs w i → ¬ Rch (toF g) (w : Int) i := fun w i hd hr => hd (hR _ _ ((rch_iff hnn).1 hr))
  have hT : ∀ v, v < g.nv → truthN (toF g) 48 v = T v := by
    obtain ⟨p, hp1, hp2⟩ := rank_small h.cinv
    intro v hv
    refine truthN_T (f := toF g) (g := g) hop (fun v hv => ?_) h.cinv hp2 h.tr 48 v hv ?_
    · rw [har v hv, getD_nats]; rfl
    · have := hp1 v hv
      have := h.nv
      omega
  refine ⟨⟨by rw [hnb]; exact h.one, by rw [hnb]; exact h.nb, by rw [hnv]; exact h.nv, fun b hb => ⟨?_, ?_, fun s hs => ?_⟩, fun b hb => ?_⟩, fun i hi => ?_, fun i hi => ⟨?_, fun k hk => ⟨?_, ?_⟩⟩, fun i hi k hk ho => ?_, fun b hb hk => ?_⟩
  · rw [hnb] at hb
    obtain ⟨h1, h2, h3⟩ := h.kind b hb
    obtain ⟨h4, h5, h6⟩ := h.likely b hb
    unfold Bad1
    rw [hki b hb, hsu b hb, hli b hb]
    rintro ((((( h | h) | h) | h) | h) | ⟨h, h'⟩)
    · omega
    · omega
    · refine h ?_
      have : (nats (g.succs b)).length = (g.succs b).length := List.length_map ..
      rw [this]; exact h3
    · omega
    · omega
    · exact h' (h6 h)
  · rw [hnb] at hb
    unfold Bad2
    rw [hki b hb, hct b hb, hnv]
    rcases h.ctrl b hb with ⟨h1, h2⟩ | ⟨c, h1, h2, h3, _⟩
    · rw [h2]
      rintro (⟨_, h4⟩ | ⟨h4, _⟩)
      · exact h4 rfl
      · exact h4 h1
    · rw [h1]
      show ¬ ((_ ∧ (c : Int) ≠ -1) ∨ (_ ∧ ((c : Int) < 0 ∨ (g.nv : Int) ≤ (c : Int))))
      rintro (⟨h4, _⟩ | ⟨_, h4⟩)
      · exact h2 h4
      · omega
  · rw [hnb] at hb
    rw [hsu b hb] at hs
    obtain ⟨z, hz, rfl⟩ := List.mem_map.1 hs
    have := h.succs b hb z hz
    rw [hnb]
    omega
  · rw [hnb] at hb
    refine (rch_all hnn (by rw [hnb]; exact h.one) hsn).2 ?_
    rw [hnb]
    exact (hR2 _ _ (h.rch b hb)).2
  · rw [hnv] at hi
    obtain ⟨h1, h2, h3⟩ := h.ops i hi
    have h4 := h.blk i hi
    unfold BadA
    rw [hop i hi, hbl i hi, hlen i hi, hnb, Int.toNat_natCast, hpr _ h4]
    rintro ((((h | h) | h) | h) | h)
    · omega
    · omega
    · omega
    · omega
    · exact h h3
  · rw [hnv] at hi
    obtain ⟨h1, h2, h3⟩ := h.aux i hi
    unfold BadB
    have hau : ((toF g).v i).aux = g.aux i := by rw [toF_v hi]; rfl
    rw [hop i hi, hau, hlen i hi]
    rintro ((⟨h4, h5⟩ | ⟨h4, h5⟩) | ⟨h4, h5⟩)
    · have := h1 h4; omega
    · exact h5 (h2 h4)
    · have := h3 h4; omega
  · rw [hnv] at hi ⊢
    rw [hlen i hi] at hk
    rw [har i hi, getD_nats]
    have := (h.args i hi k hk).1
    omega
  · rw [hnv] at hi
    rw [hlen i hi] at hk
    obtain ⟨h1, h2⟩ := h.args i hi k hk
    rw [har i hi, getD_nats]
    unfold KnownG at h2
    unfold KnownF
    rw [hop i hi, Int.toNat_natCast, hbl _ h1, hbl i hi, Int.toNat_natCast, hpr _ (h.blk i hi)]
    split
    · rename_i ho
      rw [if_pos ho] at h2
      exact hdom _ _ h2
    · rename_i ho
      rw [if_neg ho] at h2
      rcases h2 with ⟨h3, h4⟩ | ⟨h3, h4⟩
      · exact .inl ⟨fun e => h3 (by omega), hdom _ _ h4⟩
      · exact .inr ⟨by rw [h3], by omega⟩
  · rw [hnv] at hi
    rw [hlen i hi] at hk
    rw [hop i hi] at ho ⊢
    rw [har i hi, getD_nats, Int.toNat_natCast, hT _ (h.args i hi k hk).1]
    exact h.tru i hi ho k hk
  · rw [hnb] at hb
    rw [hki b hb] at hk ⊢
    rw [hct b hb]
    rcases h.ctrl b hb with ⟨h1, _⟩ | ⟨c, h1, h2, h3, h4, h5⟩
    · exact absurd h1 hk
    · rw [h1]
      show ¬ Rch (toF g) ((toF g).v c).blk b ∧ truthN (toF g) 48 c = _
      rw [hbl c h3, hT c h3]
      exact ⟨hdom _ _ h4, h5⟩

theorem like_toF {T : Nat → Bool} {g : Gph} (h : GoodG T g) : Like g (toG (toF g)) := by
  have hP := h.goodP
  have hsu : ∀ b, b < g.nb → (toG (toF g)).succs b = g.succs b := fun b hb => by
    show ((toF g).b b).succs.map Int.toNat = _
    rw [toF_b hb]; exact toNat_nats _
  refine ⟨toF_nv g, toF_nb g, fun i hi => ⟨?_, ?_, ?_, ?_⟩, fun b hb => ⟨?_, hsu b hb, ?_, ?_⟩⟩
  · show ((toF g).v i).op = _; rw [toF_v hi]; rfl
  · show ((toF g).v i).aux = _; rw [toF_v hi]; rfl
  · show ((toF g).v i).blk.toNat = _; rw [toF_v hi]; rfl
  · show ((toF g).v i).args.map Int.toNat = _; rw [toF_v hi]; exact toNat_nats _
  · show ((toF g).b b).kind = _; rw [toF_b hb]; rfl
  · show predsOf (toF g) b = _
    rw [predsOf_eq hP.nn, h.preds b hb, toF_nb]
    unfold predsL
    refine flatMap_eq fun i hi => ?_
    rw [hsu i (List.mem_range.1 hi)]
  · show (if 0 ≤ ((toF g).b b).ctrl then [((toF g).b b).ctrl.toNat] else []) = _
    rw [toF_b hb]
    show (if 0 ≤ ctl (g.ctrl b) then [(ctl (g.ctrl b)).toNat] else []) = _
    rcases h.ctrl b hb with ⟨h1, h2⟩ | ⟨c, h1, h2, h3, h4, h5⟩
    · rw [h2]; rfl
    · rw [h1]
      show (if 0 ≤ (c : Int) then [(c : Int).toNat] else []) = _
      rw [if_pos (by omega), Int.toNat_natCast]
end
end Go.Proofs.Yteepnepebilckaa
