/- Walks: layoutOrder. -/
import Derived.Test.YteepnepebilckaaY3
namespace Go.Proofs.Yteepnepebilckaa
open Go Go.Eng Go.RowKit

structure PL (nb : Nat) (lo lz ls ds : List Nat) (Sch : Nat → Bool) : Prop where
  nd : lo.Nodup
  lt : ∀ x ∈ lo, x < nb
  sch : ∀ x, x < nb → (Sch (x + 1) = true ↔ x ∈ lo)
  zlt : ∀ x ∈ lz, x < nb
  slt : ∀ x ∈ ls, x < nb
  dlt : ∀ x ∈ ds, x < nb
  len : lz.length + ls.length ≤ 9 + 2 * lo.length
  cnth : cnt (fun x => Sch (x + 1)) nb + lo.length = nb
/-- What the layout asks of a graph. -/
structure LayOk (g : Gph) : Prop where
  one : 1 ≤ g.nb
  nb : g.nb ≤ 9
  kind : ∀ b, b < g.nb → g.kind b ≠ 3
  succs : ∀ b, b < g.nb → (g.succs b).length ≤ 2 ∧ ∀ s ∈ g.succs b, s < g.nb
  preds : ∀ b, b < g.nb → (g.preds b).length ≤ 18
  likely : ∀ b, b < g.nb → (g.likely b = 1 → 0 < (g.succs b).length) ∧ (g.likely b = -1 → 1 < (g.succs b).length)
theorem cnt_pos {S : Nat → Bool} : ∀ {n : Nat}, 0 < cnt S n → ∃ i, i < n ∧ S i = false
  | 0, h => absurd h (Nat.lt_irrefl _)
  | n + 1, h => by
    by_cases e : S n = true
    · have h1 : cnt S (n + 1) = cnt S n := by
        show cnt S n + (if S n = true then 0 else 1) = _
        rw [if_pos e]; rfl
      rw [h1] at h
      obtain ⟨i, hi, hs⟩ := cnt_pos h
      exact ⟨i, by omega, hs⟩
    · exact ⟨n, by omega, by simpa using e⟩
theorem cnt_false : ∀ n, cnt (fun _ => false) n = n
  | 0 => rfl
  | n + 1 => by
    show cnt (fun _ => false) n + 1 = n + 1
    rw [cnt_false n]
theorem PL.room {nb : Nat} {lo lz ls ds : List Nat} {Sch : Nat → Bool} (h : PL nb lo lz ls ds Sch) {b : Nat} (hb : b < nb) (hn : b ∉ lo) : lo.length < nb := by
  have hsb : Sch (b + 1) = false := by
    rcases Bool.eq_false_or_eq_true (Sch (b + 1)) with e | e
    · exact absurd ((h.sch b hb).1 e) hn
    · exact e
  have h1 := cnt_set (S := fun x => Sch (x + 1)) hb hsb
  have h2 := h.cnth
  omega
theorem PL.re {nb : Nat} {lo lz ls ds lz' ls' ds' : List Nat} {Sch : Nat → Bool} (h : PL nb lo lz ls ds Sch) (hz : ∀ x ∈ lz', x < nb) (hs : ∀ x ∈ ls', x < nb) (hd : ∀ x ∈ ds', x < nb) (hl : lz'.length + ls'.length ≤ 9 + 2 * lo.length) : PL nb lo lz' ls' ds' Sch :=
  ⟨h.nd, h.lt, h.sch, hz, hs, hd, hl, h.cnth⟩
theorem PL.some {nb : Nat} {lo lz ls ds : List Nat} {Sch : Nat → Bool} (h : PL nb lo lz ls ds Sch) (hl : lo.length < nb) : ∃ x, x < nb ∧ x ∉ lo := by
  have h1 := h.cnth
  obtain ⟨i, hi, hs⟩ := cnt_pos (S := fun x => Sch (x + 1)) (n := nb) (by omega)
  refine ⟨i, hi, fun hm => ?_⟩
  have := (h.sch i hi).2 hm
  have hs : Sch (i + 1) = false := hs
  rw [this] at hs
  cases hs
theorem PL.take {nb : Nat} {lo lz ls ds : List Nat} {Sch : Nat → Bool} (h : PL nb lo lz ls ds Sch) {b : Nat} (hb : b < nb) (hn : b ∉ lo) : PL nb (lo ++ [b]) lz ls ds (fun x => if x = b + 1 then true else Sch x) := by
  have hsb : Sch (b + 1) = false := by
    rcases Bool.eq_false_or_eq_true (Sch (b + 1)) with e | e
    · exact absurd ((h.sch b hb).1 e) hn
    · exact e
  have hl : (lo ++ [b]).length = lo.length + 1 := by rw [List.length_append]; rfl
  refine ⟨?_, fun x hx => ?_, fun x hx => ?_, h.zlt, h.slt, h.dlt, by have := h.len; omega, ?_⟩
  · rw [List.nodup_append]
    refine ⟨h.nd, by simp, fun a ha c hc => ?_⟩
    have : c = b := by simpa using hc
    subst this
    exact fun e => hn (e ▸ ha)
  · rcases List.mem_append.1 hx with hx | hx
    · exact h.lt x hx
    · have : x = b := by simpa using hx
      subst this; exact hb
  · show (if x + 1 = b + 1 then true else Sch (x + 1)) = true ↔ _
    by_cases e : x = b
    · subst e
      rw [if_pos rfl]
      simp
    · rw [if_neg (by omega), h.sch x hx]
      constructor
      · intro h2; exact List.mem_append.2 (.inl h2)
      · intro h2
        rcases List.mem_append.1 h2 with h3 | h3
        · exact h3
        · exact absurd (by simpa using h3) e
  · have h1 := cnt_set (S := fun x => Sch (x + 1)) hb hsb
    have h2 := h.cnth
    have h3 : cnt (fun x => if x + 1 = b + 1 then true else Sch (x + 1)) nb = cnt (fun x => if x = b then true else Sch (x + 1)) nb := cnt_congr fun i _ => by
      by_cases e : i = b
      · rw [if_pos (by omega), if_pos e]
      · rw [if_neg (by omega), if_neg e]
    show cnt (fun x => if x + 1 = b + 1 then true else Sch (x + 1)) nb + _ = nb
    rw [h3]
    omega
set_option maxHeartbeats 4000000
attribute [local irreducible] EC EL DL Ret thenQ blockQ loopQ bodyQ onlyN execOp Sem.run World.cell? World.frozen? World.setCell World.alloc
theorem contents_ret {w : World} {base s q m : Nat} {sp : Nat → Int} (h : SS w base s q m nilS [] sp) :
    Ret Try.prog 57 #[.pointer (some ⟨s, 0, none⟩)] w fun v w' => v = .slice none 0 0 ∧ w' = w := by
  refine ret_of_EC Try.func57 rfl rfl ?_
  have g0 : w.cell? ⟨s, 0 + 0, none⟩ = some (.slice none 0 0) := cell_block h.cells rfl
  refine EC_seq ?_
  refine EC_region ?_
  refine EL_v x_assign rfl ?_
  refine EL_nil ?_
  refine thenQ_normal ?_
  refine EC_seq ?_
  refine EC_region ?_
  refine EL_v x_move rfl ?_
  refine EL_v (x_nil rfl) rfl ?_
  refine EL_v (x_field rfl (tab_fld rfl)) rfl ?_
  refine EL_v (x_load rfl (tab_one rfl) (by with_reducible assumption)) rfl ?_
  refine EL_v x_assign rfl ?_
  refine EL_nil ?_
  refine thenQ_normal ?_
  refine EC_ret ?_
  exact post_tmp rfl rfl rfl ⟨rfl, rfl⟩

theorem layoutOrder_ret {w : World} {B : Nat} {L : Lay} {g : Gph} (h : GRep w B L g) (hent : L.entry = some ⟨L.bb 0, 0, none⟩) (ok : LayOk g) :
    Ret Try.prog 40 #[L.fp] w fun v w' => ∃ lo : List Nat, w'.ownsRow w.heap.size 76 1 v lo.length (lo.map L.bp) ∧ lo.length = g.nb ∧ lo.Nodup ∧ (∀ x ∈ lo, x < g.nb) ∧ lo.head? = some 0 ∧
      (∀ i, i < g.nb → w'.cell? ⟨L.bb i, 0 + 0, none⟩ = some (.int .i32 ((i : Int) + 1))) ∧ Below B w w' := by
  refine ret_of_EC_d Try.func40 rfl rfl ?_
  have hnb := ok.nb
  have hone := ok.one
  have hBL : B ≤ L.fb := h.tags.fbB
  have hfblt : L.fb < w.heap.size := comp_lt h
  obtain ⟨E0, hE0⟩ : ∃ E0, E0 = w.heap.size := ⟨_, rfl⟩
  refine EC_seq ?_
  refine EC_region ?_
  refine EL_v x_assign rfl ?_
  refine EL_nil ?_
  refine thenQ_normal ?_
  refine EC_scope ?_
  refine EC_seq ?_
  refine EC_region ?_
  refine EL_v x_move rfl ?_
  refine EL_c (x_call Try.func47 rfl rfl rfl rfl) rfl (NumBlocks_ret h hnb) ?_
  rintro _ wx ⟨rfl, hwx⟩
  rw [hwx]
  clear hwx wx
  refine EL_v (x_make0 Try.underlying74 info76 rfl rfl (by omega) (by omega)) rfl ?_
  rw [show madeCells (Value.cells (.pointer none)) (g.nb + 1) = cellsOf (fun _ => Value.pointer none) (g.nb + 1) from made_of _ _]
  change EL _ _ _ _ _ _ (w.alloc (.cells (cellsOf (fun _ => Value.pointer none) (g.nb + 1)) 76))
  have hN1 := heap_alloc_new w (.cells (cellsOf (fun _ => Value.pointer none) (g.nb + 1)) 76)
  have hO1 : ∀ zz, zz < w.heap.size → (w.alloc (.cells (cellsOf (fun _ => Value.pointer none) (g.nb + 1)) 76)).heap[zz]? = w.heap[zz]? := fun _ hi => Below.heap_alloc _ _ _ hi
  have hZ1 := size_alloc w (.cells (cellsOf (fun _ => Value.pointer none) (g.nb + 1)) 76)
  have hB1 := (Below.refl w.heap.size w).alloc (Nat.le_refl _) (.cells (cellsOf (fun _ => Value.pointer none) (g.nb + 1)) 76)
  have hK1 := Keep.alloc w (.cells (cellsOf (fun _ => Value.pointer none) (g.nb + 1)) 76)
  generalize w.alloc (.cells (cellsOf (fun _ => Value.pointer none) (g.nb + 1)) 76) = w1 at hN1 hO1 hZ1 hB1 hK1 ⊢
  refine EL_v x_assign rfl ?_
  refine EL_nil ?_
  refine thenQ_normal ?_
  have hb01 : Below E0 w w1 := by rw [hE0]; exact ⟨hB1.os, hB1.tape, hB1.output, hB1.size, hO1⟩
  have hgw1 : GRep w1 B L g := h.keep hO1
  have hrow1 : w1.ownsRow E0 76 1 (.slice (some ⟨w.heap.size, 0, none⟩) 0 (g.nb + 1)) 0 [] := ⟨rfl, .inr ⟨w.heap.size, g.nb + 1, _, rfl, by omega, hN1, Nat.zero_le _, by show g.nb + 1 ≤ 9223372036854775807; omega, by rw [cellsOf_size, Nat.mul_one], by simp⟩⟩
  -- scheduled
  have hfn2 : w1.drew.heap[L.fb]? = some (.cells #[.pointer L.entry, L.sl .fblocks, L.sl .fvalues, .map none, .bool false, .slice none 0 0] 90 (0, 0)) := hgw1.comp .fn
  refine EC_seq ?_
  refine EC_draw mixed (fun w' => w'.heap[L.fb]? = some (.cells #[.pointer L.entry, L.sl .fblocks, L.sl .fvalues, .map none, .bool false, .slice none 0 0] 90 (0, 0))) [(0, false), (1, false), (2, false), (3, false), (4, false), (5, true), (6, true), (7, false)] (by kernel_rfl) hfn2 ?_
  have hgd2 : GRep w1.drew B L g := hgw1.drew
  have hbd2 : Below w1.heap.size w1 w1.drew := ⟨rfl, rfl, rfl, Nat.le_refl _, fun _ _ => rfl⟩
  generalize w1.drew = Wd at hfn2 hgd2 hbd2 ⊢
  refine DL_v rfl (fun _ _ => x_move) ?_
  refine DL_v rfl (fun _ _ => x_nil rfl) ?_
  refine DL_v rfl (fun _ hS => x_cache rfl hS) ?_
  refine DL_v rfl (fun _ _ => x_load0 rfl) ?_
  refine DL_v rfl (fun _ _ => x_move) ?_
  refine DL_wc rfl (x_call Try.func47 rfl rfl rfl rfl) (NumBlocks_ret hgd2 hnb) ?_
  rintro _ wx ⟨rfl, hwx⟩
  rw [hwx]
  clear hwx wx
  refine ⟨.inr hfn2, ?_⟩
  refine DL_wc rfl (x_call Try.func48 rfl rfl rfl rfl) (allocBool_ret (n := g.nb + 1) (by omega)) ?_
  rintro _ w2 ⟨SCH, rfl, hge2, hcells2, hbel2⟩
  have hsz2 := hbd2.size
  have hlt2 : SCH < w2.heap.size := (Array.getElem?_eq_some_iff.1 hcells2).1
  refine ⟨.inr ((hbel2.block _ (by have := comp_lt hgd2; omega)).trans hfn2), ?_⟩
  have hst2 : Below w1.heap.size w1 w2 := hbd2.trans (hbel2.mono hsz2)
  have hgw2 : GRep w2 B L g := hgw1.keep fun k hk => hst2.block k hk
  clear hgd2 hbd2 hfn2 hbel2
  refine DL_v rfl (fun _ _ => x_assign) ?_
  refine DL_nil ?_
  refine thenQ_normal ?_
  refine EC_seq ?_
  refine EC_region ?_
  refine EL_v x_move rfl ?_
  refine EL_v (x_nil rfl) rfl ?_
  refine EL_v (x_cache rfl (hgw2.comp .fn)) rfl ?_
  refine EL_v (x_load0 rfl) rfl ?_
  refine EL_v x_move rfl ?_
  refine EL_d (x_defer rfl rfl) rfl ?_
  refine EL_nil ?_
  refine thenQ_normal ?_
  have hfn3 : w2.drew.heap[L.fb]? = some (.cells #[.pointer L.entry, L.sl .fblocks, L.sl .fvalues, .map none, .bool false, .slice none 0 0] 90 (0, 0)) := hgw2.comp .fn
  refine EC_seq ?_
  refine EC_draw mixed (fun w' => w'.heap[L.fb]? = some (.cells #[.pointer L.entry, L.sl .fblocks, L.sl .fvalues, .map none, .bool false, .slice none 0 0] 90 (0, 0))) [(0, false), (1, false), (2, false), (3, false), (4, false), (5, true), (6, true), (7, false)] (by kernel_rfl) hfn3 ?_
  have hgd3 : GRep w2.drew B L g := hgw2.drew
  have hbd3 : Below w2.heap.size w2 w2.drew := ⟨rfl, rfl, rfl, Nat.le_refl _, fun _ _ => rfl⟩
  generalize w2.drew = Wd at hfn3 hgd3 hbd3 ⊢
  refine DL_v rfl (fun _ _ => x_move) ?_
  refine DL_v rfl (fun _ _ => x_nil rfl) ?_
  refine DL_v rfl (fun _ hS => x_cache rfl hS) ?_
  refine DL_v rfl (fun _ _ => x_load0 rfl) ?_
  refine DL_v rfl (fun _ _ => x_move) ?_
  refine DL_wc rfl (x_call Try.func47 rfl rfl rfl rfl) (NumBlocks_ret hgd3 hnb) ?_
  rintro _ wx ⟨rfl, hwx⟩
  rw [hwx]
  clear hwx wx
  refine ⟨.inr hfn3, ?_⟩
  refine DL_wc rfl (x_call Try.func50 rfl rfl rfl rfl) (allocBlock_ret (n := g.nb + 1) (by omega)) ?_
  rintro _ w3 ⟨IDB, rfl, hge3, hcells3, hbel3⟩
  have hsz3 := hbd3.size
  have hlt3 : IDB < w3.heap.size := (Array.getElem?_eq_some_iff.1 hcells3).1
  refine ⟨.inr ((hbel3.block _ (by have := comp_lt hgd3; omega)).trans hfn3), ?_⟩
  have hst3 : Below w2.heap.size w2 w3 := hbd3.trans (hbel3.mono hsz3)
  have hgw3 : GRep w3 B L g := hgw2.keep fun k hk => hst3.block k hk
  clear hgd3 hbd3 hfn3 hbel3
  refine DL_v rfl (fun _ _ => x_assign) ?_
  refine DL_nil ?_
  refine thenQ_normal ?_
  refine EC_seq ?_
  refine EC_region ?_
  refine EL_v x_move rfl ?_
  refine EL_v (x_nil rfl) rfl ?_
  refine EL_v (x_cache rfl (hgw3.comp .fn)) rfl ?_
  refine EL_v (x_load0 rfl) rfl ?_
  refine EL_v x_move rfl ?_
  refine EL_d (x_defer rfl rfl) rfl ?_
  refine EL_nil ?_
  refine thenQ_normal ?_
  have hfn4 : w3.drew.heap[L.fb]? = some (.cells #[.pointer L.entry, L.sl .fblocks, L.sl .fvalues, .map none, .bool false, .slice none 0 0] 90 (0, 0)) := hgw3.comp .fn
  refine EC_seq ?_
  refine EC_draw mixed (fun w' => w'.heap[L.fb]? = some (.cells #[.pointer L.entry, L.sl .fblocks, L.sl .fvalues, .map none, .bool false, .slice none 0 0] 90 (0, 0))) [(0, false), (1, false), (2, false), (3, false), (4, false), (5, true), (6, true), (7, false)] (by kernel_rfl) hfn4 ?_
  have hgd4 : GRep w3.drew B L g := hgw3.drew
  have hbd4 : Below w3.heap.size w3 w3.drew := ⟨rfl, rfl, rfl, Nat.le_refl _, fun _ _ => rfl⟩
  generalize w3.drew = Wd at hfn4 hgd4 hbd4 ⊢
  refine DL_v rfl (fun _ _ => x_move) ?_
  refine DL_v rfl (fun _ _ => x_nil rfl) ?_
  refine DL_v rfl (fun _ hS => x_cache rfl hS) ?_
  refine DL_v rfl (fun _ _ => x_load0 rfl) ?_
  refine DL_v rfl (fun _ _ => x_move) ?_
  refine DL_wc rfl (x_call Try.func47 rfl rfl rfl rfl) (NumBlocks_ret hgd4 hnb) ?_
  rintro _ wx ⟨rfl, hwx⟩
  rw [hwx]
  clear hwx wx
  refine ⟨.inr hfn4, ?_⟩
  refine DL_wc rfl (x_call Try.func52 rfl rfl rfl rfl) (allocInt_ret (n := g.nb + 1) (by omega)) ?_
  rintro _ w4 ⟨IND, rfl, hge4, hcells4, hbel4⟩
  have hsz4 := hbd4.size
  have hlt4 : IND < w4.heap.size := (Array.getElem?_eq_some_iff.1 hcells4).1
  refine ⟨.inr ((hbel4.block _ (by have := comp_lt hgd4; omega)).trans hfn4), ?_⟩
  have hst4 : Below w3.heap.size w3 w4 := hbd4.trans (hbel4.mono hsz4)
  have hgw4 : GRep w4 B L g := hgw3.keep fun k hk => hst4.block k hk
  clear hgd4 hbd4 hfn4 hbel4
  refine DL_v rfl (fun _ _ => x_assign) ?_
  refine DL_nil ?_
  refine thenQ_normal ?_
  refine EC_seq ?_
  refine EC_region ?_
  refine EL_v x_move rfl ?_
  refine EL_v (x_nil rfl) rfl ?_
  refine EL_v (x_cache rfl (hgw4.comp .fn)) rfl ?_
  refine EL_v (x_load0 rfl) rfl ?_
  refine EL_v x_move rfl ?_
  refine EL_d (x_defer rfl rfl) rfl ?_
  refine EL_nil ?_
  refine thenQ_normal ?_
  refine EC_seq ?_
  refine EC_region ?_
  refine EL_v x_move rfl ?_
  refine EL_v x_move rfl ?_
  refine EL_c (x_call Try.func47 rfl rfl rfl rfl) rfl (NumBlocks_ret hgw4 hnb) ?_
  rintro _ wx ⟨rfl, hwx⟩
  rw [hwx]
  clear hwx wx
  refine EL_c (x_call Try.func54 rfl rfl rfl rfl) rfl (newSS2_ret (n := g.nb + 1) (by omega)) ?_
  rintro _ w5 ⟨⟨S1, Q1, rfl, hgs5, hgq5, hne5, hls5, hlq5, hcs5, hcq5⟩, hst5⟩
  have hgw5 : GRep w5 B L g := hgw4.keep fun k hk => hst5.block k hk
  refine EL_v x_assign rfl ?_
  refine EL_nil ?_
  refine thenQ_normal ?_
  refine EC_seq ?_
  refine EC_region ?_
  refine EL_v x_move rfl ?_
  refine EL_v x_move rfl ?_
  refine EL_d (x_defer rfl rfl) rfl ?_
  refine EL_nil ?_
  refine thenQ_normal ?_
  refine EC_seq ?_
  refine EC_region ?_
  refine EL_v x_assign rfl ?_
  refine EL_nil ?_
  refine thenQ_normal ?_
  refine EC_seq ?_
  refine EC_region ?_
  refine EL_v x_assign rfl ?_
  refine EL_nil ?_
  refine thenQ_normal ?_
  refine EC_seq ?_
  refine EC_region ?_
  refine EL_v x_move rfl ?_
  refine EL_v x_move rfl ?_
  refine EL_c (x_call Try.func47 rfl rfl rfl rfl) rfl (NumBlocks_ret hgw5 hnb) ?_
  rintro _ wx ⟨rfl, hwx⟩
  rw [hwx]
  clear hwx wx
  refine EL_c (x_call Try.func54 rfl rfl rfl rfl) rfl (newSS2_ret (n := g.nb + 1) (by omega)) ?_
  rintro _ w6 ⟨⟨S2, Q2, rfl, hgs6, hgq6, hne6, hls6, hlq6, hcs6, hcq6⟩, hst6⟩
  have hgw6 : GRep w6 B L g := hgw5.keep fun k hk => hst6.block k hk
  refine EL_v x_assign rfl ?_
  refine EL_nil ?_
  refine thenQ_normal ?_
  refine EC_seq ?_
  refine EC_region ?_
  refine EL_v x_move rfl ?_
  refine EL_v x_move rfl ?_
  refine EL_d (x_defer rfl rfl) rfl ?_
  refine EL_nil ?_
  refine thenQ_normal ?_
  refine Exists.elim (⟨_, rfl⟩ : ∃ DS : List Deferred, DS = [⟨.fn (.func 55) #[], #[L.fp, .pointer (some ⟨S2, 0, none⟩)]⟩, ⟨.fn (.func 55) #[], #[L.fp, .pointer (some ⟨S1, 0, none⟩)]⟩, ⟨.fn (.func 53) #[], #[.agg #[], .slice (some ⟨IND, 0, none⟩) (g.nb + 1) (g.nb + 1)]⟩,
      ⟨.fn (.func 51) #[], #[.agg #[], .slice (some ⟨IDB, 0, none⟩) (g.nb + 1) (g.nb + 1)]⟩, ⟨.fn (.func 49) #[], #[.agg #[], .slice (some ⟨SCH, 0, none⟩) (g.nb + 1) (g.nb + 1)]⟩]) fun DS hDS => ?_
  refine EC_cut (fun e wr => wr = w6 ∧ AtD e DS [(0, L.fp), (3, .slice (some ⟨w.heap.size, 0, none⟩) 0 (g.nb + 1)), (4, .slice (some ⟨SCH, 0, none⟩) (g.nb + 1) (g.nb + 1)), (5, .slice (some ⟨IDB, 0, none⟩) (g.nb + 1) (g.nb + 1)), (6, .slice (some ⟨IND, 0, none⟩) (g.nb + 1) (g.nb + 1)), (7, .pointer (some ⟨S1, 0, none⟩)), (8, nilS), (9, nilS), (10, .pointer (some ⟨S2, 0, none⟩))]) ⟨rfl, at_ofD (by rw [hDS]; rfl) ⟨rfl, rfl, rfl, rfl, rfl, rfl, rfl, rfl, rfl, trivial⟩⟩ ?_
  rintro e wr ⟨hwr, t, he⟩
  subst he
  rw [hwr]
  clear hwr wr
  have z1 : w.heap.size < w1.heap.size := by omega
  have z2 := hst2.size
  have z3 := hst3.size
  have z4 := hst4.size
  have z5 := hst5.size
  have z6 := hst6.size
  obtain ⟨F, hF⟩ : ∃ F : Fix, F = ⟨w.heap.size, SCH, IDB, IND, S1, Q1, S2, Q2, w6.heap.size, g.nb + 1⟩ := ⟨_, rfl⟩
  have f0 : F.O0 = w.heap.size := by rw [hF]
  have f1 : F.SCH = SCH := by rw [hF]
  have f2 : F.IDB = IDB := by rw [hF]
  have f3 : F.IND = IND := by rw [hF]
  have f4 : F.S1 = S1 := by rw [hF]
  have f5 : F.Q1 = Q1 := by rw [hF]
  have f6 : F.S2 = S2 := by rw [hF]
  have f7 : F.Q2 = Q2 := by rw [hF]
  have f8 : F.D = w6.heap.size := by rw [hF]
  have f9 : F.m = g.nb + 1 := by rw [hF]
  clear hF
  have y1 : w.heap.size < SCH := by omega
  have y2 : SCH < IDB := by omega
  have y3 : IDB < IND := by omega
  have y4 : IND < S1 := by omega
  have y5 : IND < Q1 := by omega
  have y6 : S1 < S2 := by omega
  have y7 : S1 < Q2 := by omega
  have y8 : Q1 < S2 := by omega
  have y9 : Q1 < Q2 := by omega
  have hFok : FixOk w.heap.size F := ⟨Nat.le_of_eq f0.symm, by rw [f0, f1]; exact y1, by rw [f1, f2]; exact y2, by rw [f2, f3]; exact y3, by rw [f3, f4, f5]; exact ⟨y4, y5, hne5⟩, by rw [f4, f5, f6, f7]; exact ⟨y6, y7, y8, y9, hne6⟩, by rw [f6, f7, f8]; exact ⟨hls6, hlq6⟩⟩
  have k1 : ∀ j, j < w1.heap.size → w6.heap[j]? = w1.heap[j]? := fun j hj => (hst6.block j (by omega)).trans ((hst5.block j (by omega)).trans ((hst4.block j (by omega)).trans ((hst3.block j (by omega)).trans (hst2.block j hj))))
  have k2 : ∀ j, j < w2.heap.size → w6.heap[j]? = w2.heap[j]? := fun j hj => (hst6.block j (by omega)).trans ((hst5.block j (by omega)).trans ((hst4.block j (by omega)).trans (hst3.block j hj)))
  have k3 : ∀ j, j < w3.heap.size → w6.heap[j]? = w3.heap[j]? := fun j hj => (hst6.block j (by omega)).trans ((hst5.block j (by omega)).trans (hst4.block j hj))
  have k4 : ∀ j, j < w4.heap.size → w6.heap[j]? = w4.heap[j]? := fun j hj => (hst6.block j (by omega)).trans (hst5.block j hj)
  have hbel6 : Below w.heap.size w w6 := by
    have h1 : Below w.heap.size w w1 := by rw [← hE0]; exact hb01
    exact ((((h1.trans (hst2.mono (by omega))).trans (hst3.mono (by omega))).trans (hst4.mono (by omega))).trans (hst5.mono (by omega))).trans (hst6.mono (by omega))
  have c2 : w6.heap[SCH]? = some (.cells (bools (fun _ => false) (g.nb + 1)) 4 (0, 0)) := (k2 _ hlt2).trans hcells2
  have c3 : w6.heap[IDB]? = some (.cells (cellsOf (fun _ => .pointer none) (g.nb + 1)) 76 (0, 0)) := (k3 _ hlt3).trans hcells3
  have c4 : w6.heap[IND]? = some (.cells (cellsOf (i64s fun _ => 0) (g.nb + 1)) 3 (0, 0)) := (k4 _ hlt4).trans hcells4
  have s5 : w6.heap[S1]? = some (.cells #[nilS, .slice (some ⟨Q1, 0, none⟩) (g.nb + 1) (g.nb + 1)] 125 (0, 0)) := (hst6.block _ hls5).trans hcs5
  have q5 : w6.heap[Q1]? = some (.cells (cellsOf (i32s fun _ => 0) (g.nb + 1)) 21 (0, 0)) := (hst6.block _ hlq5).trans hcq5
  have hrow6 : w6.ownsRow w.heap.size 76 1 (.slice (some ⟨w.heap.size, 0, none⟩) 0 (g.nb + 1)) 0 [] := by
    rw [← hE0]
    exact ownsRow_congr (by rw [hE0]; rw [hE0] at hrow1; exact hrow1) fun k e => by
      have e : E0 = k := Option.some.inj e
      exact k1 k (by omega)
  have hid : ∀ D ∈ DS, Idle Try.prog D := by
    rw [hDS]
    intro D hD
    rcases List.mem_cons.1 hD with rfl | hD
    · exact free_idle4 _ _
    rcases List.mem_cons.1 hD with rfl | hD
    · exact free_idle4 _ _
    rcases List.mem_cons.1 hD with rfl | hD
    · exact free_idle3 _
    rcases List.mem_cons.1 hD with rfl | hD
    · exact free_idle2 _
    rcases List.mem_cons.1 hD with rfl | hD
    · exact free_idle1 _
    cases hD
  -- the blocks by their numbers
  refine EC_seq_cutQ (fun e wr => AtD e DS [(0, L.fp), (3, .slice (some ⟨w.heap.size, 0, none⟩) 0 (g.nb + 1)), (4, .slice (some ⟨SCH, 0, none⟩) (g.nb + 1) (g.nb + 1)), (5, .slice (some ⟨IDB, 0, none⟩) (g.nb + 1) (g.nb + 1)), (6, .slice (some ⟨IND, 0, none⟩) (g.nb + 1) (g.nb + 1)), (7, .pointer (some ⟨S1, 0, none⟩)), (8, nilS), (9, nilS), (10, .pointer (some ⟨S2, 0, none⟩))] ∧ Fz IDB w6.heap.size w6 wr ∧ wr.heap[IDB]? = some (.cells (cellsOf (idb L) (g.nb + 1)) 76 (0, 0))) ?_ ?_
  · obtain ⟨fa, fc, hfv⟩ := hgw6.fblocksV
    have hfb1 := hgw6.fBlocks
    rw [hfv] at hfb1
    refine EC_seq ?_
    refine EC_region ?_
    refine EL_v x_move rfl ?_
    refine EL_v (x_nil rfl) rfl ?_
    refine EL_v (x_field rfl (tab_fld rfl)) rfl ?_
    refine EL_v (x_load rfl (tab_one rfl) (by with_reducible assumption)) rfl ?_
    refine EL_v (x_len rfl (tab_sl rfl)) rfl ?_
    refine EL_v x_move rfl ?_
    refine EL_nil ?_
    refine thenQ_normal ?_
    refine EC_block ?_
    refine EC_loop (fun n e wr => ∃ k, k ≤ g.nb ∧ AtD e DS [(0, L.fp), (3, .slice (some ⟨w.heap.size, 0, none⟩) 0 (g.nb + 1)), (4, .slice (some ⟨SCH, 0, none⟩) (g.nb + 1) (g.nb + 1)), (5, .slice (some ⟨IDB, 0, none⟩) (g.nb + 1) (g.nb + 1)), (6, .slice (some ⟨IND, 0, none⟩) (g.nb + 1) (g.nb + 1)), (7, .pointer (some ⟨S1, 0, none⟩)), (8, nilS), (9, nilS), (10, .pointer (some ⟨S2, 0, none⟩)), (87, .slice fa g.nb fc), (88, .int .i64 (g.nb : Int)), (89, .int .i64 (k : Int))] ∧ Fz IDB w6.heap.size w6 wr ∧ wr.heap[IDB]? = some (.cells (cellsOf (fun x => if x ≤ k then idb L x else .pointer none) (g.nb + 1)) 76 (0, 0)) ∧ n = g.nb - k) g.nb
      ⟨0, Nat.zero_le _, at_ofD rfl ⟨rfl, rfl, rfl, rfl, rfl, rfl, rfl, rfl, rfl, rfl, rfl, rfl, trivial⟩, Fz.refl _ _ _, by
        rw [c3]
        congr 2
        refine cellsOf_congr fun i _ => ?_
        by_cases e : i ≤ 0
        · rw [if_pos e]
          have : i = 0 := by omega
          subst this; rfl
        · rw [if_neg e], rfl⟩ ?_
    rintro n e wr ⟨k, hk, ⟨t, rfl⟩, hfz, hidb, rfl⟩
    have hwb : Below w.heap.size w wr := hbel6.trans ((hfz.below (by omega)).mono (by omega))
    have hgr : GRep wr B L g := h.keep fun j hj => hwb.block j hj
    have hszw := hfz.size
    refine EC_seq ?_
    refine EC_region ?_
    refine EL_v (x_lss rfl rfl) rfl ?_
    refine EL_nil ?_
    refine thenQ_normal ?_
    refine EC_seq ?_
    refine EC_if rfl rfl (fun hlt => ?_) (fun hge => ?_)
    · have hlt : k < g.nb := by omega
      obtain ⟨fb, fcap, hfe, _, hcell, _⟩ := hgr.fblocksE hlt
      rw [hfv] at hfe
      injection hfe with e1 e2 e3
      subst e1
      have hcell : wr.cell? ⟨fb, 0 + k, none⟩ = some (.pointer (some ⟨L.bb k, 0, none⟩)) := hcell
      have hID := hgr.bID hlt
      have hKd := hgr.bKind hlt
      refine EC_skip ?_
      refine thenQ_normal ?_
      refine EC_seq ?_
      refine EC_block ?_
      refine EC_seq ?_
      refine EC_region ?_
      refine EL_v (x_index1 rfl rfl (tab_sl rfl) (by omega)) rfl ?_
      refine EL_v (x_load rfl (tab_one rfl) (by with_reducible assumption)) rfl ?_
      refine EL_v x_assign rfl ?_
      refine EL_nil ?_
      refine thenQ_normal ?_
      refine EC_seq ?_
      refine EC_region ?_
      refine EL_v x_move rfl ?_
      refine EL_v x_move rfl ?_
      refine EL_v (x_nil rfl) rfl ?_
      refine EL_v (x_field rfl (tab_fld rfl)) rfl ?_
      refine EL_v (x_load rfl (tab_one rfl) (by with_reducible assumption)) rfl ?_
      refine EL_v x_move rfl ?_
      refine EL_v (x_indexZ1 (i := k + 1) (z := (k : Int) + 1) rfl rfl (by omega) (tab_sl rfl) (by omega)) rfl ?_
      refine EL_s (x_store rfl rfl rfl (tab_size1 rfl) (cell_block (o := 0 + (k + 1)) hidb (by rw [Nat.zero_add]; exact cellsOf_get _ (by omega))) (free_block hidb)) rfl ?_
      refine EL_nil ?_
      refine thenQ_normal ?_
      have hs7 := heap_setCell_same (o := 0 + (k + 1)) (u := .pointer (some ⟨L.bb k, 0, none⟩)) hidb
      rw [cellsOf_set] at hs7
      have hf7 := hfz.set (0 + (k + 1)) (.pointer (some ⟨L.bb k, 0, none⟩))
      have hKd7 : (wr.setCell ⟨IDB, 0 + (k + 1), none⟩ (.pointer (some ⟨L.bb k, 0, none⟩))).cell? ⟨L.bb k, 0 + 1, none⟩ = some (.int .i64 (g.kind k)) := by
        rw [World.cell?_of_block (w := wr) (Below.heap_setCell _ _ _ _ (by
          have h5 := h.blk hlt
          have h6 := (Array.getElem?_eq_some_iff.1 h5).1
          show L.bb k ≠ IDB
          omega))]
        exact hKd
      change EC _ _ _ _ _ (wr.setCell ⟨IDB, 0 + (k + 1), none⟩ (.pointer (some ⟨L.bb k, 0, none⟩)))
      generalize wr.setCell ⟨IDB, 0 + (k + 1), none⟩ (.pointer (some ⟨L.bb k, 0, none⟩)) = w9 at hs7 hf7 hKd7 ⊢
      refine EC_seq ?_
      refine EC_region ?_
      refine EL_v x_move rfl ?_
      refine EL_v (x_nil rfl) rfl ?_
      refine EL_v (x_field rfl (tab_fld rfl)) rfl ?_
      refine EL_v (x_load rfl (tab_one rfl) (by with_reducible assumption)) rfl ?_
      refine EL_v (x_eql rfl rfl) rfl ?_
      refine EL_nil ?_
      refine thenQ_normal ?_
      refine EC_no (congrArg Value.bool (decide_eq_false (ok.kind k hlt))) rfl ?_
      refine EC_skip ?_
      refine blockQ_normal ?_
      refine thenQ_normal ?_
      refine EC_region ?_
      refine EL_v (x_inc rfl rfl (by omega)) rfl ?_
      refine EL_v x_move rfl ?_
      refine EL_nil ?_
      refine loopQ_next (g.nb - (k + 1)) (by omega) ⟨k + 1, by omega, at_ofD rfl ⟨rfl, rfl, rfl, rfl, rfl, rfl, rfl, rfl, rfl, rfl, rfl, rfl, trivial⟩, hf7, ?_, rfl⟩
      rw [hs7]
      congr 2
      refine cellsOf_congr fun i _ => ?_
      show (if i = 0 + (k + 1) then Value.pointer (some ⟨L.bb k, 0, none⟩) else if i ≤ k then idb L i else .pointer none) = if i ≤ k + 1 then idb L i else .pointer none
      rw [Nat.zero_add]
      by_cases e : i = k + 1
      · rw [if_pos e, if_pos (by omega), e]
        show _ = if k + 1 = 0 then Value.pointer none else L.bp (k + 1 - 1)
        rw [if_neg (by omega)]; rfl
      · rw [if_neg e]
        by_cases e2 : i ≤ k
        · rw [if_pos e2, if_pos (by omega)]
        · rw [if_neg e2, if_neg (by omega)]
    · have hk : k = g.nb := by omega
      subst hk
      refine EC_exit ?_
      refine thenQ_exit ?_
      refine loopQ_exit ?_
      refine blockQ_hit ?_
      refine orN_in ⟨at_ofD rfl ⟨rfl, rfl, rfl, rfl, rfl, rfl, rfl, rfl, rfl, trivial⟩, hfz, ?_⟩
      rw [hidb]
      congr 2
      refine cellsOf_congr fun i hi => ?_
      rw [if_pos (by omega)]
  rintro e wr ⟨⟨t, rfl⟩, hfz, hidb⟩
  have hls : LS L w F wr (.slice (some ⟨w.heap.size, 0, none⟩) 0 (g.nb + 1)) nilS nilS nilS [] [] [] [] (fun _ => 0) (fun _ => 0) (fun _ => false) := by
    have keep : ∀ j, j < w6.heap.size → j ≠ IDB → wr.heap[j]? = w6.heap[j]? := hfz.block
    refine ⟨⟨fun i hi => ?_, fun i j hi hj hne k e1 e2 => ?_⟩, fun i hi k e => ?_, ⟨?_, ?_, ⟨rfl, .inl ⟨rfl, rfl⟩⟩, ?_, fun i => ⟨by decide, by decide⟩, fun x hx => (by cases hx), by decide⟩, ⟨?_, ?_, ⟨rfl, .inl ⟨rfl, rfl⟩⟩, ?_, fun i => ⟨by decide, by decide⟩, fun x hx => (by cases hx), by decide⟩, ?_, ?_, ?_, ?_, ?_⟩
    · rcases i with _ | _ | _ | _ | i
      · exact ownsRow_congr hrow6 fun k e => by
          have e : w.heap.size = k := Option.some.inj e
          exact keep k (by omega) (by omega)
      · exact ⟨rfl, .inl ⟨rfl, rfl⟩⟩
      · exact ⟨rfl, .inl ⟨rfl, rfl⟩⟩
      · exact ⟨rfl, .inl ⟨rfl, rfl⟩⟩
      · omega
    · rcases i with _ | _ | _ | _ | i
      · rcases j with _ | _ | _ | _ | j
        · exact hne rfl
        · cases e2
        · cases e2
        · cases e2
        · omega
      · cases e1
      · cases e1
      · cases e1
      · omega
    · rcases i with _ | _ | _ | _ | i
      · have e : w.heap.size = k := Option.some.inj e
        left; rw [f0]; exact e.symm
      · cases e
      · cases e
      · cases e
      · omega
    · rw [f4, f5, f9]; exact (keep _ (by omega) (by omega)).trans s5
    · rw [f5, f9]; exact (keep _ (by omega) (by omega)).trans q5
    · rw [f4, f5, f8]; exact ⟨by omega, by omega, hne5⟩
    · rw [f6, f7, f9]; exact (keep _ hls6 (by omega)).trans hcs6
    · rw [f7, f9]; exact (keep _ hlq6 (by omega)).trans hcq6
    · rw [f6, f7, f8]; exact ⟨hls6, hlq6, hne6⟩
    · rw [f1, f9]; exact (keep _ (by omega) (by omega)).trans c2
    · rw [f2, f9]; exact hidb
    · rw [f3, f9]; exact (keep _ (by omega) (by omega)).trans c4
    · exact hbel6.trans ((hfz.below (by omega)).mono (by omega))
    · rw [f8]; exact hfz.size
  rw [← f1, ← f2, ← f3, ← f4, ← f6, ← f9]
  clear hidb hfz c2 c3 c4 s5 q5 hrow6 k1 k2 k3 k4 hbel6 hDS
  rw [← f9] at hls
  generalize Value.slice (some ⟨w.heap.size, 0, none⟩) 0 F.m = ov at hls ⊢
  have hgK : ∀ {wz : World}, Below w.heap.size w wz → GRep wz B L g := fun {wz} hb => h.keep fun j hj => hb.block j hj
  clear hN1 hO1 hZ1 hB1 hK1 hb01 hgw1 hrow1 hge2 hcells2 hsz2 hlt2 hst2 hgw2 hge3 hcells3 hsz3 hlt3 hst3 hgw3 hge4 hcells4 hsz4 hlt4 hst4 hgw4 hst5 hgs5 hgq5 hne5 hls5 hlq5 hcs5 hcq5 hgw5 hst6 hgs6 hgq6 hne6 hls6 hlq6 hcs6 hcq6 hgw6 z1 z2 z3 z4 z5 z6 f0 f1 f2 f3 f4 f5 f6 f7 f8 y1 y2 y3 y4 y5 y6 y7 y8 y9 hE0 E0
  -- no block is one of those that end a run
  refine EC_seq_cutQ (fun e wz => wz = wr ∧ AtD e DS [(0, L.fp), (3, ov), (4, .slice (some ⟨F.SCH, 0, none⟩) F.m F.m), (5, .slice (some ⟨F.IDB, 0, none⟩) F.m F.m), (6, .slice (some ⟨F.IND, 0, none⟩) F.m F.m), (7, .pointer (some ⟨F.S1, 0, none⟩)), (8, nilS), (9, nilS), (10, .pointer (some ⟨F.S2, 0, none⟩))]) ?_ ?_
  · refine EC_block ?_
    refine EC_loop (fun n e wz => wz = wr ∧ AtD e DS [(0, L.fp), (3, ov), (4, .slice (some ⟨F.SCH, 0, none⟩) F.m F.m), (5, .slice (some ⟨F.IDB, 0, none⟩) F.m F.m), (6, .slice (some ⟨F.IND, 0, none⟩) F.m F.m), (7, .pointer (some ⟨F.S1, 0, none⟩)), (8, nilS), (9, nilS), (10, .pointer (some ⟨F.S2, 0, none⟩))]) 0 ⟨rfl, at_ofD rfl ⟨rfl, rfl, rfl, rfl, rfl, rfl, rfl, rfl, rfl, trivial⟩⟩ ?_
    rintro n e wz ⟨hwz, t, he⟩
    subst he
    rw [hwz]
    clear hwz wz
    refine EC_block ?_
    refine EC_seq ?_
    refine EC_region ?_
    refine EL_v x_assign rfl ?_
    refine EL_nil ?_
    refine thenQ_normal ?_
    refine EC_seq ?_
    refine EC_seq ?_
    refine EC_region ?_
    refine EL_v x_move rfl ?_
    refine EL_c (x_call Try.func57 rfl rfl rfl rfl) rfl (contents_ret hls.ext) ?_
    rintro _ wx ⟨rfl, hwx⟩
    rw [hwx]
    clear hwx wx
    refine EL_v (x_len rfl (tab_sl rfl)) rfl ?_
    refine EL_v x_move rfl ?_
    refine EL_nil ?_
    refine thenQ_normal ?_
    refine EC_block ?_
    refine EC_loop (fun n e wz => wz = wr ∧ AtD e DS [(0, L.fp), (3, ov), (4, .slice (some ⟨F.SCH, 0, none⟩) F.m F.m), (5, .slice (some ⟨F.IDB, 0, none⟩) F.m F.m), (6, .slice (some ⟨F.IND, 0, none⟩) F.m F.m), (7, .pointer (some ⟨F.S1, 0, none⟩)), (8, nilS), (9, nilS), (10, .pointer (some ⟨F.S2, 0, none⟩)), (13, .bool false), (114, .int .i64 0), (115, .int .i64 0)]) 0 ⟨rfl, at_ofD rfl ⟨rfl, rfl, rfl, rfl, rfl, rfl, rfl, rfl, rfl, rfl, rfl, rfl, trivial⟩⟩ ?_
    rintro n e wz ⟨hwz, t, he⟩
    subst he
    rw [hwz]
    clear hwz wz
    refine EC_seq ?_
    refine EC_region ?_
    refine EL_v (x_lss rfl rfl) rfl ?_
    refine EL_nil ?_
    refine thenQ_normal ?_
    refine EC_seq ?_
    refine EC_no (congrArg Value.bool (decide_eq_false (by decide : ¬ (0 : Int) < 0))) rfl ?_
    refine EC_exit ?_
    refine thenQ_exit ?_
    refine loopQ_exit ?_
    refine blockQ_hit ?_
    refine thenQ_normal ?_
    refine EC_seq ?_
    refine EC_region ?_
    refine EL_v x_move rfl ?_
    refine EL_v (x_not rfl) rfl ?_
    refine EL_nil ?_
    refine thenQ_normal ?_
    refine EC_yes rfl rfl ?_
    refine EC_exit ?_
    refine blockQ_miss rfl ?_
    refine loopQ_exit ?_
    refine blockQ_hit ?_
    exact orN_in ⟨rfl, at_ofD rfl ⟨rfl, rfl, rfl, rfl, rfl, rfl, rfl, rfl, rfl, trivial⟩⟩
  rintro e wz ⟨hwz, t, he⟩
  subst he
  rw [hwz]
  clear hwz wz
  -- how many ways lead to each block
  refine EC_seq_cutQ (fun e wz => ∃ zv dv lz ds sp ind, AtD e DS [(0, L.fp), (3, ov), (4, .slice (some ⟨F.SCH, 0, none⟩) F.m F.m), (5, .slice (some ⟨F.IDB, 0, none⟩) F.m F.m), (6, .slice (some ⟨F.IND, 0, none⟩) F.m F.m), (7, .pointer (some ⟨F.S1, 0, none⟩)), (8, zv), (9, nilS), (10, .pointer (some ⟨F.S2, 0, none⟩))] ∧ LS L w F wz ov zv nilS dv [] lz [] ds sp ind (fun _ => false) ∧ (∀ x ∈ lz, x < g.nb) ∧ lz.length + ds.length ≤ g.nb ∧ ∀ x, x < g.nb → x ∈ lz ∨ x ∈ ds) ?_ ?_
  · have hg0 := hgK hls.bel
    obtain ⟨fa, fc, hfv⟩ := hg0.fblocksV
    have hfb1 := hg0.fBlocks
    rw [hfv] at hfb1
    refine EC_seq ?_
    refine EC_region ?_
    refine EL_v x_move rfl ?_
    refine EL_v (x_nil rfl) rfl ?_
    refine EL_v (x_field rfl (tab_fld rfl)) rfl ?_
    refine EL_v (x_load rfl (tab_one rfl) (by with_reducible assumption)) rfl ?_
    refine EL_v (x_len rfl (tab_sl rfl)) rfl ?_
    refine EL_v x_move rfl ?_
    refine EL_nil ?_
    refine thenQ_normal ?_
    refine EC_block ?_
    refine EC_loop (fun n e wz => ∃ k zv dv lz ds sp ind, k ≤ g.nb ∧ AtD e DS [(0, L.fp), (3, ov), (4, .slice (some ⟨F.SCH, 0, none⟩) F.m F.m), (5, .slice (some ⟨F.IDB, 0, none⟩) F.m F.m), (6, .slice (some ⟨F.IND, 0, none⟩) F.m F.m), (7, .pointer (some ⟨F.S1, 0, none⟩)), (8, zv), (9, nilS), (10, .pointer (some ⟨F.S2, 0, none⟩)), (171, .slice fa g.nb fc), (172, .int .i64 (g.nb : Int)), (173, .int .i64 (k : Int))] ∧ LS L w F wz ov zv nilS dv [] lz [] ds sp ind (fun _ => false) ∧ (∀ x ∈ lz, x < g.nb) ∧ lz.length + ds.length ≤ k ∧ (∀ x, x < k → x ∈ lz ∨ x ∈ ds) ∧ n = g.nb - k) g.nb
      ⟨0, _, _, _, _, _, _, Nat.zero_le _, at_ofD rfl ⟨rfl, rfl, rfl, rfl, rfl, rfl, rfl, rfl, rfl, rfl, rfl, rfl, trivial⟩, hls, fun x hx => (by cases hx), Nat.le_refl _, fun x hx => absurd hx (Nat.not_lt_zero _), rfl⟩ ?_
    clear hls hg0 hfb1
    rintro n e wz ⟨k, zv, dv, lz, ds, sp, ind, hk, ⟨t, rfl⟩, hl, hzl, hlen, hcov, rfl⟩
    refine EC_seq ?_
    refine EC_region ?_
    refine EL_v (x_lss rfl rfl) rfl ?_
    refine EL_nil ?_
    refine thenQ_normal ?_
    refine EC_seq ?_
    refine EC_if rfl rfl (fun hlt => ?_) (fun hge => ?_)
    · have hlt : k < g.nb := by omega
      have hgr := hgK hl.bel
      obtain ⟨fb, fcap, hfe, _, hcell, _⟩ := hgr.fblocksE hlt
      rw [hfv] at hfe
      injection hfe with e1 e2 e3
      subst e1
      have hcell : wz.cell? ⟨fb, 0 + k, none⟩ = some (.pointer (some ⟨L.bb k, 0, none⟩)) := hcell
      have hID := hgr.bID hlt
      obtain ⟨pa, pc, hpv⟩ := hgr.predsV hlt
      have hpr := hgr.bPreds hlt
      rw [hpv] at hpr
      have hplen := ok.preds k hlt
      refine EC_skip ?_
      refine thenQ_normal ?_
      refine EC_seq ?_
      refine EC_block ?_
      refine EC_seq ?_
      refine EC_region ?_
      refine EL_v (x_index1 rfl rfl (tab_sl rfl) (by omega)) rfl ?_
      refine EL_v (x_load rfl (tab_one rfl) (by with_reducible assumption)) rfl ?_
      refine EL_v x_assign rfl ?_
      refine EL_nil ?_
      refine thenQ_normal ?_
      refine EC_seq ?_
      refine EC_seq ?_
      refine EC_region ?_
      refine EL_v x_move rfl ?_
      refine EL_v x_move rfl ?_
      refine EL_v (x_nil rfl) rfl ?_
      refine EL_v (x_field rfl (tab_fld rfl)) rfl ?_
      refine EL_v (x_load rfl (tab_one rfl) (by with_reducible assumption)) rfl ?_
      refine EL_c (x_call Try.func58 rfl rfl rfl rfl) rfl (contains_ret hl.ext (x := k) (by rw [f9]; omega)) ?_
      rintro _ wx ⟨rfl, hwx⟩
      rw [hwx]
      clear hwx wx
      refine EL_nil ?_
      refine thenQ_normal ?_
      refine EC_no rfl rfl ?_
      refine EC_skip ?_
      refine thenQ_normal ?_
      refine EC_seq ?_
      have hc : Cells [(⟨L.bb k, 0 + 0, none⟩, .int .i32 ((k : Int) + 1)), (⟨L.bb k, 0 + 4, none⟩, .slice pa (g.preds k).length pc)] wz.drew := (Keep.drew wz).cells (.cons hID (.cons hpr (.nil _)))
      refine EC_draw mixed (Cells [(⟨L.bb k, 0 + 0, none⟩, .int .i32 ((k : Int) + 1)), (⟨L.bb k, 0 + 4, none⟩, .slice pa (g.preds k).length pc)]) [(0, false), (1, false), (2, false), (3, false), (4, false), (5, false), (6, false), (7, false), (8, false), (9, false), (10, false), (11, true)] (by kernel_rfl) hc ?_
      have hlY := hl.below hFok (⟨rfl, rfl, rfl, Nat.le_refl _, fun _ _ => rfl⟩ : Below wz.heap.size wz wz.drew)
      generalize wz.drew = Y at hc hlY ⊢
      refine DL_v rfl (fun _ _ => x_move) ?_
      refine DL_v rfl (fun _ _ => x_move) ?_
      refine DL_v rfl (fun _ _ => x_nil rfl) ?_
      refine DL_v rfl (fun _ _ => x_field rfl (tab_fld rfl)) ?_
      refine DL_v rfl (fun _ hS => x_load rfl (tab_one rfl) (hS.get (by first | exact .head _ | exact .tail _ (.head _) | exact .tail _ (.tail _ (.head _)) | exact .tail _ (.tail _ (.tail _ (.head _))) | exact .tail _ (.tail _ (.tail _ (.tail _ (.head _)))) | exact .tail _ (.tail _ (.tail _ (.tail _ (.tail _ (.head _))))) | exact .tail _ (.tail _ (.tail _ (.tail _ (.tail _ (.tail _ (.head _)))))) | exact .tail _ (.tail _ (.tail _ (.tail _ (.tail _ (.tail _ (.tail _ (.head _)))))))))) ?_
      refine DL_v rfl (fun _ _ => x_move) ?_
      refine DL_v rfl (fun _ _ => x_nil rfl) ?_
      refine DL_v rfl (fun _ _ => x_field rfl (tab_fld rfl)) ?_
      refine DL_v rfl (fun _ hS => x_load rfl (tab_one rfl) (hS.get (by first | exact .head _ | exact .tail _ (.head _) | exact .tail _ (.tail _ (.head _)) | exact .tail _ (.tail _ (.tail _ (.head _))) | exact .tail _ (.tail _ (.tail _ (.tail _ (.head _)))) | exact .tail _ (.tail _ (.tail _ (.tail _ (.tail _ (.head _))))) | exact .tail _ (.tail _ (.tail _ (.tail _ (.tail _ (.tail _ (.head _)))))) | exact .tail _ (.tail _ (.tail _ (.tail _ (.tail _ (.tail _ (.tail _ (.head _)))))))))) ?_
      refine DL_v rfl (fun _ _ => x_len rfl (tab_sl rfl)) ?_
      refine DL_v rfl (fun _ _ => x_indexZ1 (i := k + 1) (z := (k : Int) + 1) rfl rfl (by omega) (tab_sl rfl) (by omega)) ?_
      refine DL_ws rfl (x_store rfl rfl rfl (tab_size1 rfl) (cell_block (o := 0 + (k + 1)) hlY.ind (by rw [Nat.zero_add]; exact cellsOf_get _ (by omega))) (free_block hlY.ind)) (.inl rfl) ?_
      refine DL_nil ?_
      refine thenQ_normal ?_
      have hl1 := hlY.setInd hFok (k + 1) (((g.preds k).length : Nat) : Int)
      change EC _ _ _ _ _ (Y.setCell ⟨F.IND, 0 + (k + 1), none⟩ (.int .i64 (((g.preds k).length : Nat) : Int)))
      generalize Y.setCell ⟨F.IND, 0 + (k + 1), none⟩ (.int .i64 (((g.preds k).length : Nat) : Int)) = W at hl1 ⊢
      clear hl hlY hc hID hpr hgr hcell
      have hgr := hgK hl1.bel
      have hID := hgr.bID hlt
      have hpr := hgr.bPreds hlt
      rw [hpv] at hpr
      refine EC_seq ?_
      refine EC_region ?_
      refine EL_v x_move rfl ?_
      refine EL_v (x_nil rfl) rfl ?_
      refine EL_v (x_field rfl (tab_fld rfl)) rfl ?_
      refine EL_v (x_load rfl (tab_one rfl) (by with_reducible assumption)) rfl ?_
      refine EL_v (x_len rfl (tab_sl rfl)) rfl ?_
      refine EL_v (x_eql rfl rfl) rfl ?_
      refine EL_nil ?_
      refine thenQ_normal ?_
      refine EC_if rfl rfl (fun hz => ?_) (fun hnz => ?_)
      · refine EC_region ?_
        have hl := hl1
        clear hl1
        refine EL_v x_move rfl ?_
        refine EL_v x_move rfl ?_
        refine EL_v (x_nil rfl) rfl ?_
        refine EL_v (x_field rfl (tab_fld rfl)) rfl ?_
        refine EL_v (x_load rfl (tab_one rfl) (by with_reducible assumption)) rfl ?_
        refine EL_v (x_bslice1 (v := (idv k)) rfl rfl Try.underlying116 (by kernel_rfl) (z := (.int .i32 0)) rfl) rfl ?_
        change EL _ _ _ _ _ _ (W.alloc (.cells #[(idv k)] 77))
        have hN6 := heap_alloc_new W (.cells #[(idv k)] 77)
        have hO6 : ∀ zz, zz < W.heap.size → (W.alloc (.cells #[(idv k)] 77)).heap[zz]? = W.heap[zz]? := fun _ hi => Below.heap_alloc _ _ _ hi
        have hZ6 := size_alloc W (.cells #[(idv k)] 77)
        have hB6 := (Below.refl W.heap.size W).alloc (Nat.le_refl _) (.cells #[(idv k)] 77)
        have hK6 := Keep.alloc W (.cells #[(idv k)] 77)
        generalize W.alloc (.cells #[(idv k)] 77) = w6 at hN6 hO6 hZ6 hB6 hK6 ⊢
        have hl6 := hl.below hFok hB6
        refine EL_append1 (hl6.rws.row 1 (by omega)) (cell_block hN6 rfl) rfl (by show (List.length (List.map idv lz) + 1) * _ ≤ _; rw [List.length_map]; omega) (by decide) (by have := hl6.bel.size; omega) Try.underlying116 info77 rfl rfl rfl rfl ?_
        intro v7 w7 hrow7 hgr7 hwh7
        have hl7 := hl6.push hFok (s := 1) (by omega) (u := idv k) hrow7 hgr7 hwh7 (ov' := ov) (zv' := v7) (sv' := nilS) (lo' := []) (lz' := lz ++ [k]) (ls' := []) (fun i hi => by rcases i with _|_|_|_|i <;> first | rfl | omega) (fun i hi => by rcases i with _|_|_|_|i <;> first | rfl | exact List.map_append .. | omega)
        refine EL_v x_assign rfl ?_
        refine EL_nil ?_
        refine blockQ_normal ?_
        refine thenQ_normal ?_
        refine EC_region ?_
        refine EL_v (x_inc rfl rfl (by omega)) rfl ?_
        refine EL_v x_move rfl ?_
        refine EL_nil ?_
        refine loopQ_next (g.nb - (k + 1)) (by omega) ⟨k + 1, v7, dv, lz ++ [k], ds, sp, _, by omega, at_ofD rfl ⟨rfl, rfl, rfl, rfl, rfl, rfl, rfl, rfl, rfl, rfl, rfl, rfl, trivial⟩, hl7, fun x hx => ?_, by rw [List.length_append]; have : [k].length = 1 := rfl; omega, fun x hx => ?_, rfl⟩
        · rcases List.mem_append.1 hx with hx | hx
          · exact hzl x hx
          · have : x = k := by simpa using hx
            omega
        · by_cases e : x = k
          · left; subst e; simp
          · rcases hcov x (by omega) with h1 | h1
            · left; exact List.mem_append.2 (.inl h1)
            · right; exact h1
      · refine EC_region ?_
        refine EL_v x_move rfl ?_
        refine EL_v x_move rfl ?_
        refine EL_v (x_nil rfl) rfl ?_
        refine EL_v (x_field rfl (tab_fld rfl)) rfl ?_
        refine EL_v (x_load rfl (tab_one rfl) (by with_reducible assumption)) rfl ?_
        refine EL_c (x_call Try.func56 rfl rfl rfl rfl) rfl (add_ret hl1.pos (x := k) (by rw [f9]; omega) (by omega) (hl1.sz)) ?_
        rintro _ w8 ⟨dv', ds', sp', hss, hm, hsub, hlen', hwh, ho⟩
        have hl8 := hl1.posTo hFok hss hwh ho
        refine EL_nil ?_
        refine blockQ_normal ?_
        refine thenQ_normal ?_
        refine EC_region ?_
        refine EL_v (x_inc rfl rfl (by omega)) rfl ?_
        refine EL_v x_move rfl ?_
        refine EL_nil ?_
        refine loopQ_next (g.nb - (k + 1)) (by omega) ⟨k + 1, zv, dv', lz, ds', sp', _, by omega, at_ofD rfl ⟨rfl, rfl, rfl, rfl, rfl, rfl, rfl, rfl, rfl, rfl, rfl, rfl, trivial⟩, hl8, hzl, by omega, fun x hx => ?_, rfl⟩
        by_cases e : x = k
        · right; subst e; exact hm
        · rcases hcov x (by omega) with h1 | h1
          · left; exact h1
          · right; exact hsub x h1
    · have hk : k = g.nb := by omega
      subst hk
      refine EC_exit ?_
      refine thenQ_exit ?_
      refine loopQ_exit ?_
      refine blockQ_hit ?_
      exact orN_in ⟨zv, dv, lz, ds, sp, ind, at_ofD rfl ⟨rfl, rfl, rfl, rfl, rfl, rfl, rfl, rfl, rfl, trivial⟩, hl, hzl, hlen, hcov⟩
  rintro e wz ⟨zv, dv, lz, ds, sp, ind, ⟨t, rfl⟩, hl, hzl, hlen, hcov⟩
  clear hls
  have hg0 := hgK hl.bel
  have hEn := hg0.fEntry
  rw [hent] at hEn
  have hID0 := hg0.bID (i := 0) (by omega)
  have hdl : ∀ x ∈ ds, x < g.nb := fun x hx => by
    have := hl.pos.lt x hx
    omega
  refine EC_seq ?_
  refine EC_region ?_
  refine EL_v x_move rfl ?_
  refine EL_v (x_nil rfl) rfl ?_
  refine EL_v (x_field rfl (tab_fld rfl)) rfl ?_
  refine EL_v (x_load rfl (tab_one rfl) (by with_reducible assumption)) rfl ?_
  refine EL_v (x_nil rfl) rfl ?_
  refine EL_v (x_field rfl (tab_fld rfl)) rfl ?_
  refine EL_v (x_load rfl (tab_one rfl) (by with_reducible assumption)) rfl ?_
  refine EL_v x_assign rfl ?_
  refine EL_nil ?_
  refine thenQ_normal ?_
  clear hEn hID0
  refine EC_seq ?_
  refine EC_label ?_
  refine thenQ_normal ?_
  refine EC_seq_cutQ (fun e wz => ∃ lo ov zv sv dv lz ls ds sp ind Sch, AtD e DS [(0, L.fp), (3, ov)] ∧ LS L w F wz ov zv sv dv lo lz ls ds sp ind Sch ∧ PL g.nb lo lz ls ds Sch ∧ lo.length = g.nb ∧ lo.head? = some 0) ?_ ?_
  · refine EC_block ?_
    refine EC_loop (fun n e wz => ∃ lo ov zv sv dv lz ls ds sp ind Sch bid, AtD e DS [(0, L.fp), (3, ov), (4, .slice (some ⟨F.SCH, 0, none⟩) F.m F.m), (5, .slice (some ⟨F.IDB, 0, none⟩) F.m F.m), (6, .slice (some ⟨F.IND, 0, none⟩) F.m F.m), (7, .pointer (some ⟨F.S1, 0, none⟩)), (8, zv), (9, sv), (10, .pointer (some ⟨F.S2, 0, none⟩)), (24, idv bid)] ∧ LS L w F wz ov zv sv dv lo lz ls ds sp ind Sch ∧ PL g.nb lo lz ls ds Sch ∧ bid < g.nb ∧ bid ∉ lo ∧ ((lo = [] ∧ bid = 0) ∨ lo.head? = some 0) ∧ (∀ x, x < g.nb → x ∉ lo → x = bid ∨ x ∈ lz ∨ x ∈ ds) ∧ n = g.nb - lo.length) g.nb
      ⟨[], ov, zv, nilS, dv, lz, [], ds, sp, ind, fun _ => false, 0, at_ofD rfl ⟨rfl, rfl, rfl, rfl, rfl, rfl, rfl, rfl, rfl, rfl, trivial⟩, hl, ⟨List.nodup_nil, fun x hx => (by cases hx), fun x _ => ⟨fun h => (by cases h), fun h => (by cases h)⟩, hzl, fun x hx => (by cases hx), hdl, by show lz.length + 0 ≤ 9 + 2 * 0; omega, cnt_false g.nb⟩, by omega, fun hx => (by cases hx), .inl ⟨rfl, rfl⟩, fun x hx _ => .inr (hcov x hx), rfl⟩ ?_
    clear hl hzl hlen hcov hg0 hdl
    clear zv dv lz ds sp ind
    rintro n e wz ⟨lo, ov, zv, sv, dv, lz, ls, ds, sp, ind, Sch, bid, ⟨t, rfl⟩, hl, hp, hbid, hnin, hhd, hcov, hn⟩
    refine EC_block ?_
    have hcn := hp.cnth
    have hplen := hp.len
    have hlo : (lo.map L.bp).length = lo.length := List.length_map ..
    have hib : wz.cell? ⟨F.IDB, 0 + (bid + 1), none⟩ = some (L.bp bid) := (cell_block hl.idb (by rw [Nat.zero_add]; exact cellsOf_get _ (by omega))).trans (by show some (if bid + 1 = 0 then Value.pointer none else L.bp (bid + 1 - 1)) = _; rw [if_neg (by omega)]; rfl)
    refine EC_seq ?_
    refine EC_region ?_
    refine EL_v x_move rfl ?_
    refine EL_v x_move rfl ?_
    refine EL_v (x_indexZ1 (i := bid + 1) (z := (bid : Int) + 1) rfl rfl (by omega) (tab_sl rfl) (by omega)) rfl ?_
    refine EL_v (x_load rfl (tab_one rfl) (by with_reducible assumption)) rfl ?_
    refine EL_v x_assign rfl ?_
    refine EL_nil ?_
    refine thenQ_normal ?_
    refine EC_seq ?_
    refine EC_region ?_
    refine EL_v x_move rfl ?_
    refine EL_v x_move rfl ?_
    refine EL_v (x_bslice1 (v := (L.bp bid)) rfl rfl Try.underlying74 (by kernel_rfl) (z := (.pointer none)) rfl) rfl ?_
    change EL _ _ _ _ _ _ (wz.alloc (.cells #[(L.bp bid)] 76))
    have hN6 := heap_alloc_new wz (.cells #[(L.bp bid)] 76)
    have hO6 : ∀ zz, zz < wz.heap.size → (wz.alloc (.cells #[(L.bp bid)] 76)).heap[zz]? = wz.heap[zz]? := fun _ hi => Below.heap_alloc _ _ _ hi
    have hZ6 := size_alloc wz (.cells #[(L.bp bid)] 76)
    have hB6 := (Below.refl wz.heap.size wz).alloc (Nat.le_refl _) (.cells #[(L.bp bid)] 76)
    have hK6 := Keep.alloc wz (.cells #[(L.bp bid)] 76)
    generalize wz.alloc (.cells #[(L.bp bid)] 76) = w6 at hN6 hO6 hZ6 hB6 hK6 ⊢
    have hl6 := hl.below hFok hB6
    refine EL_append1 (hl6.rws.row 0 (by omega)) (cell_block hN6 rfl) rfl (by show (List.length (List.map L.bp lo) + 1) * _ ≤ _; rw [List.length_map]; omega) (by decide) (by have := hl6.bel.size; omega) Try.underlying74 info76 rfl rfl rfl rfl ?_
    intro v7 w7 hrow7 hgr7 hwh7
    have hl7 := hl6.push hFok (s := 0) (by omega) (u := L.bp bid) hrow7 hgr7 hwh7 (ov' := v7) (zv' := zv) (sv' := sv) (lo' := lo ++ [bid]) (lz' := lz) (ls' := ls) (fun i hi => by rcases i with _|_|_|_|i <;> first | rfl | omega) (fun i hi => by rcases i with _|_|_|_|i <;> first | rfl | exact List.map_append .. | omega)
    refine EL_v x_assign rfl ?_
    refine EL_nil ?_
    refine thenQ_normal ?_
    refine EC_seq ?_
    refine EC_region ?_
    refine EL_v x_move rfl ?_
    refine EL_v x_move rfl ?_
    refine EL_v (x_indexZ1 (i := bid + 1) (z := (bid : Int) + 1) rfl rfl (by omega) (tab_sl rfl) (by omega)) rfl ?_
    refine EL_s (x_store rfl rfl rfl (tab_size1 rfl) (cell_block (o := 0 + (bid + 1)) hl7.sch (by rw [Nat.zero_add]; exact bools_get _ (by omega))) (free_block hl7.sch)) rfl ?_
    refine EL_nil ?_
    refine thenQ_normal ?_
    have hl8 := hl7.setSch hFok (bid + 1)
    change EC _ _ _ _ _ (w7.setCell ⟨F.SCH, 0 + (bid + 1), none⟩ (.bool true))
    generalize w7.setCell ⟨F.SCH, 0 + (bid + 1), none⟩ (.bool true) = W at hl8 ⊢
    refine EC_cut (fun e wz => ∃ lo ov Sch, AtD e DS [(0, L.fp), (3, ov), (4, .slice (some ⟨F.SCH, 0, none⟩) F.m F.m), (5, .slice (some ⟨F.IDB, 0, none⟩) F.m F.m), (6, .slice (some ⟨F.IND, 0, none⟩) F.m F.m), (7, .pointer (some ⟨F.S1, 0, none⟩)), (8, zv), (9, sv), (10, .pointer (some ⟨F.S2, 0, none⟩)), (25, L.bp bid)] ∧ LS L w F wz ov zv sv dv lo lz ls ds sp ind Sch ∧ PL g.nb lo lz ls ds Sch ∧ lz.length + ls.length + 2 ≤ 9 + 2 * lo.length ∧ lo.head? = some 0 ∧ (∀ x, x < g.nb → x ∉ lo → x ∈ lz ∨ x ∈ ds) ∧ g.nb - lo.length < n) ⟨lo ++ [bid], v7, _, at_ofD rfl ⟨rfl, rfl, rfl, rfl, rfl, rfl, rfl, rfl, rfl, rfl, trivial⟩, hl8, hp.take hbid hnin, by rw [List.length_append]; have : [bid].length = 1 := rfl; omega, ?_, fun x hx hn2 => ?_, ?_⟩ ?_
    · rcases hhd with ⟨h1, h2⟩ | h1
      · rw [h1, h2]; rfl
      · cases lo with
        | nil => cases h1
        | cons a r => exact h1
    · rcases hcov x hx fun h1 => hn2 (List.mem_append.2 (.inl h1)) with h1 | h1
      · exact absurd (List.mem_append.2 (.inr (by simpa using h1))) hn2
      · exact h1
    · rw [List.length_append]
      have : [bid].length = 1 := rfl
      have := hp.room hbid hnin
      omega
    clear hl hp hnin hhd hcov hn hcn hplen hlo hib hl8 hl7 hrow7 hgr7 hwh7 hl6 hN6 hO6 hZ6 hB6 hK6
    rintro e wz ⟨lo, ov, Sch, ⟨t, rfl⟩, hl, hp, hplen, hhd, hcov, hm⟩
    have hgr := hgK hl.bel
    have hcn := hp.cnth
    have hlo : (lo.map L.bp).length = lo.length := List.length_map ..
    have hfb := hgr.fBlocks
    obtain ⟨fa, fc, hfv⟩ := hgr.fblocksV
    rw [hfv] at hfb
    obtain ⟨oa, oc, hov0⟩ := row_slice (hl.rws.row 0 (by omega))
    have hov : ov = .slice oa (lo.map L.bp).length oc := hov0
    clear hov0
    rw [hlo] at hov
    subst hov
    refine EC_seq ?_
    refine EC_seq ?_
    refine EC_region ?_
    refine EL_v x_move rfl ?_
    refine EL_v (x_len rfl (tab_sl rfl)) rfl ?_
    refine EL_v x_move rfl ?_
    refine EL_v (x_nil rfl) rfl ?_
    refine EL_v (x_field rfl (tab_fld rfl)) rfl ?_
    refine EL_v (x_load rfl (tab_one rfl) (by with_reducible assumption)) rfl ?_
    refine EL_v (x_len rfl (tab_sl rfl)) rfl ?_
    refine EL_v (x_eql rfl rfl) rfl ?_
    refine EL_nil ?_
    refine thenQ_normal ?_
    refine EC_if rfl rfl (fun heq => ?_) (fun hne => ?_)
    · refine EC_exit ?_
      refine thenQ_exit ?_
      refine blockQ_miss rfl ?_
      refine loopQ_exit ?_
      refine blockQ_hit ?_
      have heq : lo.length = g.nb := by omega
      exact orN_in ⟨lo, _, zv, sv, dv, lz, ls, ds, sp, ind, Sch, at_ofD rfl ⟨rfl, rfl, trivial⟩, hl, hp, heq, hhd⟩
    refine EC_skip ?_
    refine thenQ_normal ?_
    have hne : lo.length < g.nb := by omega
    generalize Value.slice oa lo.length oc = ov at hl ⊢
    -- the ways out of the block
    refine EC_seq_cutQ (fun e wz => ∃ zv sv dv lz ls ds sp ind, AtD e DS [(0, L.fp), (3, ov), (4, .slice (some ⟨F.SCH, 0, none⟩) F.m F.m), (5, .slice (some ⟨F.IDB, 0, none⟩) F.m F.m), (6, .slice (some ⟨F.IND, 0, none⟩) F.m F.m), (7, .pointer (some ⟨F.S1, 0, none⟩)), (8, zv), (9, sv), (10, .pointer (some ⟨F.S2, 0, none⟩)), (25, L.bp bid)] ∧ LS L w F wz ov zv sv dv lo lz ls ds sp ind Sch ∧ PL g.nb lo lz ls ds Sch ∧ (∀ x, x < g.nb → x ∉ lo → x ∈ lz ∨ x ∈ ds)) ?_ ?_
    · obtain ⟨sa, sc, hsv⟩ := hgr.succsV hbid
      have hsu := hgr.bSuccs hbid
      rw [hsv] at hsu
      have hs2 := (ok.succs bid hbid).1
      refine EC_seq ?_
      refine EC_region ?_
      refine EL_v x_move rfl ?_
      refine EL_v (x_nil rfl) rfl ?_
      refine EL_v (x_field rfl (tab_fld rfl)) rfl ?_
      refine EL_v (x_load rfl (tab_one rfl) (by with_reducible assumption)) rfl ?_
      refine EL_v (x_len rfl (tab_sl rfl)) rfl ?_
      refine EL_v (x_sub64 rfl rfl (by omega)) rfl ?_
      refine EL_v x_assign rfl ?_
      refine EL_nil ?_
      refine thenQ_normal ?_
      refine EC_block ?_
      refine EC_loop (fun m e wz => ∃ j zv sv dv lz ls ds sp ind, j ≤ (g.succs bid).length ∧ AtD e DS [(0, L.fp), (3, ov), (4, .slice (some ⟨F.SCH, 0, none⟩) F.m F.m), (5, .slice (some ⟨F.IDB, 0, none⟩) F.m F.m), (6, .slice (some ⟨F.IND, 0, none⟩) F.m F.m), (7, .pointer (some ⟨F.S1, 0, none⟩)), (8, zv), (9, sv), (10, .pointer (some ⟨F.S2, 0, none⟩)), (25, L.bp bid), (26, .int .i64 ((j : Int) - 1))] ∧ LS L w F wz ov zv sv dv lo lz ls ds sp ind Sch ∧ PL g.nb lo lz ls ds Sch ∧ (∀ x, x < g.nb → x ∉ lo → x ∈ lz ∨ x ∈ ds) ∧ lz.length + ls.length + j ≤ 9 + 2 * lo.length ∧ m = j) (g.succs bid).length
        ⟨(g.succs bid).length, zv, sv, dv, lz, ls, ds, sp, ind, Nat.le_refl _, at_ofD rfl ⟨rfl, rfl, rfl, rfl, rfl, rfl, rfl, rfl, rfl, rfl, rfl, trivial⟩, hl, hp, hcov, by omega, rfl⟩ ?_
      clear hl hp hcov hplen hfb hsu hgr
      clear zv sv dv lz ls ds sp ind wz
      rintro m e wz ⟨j, zv, sv, dv, lz, ls, ds, sp, ind, hj, ⟨t, rfl⟩, hl, hp, hcov, hplen, hmj⟩
      refine EC_seq ?_
      refine EC_seq ?_
      refine EC_region ?_
      refine EL_v x_move rfl ?_
      refine EL_v (x_geq rfl rfl) rfl ?_
      refine EL_nil ?_
      refine thenQ_normal ?_
      refine EC_if rfl rfl (fun hge => ?_) (fun hlt => ?_)
      · obtain ⟨i, rfl⟩ : ∃ i, j = i + 1 := ⟨j - 1, by omega⟩
        refine EC_skip ?_
        refine thenQ_normal ?_
        have hgr := hgK hl.bel
        have hsu := hgr.bSuccs hbid
        obtain ⟨sb, scap, hse, _, hsc, _⟩ := hgr.succsE (k := i) hbid (by omega)
        rw [hse] at hsu
        obtain ⟨c, hcd⟩ : ∃ c, (g.succs bid).getD i 0 = c := ⟨_, rfl⟩
        rw [hcd] at hsc
        have hc : c < g.nb := by
          have h1 : i < (g.succs bid).length := by omega
          rw [List.getD_eq_getElem?_getD, List.getElem?_eq_getElem h1] at hcd
          have h2 : (g.succs bid)[i] = c := hcd
          rw [← h2]
          exact (ok.succs bid hbid).2 _ (List.getElem_mem h1)
        have hsc : wz.cell? ⟨sb, 0 + i + 0, none⟩ = some (L.bp c) := hsc
        have hIDc := hgr.bID hc
        have hin : wz.cell? ⟨F.IND, 0 + (c + 1), none⟩ = some (.int .i64 (ind (c + 1))) := cell_block hl.ind (by rw [Nat.zero_add]; exact cellsOf_get _ (by omega))
        obtain ⟨z, hz⟩ : ∃ z, IntKind.wrap .i64 (ind (c + 1) - 1) = z := ⟨_, rfl⟩
        refine EC_seq ?_
        refine EC_block ?_
        refine EC_seq ?_
        refine EC_region ?_
        refine EL_v x_move rfl ?_
        refine EL_v (x_nil rfl) rfl ?_
        refine EL_v (x_field rfl (tab_fld rfl)) rfl ?_
        refine EL_v (x_load rfl (tab_one rfl) (by with_reducible assumption)) rfl ?_
        refine EL_v x_move rfl ?_
        refine EL_v (x_indexZ1 (i := i) (z := ((i + 1 : Nat) : Int) - 1) rfl rfl (by omega) (tab_sl rfl) (by omega)) rfl ?_
        refine EL_v (x_field rfl (tab_fld rfl)) rfl ?_
        refine EL_v (x_load rfl (tab_one rfl) (by with_reducible assumption)) rfl ?_
        refine EL_v x_assign rfl ?_
        refine EL_nil ?_
        refine thenQ_normal ?_
        refine EC_seq ?_
        refine EC_region ?_
        refine EL_v x_move rfl ?_
        refine EL_v x_move rfl ?_
        refine EL_v (x_nil rfl) rfl ?_
        refine EL_v (x_field rfl (tab_fld rfl)) rfl ?_
        refine EL_v (x_load rfl (tab_one rfl) (by with_reducible assumption)) rfl ?_
        refine EL_v (x_indexZ1 (i := c + 1) (z := (c : Int) + 1) rfl rfl (by omega) (tab_sl rfl) (by omega)) rfl ?_
        refine EL_v (x_load rfl (tab_one rfl) (by with_reducible assumption)) rfl ?_
        refine EL_v (x_sub rfl rfl hz) rfl ?_
        refine EL_v (x_indexZ1 (i := c + 1) (z := (c : Int) + 1) rfl rfl (by omega) (tab_sl rfl) (by omega)) rfl ?_
        refine EL_s (x_store rfl rfl rfl (tab_size1 rfl) (cell_block (o := 0 + (c + 1)) hl.ind (by rw [Nat.zero_add]; exact cellsOf_get _ (by omega))) (free_block hl.ind)) rfl ?_
        refine EL_nil ?_
        refine thenQ_normal ?_
        have hl1 := hl.setInd hFok (c + 1) z
        change EC _ _ _ _ _ (wz.setCell ⟨F.IND, 0 + (c + 1), none⟩ (.int .i64 z))
        generalize wz.setCell ⟨F.IND, 0 + (c + 1), none⟩ (.int .i64 z) = W at hl1 ⊢
        clear hl hgr hsu hsc hIDc hin
        have hin : W.cell? ⟨F.IND, 0 + (c + 1), none⟩ = some (.int .i64 z) := (cell_block hl1.ind (by rw [Nat.zero_add]; exact cellsOf_get _ (by omega))).trans (by show some (Value.int .i64 (if c + 1 = c + 1 then z else ind (c + 1))) = _; rw [if_pos rfl])
        have hIDc := (hgK hl1.bel).bID hc
        refine EC_seq ?_
        refine EC_region ?_
        refine EL_v x_move rfl ?_
        refine EL_v x_move rfl ?_
        refine EL_v (x_nil rfl) rfl ?_
        refine EL_v (x_field rfl (tab_fld rfl)) rfl ?_
        refine EL_v (x_load rfl (tab_one rfl) (by with_reducible assumption)) rfl ?_
        refine EL_v (x_indexZ1 (i := c + 1) (z := (c : Int) + 1) rfl rfl (by omega) (tab_sl rfl) (by omega)) rfl ?_
        refine EL_v (x_load rfl (tab_one rfl) (by with_reducible assumption)) rfl ?_
        refine EL_v (x_eql rfl rfl) rfl ?_
        refine EL_nil ?_
        refine thenQ_normal ?_
        refine EC_if rfl rfl (fun hz0 => ?_) (fun hnz => ?_)
        · refine EC_seq ?_
          refine EC_region ?_
          refine EL_v x_move rfl ?_
          refine EL_v x_move rfl ?_
          refine EL_v (x_nil rfl) rfl ?_
          refine EL_v (x_field rfl (tab_fld rfl)) rfl ?_
          refine EL_v (x_load rfl (tab_one rfl) (by with_reducible assumption)) rfl ?_
          refine EL_c (x_call Try.func59 rfl rfl rfl rfl) rfl (remove_ret hl1.pos (x := c) (by rw [f9]; omega)) ?_
          rintro _ w8 ⟨dv', ds', sp', hss, hsub, hwh, ho⟩
          have hl := hl1.posTo hFok hss (.inl hwh) ho
          clear hl1 hin hIDc
          have hIDc := (hgK hl.bel).bID hc
          have hd' : ∀ x ∈ ds', x < g.nb := fun x hx => by
            have := hl.pos.lt x hx
            omega
          refine EL_nil ?_
          refine thenQ_normal ?_
          refine EC_region ?_
          refine EL_v x_move rfl ?_
          refine EL_v x_move rfl ?_
          refine EL_v (x_nil rfl) rfl ?_
          refine EL_v (x_field rfl (tab_fld rfl)) rfl ?_
          refine EL_v (x_load rfl (tab_one rfl) (by with_reducible assumption)) rfl ?_
          refine EL_v (x_bslice1 (v := (idv c)) rfl rfl Try.underlying116 (by kernel_rfl) (z := (.int .i32 0)) rfl) rfl ?_
          change EL _ _ _ _ _ _ (w8.alloc (.cells #[(idv c)] 77))
          have hN6 := heap_alloc_new w8 (.cells #[(idv c)] 77)
          have hO6 : ∀ zz, zz < w8.heap.size → (w8.alloc (.cells #[(idv c)] 77)).heap[zz]? = w8.heap[zz]? := fun _ hi => Below.heap_alloc _ _ _ hi
          have hZ6 := size_alloc w8 (.cells #[(idv c)] 77)
          have hB6 := (Below.refl w8.heap.size w8).alloc (Nat.le_refl _) (.cells #[(idv c)] 77)
          have hK6 := Keep.alloc w8 (.cells #[(idv c)] 77)
          generalize w8.alloc (.cells #[(idv c)] 77) = w6 at hN6 hO6 hZ6 hB6 hK6 ⊢
          have hl6 := hl.below hFok hB6
          refine EL_append1 (hl6.rws.row 1 (by omega)) (cell_block hN6 rfl) rfl (by show (List.length (List.map idv lz) + 1) * _ ≤ _; rw [List.length_map]; omega) (by decide) (by have := hl6.bel.size; omega) Try.underlying116 info77 rfl rfl rfl rfl ?_
          intro v7 w7 hrow7 hgr7 hwh7
          have hl7 := hl6.push hFok (s := 1) (by omega) (u := idv c) hrow7 hgr7 hwh7 (ov' := ov) (zv' := v7) (sv' := sv) (lo' := lo) (lz' := lz ++ [c]) (ls' := ls) (fun i hi => by rcases i with _|_|_|_|i <;> first | rfl | omega) (fun i hi => by rcases i with _|_|_|_|i <;> first | rfl | exact List.map_append .. | omega)
          refine EL_v x_assign rfl ?_
          refine EL_nil ?_
          refine blockQ_normal ?_
          refine thenQ_normal ?_
          refine EC_region ?_
          refine EL_v x_move rfl ?_
          refine EL_v (x_sub64 rfl rfl (by omega)) rfl ?_
          refine EL_v x_assign rfl ?_
          refine EL_nil ?_
          have hlc : (lz ++ [c]).length = lz.length + 1 := by rw [List.length_append]; rfl
          refine loopQ_next i (by omega) ⟨i, v7, sv, dv', lz ++ [c], ls, ds', sp', _, by omega, at_ofD rfl ⟨rfl, rfl, rfl, rfl, rfl, rfl, rfl, rfl, rfl, rfl, congrArg (Value.int .i64) (by omega), trivial⟩, hl7, hp.re (fun x hx => ?_) hp.slt hd' (by omega), fun x hx hn => ?_, by omega, rfl⟩
          · rcases List.mem_append.1 hx with hx | hx
            · exact hp.zlt x hx
            · have : x = c := by simpa using hx
              omega
          · by_cases e : x = c
            · left; subst e; simp
            · rcases hcov x hx hn with h1 | h1
              · left; exact List.mem_append.2 (.inl h1)
              · right; exact hsub x h1 e
        · refine EC_region ?_
          have hl := hl1
          clear hl1
          refine EL_v x_move rfl ?_
          refine EL_v x_move rfl ?_
          refine EL_v (x_nil rfl) rfl ?_
          refine EL_v (x_field rfl (tab_fld rfl)) rfl ?_
          refine EL_v (x_load rfl (tab_one rfl) (by with_reducible assumption)) rfl ?_
          refine EL_v (x_bslice1 (v := (idv c)) rfl rfl Try.underlying116 (by kernel_rfl) (z := (.int .i32 0)) rfl) rfl ?_
          change EL _ _ _ _ _ _ (W.alloc (.cells #[(idv c)] 77))
          have hN6 := heap_alloc_new W (.cells #[(idv c)] 77)
          have hO6 : ∀ zz, zz < W.heap.size → (W.alloc (.cells #[(idv c)] 77)).heap[zz]? = W.heap[zz]? := fun _ hi => Below.heap_alloc _ _ _ hi
          have hZ6 := size_alloc W (.cells #[(idv c)] 77)
          have hB6 := (Below.refl W.heap.size W).alloc (Nat.le_refl _) (.cells #[(idv c)] 77)
          have hK6 := Keep.alloc W (.cells #[(idv c)] 77)
          generalize W.alloc (.cells #[(idv c)] 77) = w6 at hN6 hO6 hZ6 hB6 hK6 ⊢
          have hl6 := hl.below hFok hB6
          refine EL_append1 (hl6.rws.row 2 (by omega)) (cell_block hN6 rfl) rfl (by show (List.length (List.map idv ls) + 1) * _ ≤ _; rw [List.length_map]; omega) (by decide) (by have := hl6.bel.size; omega) Try.underlying116 info77 rfl rfl rfl rfl ?_
          intro v7 w7 hrow7 hgr7 hwh7
          have hl7 := hl6.push hFok (s := 2) (by omega) (u := idv c) hrow7 hgr7 hwh7 (ov' := ov) (zv' := zv) (sv' := v7) (lo' := lo) (lz' := lz) (ls' := ls ++ [c]) (fun i hi => by rcases i with _|_|_|_|i <;> first | rfl | omega) (fun i hi => by rcases i with _|_|_|_|i <;> first | rfl | exact List.map_append .. | omega)
          refine EL_v x_assign rfl ?_
          refine EL_nil ?_
          refine blockQ_normal ?_
          refine thenQ_normal ?_
          refine EC_region ?_
          refine EL_v x_move rfl ?_
          refine EL_v (x_sub64 rfl rfl (by omega)) rfl ?_
          refine EL_v x_assign rfl ?_
          refine EL_nil ?_
          have hlc : (ls ++ [c]).length = ls.length + 1 := by rw [List.length_append]; rfl
          refine loopQ_next i (by omega) ⟨i, zv, v7, dv, lz, ls ++ [c], ds, sp, _, by omega, at_ofD rfl ⟨rfl, rfl, rfl, rfl, rfl, rfl, rfl, rfl, rfl, rfl, congrArg (Value.int .i64) (by omega), trivial⟩, hl7, hp.re hp.zlt (fun x hx => ?_) hp.dlt (by omega), hcov, by omega, rfl⟩
          rcases List.mem_append.1 hx with hx | hx
          · exact hp.slt x hx
          · have : x = c := by simpa using hx
            omega
      · refine EC_exit ?_
        refine thenQ_exit ?_
        refine loopQ_exit ?_
        refine blockQ_hit ?_
        exact orN_in ⟨zv, sv, dv, lz, ls, ds, sp, ind, at_ofD rfl ⟨rfl, rfl, rfl, rfl, rfl, rfl, rfl, rfl, rfl, rfl, trivial⟩, hl, hp, hcov⟩
    clear hl hp hcov hplen hfb hgr
    clear zv sv dv lz ls ds sp ind wz
    rintro e wz ⟨zv, sv, dv, lz, ls, ds, sp, ind, ⟨t, rfl⟩, hl, hp, hcov⟩
    -- the likely one
    refine EC_seq ?_
    refine EC_region ?_
    refine EL_v x_assign rfl ?_
    refine EL_nil ?_
    refine thenQ_normal ?_
    refine EC_seq_cutQ (fun e wx => wx = wz ∧ ∃ p, AtD e DS [(0, L.fp), (3, ov), (4, .slice (some ⟨F.SCH, 0, none⟩) F.m F.m), (5, .slice (some ⟨F.IDB, 0, none⟩) F.m F.m), (6, .slice (some ⟨F.IND, 0, none⟩) F.m F.m), (7, .pointer (some ⟨F.S1, 0, none⟩)), (8, zv), (9, sv), (10, .pointer (some ⟨F.S2, 0, none⟩)), (28, p)] ∧ (p = .pointer none ∨ ∃ c, c < g.nb ∧ p = L.bp c)) ?_ ?_
    · have hgr := hgK hl.bel
      have hLk := hgr.bLikely hbid
      have hsu := hgr.bSuccs hbid
      have hlk := ok.likely bid hbid
      refine EC_seq ?_
      refine EC_region ?_
      refine EL_v x_move rfl ?_
      refine EL_v (x_nil rfl) rfl ?_
      refine EL_v (x_field rfl (tab_fld rfl)) rfl ?_
      refine EL_v (x_load rfl (tab_one rfl) (by with_reducible assumption)) rfl ?_
      refine EL_nil ?_
      refine thenQ_normal ?_
      refine EC_block ?_
      refine EC_seq ?_
      refine EC_region ?_
      refine EL_v (x_eql rfl rfl) rfl ?_
      refine EL_v x_assign rfl ?_
      refine EL_nil ?_
      refine thenQ_normal ?_
      refine EC_if rfl rfl (fun h1 => ?_) (fun h1 => ?_)
      · have h0 := hlk.1 h1
        obtain ⟨sb, scap, hse, _, hsc, _⟩ := hgr.succsE (k := 0) hbid h0
        rw [hse] at hsu
        have hc : (g.succs bid).getD 0 0 < g.nb := by
          rw [List.getD_eq_getElem?_getD, List.getElem?_eq_getElem h0]
          exact (ok.succs bid hbid).2 _ (List.getElem_mem h0)
        have hsc : wz.cell? ⟨sb, 0 + 0, none⟩ = some (L.bp ((g.succs bid).getD 0 0)) := hsc
        have hsc2 : wz.cell? ⟨sb, 0, none⟩ = some (L.bp ((g.succs bid).getD 0 0)) := hsc
        refine EC_region ?_
        refine EL_v x_move rfl ?_
        refine EL_v (x_nil rfl) rfl ?_
        refine EL_v (x_field rfl (tab_fld rfl)) rfl ?_
        refine EL_v (x_load rfl (tab_one rfl) (by with_reducible assumption)) rfl ?_
        refine EL_v (x_index1 rfl rfl (tab_sl rfl) (by omega)) rfl ?_
        refine EL_v (x_field rfl (tab_fld rfl)) rfl ?_
        refine EL_v (x_load rfl (tab_one rfl) (by with_reducible assumption)) rfl ?_
        refine EL_v x_assign rfl ?_
        refine EL_nil ?_
        refine blockQ_normal ?_
        exact orN_in ⟨rfl, _, at_ofD rfl ⟨rfl, rfl, rfl, rfl, rfl, rfl, rfl, rfl, rfl, rfl, trivial⟩, .inr ⟨_, hc, rfl⟩⟩
      · refine EC_seq ?_
        refine EC_region ?_
        refine EL_v (x_eql rfl rfl) rfl ?_
        refine EL_v x_assign rfl ?_
        refine EL_nil ?_
        refine thenQ_normal ?_
        refine EC_if rfl rfl (fun h2 => ?_) (fun h2 => ?_)
        · have h0 := hlk.2 h2
          obtain ⟨sb, scap, hse, _, hsc, _⟩ := hgr.succsE (k := 1) hbid h0
          rw [hse] at hsu
          have hc : (g.succs bid).getD 1 0 < g.nb := by
            rw [List.getD_eq_getElem?_getD, List.getElem?_eq_getElem h0]
            exact (ok.succs bid hbid).2 _ (List.getElem_mem h0)
          have hsc : wz.cell? ⟨sb, 0 + 1 + 0, none⟩ = some (L.bp ((g.succs bid).getD 1 0)) := hsc
          refine EC_region ?_
          refine EL_v x_move rfl ?_
          refine EL_v (x_nil rfl) rfl ?_
          refine EL_v (x_field rfl (tab_fld rfl)) rfl ?_
          refine EL_v (x_load rfl (tab_one rfl) (by with_reducible assumption)) rfl ?_
          refine EL_v (x_index1 rfl rfl (tab_sl rfl) (by omega)) rfl ?_
          refine EL_v (x_field rfl (tab_fld rfl)) rfl ?_
          refine EL_v (x_load rfl (tab_one rfl) (by with_reducible assumption)) rfl ?_
          refine EL_v x_assign rfl ?_
          refine EL_nil ?_
          refine blockQ_normal ?_
          exact orN_in ⟨rfl, _, at_ofD rfl ⟨rfl, rfl, rfl, rfl, rfl, rfl, rfl, rfl, rfl, rfl, trivial⟩, .inr ⟨_, hc, rfl⟩⟩
        · refine EC_skip ?_
          refine blockQ_normal ?_
          exact orN_in ⟨rfl, _, at_ofD rfl ⟨rfl, rfl, rfl, rfl, rfl, rfl, rfl, rfl, rfl, rfl, trivial⟩, .inl rfl⟩
    rintro e wx ⟨hwx, p, ⟨t, rfl⟩, hpc⟩
    rw [hwx]
    clear hwx wx
    refine EC_seq_cutQ (fun e wx => wx = wz ∧ AtD e DS [(0, L.fp), (3, ov), (4, .slice (some ⟨F.SCH, 0, none⟩) F.m F.m), (5, .slice (some ⟨F.IDB, 0, none⟩) F.m F.m), (6, .slice (some ⟨F.IND, 0, none⟩) F.m F.m), (7, .pointer (some ⟨F.S1, 0, none⟩)), (8, zv), (9, sv), (10, .pointer (some ⟨F.S2, 0, none⟩))]) ?_ ?_
    · rcases hpc with rfl | ⟨c, hc, rfl⟩
      · refine EC_seq ?_
        refine EC_region ?_
        refine EL_v x_move rfl ?_
        refine EL_v (x_neqpn (p := none) rfl rfl (tab_ptr rfl)) rfl ?_
        refine EL_v x_move rfl ?_
        refine EL_no rfl rfl ?_
        refine EL_no rfl rfl ?_
        refine EL_no rfl rfl ?_
        refine EL_no rfl rfl ?_
        refine EL_no rfl rfl ?_
        refine EL_no rfl rfl ?_
        refine EL_no rfl rfl ?_
        refine EL_no rfl rfl ?_
        refine EL_v (x_pick_f rfl) rfl ?_
        refine EL_nil ?_
        refine thenQ_normal ?_
        refine EC_no rfl rfl ?_
        refine EC_skip ?_
        exact orN_in ⟨rfl, at_ofD rfl ⟨rfl, rfl, rfl, rfl, rfl, rfl, rfl, rfl, rfl, trivial⟩⟩
      · have hIDc := (hgK hl.bel).bID hc
        have hsch : wz.cell? ⟨F.SCH, 0 + (c + 1), none⟩ = some (.bool (Sch (c + 1))) := cell_block hl.sch (by rw [Nat.zero_add]; exact bools_get _ (by omega))
        refine EC_seq ?_
        refine EC_region ?_
        refine EL_v x_move rfl ?_
        refine EL_v (x_neqpn (p := some ⟨L.bb c, 0, none⟩) rfl rfl (tab_ptr rfl)) rfl ?_
        refine EL_v x_move rfl ?_
        refine EL_yes rfl rfl x_move rfl ?_
        refine EL_yes rfl rfl x_move rfl ?_
        refine EL_yes rfl rfl (x_nil rfl) rfl ?_
        refine EL_yes rfl rfl (x_field rfl (tab_fld rfl)) rfl ?_
        refine EL_yes rfl rfl (x_load rfl (tab_one rfl) (by with_reducible assumption)) rfl ?_
        refine EL_yes rfl rfl (x_indexZ1 (i := c + 1) (z := (c : Int) + 1) rfl rfl (by omega) (tab_sl rfl) (by omega)) rfl ?_
        cases hS : Sch (c + 1) with
        | false =>
          rw [hS] at hsch
          have hnin : c ∉ lo := fun h1 => by
            rw [(hp.sch c hc).2 h1] at hS
            cases hS
          refine EL_yes rfl rfl (x_load rfl (tab_one rfl) (by with_reducible assumption)) rfl ?_
          refine EL_yes rfl rfl (x_not rfl) rfl ?_
          refine EL_v (x_pick_t rfl) rfl ?_
          refine EL_nil ?_
          refine thenQ_normal ?_
          refine EC_yes rfl rfl ?_
          refine EC_seq ?_
          refine EC_region ?_
          refine EL_v x_move rfl ?_
          refine EL_v (x_nil rfl) rfl ?_
          refine EL_v (x_field rfl (tab_fld rfl)) rfl ?_
          refine EL_v (x_load rfl (tab_one rfl) (by with_reducible assumption)) rfl ?_
          refine EL_v x_assign rfl ?_
          refine EL_nil ?_
          refine thenQ_normal ?_
          refine EC_exit ?_
          refine orN_exit ?_
          refine blockQ_hit ?_
          refine loopQ_next (g.nb - lo.length) hm ⟨lo, ov, zv, sv, dv, lz, ls, ds, sp, ind, Sch, c, at_ofD rfl ⟨rfl, rfl, rfl, rfl, rfl, rfl, rfl, rfl, rfl, rfl, trivial⟩, hl, hp, hc, hnin, .inr hhd, fun x hx hn => .inr (hcov x hx hn), rfl⟩
        | true =>
          rw [hS] at hsch
          refine EL_yes rfl rfl (x_load rfl (tab_one rfl) (by with_reducible assumption)) rfl ?_
          refine EL_yes rfl rfl (x_not rfl) rfl ?_
          refine EL_v (x_pick_t rfl) rfl ?_
          refine EL_nil ?_
          refine thenQ_normal ?_
          refine EC_no rfl rfl ?_
          refine EC_skip ?_
          exact orN_in ⟨rfl, at_ofD rfl ⟨rfl, rfl, rfl, rfl, rfl, rfl, rfl, rfl, rfl, trivial⟩⟩
    rintro e wx ⟨hwx, t, he⟩
    subst he
    rw [hwx]
    clear hwx wx
    refine EC_seq ?_
    refine EC_region ?_
    refine EL_v x_assign rfl ?_
    refine EL_nil ?_
    refine thenQ_normal ?_
    -- the ones of row 1
    refine EC_seq_cutQ (fun e wx => ∃ _h : wx = wz, ∃ zv lz, AtD e DS [(0, L.fp), (3, ov), (4, .slice (some ⟨F.SCH, 0, none⟩) F.m F.m), (5, .slice (some ⟨F.IDB, 0, none⟩) F.m F.m), (6, .slice (some ⟨F.IND, 0, none⟩) F.m F.m), (7, .pointer (some ⟨F.S1, 0, none⟩)), (8, zv), (9, sv), (10, .pointer (some ⟨F.S2, 0, none⟩))] ∧ LS L w F wz ov zv sv dv lo lz ls ds sp ind Sch ∧ PL g.nb lo lz ls ds Sch ∧ (∀ x, x < g.nb → x ∉ lo → x ∈ ds)) ?_ ?_
    · refine EC_block ?_
      refine EC_loop (fun m e wx => wx = wz ∧ ∃ zv lz, AtD e DS [(0, L.fp), (3, ov), (4, .slice (some ⟨F.SCH, 0, none⟩) F.m F.m), (5, .slice (some ⟨F.IDB, 0, none⟩) F.m F.m), (6, .slice (some ⟨F.IND, 0, none⟩) F.m F.m), (7, .pointer (some ⟨F.S1, 0, none⟩)), (8, zv), (9, sv), (10, .pointer (some ⟨F.S2, 0, none⟩))] ∧ LS L w F wz ov zv sv dv lo lz ls ds sp ind Sch ∧ PL g.nb lo lz ls ds Sch ∧ (∀ x, x < g.nb → x ∉ lo → x ∈ lz ∨ x ∈ ds) ∧ m = lz.length) lz.length ⟨rfl, zv, lz, at_ofD rfl ⟨rfl, rfl, rfl, rfl, rfl, rfl, rfl, rfl, rfl, trivial⟩, hl, hp, hcov, rfl⟩ ?_
      clear hl hp hcov
      clear zv lz
      rintro m e wx ⟨hwx, zv, lz, ⟨t, rfl⟩, hl, hp, hcov, hml⟩
      rw [hwx]
      clear hwx wx
      have hlm : (lz.map idv).length = lz.length := List.length_map ..
      obtain ⟨za, zc, hzv0⟩ := row_slice (hl.rws.row 1 (by omega))
      have hzv : zv = .slice za (lz.map idv).length zc := hzv0
      clear hzv0
      rw [hlm] at hzv
      have hplen := hp.len
      have hcn := hp.cnth
      refine EC_seq ?_
      refine EC_seq ?_
      refine EC_region ?_
      refine EL_v x_move rfl ?_
      refine EL_v (x_len (a := za) (cap := zc) (len := lz.length) (by exact hzv) (tab_sl rfl)) rfl ?_
      refine EL_v (x_gtr rfl rfl) rfl ?_
      refine EL_nil ?_
      refine thenQ_normal ?_
      refine EC_if rfl rfl (fun hgt => ?_) (fun hle => ?_)
      · rcases List.eq_nil_or_concat lz with e0 | ⟨ys, u, e0⟩
        · rw [e0] at hgt
          exact absurd hgt (by decide)
        rw [List.concat_eq_append] at e0
        have hlen1 : lz.length = ys.length + 1 := by rw [e0, List.length_append]; rfl
        obtain ⟨gz, cap, hz1a, hz2, hz3, hz4a, hz5a⟩ := row_form (hl.rws.row 1 (by omega)) (k := ys.length) (by show ys.length < (lz.map idv).length; omega)
        have hz1 : zv = .slice (some ⟨gz, 0, none⟩) (lz.map idv).length cap := hz1a
        clear hz1a
        have hz4 : (lz.map idv).length ≤ cap := hz4a
        clear hz4a
        rw [hlm, hlen1] at hz1
        have hz5 : wz.cell? ⟨gz, 0 + ys.length, none⟩ = some (idv u) := by
          rw [hz5a]
          show some ((lz.map idv)[ys.length]'_) = _
          simp only [e0, List.map_append, List.getElem_append]
          simp
        clear hz5a
        subst e0
        have hu : u < g.nb := hp.zlt u (List.mem_append.2 (.inr (List.mem_singleton.2 rfl)))
        have hsch : wz.cell? ⟨F.SCH, 0 + (u + 1), none⟩ = some (.bool (Sch (u + 1))) := cell_block hl.sch (by rw [Nat.zero_add]; exact bools_get _ (by omega))
        subst hz1
        clear hzv
        have hrow : wz.ownsRow w.heap.size 77 1 (.slice (some ⟨gz, 0, none⟩) ys.length cap) (ys.map idv).length (ys.map idv) := by
          have h1 : wz.ownsRow w.heap.size 77 1 (.slice (some ⟨gz, 0, none⟩) (ys.length + 1) cap) ((ys ++ [u]).map idv).length ((ys ++ [u]).map idv) := hl.rws.row 1 (by omega)
          have e1 : ys.length + 1 = (ys.map idv ++ [idv u]).length := by simp
          rw [List.map_append, e1] at h1
          have h2 := row_pop h1
          rwa [List.length_map] at h2 ⊢
        have hl2 := hl.pop (s := 1) (by omega) (v' := .slice (some ⟨gz, 0, none⟩) ys.length cap) (ys := ys.map idv) hrow rfl (ov' := ov) (zv' := .slice (some ⟨gz, 0, none⟩) ys.length cap) (sv' := sv) (lo' := lo) (lz' := ys) (ls' := ls) (fun i hi => by rcases i with _|_|_|_|i <;> first | rfl | omega) (fun i hi => by rcases i with _|_|_|_|i <;> first | rfl | omega)
        have hp2 : PL g.nb lo ys ls ds Sch := hp.re (fun x hx => hp.zlt x (List.mem_append.2 (.inl hx))) hp.slt hp.dlt (by omega)
        refine EC_skip ?_
        refine thenQ_normal ?_
        refine EC_block ?_
        refine EC_seq ?_
        refine EC_region ?_
        refine EL_v x_move rfl ?_
        refine EL_v x_move rfl ?_
        refine EL_v (x_len rfl (tab_sl rfl)) rfl ?_
        refine EL_v (x_sub (c := (ys.length : Int)) rfl rfl (by rw [IntWalk.i64_in _ (by omega)]; omega)) rfl ?_
        refine EL_v (x_index1 rfl rfl (tab_sl rfl) (by omega)) rfl ?_
        refine EL_v (x_load rfl (tab_one rfl) (by with_reducible assumption)) rfl ?_
        refine EL_v x_assign rfl ?_
        refine EL_nil ?_
        refine thenQ_normal ?_
        refine EC_cut (fun e wx => wx = wz ∧ AtD e DS [(0, L.fp), (3, ov), (4, .slice (some ⟨F.SCH, 0, none⟩) F.m F.m), (5, .slice (some ⟨F.IDB, 0, none⟩) F.m F.m), (6, .slice (some ⟨F.IND, 0, none⟩) F.m F.m), (7, .pointer (some ⟨F.S1, 0, none⟩)), (8, .slice (some ⟨gz, 0, none⟩) (ys.length + 1) cap), (9, sv), (10, .pointer (some ⟨F.S2, 0, none⟩)), (29, idv u)]) ⟨rfl, at_ofD rfl ⟨rfl, rfl, rfl, rfl, rfl, rfl, rfl, rfl, rfl, rfl, trivial⟩⟩ ?_
        rintro e wx ⟨hwx, t, he⟩
        subst he
        rw [hwx]
        clear hwx wx
        refine EC_seq ?_
        refine EC_region ?_
        refine EL_v x_move rfl ?_
        refine EL_v x_move rfl ?_
        refine EL_v (x_len rfl (tab_sl rfl)) rfl ?_
        refine EL_v (x_sub (c := (ys.length : Int)) rfl rfl (by rw [IntWalk.i64_in _ (by omega)]; omega)) rfl ?_
        refine EL_v (x_sliceTo (k := ys.length) Try.underlying116 info77 rfl rfl (by omega)) rfl ?_
        refine EL_v x_assign rfl ?_
        refine EL_nil ?_
        refine thenQ_normal ?_
        refine EC_cut (fun e wx => wx = wz ∧ AtD e DS [(0, L.fp), (3, ov), (4, .slice (some ⟨F.SCH, 0, none⟩) F.m F.m), (5, .slice (some ⟨F.IDB, 0, none⟩) F.m F.m), (6, .slice (some ⟨F.IND, 0, none⟩) F.m F.m), (7, .pointer (some ⟨F.S1, 0, none⟩)), (8, .slice (some ⟨gz, 0, none⟩) ys.length cap), (9, sv), (10, .pointer (some ⟨F.S2, 0, none⟩)), (29, idv u)]) ⟨rfl, at_ofD rfl ⟨rfl, rfl, rfl, rfl, rfl, rfl, rfl, rfl, rfl, rfl, trivial⟩⟩ ?_
        rintro e wx ⟨hwx, t, he⟩
        subst he
        rw [hwx]
        clear hwx wx
        refine EC_seq ?_
        refine EC_region ?_
        refine EL_v x_move rfl ?_
        refine EL_v x_move rfl ?_
        refine EL_v (x_indexZ1 (i := u + 1) (z := (u : Int) + 1) rfl rfl (by omega) (tab_sl rfl) (by omega)) rfl ?_
        cases hS : Sch (u + 1) with
        | false =>
          rw [hS] at hsch
          have hnin : u ∉ lo := fun h1 => by
            rw [(hp.sch u hu).2 h1] at hS
            cases hS
          have hcov2 : ∀ x, x < g.nb → x ∉ lo → x = u ∨ x ∈ ys ∨ x ∈ ds := fun x hx hn => by
            rcases hcov x hx hn with h1 | h1
            · rcases List.mem_append.1 h1 with h1 | h1
              · exact .inr (.inl h1)
              · exact .inl (List.mem_singleton.1 h1)
            · exact .inr (.inr h1)
          refine EL_v (x_load rfl (tab_one rfl) (by with_reducible assumption)) rfl ?_
          refine EL_v (x_not rfl) rfl ?_
          refine EL_nil ?_
          refine thenQ_normal ?_
          refine EC_yes rfl rfl ?_
          refine EC_seq ?_
          refine EC_region ?_
          refine EL_v x_move rfl ?_
          refine EL_v x_assign rfl ?_
          refine EL_nil ?_
          refine thenQ_normal ?_
          refine EC_exit ?_
          refine blockQ_miss rfl ?_
          refine loopQ_exit ?_
          refine blockQ_miss rfl ?_
          refine blockQ_hit ?_
          refine loopQ_next (g.nb - lo.length) hm ⟨lo, ov, .slice (some ⟨gz, 0, none⟩) ys.length cap, sv, dv, ys, ls, ds, sp, ind, Sch, u, at_ofD rfl ⟨rfl, rfl, rfl, rfl, rfl, rfl, rfl, rfl, rfl, rfl, trivial⟩, hl2, hp2, hu, hnin, .inr hhd, hcov2, rfl⟩
        | true =>
          rw [hS] at hsch
          refine EL_v (x_load rfl (tab_one rfl) (by with_reducible assumption)) rfl ?_
          refine EL_v (x_not rfl) rfl ?_
          refine EL_nil ?_
          refine thenQ_normal ?_
          refine EC_no rfl rfl ?_
          refine EC_skip ?_
          refine blockQ_normal ?_
          refine loopQ_next ys.length (by omega) ⟨rfl, _, ys, at_ofD rfl ⟨rfl, rfl, rfl, rfl, rfl, rfl, rfl, rfl, rfl, trivial⟩, hl2, hp2, fun x hx hn => ?_, rfl⟩
          rcases hcov x hx hn with h1 | h1
          · rcases List.mem_append.1 h1 with h1 | h1
            · exact .inl h1
            · have : x = u := List.mem_singleton.1 h1
              exact absurd ((hp.sch x hx).1 (by rw [this]; exact hS)) hn
          · exact .inr h1
      · have e0 : lz = [] := List.length_eq_zero_iff.1 (by omega)
        refine EC_exit ?_
        refine thenQ_exit ?_
        refine loopQ_exit ?_
        refine blockQ_hit ?_
        exact orN_in ⟨rfl, zv, lz, at_ofD rfl ⟨rfl, rfl, rfl, rfl, rfl, rfl, rfl, rfl, rfl, trivial⟩, hl, hp, fun x hx hn => (hcov x hx hn).resolve_left (by rw [e0]; exact fun h1 => (by cases h1))⟩
    clear hl hp hcov
    clear zv lz
    rintro e wx ⟨hwx, zv, lz, ⟨t, rfl⟩, hl, hp, hcov⟩
    rw [hwx]
    clear hwx wx
    -- the ones of row 2
    refine EC_seq_cutQ (fun e wx => ∃ _h : wx = wz, ∃ sv ls, AtD e DS [(0, L.fp), (3, ov), (4, .slice (some ⟨F.SCH, 0, none⟩) F.m F.m), (5, .slice (some ⟨F.IDB, 0, none⟩) F.m F.m), (6, .slice (some ⟨F.IND, 0, none⟩) F.m F.m), (7, .pointer (some ⟨F.S1, 0, none⟩)), (8, zv), (9, sv), (10, .pointer (some ⟨F.S2, 0, none⟩))] ∧ LS L w F wz ov zv sv dv lo lz ls ds sp ind Sch ∧ PL g.nb lo lz ls ds Sch ∧ (∀ x, x < g.nb → x ∉ lo → x ∈ ds)) ?_ ?_
    · refine EC_block ?_
      refine EC_loop (fun m e wx => wx = wz ∧ ∃ sv ls, AtD e DS [(0, L.fp), (3, ov), (4, .slice (some ⟨F.SCH, 0, none⟩) F.m F.m), (5, .slice (some ⟨F.IDB, 0, none⟩) F.m F.m), (6, .slice (some ⟨F.IND, 0, none⟩) F.m F.m), (7, .pointer (some ⟨F.S1, 0, none⟩)), (8, zv), (9, sv), (10, .pointer (some ⟨F.S2, 0, none⟩))] ∧ LS L w F wz ov zv sv dv lo lz ls ds sp ind Sch ∧ PL g.nb lo lz ls ds Sch ∧ (∀ x, x < g.nb → x ∉ lo → x ∈ ds) ∧ m = ls.length) ls.length ⟨rfl, sv, ls, at_ofD rfl ⟨rfl, rfl, rfl, rfl, rfl, rfl, rfl, rfl, rfl, trivial⟩, hl, hp, hcov, rfl⟩ ?_
      clear hl hp hcov
      clear sv ls
      rintro m e wx ⟨hwx, sv, ls, ⟨t, rfl⟩, hl, hp, hcov, hml⟩
      rw [hwx]
      clear hwx wx
      have hlm : (ls.map idv).length = ls.length := List.length_map ..
      obtain ⟨za, zc, hzv0⟩ := row_slice (hl.rws.row 2 (by omega))
      have hzv : sv = .slice za (ls.map idv).length zc := hzv0
      clear hzv0
      rw [hlm] at hzv
      have hplen := hp.len
      have hcn := hp.cnth
      refine EC_seq ?_
      refine EC_seq ?_
      refine EC_region ?_
      refine EL_v x_move rfl ?_
      refine EL_v (x_len (a := za) (cap := zc) (len := ls.length) (by exact hzv) (tab_sl rfl)) rfl ?_
      refine EL_v (x_gtr rfl rfl) rfl ?_
      refine EL_nil ?_
      refine thenQ_normal ?_
      refine EC_if rfl rfl (fun hgt => ?_) (fun hle => ?_)
      · rcases List.eq_nil_or_concat ls with e0 | ⟨ys, u, e0⟩
        · rw [e0] at hgt
          exact absurd hgt (by decide)
        rw [List.concat_eq_append] at e0
        have hlen1 : ls.length = ys.length + 1 := by rw [e0, List.length_append]; rfl
        obtain ⟨gz, cap, hz1a, hz2, hz3, hz4a, hz5a⟩ := row_form (hl.rws.row 2 (by omega)) (k := ys.length) (by show ys.length < (ls.map idv).length; omega)
        have hz1 : sv = .slice (some ⟨gz, 0, none⟩) (ls.map idv).length cap := hz1a
        clear hz1a
        have hz4 : (ls.map idv).length ≤ cap := hz4a
        clear hz4a
        rw [hlm, hlen1] at hz1
        have hz5 : wz.cell? ⟨gz, 0 + ys.length, none⟩ = some (idv u) := by
          rw [hz5a]
          show some ((ls.map idv)[ys.length]'_) = _
          simp only [e0, List.map_append, List.getElem_append]
          simp
        clear hz5a
        subst e0
        have hu : u < g.nb := hp.slt u (List.mem_append.2 (.inr (List.mem_singleton.2 rfl)))
        have hsch : wz.cell? ⟨F.SCH, 0 + (u + 1), none⟩ = some (.bool (Sch (u + 1))) := cell_block hl.sch (by rw [Nat.zero_add]; exact bools_get _ (by omega))
        subst hz1
        clear hzv
        have hrow : wz.ownsRow w.heap.size 77 1 (.slice (some ⟨gz, 0, none⟩) ys.length cap) (ys.map idv).length (ys.map idv) := by
          have h1 : wz.ownsRow w.heap.size 77 1 (.slice (some ⟨gz, 0, none⟩) (ys.length + 1) cap) ((ys ++ [u]).map idv).length ((ys ++ [u]).map idv) := hl.rws.row 2 (by omega)
          have e1 : ys.length + 1 = (ys.map idv ++ [idv u]).length := by simp
          rw [List.map_append, e1] at h1
          have h2 := row_pop h1
          rwa [List.length_map] at h2 ⊢
        have hl2 := hl.pop (s := 2) (by omega) (v' := .slice (some ⟨gz, 0, none⟩) ys.length cap) (ys := ys.map idv) hrow rfl (ov' := ov) (zv' := zv) (sv' := .slice (some ⟨gz, 0, none⟩) ys.length cap) (lo' := lo) (lz' := lz) (ls' := ys) (fun i hi => by rcases i with _|_|_|_|i <;> first | rfl | omega) (fun i hi => by rcases i with _|_|_|_|i <;> first | rfl | omega)
        have hp2 : PL g.nb lo lz ys ds Sch := hp.re hp.zlt (fun x hx => hp.slt x (List.mem_append.2 (.inl hx))) hp.dlt (by omega)
        refine EC_skip ?_
        refine thenQ_normal ?_
        refine EC_block ?_
        refine EC_seq ?_
        refine EC_region ?_
        refine EL_v x_move rfl ?_
        refine EL_v x_move rfl ?_
        refine EL_v (x_len rfl (tab_sl rfl)) rfl ?_
        refine EL_v (x_sub (c := (ys.length : Int)) rfl rfl (by rw [IntWalk.i64_in _ (by omega)]; omega)) rfl ?_
        refine EL_v (x_index1 rfl rfl (tab_sl rfl) (by omega)) rfl ?_
        refine EL_v (x_load rfl (tab_one rfl) (by with_reducible assumption)) rfl ?_
        refine EL_v x_assign rfl ?_
        refine EL_nil ?_
        refine thenQ_normal ?_
        refine EC_cut (fun e wx => wx = wz ∧ AtD e DS [(0, L.fp), (3, ov), (4, .slice (some ⟨F.SCH, 0, none⟩) F.m F.m), (5, .slice (some ⟨F.IDB, 0, none⟩) F.m F.m), (6, .slice (some ⟨F.IND, 0, none⟩) F.m F.m), (7, .pointer (some ⟨F.S1, 0, none⟩)), (8, zv), (9, .slice (some ⟨gz, 0, none⟩) (ys.length + 1) cap), (10, .pointer (some ⟨F.S2, 0, none⟩)), (30, idv u)]) ⟨rfl, at_ofD rfl ⟨rfl, rfl, rfl, rfl, rfl, rfl, rfl, rfl, rfl, rfl, trivial⟩⟩ ?_
        rintro e wx ⟨hwx, t, he⟩
        subst he
        rw [hwx]
        clear hwx wx
        refine EC_seq ?_
        refine EC_region ?_
        refine EL_v x_move rfl ?_
        refine EL_v x_move rfl ?_
        refine EL_v (x_len rfl (tab_sl rfl)) rfl ?_
        refine EL_v (x_sub (c := (ys.length : Int)) rfl rfl (by rw [IntWalk.i64_in _ (by omega)]; omega)) rfl ?_
        refine EL_v (x_sliceTo (k := ys.length) Try.underlying116 info77 rfl rfl (by omega)) rfl ?_
        refine EL_v x_assign rfl ?_
        refine EL_nil ?_
        refine thenQ_normal ?_
        refine EC_cut (fun e wx => wx = wz ∧ AtD e DS [(0, L.fp), (3, ov), (4, .slice (some ⟨F.SCH, 0, none⟩) F.m F.m), (5, .slice (some ⟨F.IDB, 0, none⟩) F.m F.m), (6, .slice (some ⟨F.IND, 0, none⟩) F.m F.m), (7, .pointer (some ⟨F.S1, 0, none⟩)), (8, zv), (9, .slice (some ⟨gz, 0, none⟩) ys.length cap), (10, .pointer (some ⟨F.S2, 0, none⟩)), (30, idv u)]) ⟨rfl, at_ofD rfl ⟨rfl, rfl, rfl, rfl, rfl, rfl, rfl, rfl, rfl, rfl, trivial⟩⟩ ?_
        rintro e wx ⟨hwx, t, he⟩
        subst he
        rw [hwx]
        clear hwx wx
        refine EC_seq ?_
        refine EC_region ?_
        refine EL_v x_move rfl ?_
        refine EL_v x_move rfl ?_
        refine EL_v (x_indexZ1 (i := u + 1) (z := (u : Int) + 1) rfl rfl (by omega) (tab_sl rfl) (by omega)) rfl ?_
        cases hS : Sch (u + 1) with
        | false =>
          rw [hS] at hsch
          have hnin : u ∉ lo := fun h1 => by
            rw [(hp.sch u hu).2 h1] at hS
            cases hS
          skip
          refine EL_v (x_load rfl (tab_one rfl) (by with_reducible assumption)) rfl ?_
          refine EL_v (x_not rfl) rfl ?_
          refine EL_nil ?_
          refine thenQ_normal ?_
          refine EC_yes rfl rfl ?_
          refine EC_seq ?_
          refine EC_region ?_
          refine EL_v x_move rfl ?_
          refine EL_v x_assign rfl ?_
          refine EL_nil ?_
          refine thenQ_normal ?_
          refine EC_exit ?_
          refine blockQ_miss rfl ?_
          refine loopQ_exit ?_
          refine blockQ_miss rfl ?_
          refine blockQ_hit ?_
          refine loopQ_next (g.nb - lo.length) hm ⟨lo, ov, zv, .slice (some ⟨gz, 0, none⟩) ys.length cap, dv, lz, ys, ds, sp, ind, Sch, u, at_ofD rfl ⟨rfl, rfl, rfl, rfl, rfl, rfl, rfl, rfl, rfl, rfl, trivial⟩, hl2, hp2, hu, hnin, .inr hhd, fun x hx hn => .inr (.inr (hcov x hx hn)), rfl⟩
        | true =>
          rw [hS] at hsch
          refine EL_v (x_load rfl (tab_one rfl) (by with_reducible assumption)) rfl ?_
          refine EL_v (x_not rfl) rfl ?_
          refine EL_nil ?_
          refine thenQ_normal ?_
          refine EC_no rfl rfl ?_
          refine EC_skip ?_
          refine blockQ_normal ?_
          refine loopQ_next ys.length (by omega) ⟨rfl, _, ys, at_ofD rfl ⟨rfl, rfl, rfl, rfl, rfl, rfl, rfl, rfl, rfl, trivial⟩, hl2, hp2, hcov, rfl⟩
      · have e0 : ls = [] := List.length_eq_zero_iff.1 (by omega)
        refine EC_exit ?_
        refine thenQ_exit ?_
        refine loopQ_exit ?_
        refine blockQ_hit ?_
        exact orN_in ⟨rfl, sv, ls, at_ofD rfl ⟨rfl, rfl, rfl, rfl, rfl, rfl, rfl, rfl, rfl, trivial⟩, hl, hp, hcov⟩
    clear hl hp hcov
    clear sv ls
    rintro e wx ⟨hwx, sv, ls, ⟨t, rfl⟩, hl, hp, hcov⟩
    rw [hwx]
    clear hwx wx
    -- the ones with ways left
    refine EC_seq_cutQ (fun e wx => ∀ x, x < g.nb → x ∉ lo → False) ?_ ?_
    · refine EC_block ?_
      refine EC_loop (fun m e wz => ∃ dv ds sp, AtD e DS [(0, L.fp), (3, ov), (4, .slice (some ⟨F.SCH, 0, none⟩) F.m F.m), (5, .slice (some ⟨F.IDB, 0, none⟩) F.m F.m), (6, .slice (some ⟨F.IND, 0, none⟩) F.m F.m), (7, .pointer (some ⟨F.S1, 0, none⟩)), (8, zv), (9, sv), (10, .pointer (some ⟨F.S2, 0, none⟩))] ∧ LS L w F wz ov zv sv dv lo lz ls ds sp ind Sch ∧ PL g.nb lo lz ls ds Sch ∧ (∀ x, x < g.nb → x ∉ lo → x ∈ ds) ∧ m = ds.length) ds.length ⟨dv, ds, sp, at_ofD rfl ⟨rfl, rfl, rfl, rfl, rfl, rfl, rfl, rfl, rfl, trivial⟩, hl, hp, hcov, rfl⟩ ?_
      clear hl hp hcov
      clear dv ds sp wz
      rintro m e wz ⟨dv, ds, sp, ⟨t, rfl⟩, hl, hp, hcov, hmd⟩
      have hplen := hp.len
      have hcn := hp.cnth
      refine EC_seq ?_
      refine EC_seq ?_
      refine EC_region ?_
      refine EL_v x_move rfl ?_
      refine EL_c (x_call Try.func60 rfl rfl rfl rfl) rfl (size_ret hl.pos) ?_
      rintro _ wx ⟨rfl, hwx⟩
      rw [hwx]
      clear hwx wx
      refine EL_v (x_gtr rfl rfl) rfl ?_
      refine EL_nil ?_
      refine thenQ_normal ?_
      refine EC_if rfl rfl (fun hgt => ?_) (fun hle => ?_)
      · rcases List.eq_nil_or_concat ds with e0 | ⟨ys, u, e0⟩
        · rw [e0] at hgt
          exact absurd hgt (by decide)
        rw [List.concat_eq_append] at e0
        have hlen1 : ds.length = ys.length + 1 := by rw [e0, List.length_append]; rfl
        subst e0
        have hu : u < g.nb := hp.dlt u (List.mem_append.2 (.inr (List.mem_singleton.2 rfl)))
        refine EC_skip ?_
        refine thenQ_normal ?_
        refine EC_block ?_
        refine EC_seq ?_
        refine EC_region ?_
        refine EL_v x_move rfl ?_
        refine EL_c (x_call Try.func61 rfl rfl rfl rfl) rfl (pop_ret hl.pos) ?_
        rintro _ w8 ⟨rfl, dv', hss, hwh, ho⟩
        have hl2 := hl.posTo hFok hss (.inl hwh) (ho.mono fun j hj => .inl hj)
        have hp2 : PL g.nb lo lz ls ys Sch := hp.re hp.zlt hp.slt (fun x hx => hp.dlt x (List.mem_append.2 (.inl hx))) hp.len
        have hsch : w8.cell? ⟨F.SCH, 0 + (u + 1), none⟩ = some (.bool (Sch (u + 1))) := cell_block hl2.sch (by rw [Nat.zero_add]; exact bools_get _ (by omega))
        refine EL_v x_assign rfl ?_
        refine EL_nil ?_
        refine thenQ_normal ?_
        refine EC_seq ?_
        refine EC_region ?_
        refine EL_v x_move rfl ?_
        refine EL_v x_move rfl ?_
        refine EL_v (x_indexZ1 (i := u + 1) (z := (u : Int) + 1) rfl rfl (by omega) (tab_sl rfl) (by omega)) rfl ?_
        cases hS : Sch (u + 1) with
        | false =>
          rw [hS] at hsch
          have hnin : u ∉ lo := fun h1 => by
            rw [(hp.sch u hu).2 h1] at hS
            cases hS
          refine EL_v (x_load rfl (tab_one rfl) (by with_reducible assumption)) rfl ?_
          refine EL_v (x_not rfl) rfl ?_
          refine EL_nil ?_
          refine thenQ_normal ?_
          refine EC_yes rfl rfl ?_
          refine EC_seq ?_
          refine EC_region ?_
          refine EL_v x_move rfl ?_
          refine EL_v x_assign rfl ?_
          refine EL_nil ?_
          refine thenQ_normal ?_
          refine EC_exit ?_
          refine blockQ_miss rfl ?_
          refine loopQ_exit ?_
          refine blockQ_miss rfl ?_
          refine blockQ_hit ?_
          refine loopQ_next (g.nb - lo.length) hm ⟨lo, ov, zv, sv, dv', lz, ls, ys, sp, ind, Sch, u, at_ofD rfl ⟨rfl, rfl, rfl, rfl, rfl, rfl, rfl, rfl, rfl, rfl, trivial⟩, hl2, hp2, hu, hnin, .inr hhd, fun x hx hn => ?_, rfl⟩
          rcases List.mem_append.1 (hcov x hx hn) with h1 | h1
          · exact .inr (.inr h1)
          · exact .inl (List.mem_singleton.1 h1)
        | true =>
          rw [hS] at hsch
          refine EL_v (x_load rfl (tab_one rfl) (by with_reducible assumption)) rfl ?_
          refine EL_v (x_not rfl) rfl ?_
          refine EL_nil ?_
          refine thenQ_normal ?_
          refine EC_no rfl rfl ?_
          refine EC_skip ?_
          refine blockQ_normal ?_
          refine loopQ_next ys.length (by omega) ⟨dv', ys, sp, at_ofD rfl ⟨rfl, rfl, rfl, rfl, rfl, rfl, rfl, rfl, rfl, trivial⟩, hl2, hp2, fun x hx hn => ?_, rfl⟩
          rcases List.mem_append.1 (hcov x hx hn) with h1 | h1
          · exact h1
          · have : x = u := List.mem_singleton.1 h1
            exact absurd ((hp.sch x hx).1 (by rw [this]; exact hS)) hn
      · have e0 : ds = [] := List.length_eq_zero_iff.1 (by omega)
        refine EC_exit ?_
        refine thenQ_exit ?_
        refine loopQ_exit ?_
        refine blockQ_hit ?_
        refine orN_in fun x hx hn => ?_
        have h1 := hcov x hx hn
        rw [e0] at h1
        cases h1
    rintro e wx hno
    obtain ⟨x, hx, hn⟩ := hp.some hne
    exact (hno x hx hn).elim
  -- the end
  rintro e wz ⟨lo, ov, zv, sv, dv, lz, ls, ds, sp, ind, Sch, ⟨t, rfl⟩, hl, hp, hlen, hhd⟩
  have hgr := hgK hl.bel
  have hfn := hgr.comp .fn
  refine EC_seq ?_
  refine EC_region ?_
  refine EL_v x_move rfl ?_
  refine EL_v (x_nil rfl) rfl ?_
  refine EL_v (x_field rfl (tab_fld rfl)) rfl ?_
  refine EL_s (x_store rfl rfl rfl (tab_size1 rfl) (cell_block (o := 0 + 4) hfn rfl) (free_block hfn)) rfl ?_
  refine EL_nil ?_
  refine thenQ_normal ?_
  have hbelW : Below B wz (wz.setCell ⟨L.fb, 0 + 4, none⟩ (.bool true)) := (Below.refl B wz).setCell hBL _
  have hother : ∀ j, j ≠ L.fb → (wz.setCell ⟨L.fb, 0 + 4, none⟩ (.bool true)).heap[j]? = wz.heap[j]? := fun j hj => Below.heap_setCell _ _ _ _ hj
  change EC _ _ _ _ _ (wz.setCell ⟨L.fb, 0 + 4, none⟩ (.bool true))
  generalize wz.setCell ⟨L.fb, 0 + 4, none⟩ (.bool true) = W at hbelW hother ⊢
  refine EC_seq ?_
  refine EC_region ?_
  refine EL_v x_move rfl ?_
  refine EL_v x_assign rfl ?_
  refine EL_nil ?_
  refine thenQ_normal ?_
  refine EC_ret ?_
  refine post_tmp_d rfl rfl hid fun w' hbw => ⟨lo, ?_, hlen, hp.nd, hp.lt, hhd, fun i hi => ?_, ?_⟩
  · have h1 : wz.ownsRow w.heap.size 76 1 ov (lo.map L.bp).length (lo.map L.bp) := hl.rws.row 0 (by omega)
    rw [List.length_map] at h1
    refine ownsRow_congr h1 fun k e => ?_
    have h2 := hl.rws.lt (i := 0) (by omega) k e
    have h3 := hbelW.size
    exact (hbw.block k (by omega)).trans (hother k (by omega))
  · have h1 := hgr.blk hi
    have h2 := (Array.getElem?_eq_some_iff.1 h1).1
    have h3 := hbelW.size
    refine cell_block ((hbw.block _ (by omega)).trans ((hother _ fun e => ?_).trans h1)) rfl
    have h4 := hgr.comp .fn
    rw [e] at h1
    have h5 := Option.some.inj (h1.symm.trans h4)
    injection h5 with _ h6 _
    exact absurd h6 (by decide)
  · have hBw : B ≤ w.heap.size := by omega
    exact ((hl.bel.mono hBw).trans hbelW).trans (hbw.mono (by have := hbelW.size; have := hl.bel.size; omega))
end Go.Proofs.Yteepnepebilckaa
