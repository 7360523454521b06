/- A row of structs of four cells that grows, in a field of a local struct. -/
import Derived.Test.YteepnepebilckaaD1
import Derived.Test.YteepnepebilckaaE4
namespace Go.Proofs.Yteepnepebilckaa
open Go Go.Eng Go.RowKit

/-- Four cells' plain content. -/
structure Qd where
  x : Int
  y : Int
  l : List Int
  z : Int
instance : Inhabited Qd := ⟨⟨0, 0, [], 0⟩⟩

def q4 (q : Qd) (s : Value) : List Value := [.int .i64 q.x, .int .i64 q.y, s, .int .i64 q.z]
def qflat : List Qd → List Value → List Value
  | q :: l, s :: ss => q4 q s ++ qflat l ss
  | _, _ => []
theorem qflat_app : ∀ {l : List Qd} {ss : List Value} {q : Qd} {s : Value}, ss.length = l.length → qflat (l ++ [q]) (ss ++ [s]) = qflat l ss ++ q4 q s
  | [], [], q, s, _ => by simp [qflat]
  | [], _ :: _, _, _, h => by simp at h
  | _ :: _, [], _, _, h => by simp at h
  | a :: l, b :: ss, q, s, h => by
    show q4 a b ++ qflat (l ++ [q]) (ss ++ [s]) = (q4 a b ++ qflat l ss) ++ q4 q s
    rw [qflat_app (by simpa using h), List.append_assoc]
theorem qflat_len : ∀ {l : List Qd} {ss : List Value}, ss.length = l.length → (qflat l ss).length = l.length * 4
  | [], [], _ => rfl
  | [], _ :: _, h => by simp at h
  | _ :: _, [], h => by simp at h
  | a :: l, b :: ss, h => by
    show (q4 a b ++ qflat l ss).length = _
    rw [List.length_append, qflat_len (by simpa using h)]
    simp [q4]; omega
theorem qflat_get : ∀ {l : List Qd} {ss : List Value} {k j : Nat} {v : Value}, ss.length = l.length → k < l.length → (q4 (l.getD k default) (ss.getD k nilS))[j]? = some v → (qflat l ss)[k * 4 + j]? = some v
  | [], _, k, _, _, _, h, _ => by simp at h
  | _ :: _, [], _, _, _, h, _, _ => by simp at h
  | a :: l, b :: ss, 0, j, v, hs, hk, hv => by
    have hj : j < 4 := by
      have := (List.getElem?_eq_some_iff.1 hv).1
      simpa [q4] using this
    show (q4 a b ++ qflat l ss)[0 * 4 + j]? = some v
    rw [List.getElem?_append_left (by simp [q4]; omega)]
    simpa using hv
  | a :: l, b :: ss, k + 1, j, v, hs, hk, hv => by
    show (q4 a b ++ qflat l ss)[(k + 1) * 4 + j]? = some v
    rw [List.getElem?_append_right (by simp [q4]; omega)]
    have : (k + 1) * 4 + j - (q4 a b).length = k * 4 + j := by simp [q4]; omega
    rw [this]
    exact qflat_get (by simpa using hs) (by simpa using hk) (by simpa using hv)

/-- The slice of a struct of the row: its integers, off the row's own block and off the local struct. -/
def Loose (w : World) (lo X Y : Nat) (o : Option Nat) (s : Value) (l : List Int) : Prop :=
  IntsV w s l ∧ (l = [] ∨ ∀ b, s.ownBlock = some b → b < w.heap.size ∧ lo ≤ b ∧ b ≠ X ∧ b ≠ Y ∧ o ≠ some b)

def QRow (w : World) (base : Nat) (el : TypeId) (lo X Y : Nat) (R : Value) (l : List Qd) : Prop :=
  lo ≤ base ∧ R.ownBlock ≠ some X ∧ R.ownBlock ≠ some Y ∧ ∃ ss : List Value, ss.length = l.length ∧ w.ownsRow base el 4 R l.length (qflat l ss) ∧ ∀ k, k < l.length → Loose w lo X Y R.ownBlock (ss.getD k nilS) (l.getD k default).l

theorem QRow.nil (w : World) (base : Nat) (el : TypeId) (lo X Y : Nat) (h : lo ≤ base) : QRow w base el lo X Y nilS [] :=
  ⟨h, (by intro h; cases h), (by intro h; cases h), [], rfl, ⟨rfl, .inl ⟨rfl, rfl⟩⟩, fun _ h => absurd h (Nat.not_lt_zero _)⟩

theorem Loose.congr {w w' : World} {lo X Y : Nat} {o o' : Option Nat} {s : Value} {l : List Int} (h : Loose w lo X Y o s l)
    (hk : ∀ k, k < w.heap.size → lo ≤ k → k ≠ X → k ≠ Y → o ≠ some k → w'.heap[k]? = w.heap[k]?) (hs : w.heap.size ≤ w'.heap.size) (ho : ∀ k, k < w.heap.size → o ≠ some k → o' ≠ some k) : Loose w' lo X Y o' s l := by
  obtain ⟨⟨a, c, hv, hlc, hl⟩, h2⟩ := h
  rcases h2 with h2 | h2
  · exact ⟨⟨a, c, hv, hlc, .inl h2⟩, .inl h2⟩
  refine ⟨⟨a, c, hv, hlc, ?_⟩, .inr fun b hb => ?_⟩
  · rcases hl with hl | ⟨b, off, ha, hc⟩
    · exact .inl hl
    · refine .inr ⟨b, off, ha, fun k hk' => ?_⟩
      have hb := h2 b (by rw [hv, ha]; rfl)
      rw [World.cell?_of_block (w := w) (hk b hb.1 hb.2.1 hb.2.2.1 hb.2.2.2.1 hb.2.2.2.2)]
      exact hc k hk'
  · have := h2 b hb
    exact ⟨by omega, this.2.1, this.2.2.1, this.2.2.2.1, ho b this.1 this.2.2.2.2⟩

theorem ownsRow_lt {w : World} {base : Nat} {el : TypeId} {size : Nat} {v : Value} {n : Nat} {xs : List Value} (h : w.ownsRow base el size v n xs) : ∀ k, v.ownBlock = some k → base ≤ k ∧ k < w.heap.size := by
  intro k hk
  rcases h.2 with ⟨rfl, _⟩ | ⟨g, cap, cur, rfl, hb, hg, _⟩
  · simp [Value.ownBlock] at hk
  · simp only [Value.ownBlock, Option.some.injEq] at hk
    subst hk
    exact ⟨hb, (Array.getElem?_eq_some_iff.1 hg).1⟩
theorem ownsRow_congr {w w' : World} {base : Nat} {el : TypeId} {size : Nat} {v : Value} {n : Nat} {xs : List Value} (h : w.ownsRow base el size v n xs) (hk : ∀ k, v.ownBlock = some k → w'.heap[k]? = w.heap[k]?) : w'.ownsRow base el size v n xs := by
  refine ⟨h.1, ?_⟩
  rcases h.2 with h2 | ⟨g, cap, cur, rfl, hb, hg, hr⟩
  · exact .inl h2
  · exact .inr ⟨g, cap, cur, rfl, hb, (hk g rfl).trans hg, hr⟩

/-- What changes no block of the row's. -/
theorem QRow.stay {w w' : World} {base : Nat} {el : TypeId} {lo X Y : Nat} {R : Value} {l : List Qd} (h : QRow w base el lo X Y R l)
    (hk : ∀ k, k < w.heap.size → lo ≤ k → k ≠ X → k ≠ Y → w'.heap[k]? = w.heap[k]?) (hs : w.heap.size ≤ w'.heap.size) : QRow w' base el lo X Y R l := by
  obtain ⟨hlo, hX, hY, ss, hl, hrow, hloose⟩ := h
  exact ⟨hlo, hX, hY, ss, hl, ownsRow_congr hrow fun k e => hk k (ownsRow_lt hrow k e).2 (Nat.le_trans hlo (ownsRow_lt hrow k e).1) (fun e2 => hX (e2 ▸ e)) (fun e2 => hY (e2 ▸ e)), fun k hk' => (hloose k hk').congr (fun j h1 h2 h3 h4 _ => hk j h1 h2 h3 h4) hs (fun _ _ h => h)⟩

/-- One struct more, then the store of the slice. -/
theorem QRow.push {w w' : World} {base : Nat} {el : TypeId} {lo X Y : Nat} {R R' : Value} {l : List Qd} {ss : List Value} {q : Qd} {s : Value}
    (hlo : lo ≤ base) (hXR : R.ownBlock ≠ some X) (hYR : R.ownBlock ≠ some Y) (hl : ss.length = l.length) (hloose : ∀ k, k < l.length → Loose w lo X Y R.ownBlock (ss.getD k nilS) (l.getD k default).l)
    (hs : Loose w lo X Y R.ownBlock s q.l) (hrow : w'.ownsRow base el 4 R' (l.length + 1) (qflat l ss ++ q4 q s))
    (hgr : w.grownBy w' R.ownBlock) (hR : R'.ownBlock = R.ownBlock ∨ R'.ownBlock = some w.heap.size) (hX : X < w.heap.size) (hY : Y < w.heap.size) (o : Nat) :
    QRow (w'.setCell ⟨X, o, none⟩ R') base el lo X Y R' (l ++ [q]) := by
  have hRX : R'.ownBlock ≠ some X := by
    rcases hR with e | e
    · rw [e]; exact hXR
    · rw [e]; intro e2; have := Option.some.inj e2; omega
  have hRY : R'.ownBlock ≠ some Y := by
    rcases hR with e | e
    · rw [e]; exact hYR
    · rw [e]; intro e2; have := Option.some.inj e2; omega
  have hsz : w.heap.size ≤ w'.heap.size := hgr.size
  have hk : ∀ k, k < w.heap.size → lo ≤ k → k ≠ X → k ≠ Y → R.ownBlock ≠ some k → (w'.setCell ⟨X, o, none⟩ R').heap[k]? = w.heap[k]? := fun k h1 _ h2 _ h3 => by
    rw [Below.heap_setCell _ _ _ _ h2, hgr.block k h1 (fun e => h3 e.symm)]
  have ho : ∀ k, k < w.heap.size → R.ownBlock ≠ some k → R'.ownBlock ≠ some k := fun k h1 h2 => by
    rcases hR with e | e
    · rw [e]; exact h2
    · rw [e]; intro e2; have := Option.some.inj e2; omega
  have hsz' : w.heap.size ≤ (w'.setCell ⟨X, o, none⟩ R').heap.size := by simpa [World.setCell] using hsz
  refine ⟨hlo, hRX, hRY, ss ++ [s], by simp [hl], ?_, fun k hk' => ?_⟩
  · rw [qflat_app hl]
    rw [List.length_append]
    exact ownsRow_congr hrow fun k e => Below.heap_setCell _ _ _ _ (fun e2 => hRX (by rw [e, e2]))
  · by_cases hlt : k < l.length
    · have h1 : (ss ++ [s]).getD k nilS = ss.getD k nilS := by rw [List.getD_eq_getElem?_getD, List.getElem?_append_left (by omega), ← List.getD_eq_getElem?_getD]
      have h2 : (l ++ [q]).getD k default = l.getD k default := by rw [List.getD_eq_getElem?_getD, List.getElem?_append_left hlt, ← List.getD_eq_getElem?_getD]
      rw [h1, h2]
      exact (hloose k hlt).congr hk hsz' ho
    · have hke : k = l.length := by simp at hk'; omega
      subst hke
      have h1 : (ss ++ [s]).getD l.length nilS = s := by rw [List.getD_eq_getElem?_getD, List.getElem?_append_right (by omega), hl]; simp
      have h2 : (l ++ [q]).getD l.length default = q := by rw [List.getD_eq_getElem?_getD, List.getElem?_append_right (by omega)]; simp
      rw [h1, h2]
      exact hs.congr hk hsz' ho


/-- .. read. -/
theorem QRow.read {w : World} {base : Nat} {el : TypeId} {lo X Y : Nat} {R : Value} {l : List Qd} (h : QRow w base el lo X Y R l) :
    ∃ a c, R = .slice a l.length c ∧ (l = [] ∨ ∃ b o, a = some ⟨b, o, none⟩ ∧ ∀ k, k < l.length → Quad w b (o + k * 4) (l.getD k default).x (l.getD k default).y (l.getD k default).l (l.getD k default).z) := by
  obtain ⟨hlo, hX, hY, ss, hl, hrow, hloose⟩ := h
  rcases hrow.2 with ⟨rfl, h0⟩ | ⟨g, cap, cur, rfl, hb, hg, h1, h2, h3, h4⟩
  · refine ⟨none, 0, by rw [h0], .inl (List.eq_nil_of_length_eq_zero h0)⟩
  · refine ⟨some ⟨g, 0, none⟩, cap, rfl, .inr ⟨g, 0, rfl, fun k hk => ?_⟩⟩
    refine ⟨ss.getD k nilS, fun j v hv => ?_, (hloose k hk).1⟩
    have hj : j < 4 := by simpa using (List.getElem?_eq_some_iff.1 hv).1
    have h5 := qflat_get (j := j) (v := v) hl hk hv
    rw [← h4, List.getElem?_take] at h5
    split at h5
    · rw [cell_of_row w g _ cur el (0, 0) hg]
      rw [Array.getElem?_toList] at h5
      rw [show 0 + k * 4 + j = k * 4 + j by omega]
      exact h5
    · cases h5

/-- A function whose memory lies from a block on. -/
def Own (B : Nat) (w' : World) (v : Value) (f : Fn) : Prop := ∀ w'' : World, (∀ k, B ≤ k → k < w'.heap.size → w''.heap[k]? = w'.heap[k]?) → w'.heap.size ≤ w''.heap.size → FnV w'' v f
theorem Own.at {B : Nat} {w' : World} {v : Value} {f : Fn} (h : Own B w' v f) : FnV w' v f := h w' (fun _ _ _ => rfl) (Nat.le_refl _)
theorem Own.setRow {B : Nat} {w' : World} {v : Value} {f : Fn} (h : Own B w' v f) {c : Nat} (hc : c < B) (cs : Array Value) : FnV (w'.setRow c cs) v f :=
  h _ (fun k hk _ => setRow_other _ _ _ _ (by omega)) (by simp [World.setRow])
theorem below_setRow' {B g : Nat} {w0 w : World} (hb : Below B w0 w) (hBg : B ≤ g) (cs : Array Value) : Below B w0 (w.setRow g cs) :=
  hb.trans ⟨rfl, rfl, rfl, by simp [World.setRow], fun k hk => setRow_other _ _ _ _ (by omega)⟩
/-- Integers are appended. -/
theorem DL_appendInts {P : Program} {l : List Oper} {S : World → Prop} {Q : Env → World → Prop} {r : List (Nat × Bool)} {e : Env} {w : World} {i d : Nat} {s x : Operand} {t el : TypeId} {ty : TypeId} {pos : String} {af : Array Edge} {bytes base : Nat}
    {v : Value} {n : Nat} {xs : List Value} {sa : Option Addr} {sc : Nat} {ys : List Int}
    (hints0 : IntsC w sa ys sc) (hown : w.ownsRow base el 1 v n xs) (hbytes : (n + ys.length) * bytes ≤ 140737488355328) (hb0 : 0 < bytes) (hbase : base ≤ w.heap.size)
    (ho : nthO l i = ⟨some d, .call { callee := .builtin .append, args := #[s, x], argTypes := #[t, t] }, ty, pos, af, none⟩)
    (ht : P.underlying t = some (.slice el)) (hi : (P.info? el).map (fun i => (i.zero, i.size, i.bytes)) = some (some (.int .i64 0), 1, bytes))
    (hs : e.ev s = v) (hx : e.ev x = .slice sa ys.length sc)
    (h : ∀ v' w', w'.ownsRow base el 1 v' (n + ys.length) (xs ++ ys.map (.int .i64)) → w.grownBy w' v.ownBlock → (v'.ownBlock = v.ownBlock ∨ v'.ownBlock = some w.heap.size) → (r = [] ∨ S w') ∧ DL P l S Q r (e.set d v') w') :
    DL P l S Q ((i, true) :: r) e w := by
  have hints := hints0.2
  rcases sa with _ | ad
  · have hy : ys = [] := by
      rcases hints with h | ⟨b, o, h, _⟩
      · exact h
      · cases h
    subst hy
    obtain ⟨h1, h2⟩ := h v w (by simpa using hown) ⟨rfl, rfl, rfl, Nat.le_refl _, fun _ _ _ => rfl⟩ (.inl rfl)
    exact DL_wv ho (x_append_none ht hi hs hown hx) h1 h2
  · refine DL_append (news := ys.map (.int .i64)) (m := ys.length) (c := sc) (ad := ad) hown ?_ ?_ (by simp) hbytes hb0 hbase ho ht hi rfl (by decide) hs hx h
    · intro j u hj
      rcases hints with hy | ⟨b, o, ha, hc⟩
      · subst hy; simp at hj
      · have ha := Option.some.inj ha
        subst ha
        rw [List.getElem?_map] at hj
        cases hyj : ys[j]? with
        | none => rw [hyj] at hj; cases hj
        | some y =>
          rw [hyj] at hj
          have hu : Value.int .i64 y = u := Option.some.inj hj
          have hlt := (List.getElem?_eq_some_iff.1 hyj).1
          rw [Addr.add_lit, ← hu]
          have := hc j hlt
          rw [List.getD_eq_getElem?_getD, hyj] at this
          exact this
    · intro u hu
      obtain ⟨y, _, rfl⟩ := List.mem_map.1 hu
      rfl
theorem ints_of_row {w : World} {base : Nat} {el : TypeId} {v : Value} {l : List Int} (h : w.ownsRow base el 1 v l.length (l.map (.int .i64))) : IntsV w v l := by
  rcases h.2 with ⟨rfl, h0⟩ | ⟨g, cap, cur, rfl, hb, hg, h1, h2, h3, h4⟩
  · exact ⟨none, 0, by rw [h0], Nat.le_of_eq h0, .inl (List.eq_nil_of_length_eq_zero h0)⟩
  · refine ⟨some ⟨g, 0, none⟩, cap, rfl, h1, .inr ⟨g, 0, rfl, fun k hk => ?_⟩⟩
    rw [cell_of_row w g _ cur el (0, 0) hg]
    have h5 : (l.map (Value.int .i64))[k]? = some (.int .i64 (l.getD k 0)) := by
      rw [List.getElem?_map, List.getElem?_eq_getElem hk, List.getD_eq_getElem?_getD, List.getElem?_eq_getElem hk]; rfl
    rw [← h4, List.getElem?_take] at h5
    split at h5
    · rw [Array.getElem?_toList] at h5
      rw [Nat.zero_add]; exact h5
    · cases h5
theorem row_slice {w : World} {base : Nat} {el : TypeId} {size : Nat} {v : Value} {n : Nat} {xs : List Value} (h : w.ownsRow base el size v n xs) : ∃ a c, v = .slice a n c := by
  rcases h.2 with ⟨rfl, h0⟩ | ⟨g, cap, cur, rfl, _⟩
  · exact ⟨none, 0, by rw [h0]⟩
  · exact ⟨_, _, rfl⟩
def vq (v : Vl) : Qd := ⟨v.op, v.blk, v.args, v.aux⟩
def bq (b : Bk) : Qd := ⟨b.kind, b.ctrl, b.succs, b.likely⟩
theorem QRow.vals {w : World} {base : Nat} {el : TypeId} {lo X Y : Nat} {R : Value} {l : List Vl} (h : QRow w base el lo X Y R (l.map vq)) : ValsV w R l := by
  obtain ⟨a, c, hR, h⟩ := h.read
  rw [List.length_map] at hR h
  refine ⟨a, c, hR, ?_⟩
  rcases h with h | ⟨b, o, ha, h⟩
  · exact .inl (by simpa using h)
  · refine .inr ⟨b, o, ha, fun k hk => ?_⟩
    have := h k hk
    rw [List.getD_eq_getElem?_getD, List.getElem?_map, List.getElem?_eq_getElem hk] at this
    rw [List.getD_eq_getElem?_getD, List.getElem?_eq_getElem hk]
    exact this
theorem QRow.blks {w : World} {base : Nat} {el : TypeId} {lo X Y : Nat} {R : Value} {l : List Bk} (h : QRow w base el lo X Y R (l.map bq)) : BlksV w R l := by
  obtain ⟨a, c, hR, h⟩ := h.read
  rw [List.length_map] at hR h
  refine ⟨a, c, hR, ?_⟩
  rcases h with h | ⟨b, o, ha, h⟩
  · exact .inl (by simpa using h)
  · refine .inr ⟨b, o, ha, fun k hk => ?_⟩
    have := h k hk
    rw [List.getD_eq_getElem?_getD, List.getElem?_map, List.getElem?_eq_getElem hk] at this
    rw [List.getD_eq_getElem?_getD, List.getElem?_eq_getElem hk]
    exact this
end Go.Proofs.Yteepnepebilckaa
