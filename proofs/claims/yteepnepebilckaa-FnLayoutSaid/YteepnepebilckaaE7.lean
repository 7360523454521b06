/- Weaker ends of a drawn region. -/
import Derived.Test.YteepnepebilckaaE6
namespace Go.Eng
open Go
theorem acts_mono {P : Program} {l : List Oper} {e : Env} {i : Nat} {w : World} {K K' : Value → World → Prop} (h : Acts P l e i w K) (hk : ∀ v w, K v w → K' v w) : Acts P l e i w K' := by
  rcases h with ⟨h1, h2⟩ | ⟨h1, h2⟩
  · exact .inl ⟨h1, hk _ _ h2⟩
  · refine .inr ⟨h1, ?_⟩
    rcases h2 with ⟨v, w1, h3, h4⟩ | ⟨w1, h3, h4⟩ | ⟨f, args, w1, S, h3, h4, h5⟩
    · exact .inl ⟨v, w1, h3, hk _ _ h4⟩
    · exact .inr (.inl ⟨w1, h3, hk _ _ h4⟩)
    · exact .inr (.inr ⟨f, args, w1, S, h3, h4, fun v w2 hv => hk _ _ (h5 v w2 hv)⟩)
theorem DL_mono {P : Program} {l : List Oper} {S : World → Prop} {Q : Env → World → Prop} (Φ : Env → World → Prop) : ∀ {r : List (Nat × Bool)} {e : Env} {w : World}, DL P l S Φ r e w → (∀ e w, Φ e w → Q e w) → DL P l S Q r e w
  | [], _, _, h, hq => hq _ _ h
  | (_, false) :: _, _, _, ⟨v, h1, h2⟩, hq => ⟨v, h1, DL_mono Φ h2 hq⟩
  | (_, true) :: _, _, _, h, hq => acts_mono h fun _ _ hk => ⟨hk.1, DL_mono Φ hk.2 hq⟩

end Go.Eng
