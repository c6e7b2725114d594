/- A region that draws its order: all its operations only read, but the last ones, which stand in one order. -/
import Derived.WalkKit
import Derived.StillTail
import Derived.BigQuiet
namespace Go.Proofs.YtbdciilkapgfjaaGreatDoor
open Go

/-- A quiet walk over one world alone is a still one. -/
theorem still_of_quiet {P : Program} {ops : Array Oper} {w : World} {Q : Act → Prop} : ∀ {l : List Oper} {a : Act}, wpQuiet P ops (fun w' => w' = w) Q l a → wpStill P ops w Q l a
  | [], _, h => h
  | o :: rest, a, h => by
    unfold wpQuiet at h
    unfold wpStill
    split
    · rename_i hw
      rw [if_pos hw] at h
      obtain ⟨v, h1, h2⟩ := h
      have h3 := h1 w rfl
      unfold Oper.quietAt Oper.quietUpon at h3
      unfold Oper.still Oper.stillUpon
      have h4 := still_of_quiet h2
      split at h3
      · rename_i heq; rw [heq]; obtain ⟨e1, e2⟩ := h3; subst e2; exact ⟨e1, h4⟩
      · rename_i heq; rw [heq]; obtain ⟨e1, e2⟩ := h3; subst e2; exact ⟨e1, h4⟩
      · rename_i heq; rw [heq]; obtain ⟨e1, e2⟩ := h3; exact ⟨e1, v, e2, h4⟩
      · exact h3.elim
    · rename_i hw
      rw [if_neg hw] at h
      exact still_of_quiet h

/-- A region that draws its order: all its operations but the last ones, which are forced behind them, only read. -/
theorem wp_region_tail {P : Program} {id : Nat} {Q : Exit → Act → World → Prop} {a : Act} {w : World} {l : List Oper} (n : Nat) (hm : P.follows .mixedOrders = true) (hB : Region.lexTailB .any l.toArray n = true)
    (h : wpQuiet P l.toArray (fun w' => w' = w.drew) (fun a' => wpList P l.toArray Q (l.drop n) a' w.drew) (l.take n) a) : (Code.region id l.toArray true).wp P Q a w :=
  wp_region_still_tail n hm hB (still_of_quiet h)
end Go.Proofs.YtbdciilkapgfjaaGreatDoor
