/- A part of the proof. -/
import Derived.Test.YtofpdcjgakmlnaaGreatDoorM20
import Derived.Test.YtofpdcjgakmlnaaGreatDoorTypes
import Derived.Test.YtofpdcjgakmlnaaGreatDoorZRow
import Derived.Test.YtofpdcjgakmlnaaGreatDoorZSpread
namespace Go.Proofs.YtofpdcjgakmlnaaGreatDoor
open Go.RowKit

/-- What 'v.([]any)' says of a value of the package. -/
theorem JR.asAnys {w : World} {S : Nat → Prop} {j : J} {v : Value} (h : JR w S j v) :
    (∃ l a cap, j = .arr l ∧ v = .iface 48 (.slice a l.length cap) ∧ ∀ w', (Instr.typeAssert v 20 48 true).run Tryz.prog w' = .ok (.tuple #[.slice a l.length cap, .bool true]) w') ∨
    ((∀ l, j ≠ .arr l) ∧ ∀ w', (Instr.typeAssert v 20 48 true).run Tryz.prog w' = .ok (.tuple #[.slice none 0 0, .bool false]) w') := by
  have h := h.head
  cases j with
  | null => obtain rfl := h; exact Or.inr ⟨(fun l e => by cases e), fun w' => as_nil_anys w'⟩
  | bool b => obtain rfl := h; exact Or.inr ⟨(fun l e => by cases e), fun w' => as_bool_anys _ w'⟩
  | num x =>
    simp only [JHead] at h
    by_cases he : x % 2 = 0
    · rw [if_pos he] at h
      subst h
      exact Or.inr ⟨(fun l e => by cases e), fun w' => as_int_anys _ w'⟩
    · rw [if_neg he] at h
      subst h
      exact Or.inr ⟨(fun l e => by cases e), fun w' => as_float_anys _ w'⟩
  | str s => obtain rfl := h; exact Or.inr ⟨(fun l e => by cases e), fun w' => as_string_anys _ w'⟩
  | arr l => obtain ⟨a, cap, rfl⟩ := h; exact Or.inl ⟨l, a, cap, rfl, rfl, fun w' => as_anys_anys _ w'⟩
  | obj m => obtain ⟨b, rfl⟩ := h; exact Or.inr ⟨(fun l e => by cases e), fun w' => as_map_anys _ w'⟩

theorem news_one (w : World) (v : Value) (t : TypeId) : ∀ j u, [v][j]? = some u → (w.alloc (.cells #[v] t)).cell? ((⟨w.heap.size, 0, none⟩ : Addr).add j) = some u :=
  World.news_of_block (heap_alloc_new w (.cells #[v] t))

theorem ARow.one {lo : Nat} {S : Nat → Prop} {l : List J} {v v' x : Value} {j : J} {xs : List Value} {w w' : World} (h : ARow lo S l v xs w) (hx : JR w S j x)
    (hown : w'.ownsRow lo 20 1 v' (xs.length + 1) (xs ++ [x])) (hg : w.grownBy w' v.ownBlock) (hS : ∀ b, S b → b < lo) (hlo : lo ≤ w.heap.size) : ARow lo S (l ++ [j]) v' (xs ++ [x]) w' := by
  have hsame : Same S w w' := fun b hb => hg.block b (Nat.lt_of_lt_of_le (hS b hb) hlo) (fun e => by have := (h.1.lt b e.symm).1; have := hS b hb; omega)
  have h2 := h.2.1
  refine ⟨by simpa using hown, by simp [h2], fun i hi hx' => ?_⟩
  rcases Nat.lt_or_ge i l.length with hl | hl
  · rw [List.getElem_append_left hl, List.getElem_append_left (by omega)]
    exact (h.2.2 i hl (by omega)).go hsame (fun _ h => h)
  · have h0 : i = l.length := by simp at hi; omega
    subst h0
    have e1 : (l ++ [j])[l.length] = j := by simp
    have e2 : (xs ++ [x])[l.length]'hx' = x := by simp [← h2]
    rw [e1, e2]
    exact hx.go hsame (fun _ h => h)

theorem ARow.below {lo : Nat} {S : Nat → Prop} {l : List J} {v : Value} {xs : List Value} {w w' : World} (h : ARow lo S l v xs w) (hb : Below w.heap.size w w') (hS : ∀ b, S b → b < lo) (hlo : lo ≤ w.heap.size) : ARow lo S l v xs w' :=
  ⟨row_below h.1 hb, h.2.1, fun i hi hx => (h.2.2 i hi hx).go (fun b hb' => hb.block b (Nat.lt_of_lt_of_le (hS b hb') hlo)) (fun _ h => h)⟩
end Go.Proofs.YtofpdcjgakmlnaaGreatDoor
