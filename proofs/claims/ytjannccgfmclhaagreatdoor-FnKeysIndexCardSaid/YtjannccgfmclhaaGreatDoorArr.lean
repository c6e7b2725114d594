/- A row of interface values in memory, and the make of one. -/
import Derived.Test.YtjannccgfmclhaaGreatDoorProg
import Derived.Test.YtjannccgfmclhaaGreatDoorG
import Derived.Deep.OwnRows
namespace Go.Proofs.YtjannccgfmclhaaGreatDoor
open Go.RowKit

/-- Block N holds the cells xs, none of them frozen. -/
def Arr (w : World) (N : Nat) (t : TypeId) (xs : List Value) : Prop := w.heap[N]? = some (.cells xs.toArray t (0, 0))
section
variable {w w' : World} {N : Nat} {t : TypeId} {xs : List Value}
theorem Arr.cell (h : Arr w N t xs) {i : Nat} (hi : i < xs.length) : w.cell? ⟨N, i, none⟩ = some xs[i] := by
  simp [World.cell?, show w.heap[N]? = _ from h, hi]
theorem Arr.fr (h : Arr w N t xs) (i : Nat) : w.frozen? ⟨N, i, none⟩ = false := by simp [World.frozen?, show w.heap[N]? = _ from h]
theorem Arr.lt (h : Arr w N t xs) : N < w.heap.size := by
  rcases Nat.lt_or_ge N w.heap.size with h' | h'
  · exact h'
  · rw [Arr, Array.getElem?_eq_none h'] at h; cases h
theorem Arr.set (h : Arr w N t xs) (i : Nat) (v : Value) : Arr (w.setCell ⟨N, i, none⟩ v) N t (xs.set i v) := by
  have := heap_setCell_same w ⟨N, i, none⟩ v h rfl
  simpa [Arr] using this
theorem Arr.same (h : Arr w N t xs) (hs : w'.heap[N]? = w.heap[N]?) : Arr w' N t xs := hs.trans h
theorem Arr.below {B : Nat} (h : Arr w N t xs) (hb : Below B w w') (hlt : N < B) : Arr w' N t xs := h.same (hb.block N hlt)
end

/-- All blocks from lo on that are there. -/
def New (lo : Nat) (w : World) : Nat → Prop := fun b => lo ≤ b ∧ b < w.heap.size

theorem makeAnys (n : Nat) (hn : n ≤ 400) (w : World) :
    (Instr.makeSlice 40 (.int .i64 (n : Int)) (.int .i64 (n : Int))).run Tryz.prog w = .ok (.slice (some ⟨w.heap.size, 0, none⟩) n n) (w.alloc (.cells (madeCells #[.nilIface] n) 20)) :=
  run_make_row' 40 20 .nilIface 16 Tryz.underlying40 (by kernel_rfl) rfl .i64 .i64 n (by omega) (by omega) w

theorem made_nil (n : Nat) : madeCells #[.nilIface] n = (List.replicate n Value.nilIface).toArray := by
  unfold madeCells
  apply Array.ext
  · simp
  · intro i h1 h2; simp [Nat.mod_one]

theorem arr_made (w : World) (n : Nat) : Arr (w.alloc (.cells (madeCells #[.nilIface] n) 20)) w.heap.size 20 (List.replicate n .nilIface) := by
  rw [made_nil]; exact heap_alloc_at _ _
end Go.Proofs.YtjannccgfmclhaaGreatDoor
