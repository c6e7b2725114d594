/- The two tables of unicode/utf8 lie as the listed variables read. -/
import Derived.Test.YtnaijgdffbfapaaGreatDoorUtf
import Derived.Test.YtnaijgdffbfapaaGreatDoorM1
import Derived.PinnedBridge
namespace Go.Proofs.YtnaijgdffbfapaaGreatDoor
open Go.RowKit Go.Lib

theorem extra : U8Extra Tryz.prog Tryz.laysValid_ren := ⟨by kernel_rfl, by kernel_rfl, by kernel_rfl, by kernel_rfl, by kernel_rfl, by kernel_rfl, by kernel_rfl⟩

/-- The two tables, from what the listed variables read as. -/
theorem tabs_of_reads {w : World} (h3 : VarReads Tryz.prog w "unicode/utf8.first" firstData) (h4 : VarReads Tryz.prog w "unicode/utf8.acceptRanges" acceptData) : Tabs w := by
  have L := Tryz.laysValid; have X := extra
  refine ⟨fun c hc => ?_, fun i hi => ?_⟩
  · obtain ⟨g, t, cs, fuel, p, hg, hty, hvar, hd⟩ := h3
    obtain rfl := Option.some.inj (X.n3.symm.trans hg)
    obtain rfl := Option.some.inj (X.y3.symm.trans hty)
    have hcs := cells_of_tab L.t119 L.t5 X.c5 X.c119 hd
    have := World.var?_cell hg hvar c
    rw [this, ← Array.getElem?_toList, hcs]
    simp [firstTab, hc]
  · obtain ⟨g, t, cs, fuel, p, hg, hty, hvar, hd⟩ := h4
    obtain rfl := Option.some.inj (X.n4.symm.trans hg)
    obtain rfl := Option.some.inj (X.y4.symm.trans hty)
    obtain ⟨fuel', d, q, hdi, he⟩ := array_elem L.t139 hd i hi
    simp only [List.getElem?_map, List.getElem?_range hi, Option.map_some, Option.some.injEq] at hdi
    subst hdi
    rw [X.c138] at he
    have hcs := ints_of_struct L.t138 (fun j f hj => by
      match j, hj with
      | 0, hj => simp at hj; subst hj; exact ⟨L.t5, rfl, X.c5⟩
      | 1, hj => simp at hj; subst hj; exact ⟨L.t5, rfl, X.c5⟩
      | j + 2, hj => simp at hj) (by rw [X.c138]; rfl) he
    have e0 := congrArg (·[0]?) hcs
    have e1 := congrArg (·[1]?) hcs
    simp only [List.getElem?_take, List.getElem?_drop] at e0 e1
    constructor
    · rw [World.var?_cell hg hvar (2 * i), ← Array.getElem?_toList]
      simpa [Nat.mul_comm] using e0
    · rw [World.var?_cell hg hvar (2 * i + 1), ← Array.getElem?_toList]
      simpa [Nat.mul_comm] using e1

/-- Some block is theirs: the heap is that great. -/
theorem Tabs.size {w : World} (h : Tabs w) : LB ≤ w.heap.size := by
  have lt : ∀ {a : Addr} {v : Value}, w.cell? a = some v → a.block < w.heap.size := fun {a v} hc => by
    rcases Nat.lt_or_ge a.block w.heap.size with h' | h'
    · exact h'
    · simp [World.cell?, Array.getElem?_eq_none h'] at hc
  have h3 : Tryz.laysValid_ren.g 3 < w.heap.size := lt (h.1 0 (by decide))
  have h4 : Tryz.laysValid_ren.g 4 < w.heap.size := lt (h.2 0 (by decide)).1
  unfold LB
  omega
end Go.Proofs.YtnaijgdffbfapaaGreatDoor
