/- A part of the proof. -/
import Derived.Test.YtbdciilkapgfjaaGreatDoorM28
import Derived.Test.YtbdciilkapgfjaaGreatDoorZAny
import Derived.WalkSmall
namespace Go.Proofs.YtbdciilkapgfjaaGreatDoor
open Go.RowKit

theorem cell_lt {w : World} {g o : Nat} {v : Value} (h : w.cell? ⟨g, o, none⟩ = some v) : g < w.heap.size := by
  rcases Nat.lt_or_ge g w.heap.size with h' | h'
  · exact h'
  · simp [World.cell?, Array.getElem?_eq_none h'] at h
theorem named_err : Tryz.prog.globalNamed "strconv.ErrSyntax" = some 1 := by kernel_rfl
/-- The package's variables that the reading of a float leans on. -/
structure Laid (w : World) : Prop where
  fp : FpAt w
  pow : PowAt w
  err : ∃ tp p, w.var? Tryz.prog "strconv.ErrSyntax" = some #[.iface tp p]
theorem Laid.lift {w w' : World} (h : Laid w) (hb : Below w.heap.size w w') : Laid w' := by
  refine ⟨h.fp.lift hb (cell_lt h.fp.opt) (cell_lt h.fp.info) ?_, ⟨(hb.cell (p := ⟨11, 694, none⟩) h.pow.lt).trans h.pow.hi, (hb.cell (p := ⟨11, 695, none⟩) h.pow.lt).trans h.pow.lo, Nat.lt_of_lt_of_le h.pow.lt hb.size⟩, ?_⟩
  · obtain ⟨b, o, l, c, p0, _⟩ := h.fp.pow
    exact cell_lt p0
  · obtain ⟨tp, p, he⟩ := h.err
    refine ⟨tp, p, var?_below hb named_err ?_ he⟩
    rcases Nat.lt_or_ge 1 w.heap.size with h' | h'
    · exact h'
    · unfold World.var? at he
      rw [named_err] at he
      simp [Array.getElem?_eq_none h'] at he

/-- The text of half an odd number is read back as its float. -/
theorem parse_half {h : Int} {k : Nat} (hk : h.natAbs = 2 * k + 1) (hb : h.natAbs ≤ 2000000000000000) {w : World} (hL : Laid w) :
    Calls Tryz.prog 37 #[.string (htxt (decide (h < 0)) k)] w fun e w' => e = .returned (.iface 39 (.float .f64 (fb h))) ∧ Below w.heap.size w w' := by
  obtain ⟨p, q, hA⟩ := htxt_at (decide (h < 0)) (k := k) (by omega)
  have hs := hA.small; have hz := hA.size
  have byte : ∀ o (ho : o < (htxt (decide (h < 0)) k).size), (((htxt (decide (h < 0)) k)[o]'ho).toNat) = byteAt (htxt (decide (h < 0)) k) o := fun o ho => by unfold byteAt; rw [dif_pos ho]
  refine parseNumber_half ?_ (fun w1 _ => zzContainsAny_dot (q := q) (by omega) (by omega) (by rw [byte]; exact hA.dot) (fun o ho => ?_)) (fun w1 h1 => ?_)
  · obtain ⟨tp, p', he⟩ := hL.err
    exact jInt64_bad (parse_htxt _ (by omega)) (by omega) w he
  · rw [byte]
    have hl := hA.len; have hsg := hA.sign
    rcases Nat.lt_or_ge o p with h' | h'
    · left
      cases hd : decide (h < 0)
      · rw [hd] at hsg; simp at hsg; omega
      · rw [hd] at hsg
        simp at hsg
        obtain rfl : o = 0 := by omega
        have := hA.minus hd
        rw [hd] at this
        exact this
    · right
      obtain ⟨j, rfl⟩ : ∃ j, o = p + j := ⟨o - p, by omega⟩
      have hj : j < (digs k).length := by omega
      rw [hA.d j hj]
      have := digs_dig k _ (List.getElem_mem hj)
      omega
  · have hL1 := hL.lift h1
    exact parseFloat_chain (atof64_half hA hk hb hL1.fp hL1.pow)
end Go.Proofs.YtbdciilkapgfjaaGreatDoor
