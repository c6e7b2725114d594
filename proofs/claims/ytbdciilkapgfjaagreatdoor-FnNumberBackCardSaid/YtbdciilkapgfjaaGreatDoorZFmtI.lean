/- A part of the proof. -/
import Derived.Test.YtbdciilkapgfjaaGreatDoorZFmtU
import Derived.IntWalk
namespace Go.Proofs.YtbdciilkapgfjaaGreatDoor
open Go.RowKit

def minusT : ByteArray := ⟨(45 :: []).toArray⟩
/-- A whole number as a text. -/
def itxt (i : Int) : ByteArray := if i < 0 then minusT ++ dtxt (digs i.natAbs) else dtxt (digs i.natAbs)

theorem dtxt_size (D : List Nat) : (dtxt D).size = D.length := by rw [dtxt, strOfNums_size, List.length_map]
theorem neg_u64 {i : Int} (h : i < 0) (h2 : -1000000000000000000 ≤ i) : IntKind.u64.wrap (-(IntKind.u64.wrap i)) = ((i.natAbs : Nat) : Int) := by
  simp [IntKind.wrap, IntKind.bits, IntKind.signed]; omega

set_option maxRecDepth 100000 in
theorem FormatInt_any (i : Int) (h1 : -1000000000000000000 ≤ i) (h2 : i ≤ 1000000000000000000) (w : World) :
    Calls Tryz.prog 87 #[.int .i64 i, .int .i64 10] w fun e w' => e = .returned (.string (itxt i)) ∧ Below w.heap.size w w' := by
  obtain ⟨n, hn⟩ : ∃ n, n = i.natAbs := ⟨_, rfl⟩
  have F := Lib.hid fun w' => FormatUint_any n (by omega) w'
  by_cases h : i < 0
  · have e1 := neg_u64 h h1
    have E : Hid (itxt i = minusT ++ dtxt (digs n)) := Lib.hid (by rw [itxt, if_pos h, hn])
    rw [← hn] at e1
    have hl := digs_len (n := n) (k := 20) (by decide) (by omega)
    have hsz : ¬ 9223372036854775807 < 1 + (dtxt (digs n)).size := by rw [dtxt_size]; omega
    clear hn h2 hl
    go_enter Tryz.func87, Tryz.ntmps87
    go_wp2_with fail
    refine (F.out _).mono ?_
    rintro e w' ⟨rfl, hb⟩
    have HB := Lib.hid hb
    clear hb
    go_wp2_with fail
    go_ret
    exact ⟨by rw [E.out]; rfl, HB.out⟩
  · have E : Hid (itxt i = dtxt (digs n)) := Lib.hid (by rw [itxt, if_neg h, hn])
    obtain rfl : i = (n : Int) := by omega
    clear hn h1
    go_enter Tryz.func87, Tryz.ntmps87
    go_wp2_with fail
    refine (F.out _).mono ?_
    rintro e w' ⟨rfl, hb⟩
    have HB := Lib.hid hb
    clear hb
    go_wp2_with fail
    go_ret
    exact ⟨by rw [E.out]; rfl, HB.out⟩
end Go.Proofs.YtbdciilkapgfjaaGreatDoor
