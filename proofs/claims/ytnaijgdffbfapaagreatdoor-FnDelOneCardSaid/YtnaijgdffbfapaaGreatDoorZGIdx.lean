/- A part of the proof. -/
import Derived.Test.YtnaijgdffbfapaaGreatDoorZMap
import Derived.Test.YtnaijgdffbfapaaGreatDoorTypes
namespace Go.Proofs.YtnaijgdffbfapaaGreatDoor
open Go.RowKit

theorem toInt_int (n : Int) (w : World) : Calls Tryz.prog 53 #[.iface 3 (.int .i64 n)] w fun e w' => e = .returned (.tuple #[.int .i64 n, .bool true]) ∧ w = w' := by
  go_enter Tryz.func53, Tryz.ntmps53
  go_wp2_with fail
  go_ret2
  exact ⟨rfl, rfl⟩

theorem clampIndex_in (i n : Nat) (hi : i < n) (w : World) : Calls Tryz.prog 72 #[.int .i64 i, .int .i64 (-1), .int .i64 n] w fun e w' => e = .returned (.int .i64 i) ∧ w = w' := by
  go_enter Tryz.func72, Tryz.ntmps72
  go_wp2_with fail
  go_ret
  exact ⟨rfl, rfl⟩

theorem gindex_in (b o i n cap : Nat) (x : Value) (hi : i < n) (w : World) (hc : w.cell? ⟨b, o + i, none⟩ = some x) : Calls Tryz.prog 54 #[.slice (some ⟨b, o, none⟩) n cap, .int .i64 i] w fun e w' => e = .returned x ∧ w = w' := by
  go_enter Tryz.func54, Tryz.ntmps54
  go_wp2_with (go_at_call 72; refine (clampIndex_in i n hi _).mono ?_; rintro e w' ⟨rfl, rfl⟩)
  go_ret
  exact ⟨rfl, rfl⟩

theorem funcIndex2_arr (z : Value) (b o i n cap : Nat) (x : Value) (hi : i < n) (w : World) (hc : w.cell? ⟨b, o + i, none⟩ = some x) : Calls Tryz.prog 44 #[z, .iface 58 (.slice (some ⟨b, o, none⟩) n cap), .iface 3 (.int .i64 i)] w fun e w' => e = .returned x ∧ w = w' := by
  go_enter Tryz.func44, Tryz.ntmps44
  go_wp2_with (first | (go_at_call 53; refine (toInt_int _ _).mono ?_; rintro e w' ⟨rfl, rfl⟩) | (go_at_call 54; refine (gindex_in b o i n cap x hi _ hc).mono ?_; rintro e w' ⟨rfl, rfl⟩))
  go_ret
  exact ⟨rfl, rfl⟩

theorem funcIndex2_map (z : Value) {b : Nat} {mv : List (ByteArray × Value)} {s : ByteArray} {x : Value} {w : World} (hM : MapAt w b mv) (hx : (s, x) ∈ mv) : Calls Tryz.prog 44 #[z, .iface 61 (.map (some b)), .iface 9 (.string s)] w fun e w' => e = .returned x ∧ w = w' := by
  have hlook := hM.lookup_hit (P := Tryz.prog) (T := 61) (K := 9) (E := 20) Tryz.underlying61 Tryz.underlying9 hx false
  simp only [if_false, Bool.false_eq_true] at hlook
  go_enter Tryz.func44, Tryz.ntmps44
  go_wp2_with (simp only [hlook])
  go_ret
  exact ⟨rfl, rfl⟩
end Go.Proofs.YtnaijgdffbfapaaGreatDoor
