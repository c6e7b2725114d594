/- A part of the proof. -/
import Derived.Test.YtbdciilkapgfjaaGreatDoorZUsc
import Derived.Test.YtbdciilkapgfjaaGreatDoorShelfM
import Derived.Test.YtbdciilkapgfjaaGreatDoorZKnB
import Derived.Test.YtbdciilkapgfjaaGreatDoorM12
namespace Go.Proofs.YtbdciilkapgfjaaGreatDoor
open Go.RowKit

theorem bool2u_f (w : World) : Calls Tryz.prog 158 #[.bool false] w fun e w' => e = .returned (.int .u64 0) ∧ w' = w := bool2u_any false w
theorem mul64_any (x y : Nat) (hx : x < 18446744073709551616) (hy : y < 18446744073709551616) (w : World) :
    Calls Tryz.prog 194 #[.int .u64 x, .int .u64 y] w fun e w' => e = .returned (.tuple #[.int .u64 ((x * y / 18446744073709551616 : Nat) : Int), .int .u64 ((x * y % 18446744073709551616 : Nat) : Int)]) ∧ w' = w :=
  Any.bits_Mul64 Tryz.mul64M x y hx hy w
theorem len64_any (x : Nat) (hx : x < 18446744073709551616) (w : World) :
    Calls Tryz.prog 82 #[.int .u64 x] w fun e w' => e = .returned (.int .i64 (Lib.bitLen x)) ∧ w' = w := by
  have h := Any.bits_Len64 Tryz.len64M (x : Int) w (by omega) (by omega)
  rw [Int.toNat_natCast] at h
  exact h

/-- The table's entry for a tenth. -/
structure PowAt (w : World) : Prop where
  hi : w.cell? ⟨11, 694, none⟩ = some (.int .u64 14757395258967641293)
  lo : w.cell? ⟨11, 695, none⟩ = some (.int .u64 3689348814741910323)
  lt : 11 < w.heap.size

/-- The scaler's three cells. -/
structure ScalerAt (w : World) (N : Nat) : Prop where
  c0 : w.cell? ⟨N, 0, none⟩ = some (.int .u64 14757395258967641293)
  c1 : w.cell? ⟨N, 1, none⟩ = some (.int .u64 3689348814741910323)
  c2 : w.cell? ⟨N, 2, none⟩ = some (.int .i64 8)

set_option maxRecDepth 100000 in
theorem prescale_any {N : Nat} {x0 x1 x2 : Value} {w : World} (hN : N ≠ 11) (hP : PowAt w) (h0 : w.cell? ⟨N, 0, none⟩ = some x0) (h1 : w.cell? ⟨N, 1, none⟩ = some x1) (h2 : w.cell? ⟨N, 2, none⟩ = some x2) (hf : ∀ i, w.frozen? ⟨N, i, none⟩ = false) :
    Calls Tryz.prog 180 #[.pointer (some ⟨N, 0, none⟩), .int .i64 (-7), .int .i64 (-1), .int .i64 (-4)] w fun e w' => e = .returned (.tuple #[]) ∧ ScalerAt w' N ∧ w.grownBy w' (some N) := by
  have p0 := hP.hi; have p1 := hP.lo
  have f0 := hf 0; have f1 := hf 1; have f2 := hf 2
  have hN' : ¬ 11 = N := fun e => hN e.symm
  clear hP hf
  go_enter Tryz.func180, Tryz.ntmps180
  go_wp2_with fail
  go_end0
  refine ⟨rfl, ⟨?_, ?_, ?_⟩, grown_set (grown_set (grown_set (grown_refl _ _)))⟩
  · rw [World.cell?_setCell_other _ _ _ _ (by simp), World.cell?_setCell_other _ _ _ _ (by simp)]
    exact World.cell?_setCell_same _ _ _ h0
  · rw [World.cell?_setCell_other _ _ _ _ (by simp)]
    exact World.cell?_setCell_same _ _ _ ((World.cell?_setCell_other _ _ _ _ (by simp)).trans h1)
  · exact World.cell?_setCell_same _ _ _ ((World.cell?_setCell_other _ _ _ _ (by simp)).trans ((World.cell?_setCell_other _ _ _ _ (by simp)).trans h2))

theorem mul_hi {A : Nat} (h : 5 * A < 18446744073709551616) : 5 * A * 14757395258967641293 / 18446744073709551616 = 4 * A ∧ 5 * A * 14757395258967641293 % 18446744073709551616 = A := by
  have e : 5 * A * 14757395258967641293 = 18446744073709551616 * (4 * A) + A := by omega
  constructor <;> omega
theorem mul_lo {A : Nat} (h : 5 * A < 18446744073709551616) (h0 : 0 < A) : 5 * A * 3689348814741910323 / 18446744073709551616 = A - 1 := by
  omega

set_option maxRecDepth 100000 in
theorem uscale_any {N A : Nat} {w : World} (hS : ScalerAt w N) (h5 : 5 * A < 18446744073709551616) (h0 : 0 < A) (h64 : A % 64 = 0) :
    Calls Tryz.prog 181 #[.int .u64 ((5 * A : Nat) : Int), .pointer (some ⟨N, 0, none⟩)] w fun e w' => e = .returned (.int .u64 ((A / 64 : Nat) : Int)) ∧ Below w.heap.size w w' := by
  have c0 := hS.c0; have c1 := hS.c1; have c2 := hS.c2
  obtain ⟨X, hX⟩ : ∃ X, X = 5 * A := ⟨_, rfl⟩
  obtain ⟨B, hB⟩ : ∃ B, B = 4 * A := ⟨_, rfl⟩
  obtain ⟨C, hC⟩ : ∃ C, C = A - 1 := ⟨_, rfl⟩
  have M1 : Hid (∀ w, Calls Tryz.prog 194 #[.int .u64 (X : Int), .int .u64 14757395258967641293] w fun e w' => e = .returned (.tuple #[.int .u64 (B : Int), .int .u64 (A : Int)]) ∧ w' = w) := Lib.hid (fun w => by
    have h := mul64_any (5 * A) 14757395258967641293 h5 (by decide) w
    rw [(mul_hi h5).1, (mul_hi h5).2, ← hX, ← hB] at h
    exact h)
  obtain ⟨z, hz⟩ : ∃ z, z = 5 * A * 3689348814741910323 % 18446744073709551616 := ⟨_, rfl⟩
  have M2 : Hid (∀ w, Calls Tryz.prog 194 #[.int .u64 (X : Int), .int .u64 3689348814741910323] w fun e w' => e = .returned (.tuple #[.int .u64 (C : Int), .int .u64 (z : Int)]) ∧ w' = w) := Lib.hid (fun w => by
    have h := mul64_any (5 * A) 3689348814741910323 h5 (by decide) w
    rw [mul_lo h5 h0, ← hz, ← hX, ← hC] at h
    exact h)
  have b8 : bits .and .i64 8 63 = 8 := by decide
  have hs : IntKind.u64.wrap ((B : Int) / 256 * 256) = (B : Int) := by rw [IntKind.wrap_u64]; omega
  have hl : decide (A < C) = false := decide_eq_false (by omega)
  have hr : (B : Int) / 256 = ((A / 64 : Nat) : Int) := by omega
  have hd : IntKind.u64.wrap ((A : Int) - (C : Int)) = 1 := by rw [IntKind.wrap_u64]; omega
  have hw : IntKind.u64.wrap (B : Int) = (B : Int) := by rw [IntKind.wrap_u64]; omega
  have ho : bits .or .u64 ((B : Int) / 256) 0 = ((A / 64 : Nat) : Int) := by
    have h := u64_or_nat (A / 64) 0 (by omega) (by decide)
    rw [Nat.or_zero] at h
    rw [hr]
    exact h
  rw [← hX]
  have HO := Lib.hid ho
  clear ho
  clear hS hz h5 h0 h64 hX hB hC hr
  go_enter Tryz.func181, Tryz.ntmps181
  go_wp2_with fail
  refine (M1.out _).mono ?_
  rintro e w' ⟨rfl, rfl⟩
  go_wp2_with fail
  refine (M2.out _).mono ?_
  rintro e w' ⟨rfl, rfl⟩
  go_wp2_with fail
  refine (bool2u_f _).mono ?_
  rintro e w' ⟨rfl, rfl⟩
  go_wp2_with fail
  go_quiet ((go_at_call 158; exact Calls.quiet_of_same (bool2u_f _)))
  go_wp2_with fail
  rw [HO.out]
  go_ret
  exact ⟨rfl, ⟨rfl, rfl, rfl, Nat.le_refl _, fun _ _ => rfl⟩⟩
end Go.Proofs.YtbdciilkapgfjaaGreatDoor
