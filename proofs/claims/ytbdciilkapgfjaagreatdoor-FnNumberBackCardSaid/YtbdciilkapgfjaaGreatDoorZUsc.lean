/- A part of the proof. -/
import Derived.Test.YtbdciilkapgfjaaGreatDoorM22
import Derived.Test.YtbdciilkapgfjaaGreatDoorM12
import Derived.Test.YtbdciilkapgfjaaGreatDoorZFmtU
import Derived.Laws.Externs
import Derived.Laws.BitsAllLaws
namespace Go.Proofs.YtbdciilkapgfjaaGreatDoor
open Go.RowKit

theorem log2Pow10_m1 (w : World) : Calls Tryz.prog 179 #[.int .i64 (-1)] w fun e w' => e = .returned (.int .i64 (-4)) ∧ w' = w := by
  go_enter Tryz.func179, Tryz.ntmps179
  go_wp2_with fail
  go_ret
  exact ⟨rfl, rfl⟩
theorem bool2u_any (b : Bool) (w : World) : Calls Tryz.prog 158 #[.bool b] w fun e w' => e = .returned (.int .u64 (if b then 1 else 0)) ∧ w' = w := by
  cases b
  · go_enter Tryz.func158, Tryz.ntmps158
    go_wp2_with fail
    go_ret
    exact ⟨rfl, rfl⟩
  · go_enter Tryz.func158, Tryz.ntmps158
    go_wp2_with fail
    go_ret
    exact ⟨rfl, rfl⟩
theorem bool2i_any (b : Bool) (w : World) : Calls Tryz.prog 182 #[.bool b] w fun e w' => e = .returned (.int .i64 (if b then 1 else 0)) ∧ w' = w := by
  cases b
  · go_enter Tryz.func182, Tryz.ntmps182
    go_wp2_with fail
    go_ret
    exact ⟨rfl, rfl⟩
  · go_enter Tryz.func182, Tryz.ntmps182
    go_wp2_with fail
    go_ret
    exact ⟨rfl, rfl⟩
theorem unmin_52 (w : World) : Calls Tryz.prog 183 #[.int .u64 9007199254740992] w fun e w' => e = .returned (.int .u64 36028797018963966) ∧ w' = w := by
  go_enter Tryz.func183, Tryz.ntmps183
  go_wp2_with fail
  go_ret
  exact ⟨rfl, rfl⟩
theorem and_one (M : Nat) (hM : M < 9007199254740992) : bits .and .u64 (M : Int) 1 = ((M % 2 : Nat) : Int) := by
  have h := u64_and_nat M 1 (by omega) (by decide)
  rw [nat_mask1] at h
  exact h
theorem round_four (M : Nat) (hM : M < 9007199254740992) (w : World) : Calls Tryz.prog 185 #[.int .u64 ((4 * M : Nat) : Int)] w fun e w' => e = .returned (.int .u64 (M : Int)) ∧ w' = w := by
  have h1 := and_one M hM
  have h2 : IntKind.u64.wrap (4 * (M : Int) + 1 + ((M % 2 : Nat) : Int)) / 4 = (M : Int) := by
    clear h1
    rw [IntKind.wrap_u64, Int.emod_eq_of_lt (by omega) (by omega)]
    omega
  have H1 := Lib.hid h1; have H2 := Lib.hid h2
  clear h1 h2
  go_enter Tryz.func185, Tryz.ntmps185
  go_wp2_with fail
  rw [H1.out, H2.out]
  go_ret
  exact ⟨rfl, rfl⟩
theorem run_frombits (n : Nat) (w : World) : (callFunc 159 #[.int .u64 (n : Int)]).run Tryz.prog w = .ok (.value (.float .f64 n)) w := by
  rw [run_callFunc_extern Tryz.func159 (by kernel_rfl) (by kernel_rfl) (by kernel_rfl) (e := Extern.MathFloatBits.float64frombits) (by kernel_rfl)]
  rfl

/-- A sign as a word's weight. -/
def sgnW (neg : Bool) : Nat := if neg then 9223372036854775808 else 0
theorem sgn_bits (neg : Bool) (r : Nat) (hr : r < 4503599627370496) :
    (sgnW neg + (4503599627370496 + r)) &&& (18446744073709551615 - 4503599627370496) = sgnW neg + r := by
  have e1 : (4503599627370496 : Nat) + r = 2 ^ 52 ||| r := (nat_join 52 (2 ^ 52) r (by decide) hr).symm
  have hlt : 2 ^ 52 ||| r < 2 ^ 63 := by rw [← e1]; omega
  have e2 : sgnW neg + (2 ^ 52 ||| r) = sgnW neg ||| (2 ^ 52 ||| r) := (nat_join 63 _ _ (by cases neg <;> decide) hlt).symm
  have e3 : sgnW neg + r = sgnW neg ||| r := (nat_join 63 _ _ (by cases neg <;> decide) (by omega)).symm
  have e4 : (18446744073709551615 - 4503599627370496 : Nat) = 2 ^ 64 - (2 ^ 52 + 1) := by decide
  rw [e1, e2, e3, e4]
  apply Nat.eq_of_testBit_eq
  intro j
  have hs : ∀ j, (sgnW neg).testBit j = (neg && decide (63 = j)) := by
    intro j
    cases neg
    · simp [sgnW]
    · show (2 ^ 63).testBit j = _
      rw [Nat.testBit_two_pow]; simp
  rw [Nat.testBit_and, Nat.testBit_two_pow_sub_succ (by decide), Nat.testBit_or, Nat.testBit_or, Nat.testBit_or, Nat.testBit_two_pow, hs]
  by_cases h52 : 52 = j
  · subst h52
    rw [Nat.testBit_lt_two_pow hr]
    simp
  · by_cases h64 : j < 64
    · simp [h52, h64]
    · have h63 : ¬ 63 = j := by omega
      have hrj : r.testBit j = false := Nat.testBit_lt_two_pow (Nat.lt_of_lt_of_le hr (Nat.le_trans (by decide : 4503599627370496 ≤ 2 ^ 52) (Nat.pow_le_pow_right (by decide) (by omega))))
      simp [h52, h64, h63, hrj]
theorem sgn_join (neg : Bool) (x : Nat) (hx : x < 9223372036854775808) : sgnW neg ||| x = sgnW neg + x := nat_join 63 _ _ (by cases neg <;> decide) hx
theorem exp_join (neg : Bool) (r e : Nat) (hr : r < 4503599627370496) (he : e < 2048) : (sgnW neg + r) ||| (e * 4503599627370496) = sgnW neg + (e * 4503599627370496 + r) := by
  rw [← sgn_join neg r (by omega), Nat.or_assoc, Nat.or_comm r, nat_join 52 (e * 4503599627370496) r (by rw [show (2 : Nat) ^ 52 = 4503599627370496 from rfl]; exact Nat.mul_mod_left _ _) hr]
  exact sgn_join neg _ (by omega)

set_option maxRecDepth 100000 in
theorem pack64_any (neg : Bool) (M b : Nat) (h1 : 4503599627370496 ≤ M) (h2 : M < 9007199254740992) (hb : b ≤ 1) (w : World) :
    Calls Tryz.prog 188 #[.int .u64 ((sgnW neg + M : Nat) : Int), .int .i64 (-((3 + b : Nat) : Int))] w fun e w' => e = .returned (.tuple #[.float .f64 (sgnW neg + ((1071 - b) * 4503599627370496 + M)), .nilIface]) ∧ w' = w := by
  obtain ⟨r, hr⟩ : ∃ r, M = 4503599627370496 + r := ⟨M - 4503599627370496, by omega⟩
  have hs : sgnW neg = 0 ∨ sgnW neg = 9223372036854775808 := by cases neg <;> simp [sgnW]
  obtain ⟨m, hm⟩ : ∃ m, m = sgnW neg + M := ⟨_, rfl⟩
  obtain ⟨x, hx⟩ : ∃ x, x = sgnW neg + r := ⟨_, rfl⟩
  obtain ⟨y, hy⟩ : ∃ y, y = sgnW neg + ((1071 - b) * 4503599627370496 + M) := ⟨_, rfl⟩
  have a1 : bits .and .u64 (m : Int) 4503599627370496 = 4503599627370496 := by
    have h := u64_and_nat m 4503599627370496 (by omega) (by decide)
    rw [show m &&& 4503599627370496 = m / 2 ^ 52 % 2 * 2 ^ 52 from nat_bit 52 m] at h
    have e : m / 2 ^ 52 % 2 * 2 ^ 52 = 4503599627370496 := by
      have : m / 2 ^ 52 % 2 = 1 := by rw [show (2 : Nat) ^ 52 = 4503599627370496 from rfl]; omega
      rw [this]
    rw [e] at h
    exact h
  have a2 : bits .andNot .u64 (m : Int) 4503599627370496 = (x : Int) := by
    have h := u64_andNot_nat m 4503599627370496 (by omega) (by decide)
    rw [hm, hr, sgn_bits neg r (by omega), ← hx, ← hr, ← hm] at h
    exact h
  have a3 : bits .or .u64 (x : Int) (((1072 - b) * 4503599627370496 : Nat) : Int) = (y : Int) := by
    have h := u64_or_nat x ((1072 - b) * 4503599627370496) (by omega) (by omega)
    rw [hx, exp_join neg r (1072 - b) (by omega) (by omega)] at h
    have e : sgnW neg + ((1072 - b) * 4503599627370496 + r) = sgnW neg + ((1071 - b) * 4503599627370496 + M) := by omega
    rw [hx, h, e, hy]
  have a4 := run_frombits y
  have HY := Lib.hid hy
  rw [← hm, ← hy]
  clear hm hx hy hr hs h1 h2
  have hb2 : b = 0 ∨ b = 1 := by omega
  rcases hb2 with rfl | rfl
  · have a5 : bits .or .u64 (x : Int) 4827858800541171712 = (y : Int) := a3
    clear hb a3
    go_enter Tryz.func188, Tryz.ntmps188
    go_wp2_with fail
    go_ret2
    exact ⟨rfl, rfl⟩
  · have a5 : bits .or .u64 (x : Int) 4823355200913801216 = (y : Int) := a3
    clear hb a3
    go_enter Tryz.func188, Tryz.ntmps188
    go_wp2_with fail
    go_ret2
    exact ⟨rfl, rfl⟩
end Go.Proofs.YtbdciilkapgfjaaGreatDoor
