/- Half of an odd integer of less than 2^53 as a float64. -/
import GoSem.Core.Float
import Derived.Laws.FloatBits
namespace Go.Proofs.YtbdciilkapgfjaaGreatDoor
open Ieee

theorem log2_bounds {m : Nat} (hm : m ≠ 0) : 2 ^ m.log2 ≤ m ∧ m < 2 ^ (m.log2 + 1) := ⟨Nat.log2_self_le hm, Nat.lt_log2_self⟩

theorem cut_zero (neg : Bool) (n : Nat) : Toward.even.cut neg n 0 = n := by
  simp [Toward.cut, Nat.mod_one]

theorem signWeight_double : double.signWeight = 9223372036854775808 := by decide
theorem binade_double : double.binade = 4503599627370496 := by decide
theorem infRung_double : double.infRung = 9218868437227405312 := by decide
theorem least_double : double.leastPlace = -1074 := by decide

theorem read_of {W R : Nat} {neg : Bool} (hR : W % double.signWeight = R) (hn : (W / double.signWeight % 2 == 1) = neg) (h1 : ¬ R < double.binade) (h2 : R < double.infRung) :
    double.read W = .number neg (double.binade + R % double.binade) (double.leastPlace + ((R / double.binade - 1 : Nat) : Int)) := by
  unfold Format.read
  simp only [hR, hn, if_neg h1, if_pos h2]

/-- A normal number's word read. -/
theorem read_word (neg : Bool) (e kept : Nat) (h1 : 4503599627370496 ≤ kept) (h2 : kept < 9007199254740992) (he : e < 2046) :
    double.read (double.word neg (e * 4503599627370496 + kept)) = .number neg kept (-1074 + (e : Int)) := by
  have hW : double.word neg (e * 4503599627370496 + kept) % double.signWeight = e * 4503599627370496 + kept := by
    unfold Format.word; rw [signWeight_double]; cases neg <;> simp <;> omega
  have hN : (double.word neg (e * 4503599627370496 + kept) / double.signWeight % 2 == 1) = neg := by
    unfold Format.word; rw [signWeight_double]; cases neg <;> simp <;> omega
  rw [read_of hW hN (by rw [binade_double]; omega) (by rw [infRung_double]; omega), binade_double, least_double]
  congr 1 <;> omega

/-- The nearest word of a number that fits a significand is exact. -/
theorem read_nearest (neg : Bool) (m : Nat) (p : Int) (hm : m ≠ 0) (hlt : m < 9007199254740992) (hp1 : -900 ≤ p) (hp2 : p ≤ 900) :
    double.read (double.nearest neg m p) = .number neg (m <<< (52 - m.log2)) (p - (52 - m.log2 : Nat)) := by
  obtain ⟨l1, l2⟩ := log2_bounds hm
  have hl : m.log2 ≤ 52 := by
    rcases Nat.lt_or_ge 52 m.log2 with h | h
    · have : 2 ^ 53 ≤ 2 ^ m.log2 := Nat.pow_le_pow_right (by omega) h
      omega
    · exact h
  unfold Format.nearest
  rw [if_neg hm, least_double, binade_double, infRung_double]
  have hlast : max (p + (m.log2 : Int) - (double.fractionBits : Int)) (-1074) = p + m.log2 - 52 := by
    show max (p + (m.log2 : Int) - 52) (-1074) = _
    omega
  rw [hlast]
  have e1 : (p - (p + (m.log2 : Int) - 52)).toNat = 52 - m.log2 := by omega
  have e2 : (p + (m.log2 : Int) - 52 - p).toNat = 0 := by omega
  simp only [e1, e2, cut_zero]
  have hk1 : 4503599627370496 ≤ m <<< (52 - m.log2) := by
    rw [Nat.shiftLeft_eq]
    calc 4503599627370496 = 2 ^ m.log2 * 2 ^ (52 - m.log2) := by rw [← Nat.pow_add, show m.log2 + (52 - m.log2) = 52 by omega]
      _ ≤ m * 2 ^ (52 - m.log2) := Nat.mul_le_mul_right _ l1
  have hk2 : m <<< (52 - m.log2) < 9007199254740992 := by
    rw [Nat.shiftLeft_eq]
    calc m * 2 ^ (52 - m.log2) < 2 ^ (m.log2 + 1) * 2 ^ (52 - m.log2) := Nat.mul_lt_mul_of_pos_right l2 (Nat.two_pow_pos _)
      _ = 9007199254740992 := by rw [← Nat.pow_add, show m.log2 + 1 + (52 - m.log2) = 53 by omega]
  have e3 : (p + (m.log2 : Int) - 52 - -1074).toNat < 2046 := by omega
  rw [Nat.min_eq_left (by omega), read_word neg _ _ hk1 hk2 e3]
  congr 1
  omega

theorem log2_shift {m k : Nat} (hm : m ≠ 0) : (m <<< k).log2 = m.log2 + k := by
  obtain ⟨l1, l2⟩ := log2_bounds hm
  rw [Nat.shiftLeft_eq]
  have hp : 0 < m * 2 ^ k := Nat.mul_pos (by omega) (Nat.two_pow_pos _)
  refine (Nat.log2_eq_iff (by omega)).2 ⟨?_, ?_⟩
  · rw [Nat.pow_add]; exact Nat.mul_le_mul_right _ l1
  · rw [show m.log2 + k + 1 = (m.log2 + 1) + k by omega, Nat.pow_add]; exact Nat.mul_lt_mul_of_pos_right l2 (Nat.two_pow_pos _)

/-- 'm' halves, as float64(h) / 2 has them: a half. -/
def fb (h : Int) : Nat := (double.div (FloatKind.f64.nearest h) 4611686018427387904).getD 0

theorem read_two : double.read 4611686018427387904 = .number false 4503599627370496 (-51) := by decide +kernel
theorem log2_two : (4503599627370496 : Nat).log2 = 52 := by decide +kernel
theorem double_bits : double.fractionBits = 52 := rfl

theorem quot_two (neg : Bool) (M : Nat) (i : Int) (hM : M.log2 = 52) :
    Datum.quotient 54 (.number neg M i) (.number false 4503599627370496 (-51)) = some (.number neg (M * 8) (i - 4)) := by
  unfold Datum.quotient
  simp only [log2_two, hM]
  rw [if_neg (by omega)]
  have e3 : M <<< (54 + 52 - 52) / 4503599627370496 = M * 4 := by
    rw [Nat.shiftLeft_eq]; omega
  have e4 : M <<< (54 + 52 - 52) % 4503599627370496 = 0 := by
    rw [Nat.shiftLeft_eq]; omega
  rw [e3, e4]
  simp
  omega

theorem log2_le {m : Nat} (hm : m ≠ 0) (h : m < 9007199254740992) : m.log2 ≤ 52 := by
  obtain ⟨l1, l2⟩ := log2_bounds hm
  rcases Nat.lt_or_ge 52 m.log2 with h' | h'
  · have : 2 ^ 53 ≤ 2 ^ m.log2 := Nat.pow_le_pow_right (by omega) h'
    omega
  · exact h'

theorem div_two (h : Int) (h0 : h ≠ 0) (h1 : -9007199254740992 < h) (h2 : h < 9007199254740992) :
    double.div (FloatKind.f64.nearest h) 4611686018427387904 = some (double.nearest (decide (h < 0)) (h.natAbs <<< (52 - h.natAbs.log2) * 8) (0 - (52 - h.natAbs.log2 : Nat) - 4)) := by
  have hn : h.natAbs ≠ 0 := by omega
  have hl := log2_le hn (by omega)
  have hr : double.read (FloatKind.f64.nearest h) = .number (decide (h < 0)) (h.natAbs <<< (52 - h.natAbs.log2)) (0 - (52 - h.natAbs.log2 : Nat)) :=
    read_nearest _ _ 0 hn (by omega) (by omega) (by omega)
  unfold Format.div
  rw [hr, read_two, show double.fractionBits + 2 = 54 from rfl, quot_two _ _ _ (by rw [log2_shift hn]; omega)]
  rfl
end Go.Proofs.YtbdciilkapgfjaaGreatDoor
