/- Plain facts on floats: a half doubled is the whole number, whose whole part is itself and which is converted back exactly. A part of the proof. -/
import Derived.Test.YtbdciilkapgfjaaGreatDoorFloat
import Derived.Laws.FloatArith
namespace Go.Proofs.YtbdciilkapgfjaaGreatDoor
open Ieee

/-- Digits that end in noughts are cut without loss, whichever way. -/
theorem cut_shift (way : Toward) (neg : Bool) (a d : Nat) (ha : a ≠ 0) : way.cut neg (a <<< d) d = a := by
  have e0 : min d ((a <<< d).log2 + 2) = d := by rw [log2_shift ha]; omega
  have e1 : (a <<< d) / (1 <<< d) = a := by
    rw [Nat.shiftLeft_eq, Nat.shiftLeft_eq, Nat.one_mul]; exact Nat.mul_div_cancel _ (Nat.two_pow_pos d)
  have e2 : (a <<< d) % (1 <<< d) = 0 := by
    rw [Nat.shiftLeft_eq, Nat.shiftLeft_eq, Nat.one_mul]; exact Nat.mul_mod_left _ _
  have e3 : ¬ (1 <<< d = 0) := by rw [Nat.shiftLeft_eq, Nat.one_mul]; have := Nat.two_pow_pos d; omega
  unfold Toward.cut
  simp only [e0, e1, e2]
  cases way <;> simp [e3]

/-- The word nearest to m * 2^p, where the digits that are kept are K. -/
theorem nearest_of (neg : Bool) (m K : Nat) (p last : Int) (hm : m ≠ 0) (hl : p + (m.log2 : Int) - 52 = last) (h1 : -1074 ≤ last) (h2 : last < 900)
    (hk : Toward.even.cut neg (m <<< (p - last).toNat) (last - p).toNat = K) (hK : K < 9007199254740992) :
    double.nearest neg m p = double.word neg ((last + 1074).toNat * 4503599627370496 + K) := by
  unfold Format.nearest
  rw [if_neg hm, least_double, binade_double, infRung_double]
  have hlast : max (p + (m.log2 : Int) - (double.fractionBits : Int)) (-1074) = last := by
    show max (p + (m.log2 : Int) - 52) (-1074) = _
    omega
  simp only [hlast, hk, show last - -1074 = last + 1074 by omega]
  rw [Nat.min_eq_left (by omega)]

theorem read_great (neg : Bool) : double.read (double.word neg 4886405595696988160) = .number neg 4503599627370496 10 := by cases neg <;> decide +kernel

/-- A whole number, made a significand of 53 digits. -/
def sig (h : Int) : Nat := h.natAbs <<< (52 - h.natAbs.log2)

section
variable {h : Int} (h0 : h ≠ 0) (h1 : -9007199254740992 < h) (h2 : h < 9007199254740992)
include h0 h1 h2

theorem sig_log2 : (sig h).log2 = 52 := by
  have := log2_le (m := h.natAbs) (by omega) (by omega)
  unfold sig
  rw [log2_shift (by omega)]; omega
theorem sig_bounds : 4503599627370496 ≤ sig h ∧ sig h < 9007199254740992 := by
  have e := sig_log2 h0 h1 h2
  have hne : sig h ≠ 0 := by intro e'; rw [e'] at e; simp at e
  obtain ⟨l1, l2⟩ := log2_bounds hne
  rw [e] at l1 l2
  exact ⟨by omega, by omega⟩
theorem sig_ne : sig h ≠ 0 := by have := (sig_bounds h0 h1 h2).1; omega

/-- The word of a whole number. -/
theorem whole_word : FloatKind.f64.nearest h = double.word (decide (h < 0)) ((-((52 - h.natAbs.log2 : Nat) : Int) + 1074).toNat * 4503599627370496 + sig h) := by
  have hl := log2_le (m := h.natAbs) (by omega) (by omega)
  have hb := (sig_bounds h0 h1 h2).2
  show double.nearest (decide (h < 0)) h.natAbs 0 = _
  refine nearest_of _ _ _ 0 _ (by omega) (by omega) (by omega) (by omega) ?_ hb
  have e1 : (0 - -((52 - h.natAbs.log2 : Nat) : Int)).toNat = 52 - h.natAbs.log2 := by omega
  have e2 : (-((52 - h.natAbs.log2 : Nat) : Int) - 0).toNat = 0 := by omega
  rw [e1, e2, cut_zero]; rfl
/-- The word of a half of it. -/
theorem half_word : fb h = double.word (decide (h < 0)) ((-((52 - h.natAbs.log2 : Nat) : Int) - 1 + 1074).toNat * 4503599627370496 + sig h) := by
  have hl := log2_le (m := h.natAbs) (by omega) (by omega)
  have hb := (sig_bounds h0 h1 h2).2
  have hs := sig_ne h0 h1 h2
  have e8 : sig h * 8 = sig h <<< 3 := by rw [Nat.shiftLeft_eq]
  unfold fb
  rw [div_two h h0 h1 h2, Option.getD_some]
  show double.nearest _ (sig h * 8) _ = _
  refine nearest_of _ _ _ _ _ (by omega) ?_ (by omega) (by omega) ?_ hb
  · rw [e8, log2_shift hs, sig_log2 h0 h1 h2]; omega
  · have e1 : ((0 : Int) - (52 - h.natAbs.log2 : Nat) - 4 - (-((52 - h.natAbs.log2 : Nat) : Int) - 1)).toNat = 0 := by omega
    have e2 : (-((52 - h.natAbs.log2 : Nat) : Int) - 1 - ((0 : Int) - (52 - h.natAbs.log2 : Nat) - 4)).toNat = 3 := by omega
    rw [e1, e2, Nat.shiftLeft_zero, e8, cut_shift _ _ _ _ hs]

theorem read_whole : double.read (FloatKind.f64.nearest h) = .number (decide (h < 0)) (sig h) (-((52 - h.natAbs.log2 : Nat) : Int)) := by
  have hl := log2_le (m := h.natAbs) (by omega) (by omega)
  obtain ⟨b1, b2⟩ := sig_bounds h0 h1 h2
  rw [whole_word h0 h1 h2, read_word _ _ _ b1 b2 (by omega)]
  congr 1; omega
theorem read_half : double.read (fb h) = .number (decide (h < 0)) (sig h) (-((52 - h.natAbs.log2 : Nat) : Int) - 1) := by
  have hl := log2_le (m := h.natAbs) (by omega) (by omega)
  obtain ⟨b1, b2⟩ := sig_bounds h0 h1 h2
  rw [half_word h0 h1 h2, read_word _ _ _ b1 b2 (by omega)]
  congr 1; omega

/-- Twice the half is the number. -/
theorem two_half : floatBits .mul .f64 4611686018427387904 (fb h) = some (FloatKind.f64.nearest h) := by
  have hl := log2_le (m := h.natAbs) (by omega) (by omega)
  have hb := (sig_bounds h0 h1 h2).2
  have hs := sig_ne h0 h1 h2
  have e52 : 4503599627370496 * sig h = sig h <<< 52 := by rw [Nat.shiftLeft_eq]; omega
  show double.mul 4611686018427387904 (fb h) = _
  unfold Format.mul
  rw [read_two, read_half h0 h1 h2]
  show some (double.nearest (false ^^ decide (h < 0)) (4503599627370496 * sig h) (-51 + (-((52 - h.natAbs.log2 : Nat) : Int) - 1))) = _
  rw [whole_word h0 h1 h2, Bool.false_xor]
  congr 1
  refine nearest_of _ _ _ _ _ (by omega) ?_ (by omega) (by omega) ?_ hb
  · rw [e52, log2_shift hs, sig_log2 h0 h1 h2]; omega
  · have e1 : (-51 + (-((52 - h.natAbs.log2 : Nat) : Int) - 1) - -((52 - h.natAbs.log2 : Nat) : Int)).toNat = 0 := by omega
    have e2 : (-((52 - h.natAbs.log2 : Nat) : Int) - (-51 + (-((52 - h.natAbs.log2 : Nat) : Int) - 1))).toNat = 52 := by omega
    rw [e1, e2, Nat.shiftLeft_zero, e52, cut_shift _ _ _ _ hs]

/-- A whole number is its own whole part. -/
theorem trunc_whole : (FloatKind.f64.decode (FloatKind.f64.nearest h)).integral .zero = .number (decide (h < 0)) h.natAbs 0 := by
  show (double.read (FloatKind.f64.nearest h)).integral .zero = _
  rw [read_whole h0 h1 h2]
  unfold Datum.integral
  have e1 : (-((52 - h.natAbs.log2 : Nat) : Int)).toNat = 0 := by omega
  have e2 : (- -((52 - h.natAbs.log2 : Nat) : Int)).toNat = 52 - h.natAbs.log2 := by omega
  simp only [e1, e2, Nat.shiftLeft_zero]
  unfold sig
  rw [cut_shift _ _ _ _ (by omega)]
theorem int_whole : floatToIntVal .f64 (FloatKind.f64.nearest h) .i64 = some h := by
  unfold floatToIntVal Datum.toInt
  rw [trunc_whole h0 h1 h2]
  have e : signed (decide (h < 0)) h.natAbs 0 = h := by
    unfold signed
    simp only [Nat.shiftLeft_zero, decide_eq_true_eq]
    split <;> omega
  simp only [e]
  rw [if_pos]
  exact ⟨by show -9223372036854775808 ≤ h; omega, by show h ≤ 9223372036854775807; omega⟩

theorem order_self : FloatKind.f64.format.order (FloatKind.f64.nearest h) (FloatKind.f64.nearest h) = some .eq := by
  show (double.read (FloatKind.f64.nearest h)).order (double.read (FloatKind.f64.nearest h)) = _
  rw [read_whole h0 h1 h2]
  unfold Datum.order
  simp [compare, compareOfLessAndEq]
theorem great_bound (d : Nat) : (sig h : Int) < ((4503599627370496 <<< (10 + d) : Nat) : Int) := by
  have hb := (sig_bounds h0 h1 h2).2
  have : 4503599627370496 * 1024 ≤ 4503599627370496 * 2 ^ (10 + d) := by
    refine Nat.mul_le_mul_left _ ?_
    rw [Nat.pow_add]
    have := Nat.two_pow_pos d
    omega
  rw [Nat.shiftLeft_eq]
  omega
theorem order_low : FloatKind.f64.format.order (FloatKind.f64.nearest h) 14109777632551763968 = some .gt := by
  show (double.read (FloatKind.f64.nearest h)).order (double.read 14109777632551763968) = _
  have hl := log2_le (m := h.natAbs) (by omega) (by omega)
  rw [read_whole h0 h1 h2, show (14109777632551763968 : Nat) = double.word true 4886405595696988160 by decide +kernel, read_great]
  have hg := great_bound h0 h1 h2 (52 - h.natAbs.log2)
  unfold Datum.order
  have e0 : min (-((52 - h.natAbs.log2 : Nat) : Int)) 10 = -((52 - h.natAbs.log2 : Nat) : Int) := by omega
  simp only [e0]
  have e1 : (-((52 - h.natAbs.log2 : Nat) : Int) - -((52 - h.natAbs.log2 : Nat) : Int)).toNat = 0 := by omega
  have e2 : ((10 : Int) - -((52 - h.natAbs.log2 : Nat) : Int)).toNat = 10 + (52 - h.natAbs.log2) := by omega
  rw [e1, e2]
  generalize 52 - h.natAbs.log2 = d at *
  have lt : signed true 4503599627370496 (10 + d) < signed (decide (h < 0)) (sig h) 0 := by
    unfold signed
    simp only [if_true, Nat.shiftLeft_zero]
    split <;> omega
  simp only [compare, compareOfLessAndEq]
  rw [if_neg (by omega), if_neg (by omega)]
theorem order_high : FloatKind.f64.format.order (FloatKind.f64.nearest h) 4886405595696988160 = some .lt := by
  show (double.read (FloatKind.f64.nearest h)).order (double.read 4886405595696988160) = _
  have hl := log2_le (m := h.natAbs) (by omega) (by omega)
  rw [read_whole h0 h1 h2, show (4886405595696988160 : Nat) = double.word false 4886405595696988160 by decide +kernel, read_great]
  have hg := great_bound h0 h1 h2 (52 - h.natAbs.log2)
  unfold Datum.order
  have e0 : min (-((52 - h.natAbs.log2 : Nat) : Int)) 10 = -((52 - h.natAbs.log2 : Nat) : Int) := by omega
  simp only [e0]
  have e1 : (-((52 - h.natAbs.log2 : Nat) : Int) - -((52 - h.natAbs.log2 : Nat) : Int)).toNat = 0 := by omega
  have e2 : ((10 : Int) - -((52 - h.natAbs.log2 : Nat) : Int)).toNat = 10 + (52 - h.natAbs.log2) := by omega
  rw [e1, e2]
  generalize 52 - h.natAbs.log2 = d at *
  have lt : signed (decide (h < 0)) (sig h) 0 < signed false 4503599627370496 (10 + d) := by
    unfold signed
    simp only [if_false, Bool.false_eq_true, Nat.shiftLeft_zero]
    split <;> omega
  simp only [compare, compareOfLessAndEq]
  rw [if_pos lt]
end
end Go.Proofs.YtbdciilkapgfjaaGreatDoor

namespace Go.Proofs.YtbdciilkapgfjaaGreatDoor
open Ieee

theorem read_ten : double.read 4621819117588971520 = .number false 5629499534213120 (-49) := by decide +kernel
theorem log2_ten : (5629499534213120 : Nat).log2 = 52 := by decide +kernel
theorem natAbs_five (h : Int) : (5 * h).natAbs = 5 * h.natAbs := by rw [Int.natAbs_mul]; rfl

theorem log2_five {n : Nat} (hn : n ≠ 0) : n.log2 + 2 ≤ (5 * n).log2 ∧ (5 * n).log2 ≤ n.log2 + 3 := by
  obtain ⟨l1, l2⟩ := log2_bounds hn
  have e1 : 2 ^ (n.log2 + 2) = 2 ^ n.log2 * 4 := by rw [Nat.pow_add]
  have e2 : 2 ^ (n.log2 + 4) = 2 ^ (n.log2 + 1) * 8 := by rw [show n.log2 + 4 = n.log2 + 1 + 3 by omega, Nat.pow_add]
  constructor
  · exact (Nat.le_log2 (by omega)).2 (by omega)
  · have := (Nat.log2_lt (n := 5 * n) (k := n.log2 + 4) (by omega)).2 (by omega)
    omega

theorem quot_ten (neg : Bool) (M N : Nat) (i : Int) (hM : M.log2 = 52) (e : M = 5 * N) :
    Datum.quotient 54 (.number neg M i) (.number false 5629499534213120 (-49)) = some (.number neg (N * 32) (i - 6)) := by
  unfold Datum.quotient
  simp only [log2_ten, hM]
  rw [if_neg (by omega)]
  have e3 : M <<< (54 + 52 - 52) / 5629499534213120 = N * 16 := by
    rw [Nat.shiftLeft_eq, e]; omega
  have e4 : M <<< (54 + 52 - 52) % 5629499534213120 = 0 := by
    rw [Nat.shiftLeft_eq, e]; omega
  rw [e3, e4]
  simp
  omega

/-- Five times a number, divided by ten, is its half. -/
theorem tenth {h : Int} (h0 : h ≠ 0) (h1 : -9007199254740992 < 5 * h) (h2 : 5 * h < 9007199254740992) : floatBits .quo .f64 (FloatKind.f64.nearest (5 * h)) 4621819117588971520 = some (fb h) := by
  have g0 : 5 * h ≠ 0 := by omega
  have hl := log2_le (m := (5 * h).natAbs) (by omega) (by omega)
  have hl' := log2_le (m := h.natAbs) (by omega) (by omega)
  have hb := (sig_bounds h0 (by omega) (by omega)).2
  have hs := sig_ne h0 (by omega) (by omega)
  have hf := log2_five (n := h.natAbs) (by omega)
  have hn : decide (5 * h < 0) = decide (h < 0) := by
    by_cases hh : h < 0
    · rw [decide_eq_true hh, decide_eq_true (by omega)]
    · rw [decide_eq_false hh, decide_eq_false (by omega)]
  rw [← natAbs_five] at hf
  show double.div (FloatKind.f64.nearest (5 * h)) 4621819117588971520 = _
  unfold Format.div
  rw [read_whole g0 h1 h2, read_ten, show double.fractionBits + 2 = 54 from rfl]
  have e5 : sig (5 * h) = 5 * (h.natAbs <<< (52 - (5 * h).natAbs.log2)) := by
    unfold sig
    rw [Nat.shiftLeft_eq, Nat.shiftLeft_eq, natAbs_five, Nat.mul_assoc]
  rw [quot_ten _ _ (h.natAbs <<< (52 - (5 * h).natAbs.log2)) _ (sig_log2 g0 h1 h2) e5]
  rw [half_word h0 (by omega) (by omega), hn]
  show some (double.nearest _ _ _) = _
  congr 1
  have e6 : h.natAbs <<< (52 - (5 * h).natAbs.log2) * 32 = sig h <<< (h.natAbs.log2 + 5 - (5 * h).natAbs.log2) := by
    unfold sig
    rw [Nat.shiftLeft_eq, Nat.shiftLeft_eq, Nat.shiftLeft_eq, Nat.mul_assoc, Nat.mul_assoc, ← Nat.pow_add, show (32 : Nat) = 2 ^ 5 from rfl, ← Nat.pow_add]
    congr 2
    omega
  rw [e6]
  refine nearest_of _ _ _ _ _ (by rw [Nat.shiftLeft_eq]; exact Nat.mul_ne_zero hs (Nat.ne_of_gt (Nat.two_pow_pos _))) ?_ (by omega) (by omega) ?_ hb
  · rw [log2_shift hs, sig_log2 h0 (by omega) (by omega)]; omega
  · have e1 : (-((52 - (5 * h).natAbs.log2 : Nat) : Int) - 6 - (-((52 - h.natAbs.log2 : Nat) : Int) - 1)).toNat = 0 := by omega
    have e2 : (-((52 - h.natAbs.log2 : Nat) : Int) - 1 - (-((52 - (5 * h).natAbs.log2 : Nat) : Int) - 6)).toNat = h.natAbs.log2 + 5 - (5 * h).natAbs.log2 := by omega
    rw [e1, e2, Nat.shiftLeft_zero, cut_shift _ _ _ _ hs]
end Go.Proofs.YtbdciilkapgfjaaGreatDoor
