/- Plain facts on floats: a half doubled is the whole number, whose whole part is itself and which is converted back exactly. A part of the proof. A part of the proof. -/
import Derived.Test.YtofpdcjgakmlnaaGreatDoorFloat
import Derived.Laws.FloatArith
namespace Go.Proofs.YtofpdcjgakmlnaaGreatDoor
open Ieee

/-- Digits that end in noughts are cut without loss, whichever way. -/
theorem cut_shift (way : Toward) (neg : Bool) (a d : Nat) (ha : a ≠ 0) : way.cut neg (a <<< d) d = a := by
  have e0 : min d ((a <<< d).log2 + 2) = d := by rw [log2_shift ha]; omega
  have e1 : (a <<< d) / (1 <<< d) = a := by
    rw [Nat.shiftLeft_eq, Nat.shiftLeft_eq, Nat.one_mul]; exact Nat.mul_div_cancel _ (Nat.two_pow_pos d)
  have e2 : (a <<< d) % (1 <<< d) = 0 := by
    rw [Nat.shiftLeft_eq, Nat.shiftLeft_eq, Nat.one_mul]; exact Nat.mul_mod_left _ _
  have e3 : ¬ (1 <<< d = 0) := by rw [Nat.shiftLeft_eq, Nat.one_mul]; have := Nat.two_pow_pos d; omega
  unfold Toward.cut
  simp only [e0, e1, e2]
  cases way <;> simp [e3]

/-- The word nearest to m * 2^p, where the digits that are kept are K. -/
theorem nearest_of (neg : Bool) (m K : Nat) (p last : Int) (hm : m ≠ 0) (hl : p + (m.log2 : Int) - 52 = last) (h1 : -1074 ≤ last) (h2 : last < 900)
    (hk : Toward.even.cut neg (m <<< (p - last).toNat) (last - p).toNat = K) (hK : K < 9007199254740992) :
    double.nearest neg m p = double.word neg ((last + 1074).toNat * 4503599627370496 + K) := by
  unfold Format.nearest
  rw [if_neg hm, least_double, binade_double, infRung_double]
  have hlast : max (p + (m.log2 : Int) - (double.fractionBits : Int)) (-1074) = last := by
    show max (p + (m.log2 : Int) - 52) (-1074) = _
    omega
  simp only [hlast, hk, show last - -1074 = last + 1074 by omega]
  rw [Nat.min_eq_left (by omega)]

theorem read_great (neg : Bool) : double.read (double.word neg 4886405595696988160) = .number neg 4503599627370496 10 := by cases neg <;> decide +kernel

/-- A whole number, made a significand of 53 digits. -/
def sig (h : Int) : Nat := h.natAbs <<< (52 - h.natAbs.log2)

section
variable {h : Int} (h0 : h ≠ 0) (h1 : -9007199254740992 < h) (h2 : h < 9007199254740992)
include h0 h1 h2

theorem sig_log2 : (sig h).log2 = 52 := by
  have := log2_le (m := h.natAbs) (by omega) (by omega)
  unfold sig
  rw [log2_shift (by omega)]; omega
theorem sig_bounds : 4503599627370496 ≤ sig h ∧ sig h < 9007199254740992 := by
  have e := sig_log2 h0 h1 h2
  have hne : sig h ≠ 0 := by intro e'; rw [e'] at e; simp at e
  obtain ⟨l1, l2⟩ := log2_bounds hne
  rw [e] at l1 l2
  exact ⟨by omega, by omega⟩
theorem sig_ne : sig h ≠ 0 := by have := (sig_bounds h0 h1 h2).1; omega

/-- The word of a whole number. -/
theorem whole_word : FloatKind.f64.nearest h = double.word (decide (h < 0)) ((-((52 - h.natAbs.log2 : Nat) : Int) + 1074).toNat * 4503599627370496 + sig h) := by
  have hl := log2_le (m := h.natAbs) (by omega) (by omega)
  have hb := (sig_bounds h0 h1 h2).2
  show double.nearest (decide (h < 0)) h.natAbs 0 = _
  refine nearest_of _ _ _ 0 _ (by omega) (by omega) (by omega) (by omega) ?_ hb
  have e1 : (0 - -((52 - h.natAbs.log2 : Nat) : Int)).toNat = 52 - h.natAbs.log2 := by omega
  have e2 : (-((52 - h.natAbs.log2 : Nat) : Int) - 0).toNat = 0 := by omega
  rw [e1, e2, cut_zero]; rfl
/-- The word of a half of it. -/
theorem half_word : fb h = double.word (decide (h < 0)) ((-((52 - h.natAbs.log2 : Nat) : Int) - 1 + 1074).toNat * 4503599627370496 + sig h) := by
  have hl := log2_le (m := h.natAbs) (by omega) (by omega)
  have hb := (sig_bounds h0 h1 h2).2
  have hs := sig_ne h0 h1 h2
  have e8 : sig h * 8 = sig h <<< 3 := by rw [Nat.shiftLeft_eq]
  unfold fb
  rw [div_two h h0 h1 h2, Option.getD_some]
  show double.nearest _ (sig h * 8) _ = _
  refine nearest_of _ _ _ _ _ (by omega) ?_ (by omega) (by omega) ?_ hb
  · rw [e8, log2_shift hs, sig_log2 h0 h1 h2]; omega
  · have e1 : ((0 : Int) - (52 - h.natAbs.log2 : Nat) - 4 - (-((52 - h.natAbs.log2 : Nat) : Int) - 1)).toNat = 0 := by omega
    have e2 : (-((52 - h.natAbs.log2 : Nat) : Int) - 1 - ((0 : Int) - (52 - h.natAbs.log2 : Nat) - 4)).toNat = 3 := by omega
    rw [e1, e2, Nat.shiftLeft_zero, e8, cut_shift _ _ _ _ hs]

theorem read_whole : double.read (FloatKind.f64.nearest h) = .number (decide (h < 0)) (sig h) (-((52 - h.natAbs.log2 : Nat) : Int)) := by
  have hl := log2_le (m := h.natAbs) (by omega) (by omega)
  obtain ⟨b1, b2⟩ := sig_bounds h0 h1 h2
  rw [whole_word h0 h1 h2, read_word _ _ _ b1 b2 (by omega)]
  congr 1; omega
theorem read_half : double.read (fb h) = .number (decide (h < 0)) (sig h) (-((52 - h.natAbs.log2 : Nat) : Int) - 1) := by
  have hl := log2_le (m := h.natAbs) (by omega) (by omega)
  obtain ⟨b1, b2⟩ := sig_bounds h0 h1 h2
  rw [half_word h0 h1 h2, read_word _ _ _ b1 b2 (by omega)]
  congr 1; omega

/-- Twice the half is the number. -/
theorem two_half : floatBits .mul .f64 4611686018427387904 (fb h) = some (FloatKind.f64.nearest h) := by
  have hl := log2_le (m := h.natAbs) (by omega) (by omega)
  have hb := (sig_bounds h0 h1 h2).2
  have hs := sig_ne h0 h1 h2
  have e52 : 4503599627370496 * sig h = sig h <<< 52 := by rw [Nat.shiftLeft_eq]; omega
  show double.mul 4611686018427387904 (fb h) = _
  unfold Format.mul
  rw [read_two, read_half h0 h1 h2]
  show some (double.nearest (false ^^ decide (h < 0)) (4503599627370496 * sig h) (-51 + (-((52 - h.natAbs.log2 : Nat) : Int) - 1))) = _
  rw [whole_word h0 h1 h2, Bool.false_xor]
  congr 1
  refine nearest_of _ _ _ _ _ (by omega) ?_ (by omega) (by omega) ?_ hb
  · rw [e52, log2_shift hs, sig_log2 h0 h1 h2]; omega
  · have e1 : (-51 + (-((52 - h.natAbs.log2 : Nat) : Int) - 1) - -((52 - h.natAbs.log2 : Nat) : Int)).toNat = 0 := by omega
    have e2 : (-((52 - h.natAbs.log2 : Nat) : Int) - (-51 + (-((52 - h.natAbs.log2 : Nat) : Int) - 1))).toNat = 52 := by omega
    rw [e1, e2, Nat.shiftLeft_zero, e52, cut_shift _ _ _ _ hs]

/-- A whole number is its own whole part. -/
theorem trunc_whole : (FloatKind.f64.decode (FloatKind.f64.nearest h)).integral .zero = .number (decide (h < 0)) h.natAbs 0 := by
  show (double.read (FloatKind.f64.nearest h)).integral .zero = _
  rw [read_whole h0 h1 h2]
  unfold Datum.integral
  have e1 : (-((52 - h.natAbs.log2 : Nat) : Int)).toNat = 0 := by omega
  have e2 : (- -((52 - h.natAbs.log2 : Nat) : Int)).toNat = 52 - h.natAbs.log2 := by omega
  simp only [e1, e2, Nat.shiftLeft_zero]
  unfold sig
  rw [cut_shift _ _ _ _ (by omega)]
theorem int_whole : floatToIntVal .f64 (FloatKind.f64.nearest h) .i64 = some h := by
  unfold floatToIntVal Datum.toInt
  rw [trunc_whole h0 h1 h2]
  have e : signed (decide (h < 0)) h.natAbs 0 = h := by
    unfold signed
    simp only [Nat.shiftLeft_zero, decide_eq_true_eq]
    split <;> omega
  simp only [e]
  rw [if_pos]
  exact ⟨by show -9223372036854775808 ≤ h; omega, by show h ≤ 9223372036854775807; omega⟩

theorem order_self : FloatKind.f64.format.order (FloatKind.f64.nearest h) (FloatKind.f64.nearest h) = some .eq := by
  show (double.read (FloatKind.f64.nearest h)).order (double.read (FloatKind.f64.nearest h)) = _
  rw [read_whole h0 h1 h2]
  unfold Datum.order
  simp [compare, compareOfLessAndEq]
theorem great_bound (d : Nat) : (sig h : Int) < ((4503599627370496 <<< (10 + d) : Nat) : Int) := by
  have hb := (sig_bounds h0 h1 h2).2
  have : 4503599627370496 * 1024 ≤ 4503599627370496 * 2 ^ (10 + d) := by
    refine Nat.mul_le_mul_left _ ?_
    rw [Nat.pow_add]
    have := Nat.two_pow_pos d
    omega
  rw [Nat.shiftLeft_eq]
  omega
theorem order_low : FloatKind.f64.format.order (FloatKind.f64.nearest h) 14109777632551763968 = some .gt := by
  show (double.read (FloatKind.f64.nearest h)).order (double.read 14109777632551763968) = _
  have hl := log2_le (m := h.natAbs) (by omega) (by omega)
  rw [read_whole h0 h1 h2, show (14109777632551763968 : Nat) = double.word true 4886405595696988160 by decide +kernel, read_great]
  have hg := great_bound h0 h1 h2 (52 - h.natAbs.log2)
  unfold Datum.order
  have e0 : min (-((52 - h.natAbs.log2 : Nat) : Int)) 10 = -((52 - h.natAbs.log2 : Nat) : Int) := by omega
  simp only [e0]
  have e1 : (-((52 - h.natAbs.log2 : Nat) : Int) - -((52 - h.natAbs.log2 : Nat) : Int)).toNat = 0 := by omega
  have e2 : ((10 : Int) - -((52 - h.natAbs.log2 : Nat) : Int)).toNat = 10 + (52 - h.natAbs.log2) := by omega
  rw [e1, e2]
  generalize 52 - h.natAbs.log2 = d at *
  have lt : signed true 4503599627370496 (10 + d) < signed (decide (h < 0)) (sig h) 0 := by
    unfold signed
    simp only [if_true, Nat.shiftLeft_zero]
    split <;> omega
  simp only [compare, compareOfLessAndEq]
  rw [if_neg (by omega), if_neg (by omega)]
theorem order_high : FloatKind.f64.format.order (FloatKind.f64.nearest h) 4886405595696988160 = some .lt := by
  show (double.read (FloatKind.f64.nearest h)).order (double.read 4886405595696988160) = _
  have hl := log2_le (m := h.natAbs) (by omega) (by omega)
  rw [read_whole h0 h1 h2, show (4886405595696988160 : Nat) = double.word false 4886405595696988160 by decide +kernel, read_great]
  have hg := great_bound h0 h1 h2 (52 - h.natAbs.log2)
  unfold Datum.order
  have e0 : min (-((52 - h.natAbs.log2 : Nat) : Int)) 10 = -((52 - h.natAbs.log2 : Nat) : Int) := by omega
  simp only [e0]
  have e1 : (-((52 - h.natAbs.log2 : Nat) : Int) - -((52 - h.natAbs.log2 : Nat) : Int)).toNat = 0 := by omega
  have e2 : ((10 : Int) - -((52 - h.natAbs.log2 : Nat) : Int)).toNat = 10 + (52 - h.natAbs.log2) := by omega
  rw [e1, e2]
  generalize 52 - h.natAbs.log2 = d at *
  have lt : signed (decide (h < 0)) (sig h) 0 < signed false 4503599627370496 (10 + d) := by
    unfold signed
    simp only [if_false, Bool.false_eq_true, Nat.shiftLeft_zero]
    split <;> omega
  simp only [compare, compareOfLessAndEq]
  rw [if_pos lt]
end
end Go.Proofs.YtofpdcjgakmlnaaGreatDoor

namespace Go.Proofs.YtofpdcjgakmlnaaGreatDoor
open Ieee

/-- m * 2^i, five thousand places up. -/
def up (m : Nat) (i : Int) : Nat := m * 2 ^ (i + 5000).toNat
/-- A datum is a finite number within the format's places; its value, scaled. -/
structure Fin64 (d : Datum) (V : Int) : Prop where
  is : ∃ s m i, d = .number s m i ∧ -1100 ≤ i ∧ i ≤ 1100 ∧ V = (if s then -(up m i : Int) else (up m i : Int))

theorem up_shift (m : Nat) (i : Int) (d : Nat) (h : -5000 ≤ i - d) : up (m <<< d) (i - d) = up m i := by
  unfold up
  rw [Nat.shiftLeft_eq, Nat.mul_assoc, ← Nat.pow_add]
  congr 2
  omega
theorem up_pos {m : Nat} {i : Int} : 0 < up m i ↔ 0 < m := by
  unfold up
  have := Nat.two_pow_pos (i + 5000).toNat
  constructor
  · intro h; exact Nat.pos_of_mul_pos_right h
  · intro h; exact Nat.mul_pos h this
theorem up_log2 {m : Nat} {i : Int} (hm : m ≠ 0) (h : -5000 ≤ i) : ((up m i).log2 : Int) = m.log2 + i + 5000 := by
  unfold up
  rw [← Nat.shiftLeft_eq, log2_shift hm]
  omega

/-- The word nearest to a number that fits is that number. -/
theorem nearest_fit (neg : Bool) (m k : Nat) (p q : Int) (hk : k ≠ 0) (hlt : k < 9007199254740992) (hp : -2400 ≤ p) (hp2 : p ≤ 2400) (hq : -900 ≤ q) (hq2 : q ≤ 800) (h : up m p = up k q) :
    Fin64 (double.read (double.nearest neg m p)) (if neg then -(up k q : Int) else (up k q : Int)) ∧ double.nearest neg m p = double.nearest neg k q := by
  have hm : m ≠ 0 := by
    have : 0 < up m p := by rw [h]; exact up_pos.2 (by omega)
    have := up_pos.1 this
    omega
  have hl : (m.log2 : Int) + p = k.log2 + q := by
    have e1 := up_log2 (m := m) (i := p) hm (by omega)
    have e2 := up_log2 (m := k) (i := q) hk (by omega)
    rw [h] at e1
    omega
  have hk52 := log2_le hk hlt
  obtain ⟨l1, l2⟩ := log2_bounds hk
  have hk1 : 4503599627370496 ≤ k <<< (52 - k.log2) := by
    rw [Nat.shiftLeft_eq]
    calc 4503599627370496 = 2 ^ k.log2 * 2 ^ (52 - k.log2) := by rw [← Nat.pow_add, show k.log2 + (52 - k.log2) = 52 by omega]
      _ ≤ k * 2 ^ (52 - k.log2) := Nat.mul_le_mul_right _ l1
  have hk2 : k <<< (52 - k.log2) < 9007199254740992 := by
    rw [Nat.shiftLeft_eq]
    calc k * 2 ^ (52 - k.log2) < 2 ^ (k.log2 + 1) * 2 ^ (52 - k.log2) := Nat.mul_lt_mul_of_pos_right l2 (Nat.two_pow_pos _)
      _ = 9007199254740992 := by rw [← Nat.pow_add, show k.log2 + 1 + (52 - k.log2) = 53 by omega]
  have key : ∀ (m : Nat) (p : Int), m ≠ 0 → -2400 ≤ p → p ≤ 2400 → up m p = up k q → (m.log2 : Int) + p = k.log2 + q → double.nearest neg m p = double.word neg ((k.log2 + q - 52 + 1074).toNat * 4503599627370496 + k <<< (52 - k.log2)) := by
    intro m p hm hp hp2 h hl
    refine nearest_of neg m _ p (k.log2 + q - 52) hm (by omega) (by omega) (by omega) ?_ hk2
    by_cases h1 : p < k.log2 + q - 52
    · have e1 : (p - (k.log2 + q - 52)).toNat = 0 := by omega
      rw [e1, Nat.shiftLeft_zero]
      have e2 : m = (k <<< (52 - k.log2)) <<< ((k.log2 : Int) + q - 52 - p).toNat := by
        rw [← Nat.shiftLeft_add, Nat.shiftLeft_eq]
        unfold up at h
        have e3 : (q + 5000).toNat = (52 - k.log2 + ((k.log2 : Int) + q - 52 - p).toNat) + (p + 5000).toNat := by omega
        rw [e3, Nat.pow_add, ← Nat.mul_assoc] at h
        exact Nat.eq_of_mul_eq_mul_right (Nat.two_pow_pos _) h
      conv => lhs; rw [e2]
      exact cut_shift _ _ _ _ (by omega)
    · have e1 : ((k.log2 : Int) + q - 52 - p).toNat = 0 := by omega
      rw [e1, cut_zero]
      refine Nat.eq_of_mul_eq_mul_right (Nat.two_pow_pos (k.log2 + q - 52 + 5000).toNat) ?_
      unfold up at h
      rw [Nat.shiftLeft_eq, Nat.shiftLeft_eq, Nat.mul_assoc, ← Nat.pow_add, Nat.mul_assoc, ← Nat.pow_add]
      have e3 : (p - ((k.log2 : Int) + q - 52)).toNat + ((k.log2 : Int) + q - 52 + 5000).toNat = (p + 5000).toNat := by omega
      have e4 : (52 - k.log2) + ((k.log2 : Int) + q - 52 + 5000).toNat = (q + 5000).toNat := by omega
      rw [e3, e4]
      exact h
  refine ⟨?_, (key m p hm hp hp2 h hl).trans (key k q hk (by omega) (by omega) rfl rfl).symm⟩
  rw [key m p hm hp hp2 h hl, read_word _ _ _ hk1 hk2 (by omega)]
  refine ⟨_, _, _, rfl, by omega, by omega, ?_⟩
  have e : up (k <<< (52 - k.log2)) (-1074 + (((k.log2 : Int) + q - 52 + 1074).toNat : Int)) = up k q := by
    rw [show (-1074 + (((k.log2 : Int) + q - 52 + 1074).toNat : Int)) = q - (52 - k.log2 : Nat) by omega]
    exact up_shift _ _ _ (by omega)
  rw [e]

theorem up_low (m : Nat) (i base : Int) (h1 : -5000 ≤ base) (h2 : base ≤ i) : up m i = (m <<< (i - base).toNat) * 2 ^ (base + 5000).toNat := by
  unfold up
  rw [Nat.shiftLeft_eq, Nat.mul_assoc, ← Nat.pow_add]
  congr 2
  omega
theorem signed_up (s : Bool) (m : Nat) (i base : Int) (h1 : -5000 ≤ base) (h2 : base ≤ i) : (if s then -(up m i : Int) else (up m i : Int)) = signed s m (i - base).toNat * (2 ^ (base + 5000).toNat : Nat) := by
  rw [up_low m i base h1 h2]
  unfold signed
  cases s
  · simp
  · simp only [if_true]
    rw [Int.neg_mul]
    simp

/-- Halves of c, scaled. -/
def pw (n : Nat) : Nat := 2 ^ n
theorem pw_pos (n : Nat) : 0 < pw n := Nat.two_pow_pos n
theorem pw_add (d n : Nat) : 2 ^ (d + n) = 2 ^ d * pw n := Nat.pow_add _ _ _
def hvK : Nat := pw 4999
theorem hvK_pos : 0 < hvK := pw_pos _
def hv (c : Int) : Int := c * (hvK : Int)
theorem hv_zero : hv 0 = 0 := Int.zero_mul _

/-- A number of halves that a float can hold. -/
def Fits53 (c : Int) : Prop := -18014398509481984 ≤ c ∧ c ≤ 18014398509481984 ∧ (c % 2 = 0 ∨ (-9007199254740992 < c ∧ c < 9007199254740992))
theorem fits_kq {c : Int} (h : Fits53 c) (h0 : c ≠ 0) : ∃ k q, k ≠ 0 ∧ k < 9007199254740992 ∧ -1 ≤ q ∧ q ≤ 10 ∧ (up k q : Int) = hv c.natAbs := by
  obtain ⟨h1, h2, h3⟩ := h
  have big : ∀ (k : Nat) (q : Int), 0 ≤ q + 1 → (k * 2 ^ (q + 1).toNat = c.natAbs) → (up k q : Int) = hv c.natAbs := by
    intro k q hq e
    unfold up hv
    rw [← e, show (q + 5000).toNat = (q + 1).toNat + 4999 by omega, pw_add, ← Nat.mul_assoc]
    exact Int.natCast_mul _ _
  by_cases hc : c.natAbs < 9007199254740992
  · exact ⟨c.natAbs, -1, by omega, hc, by omega, by omega, big _ _ (by omega) (by simp)⟩
  · by_cases hc2 : c.natAbs = 18014398509481984
    · exact ⟨4503599627370496, 1, by omega, by omega, by omega, by omega, big _ _ (by omega) (by rw [hc2]; decide +kernel)⟩
    · have he : c % 2 = 0 := by rcases h3 with h | h; exact h; omega
      refine ⟨c.natAbs / 2, 0, by omega, by omega, by omega, by omega, big _ _ (by omega) ?_⟩
      show c.natAbs / 2 * 2 ^ 1 = _
      omega

/-- A number of halves that a float can hold, by its digits. -/
def Fits (c : Int) : Prop := c = 0 ∨ ∃ k q, k ≠ 0 ∧ k < 9007199254740992 ∧ -1 ≤ q ∧ q ≤ 100 ∧ (up k q : Int) = hv c.natAbs
theorem Fits53.fits {c : Int} (h : Fits53 c) : Fits c := by
  by_cases h0 : c = 0
  · exact Or.inl h0
  · obtain ⟨k, q, h1, h2, h3, h4, h5⟩ := fits_kq h h0
    exact Or.inr ⟨k, q, h1, h2, h3, by omega, h5⟩
theorem Fits53.two {c : Int} (h : Fits53 c) : Fits (2 * c) := by
  by_cases h0 : c = 0
  · exact Or.inl (by omega)
  · obtain ⟨k, q, h1, h2, h3, h4, h5⟩ := fits_kq h h0
    refine Or.inr ⟨k, q + 1, h1, h2, by omega, by omega, ?_⟩
    have e : up k (q + 1) = 2 * up k q := by
      unfold up
      rw [show (q + 1 + 5000).toNat = (q + 5000).toNat + 1 by omega, Nat.pow_succ]
      rw [Nat.mul_comm 2, Nat.mul_assoc]
    rw [e, Int.natCast_mul, h5]
    unfold hv
    rw [← Int.mul_assoc]
    congr 1
    omega

/-- The nearest word of a number that is c halves. -/
theorem nearest_half (neg : Bool) (m : Nat) (p c : Int) (hp : -2400 ≤ p) (hp2 : p ≤ 2400) (hc : Fits c) (hn : c ≠ 0 → neg = decide (c < 0)) (h : (up m p : Int) = hv c.natAbs) : Fin64 (double.read (double.nearest neg m p)) (hv c) := by
  by_cases h0 : c = 0
  · subst h0
    simp only [Int.natAbs_zero] at h
    have hm : m = 0 := by
      have := hv_zero
      have h2 : ¬ 0 < up m p := by
        have e : hv ((0 : Nat) : Int) = 0 := hv_zero
        omega
      rw [up_pos] at h2
      omega
    subst hm
    rw [hv_zero]
    unfold Format.nearest
    rw [if_pos rfl]
    refine ⟨neg, 0, -1074, ?_, by omega, by omega, by unfold up; rw [Nat.zero_mul]; cases neg <;> rfl⟩
    cases neg <;> decide +kernel
  · obtain ⟨k, q, hk, hlt, hq1, hq2, e⟩ := hc.resolve_left h0
    have e2 : up m p = up k q := by omega
    have := (nearest_fit neg m k p q hk hlt hp hp2 (by omega) (by omega) e2).1
    rw [hn h0] at this ⊢
    have e3 : (if decide (c < 0) = true then -(up k q : Int) else (up k q : Int)) = hv c := by
      rw [e]
      by_cases hneg : c < 0
      · simp only [hneg, decide_true, if_true]
        unfold hv
        rw [← Int.neg_mul]
        congr 1
        omega
      · simp only [hneg, decide_false, Bool.false_eq_true, if_false]
        unfold hv
        congr 1
        omega
    rw [e3] at this
    exact this

theorem hv_add (a b : Int) : hv a + hv b = hv (a + b) := by unfold hv; rw [Int.add_mul]
theorem hv_pos {c : Int} : (hv c < 0 ↔ c < 0) ∧ (hv c = 0 ↔ c = 0) := by
  unfold hv
  have hp : (0 : Int) < (hvK : Int) := by have := hvK_pos; omega
  generalize (hvK : Int) = K at hp
  constructor
  · constructor
    · intro h
      by_cases hc : c < 0
      · exact hc
      · have := Int.mul_nonneg (Int.not_lt.1 hc) (Int.le_of_lt hp)
        omega
    · intro h
      exact Int.mul_neg_of_neg_of_pos h hp
  · constructor
    · intro h
      rcases Int.mul_eq_zero.1 h with h | h
      · exact h
      · omega
    · intro h
      rw [h, Int.zero_mul]
theorem hv_natAbs (c : Int) : ((hv c).natAbs : Int) = hv c.natAbs := by
  unfold hv
  rw [Int.natAbs_mul, Int.natAbs_natCast]
  exact Int.natCast_mul _ _

/-- The sum of two numbers of halves. -/
theorem add_half {X Y : Nat} {a b : Int} (hX : Fin64 (double.read X) (hv a)) (hY : Fin64 (double.read Y) (hv b)) (hc : Fits (a + b)) : ∃ Z, double.add X Y = some Z ∧ Fin64 (double.read Z) (hv (a + b)) := by
  obtain ⟨s, m, i, eX, i1, i2, eV⟩ := hX.is
  obtain ⟨t, n, j, eY, j1, j2, eW⟩ := hY.is
  have h1 := signed_up s m i (min i j) (by omega) (by omega)
  have h2 := signed_up t n j (min i j) (by omega) (by omega)
  have hsum : hv (a + b) = (signed s m (i - min i j).toNat + signed t n (j - min i j).toNat) * (2 ^ (min i j + 5000).toNat : Nat) := by
    rw [← hv_add, eV, eW, h1, h2, Int.add_mul]
  refine ⟨_, by unfold Format.add; rw [eX, eY]; rfl, ?_⟩
  show Fin64 (double.read (double.nearest _ _ _)) _
  generalize signed s m (i - min i j).toNat + signed t n (j - min i j).toNat = total at hsum
  have hK : (0 : Int) < ((2 ^ (min i j + 5000).toNat : Nat) : Int) := Int.natCast_pos.2 (Nat.two_pow_pos _)
  refine nearest_half _ _ _ _ (by omega) (by omega) hc (fun h0 => ?_) ?_
  · have hne : total ≠ 0 := by
      intro e
      rw [e, Int.zero_mul] at hsum
      exact h0 (hv_pos.2.1 hsum)
    rw [if_neg hne]
    rw [decide_eq_decide]
    rw [← (hv_pos (c := a + b)).1, hsum]
    constructor
    · intro h; exact Int.mul_neg_of_neg_of_pos h hK
    · intro h
      by_cases ht : total < 0
      · exact ht
      · have := Int.mul_nonneg (Int.not_lt.1 ht) (Int.le_of_lt hK)
        omega
  · rw [← hv_natAbs, hsum, Int.natAbs_mul]
    unfold up
    simp

theorem up_at (m d : Nat) (i : Int) (h : i + 5000 = d + 4999) : up m i = m * 2 ^ d * hvK := by
  unfold up
  rw [show (i + 5000).toNat = d + 4999 by omega, pw_add, ← Nat.mul_assoc]
  rfl
theorem up_two (m : Nat) (i : Int) (h : -2400 ≤ i) : up (4503599627370496 * m) (-51 + i) = 2 * up m i := by
  unfold up
  rw [show (4503599627370496 : Nat) = 2 ^ 52 by decide +kernel, Nat.mul_comm (2 ^ 52), Nat.mul_assoc, ← Nat.pow_add, show 52 + (-51 + i + 5000).toNat = (i + 5000).toNat + 1 by omega, Nat.pow_succ]
  rw [Nat.mul_comm 2, Nat.mul_assoc]

/-- Twice a number of halves. -/
theorem two_mul_half {X : Nat} {a : Int} (hX : Fin64 (double.read X) (hv a)) (hc : Fits (2 * a)) : ∃ Z, double.mul 4611686018427387904 X = some Z ∧ Fin64 (double.read Z) (hv (2 * a)) := by
  obtain ⟨s, m, i, eX, i1, i2, eV⟩ := hX.is
  refine ⟨_, by unfold Format.mul; rw [eX, read_two]; rfl, ?_⟩
  show Fin64 (double.read (double.nearest _ _ _)) _
  have h2 : hv (2 * a) = 2 * hv a := by unfold hv; rw [Int.mul_assoc]
  have hu := up_two m i (by omega)
  refine nearest_half _ _ _ _ (by omega) (by omega) hc (fun h0 => ?_) ?_
  · have hpos := up_pos (m := m) (i := i)
    have := (hv_pos (c := a)).1
    have := (hv_pos (c := a)).2
    cases s
    · simp only [Bool.false_eq_true, if_false] at eV
      rw [eq_comm, Bool.false_xor]
      simp
      omega
    · simp only [if_true] at eV
      rw [eq_comm, Bool.false_xor]
      simp
      omega
  · rw [← hv_natAbs, h2, hu, eV]
    cases s <;> simp <;> omega

/-- A whole number's float. -/
theorem nearest_whole {n : Int} (hc : Fits (2 * n)) : Fin64 (double.read (FloatKind.f64.nearest n)) (hv (2 * n)) := by
  show Fin64 (double.read (double.nearest (decide (n < 0)) n.natAbs 0)) _
  refine nearest_half _ _ _ _ (by omega) (by omega) hc (fun h0 => ?_) ?_
  · rw [decide_eq_decide]; omega
  · rw [up_at _ 1 0 (by omega)]
    unfold hv
    rw [Int.natCast_mul]
    congr 1
    omega

/-- A half that is odd. -/
theorem half_odd {h : Int} (h0 : h ≠ 0) (h1 : -9007199254740992 < h) (h2 : h < 9007199254740992) : Fin64 (double.read (fb h)) (hv h) := by
  have hl := log2_le (m := h.natAbs) (by omega) (by omega)
  rw [read_half h0 h1 h2]
  refine ⟨_, _, _, rfl, by omega, by omega, ?_⟩
  have e : up (sig h) (-((52 - h.natAbs.log2 : Nat) : Int) - 1) = up h.natAbs (-1) := by
    unfold sig
    rw [show -((52 - h.natAbs.log2 : Nat) : Int) - 1 = -1 - ((52 - h.natAbs.log2 : Nat) : Int) by omega]
    exact up_shift _ _ _ (by omega)
  rw [e]
  unfold up hv
  rw [show ((-1 : Int) + 5000).toNat = 4999 by omega]
  show _ = if _ then -(((h.natAbs * hvK : Nat)) : Int) else ((h.natAbs * hvK : Nat) : Int)
  rw [Int.natCast_mul]
  generalize (hvK : Int) = K
  by_cases hneg : h < 0
  · simp only [hneg, decide_true, if_true]
    rw [← Int.neg_mul]
    congr 1
    omega
  · simp only [hneg, decide_false, Bool.false_eq_true, if_false]
    congr 1
    omega

/-- Two floats stand to each other as their values do. -/
theorem order_val {X Y : Nat} {V W : Int} (hX : Fin64 (double.read X) V) (hY : Fin64 (double.read Y) W) : FloatKind.f64.format.order X Y = some (compare V W) := by
  obtain ⟨s, m, i, eX, i1, i2, eV⟩ := hX.is
  obtain ⟨t, n, j, eY, j1, j2, eW⟩ := hY.is
  show (double.read X).order (double.read Y) = _
  rw [eX, eY]
  unfold Datum.order
  simp only
  rw [eV, eW, signed_up s m i (min i j) (by omega) (by omega), signed_up t n j (min i j) (by omega) (by omega)]
  have hK : (0 : Int) < ((2 ^ (min i j + 5000).toNat : Nat) : Int) := Int.natCast_pos.2 (Nat.two_pow_pos _)
  generalize ((2 ^ (min i j + 5000).toNat : Nat) : Int) = K at hK
  generalize signed s m (i - min i j).toNat = x
  generalize signed t n (j - min i j).toNat = y
  congr 1
  simp only [compare, compareOfLessAndEq]
  have e1 : (x * K < y * K) ↔ x < y := Int.mul_lt_mul_right hK
  have e2 : (x * K = y * K) ↔ x = y := Int.mul_eq_mul_right_iff (by omega)
  simp only [e1, e2]

theorem Fin64.unique {d : Datum} {V W : Int} (h : Fin64 d V) (k : Fin64 d W) : V = W := by
  obtain ⟨s, m, i, e, _, _, hV⟩ := h.is
  obtain ⟨t, n, j, e2, _, _, hW⟩ := k.is
  rw [e] at e2
  cases e2
  rw [hV, hW]

/-- A whole number's float, cut to a whole number. -/
theorem trunc_val {X : Nat} {n : Int} (hX : Fin64 (double.read X) (hv (2 * n))) : ∃ s : Bool, (FloatKind.f64.decode X).integral .zero = .number s n.natAbs 0 ∧ (n ≠ 0 → s = decide (n < 0)) := by
  obtain ⟨s, m, i, eX, i1, i2, eV⟩ := hX.is
  have hu : up m i = n.natAbs * 2 ^ 1 * hvK := by
    have h1 := hv_natAbs (2 * n)
    rw [eV] at h1
    have h2 : hv ((2 * n).natAbs : Int) = ((n.natAbs * 2 ^ 1 * hvK : Nat) : Int) := by
      unfold hv
      rw [Int.natCast_mul]
      congr 1
      omega
    rw [h2] at h1
    cases s
    · simp only [Bool.false_eq_true, if_false] at h1
      omega
    · simp only [if_true] at h1
      omega
  have hcut : Toward.zero.cut s (m <<< i.toNat) (-i).toNat = n.natAbs := by
    by_cases hi : 0 ≤ i
    · have e1 : (-i).toNat = 0 := by omega
      have e2 : m <<< i.toNat = n.natAbs := by
        rw [up_at _ (i.toNat + 1) i (by omega)] at hu
        have := Nat.eq_of_mul_eq_mul_right hvK_pos hu
        rw [Nat.shiftLeft_eq]
        rw [Nat.pow_succ, ← Nat.mul_assoc, Nat.pow_one] at this
        exact Nat.eq_of_mul_eq_mul_right (by omega) this
      rw [e1, e2]
      simp [Toward.cut]
    · have e1 : i.toNat = 0 := by omega
      rw [e1, Nat.shiftLeft_zero]
      by_cases hm : n.natAbs = 0
      · have : m = 0 := by
          have h3 := up_pos (m := m) (i := i)
          have h6 : up m i = 0 := by rw [hu, hm, Nat.zero_mul]
          clear hu
          omega
        rw [this, hm]
        simp [Toward.cut]
      · have e2 : m = n.natAbs <<< (-i).toNat := by
          rw [Nat.shiftLeft_eq]
          have h4 : up (n.natAbs * 2 ^ (-i).toNat) i = n.natAbs * 2 ^ 1 * hvK := by
            rw [← up_at n.natAbs 1 0 (by omega)]
            have := up_shift n.natAbs 0 (-i).toNat (by omega)
            rw [Nat.shiftLeft_eq] at this
            rw [← this]
            congr 1
            omega
          have h5 := hu.trans h4.symm
          unfold up at h5
          exact Nat.eq_of_mul_eq_mul_right (Nat.two_pow_pos _) h5
        rw [e2, cut_shift _ _ _ _ hm]
  refine ⟨s, ?_, fun h0 => ?_⟩
  · show (double.read X).integral .zero = _
    rw [eX]
    show Datum.number s (Toward.zero.cut s (m <<< i.toNat) (-i).toNat) 0 = _
    rw [hcut]
  · have h1 := (hv_pos (c := 2 * n)).1
    have h2 := (hv_pos (c := 2 * n)).2
    have h3 := up_pos (m := m) (i := i)
    cases s
    · simp only [Bool.false_eq_true, if_false] at eV
      rw [eq_comm]; simp; omega
    · simp only [if_true] at eV
      rw [eq_comm]; simp; omega
theorem int_val {X : Nat} {n : Int} (hX : Fin64 (double.read X) (hv (2 * n))) (h1 : -4611686018427387904 < n) (h2 : n < 4611686018427387904) : floatToIntVal .f64 X .i64 = some n := by
  obtain ⟨s, ht, hs⟩ := trunc_val hX
  unfold floatToIntVal Datum.toInt
  rw [ht]
  have e : signed s n.natAbs 0 = n := by
    unfold signed
    by_cases h0 : n = 0
    · subst h0; cases s <;> simp
    · rw [hs h0]
      simp only [Nat.shiftLeft_zero, decide_eq_true_eq]
      split <;> omega
  simp only [e]
  rw [if_pos]
  exact ⟨by show -9223372036854775808 ≤ n; omega, by show n ≤ 9223372036854775807; omega⟩
/-- The float of the whole part. -/
theorem trunc_word {X : Nat} {n : Int} (hX : Fin64 (double.read X) (hv (2 * n))) (hc : Fits (2 * n)) : Fin64 (double.read (FloatKind.f64.encode ((FloatKind.f64.decode X).integral .zero))) (hv (2 * n)) := by
  obtain ⟨s, ht, hs⟩ := trunc_val hX
  rw [ht]
  show Fin64 (double.read (double.nearest s n.natAbs 0)) _
  refine nearest_half _ _ _ _ (by omega) (by omega) hc (fun h0 => ?_) ?_
  · rw [hs (by omega), decide_eq_decide]; omega
  · rw [up_at _ 1 0 (by omega)]
    unfold hv
    rw [Int.natCast_mul]
    congr 1
    omega

theorem read_bound (neg : Bool) : Fin64 (double.read (double.word neg 4886405595696988160)) (hv (2 * (if neg then -4611686018427387904 else 4611686018427387904))) := by
  rw [read_great]
  refine ⟨_, _, _, rfl, by omega, by omega, ?_⟩
  rw [up_at _ 11 10 (by omega)]
  unfold hv
  rw [Int.natCast_mul]
  generalize (hvK : Int) = K
  cases neg
  · simp only [Bool.false_eq_true, if_false]
    congr 1
  · simp only [if_true]
    rw [← Int.neg_mul]
    congr 1
theorem hv_lt {a b : Int} : hv a < hv b ↔ a < b := by
  have hp : (0 : Int) < (hvK : Int) := by have := hvK_pos; omega
  unfold hv
  exact Int.mul_lt_mul_right hp
theorem order_high_val {X : Nat} {n : Int} (hX : Fin64 (double.read X) (hv (2 * n))) (h2 : n < 4611686018427387904) : FloatKind.f64.format.order X 4886405595696988160 = some .lt := by
  rw [show (4886405595696988160 : Nat) = double.word false 4886405595696988160 by decide +kernel, order_val hX (read_bound false)]
  have : hv (2 * n) < hv (2 * 4611686018427387904) := hv_lt.2 (by omega)
  simp only [Bool.false_eq_true, if_false, compare, compareOfLessAndEq]
  rw [if_pos this]
theorem order_low_val {X : Nat} {n : Int} (hX : Fin64 (double.read X) (hv (2 * n))) (h2 : -4611686018427387904 < n) : FloatKind.f64.format.order X 14109777632551763968 = some .gt := by
  rw [show (14109777632551763968 : Nat) = double.word true 4886405595696988160 by decide +kernel, order_val hX (read_bound true)]
  have : hv (2 * -4611686018427387904) < hv (2 * n) := hv_lt.2 (by omega)
  simp only [if_true, compare, compareOfLessAndEq]
  rw [if_neg (by omega), if_neg (by omega)]
theorem order_same {X Y : Nat} {V : Int} (hX : Fin64 (double.read X) V) (hY : Fin64 (double.read Y) V) : FloatKind.f64.format.order X Y = some .eq := by
  rw [order_val hX hY]
  simp [compare, compareOfLessAndEq]
end Go.Proofs.YtofpdcjgakmlnaaGreatDoor

namespace Go.Proofs.YtofpdcjgakmlnaaGreatDoor
open Ieee

/-- A float that is a number or an infinity. -/
def NotNaN (X : Nat) : Prop := ∀ s t, double.read X ≠ .nan s t
theorem Fin64.notNaN {X : Nat} {V : Int} (h : Fin64 (double.read X) V) : NotNaN X := fun s t e => by
  obtain ⟨_, _, _, e2, _⟩ := h.is
  rw [e] at e2; cases e2
theorem word_ok (neg : Bool) (r : Nat) (h : r ≤ 9218868437227405312) : NotNaN (double.word neg r) := by
  intro s t e
  have hW : double.word neg r % double.signWeight = r := by
    unfold Format.word; rw [signWeight_double]; cases neg <;> simp <;> omega
  unfold Format.read at e
  simp only [hW, infRung_double] at e
  split at e
  · cases e
  · split at e
    · cases e
    · rw [if_pos (by omega)] at e
      cases e
theorem nearest_ok (neg : Bool) (m : Nat) (p : Int) : NotNaN (double.nearest neg m p) := by
  unfold Format.nearest
  split
  · exact word_ok neg 0 (by omega)
  · refine word_ok neg _ ?_
    rw [infRung_double]
    exact Nat.min_le_right _ _
theorem write_ok {d : Datum} (h : ∀ s t, d ≠ .nan s t) : NotNaN (double.write d) := by
  cases d with
  | number s m i => exact nearest_ok s m i
  | infinity s => exact word_ok s _ (by rw [infRung_double]; omega)
  | nan s t => exact absurd rfl (h s t)

theorem add_ok {X Y : Nat} {V : Int} (hX : NotNaN X) (hY : Fin64 (double.read Y) V) : ∃ Z, double.add X Y = some Z ∧ NotNaN Z := by
  obtain ⟨t, n, j, eY, _⟩ := hY.is
  unfold Format.add
  rw [eY]
  cases hx : double.read X with
  | number s m i => exact ⟨_, rfl, write_ok (by intro s t e; cases e)⟩
  | infinity s => exact ⟨_, rfl, write_ok (by intro s t e; cases e)⟩
  | nan s t => exact absurd hx (hX s t)
theorem two_ok {X : Nat} (hX : NotNaN X) : ∃ Z, double.mul 4611686018427387904 X = some Z ∧ NotNaN Z := by
  unfold Format.mul
  rw [read_two]
  cases hx : double.read X with
  | number s m i => exact ⟨_, rfl, write_ok (by intro s t e; cases e)⟩
  | infinity s => exact ⟨_, rfl, write_ok (by intro s t e; cases e)⟩
  | nan s t => exact absurd hx (hX s t)
theorem trunc_ok {X : Nat} (hX : NotNaN X) : NotNaN (FloatKind.f64.encode ((FloatKind.f64.decode X).integral .zero)) := by
  show NotNaN (double.write ((double.read X).integral .zero))
  refine write_ok fun s t e => ?_
  cases hx : double.read X with
  | number s m i => rw [hx] at e; cases e
  | infinity s => rw [hx] at e; cases e
  | nan s t => exact absurd hx (hX s t)
theorem order_ok {X Y : Nat} (hX : NotNaN X) (hY : NotNaN Y) : ∃ o, FloatKind.f64.format.order X Y = some o := by
  show ∃ o, (double.read X).order (double.read Y) = some o
  cases hx : double.read X with
  | nan s t => exact absurd hx (hX s t)
  | number s m i =>
    cases hy : double.read Y with
    | nan s t => exact absurd hy (hY s t)
    | number t n j => exact ⟨_, rfl⟩
    | infinity t => exact ⟨_, rfl⟩
  | infinity s =>
    cases hy : double.read Y with
    | nan s t => exact absurd hy (hY s t)
    | number t n j => exact ⟨_, rfl⟩
    | infinity t => exact ⟨_, rfl⟩
theorem whole_ok (n : Int) : NotNaN (FloatKind.f64.nearest n) := nearest_ok _ _ _
theorem bound_ok (neg : Bool) : NotNaN (double.word neg 4886405595696988160) := word_ok _ _ (by omega)

theorem cut_zero_way (s : Bool) (m d : Nat) : Toward.zero.cut s m d = m / 2 ^ d := by
  unfold Toward.cut
  simp only [Bool.toNat_false, Nat.add_zero]
  rw [Nat.shiftLeft_eq, Nat.one_mul]
  rcases Nat.le_total d (m.log2 + 2) with h | h
  · rw [Nat.min_eq_left h]
  · rw [Nat.min_eq_right h]
    have lt : m < 2 ^ (m.log2 + 1) := Nat.lt_log2_self
    have le1 : 2 ^ (m.log2 + 1) ≤ 2 ^ (m.log2 + 2) := Nat.pow_le_pow_right (by omega) (by omega)
    have le2 : 2 ^ (m.log2 + 2) ≤ 2 ^ d := Nat.pow_le_pow_right (by omega) h
    rw [Nat.div_eq_of_lt (by omega), Nat.div_eq_of_lt (by omega)]

/-- A float between the bounds converts to an int. -/
theorem int_ok {X : Nat} (hX : NotNaN X) (h1 : FloatKind.f64.format.order X 14109777632551763968 = some .gt) (h2 : FloatKind.f64.format.order X 4886405595696988160 = some .lt) : ∃ n, floatToIntVal .f64 X .i64 = some n := by
  have h1' : (double.read X).order (double.read 14109777632551763968) = some .gt := h1
  have h2' : (double.read X).order (double.read 4886405595696988160) = some .lt := h2
  rw [show (14109777632551763968 : Nat) = double.word true 4886405595696988160 by decide +kernel, read_great] at h1'
  rw [show (4886405595696988160 : Nat) = double.word false 4886405595696988160 by decide +kernel, read_great] at h2'
  cases hx : double.read X with
  | nan s t => exact absurd hx (hX s t)
  | infinity s => rw [hx] at h1' h2'; cases s <;> simp [Datum.order] at h1' h2'
  | number s m i =>
    rw [hx] at h1' h2'
    simp only [Datum.order, Option.some.injEq, compare, compareOfLessAndEq] at h1' h2'
    have lt2 : signed s m (i - min i 10).toNat < signed false 4503599627370496 (10 - min i 10).toNat := by
      split at h2'
      · assumption
      · split at h2' <;> cases h2'
    have gt1 : signed true 4503599627370496 (10 - min i 10).toNat < signed s m (i - min i 10).toNat := by
      split at h1'
      · cases h1'
      · split at h1'
        · cases h1'
        · omega
    have hb : m <<< (i - min i 10).toNat < 4503599627370496 <<< (10 - min i 10).toNat := by
      unfold signed at lt2 gt1
      simp only [Bool.false_eq_true, if_false, if_true] at lt2 gt1
      generalize m <<< (i - min i 10).toNat = x at *
      generalize 4503599627370496 <<< (10 - min i 10).toNat = y at *
      cases s
      · simp only [Bool.false_eq_true, if_false] at lt2 gt1; omega
      · simp only [if_true] at lt2 gt1; omega
    have hcut : Toward.zero.cut s (m <<< i.toNat) (-i).toNat < 4611686018427387904 := by
      rw [cut_zero_way]
      rw [Nat.shiftLeft_eq, Nat.shiftLeft_eq] at hb
      rw [Nat.shiftLeft_eq]
      by_cases hi : 10 ≤ i
      · rw [show (i - min i 10).toNat = i.toNat - 10 by omega, show (10 - min i 10).toNat = 0 by omega] at hb
        rw [show (-i).toNat = 0 by omega, Nat.pow_zero, Nat.div_one, show i.toNat = (i.toNat - 10) + 10 by omega, Nat.pow_add, ← Nat.mul_assoc]
        omega
      · rw [show (i - min i 10).toNat = 0 by omega, Nat.pow_zero, Nat.mul_one] at hb
        by_cases h0 : 0 ≤ i
        · rw [show (-i).toNat = 0 by omega, Nat.pow_zero, Nat.div_one]
          have e : (4503599627370496 * 2 ^ (10 - min i 10).toNat) * 2 ^ i.toNat = 4611686018427387904 := by
            rw [Nat.mul_assoc, ← Nat.pow_add, show (10 - min i 10).toNat + i.toNat = 10 by omega]
          rw [← e]
          exact Nat.mul_lt_mul_of_pos_right hb (Nat.two_pow_pos _)
        · rw [show i.toNat = 0 by omega, Nat.pow_zero, Nat.mul_one]
          rw [Nat.div_lt_iff_lt_mul (Nat.two_pow_pos _)]
          have e : 4503599627370496 * 2 ^ (10 - min i 10).toNat = 4611686018427387904 * 2 ^ (-i).toNat := by
            rw [show (10 - min i 10).toNat = 10 + (-i).toNat by omega, Nat.pow_add, ← Nat.mul_assoc]
          rw [← e]
          exact hb
    refine ⟨signed s (Toward.zero.cut s (m <<< i.toNat) (-i).toNat) 0, ?_⟩
    unfold floatToIntVal
    have e : (FloatKind.f64.decode X).toInt .zero = some (signed s (Toward.zero.cut s (m <<< i.toNat) (-i).toNat) 0) := by
      show ((double.read X).toInt .zero) = _
      rw [hx]
      rfl
    rw [e]
    simp only
    rw [if_pos]
    generalize Toward.zero.cut s (m <<< i.toNat) (-i).toNat = z at hcut
    unfold signed
    simp only [Nat.shiftLeft_zero]
    constructor
    · show (-9223372036854775808 : Int) ≤ _
      split <;> omega
    · show _ ≤ (9223372036854775807 : Int)
      split <;> omega
end Go.Proofs.YtofpdcjgakmlnaaGreatDoor
