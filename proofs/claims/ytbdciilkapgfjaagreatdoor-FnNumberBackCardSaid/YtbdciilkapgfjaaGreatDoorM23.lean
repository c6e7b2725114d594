/- A part of the proof. A part of the proof. -/
import Derived.Test.YtbdciilkapgfjaaGreatDoorM22
import Derived.Test.YtbdciilkapgfjaaGreatDoorM12
import Derived.Laws.BitsAllLaws
import Derived.OwnWalk

namespace Go.Proofs.YtbdciilkapgfjaaGreatDoor
open Go.RowKit

/-- The variables that the float's readers look at. -/
structure FpAt (w : World) : Prop where
  opt : w.cell? ⟨6, 0, none⟩ = some (.bool true)
  info : w.cell? ⟨7, 0, none⟩ = some (.int .u64 52)
  pow : ∃ b o l c, w.cell? ⟨10, 0, none⟩ = some (.slice (some ⟨b, o, none⟩) l c) ∧ 1 < l ∧ l ≤ 100 ∧ w.cell? ⟨b, o + 1, none⟩ = some (.float .f64 4621819117588971520) ∧ b < w.heap.size

theorem xor_top {r : Nat} (h : r < 9223372036854775808) : r ^^^ 2 ^ 63 = 9223372036854775808 + r := by
  have e : 9223372036854775808 + r = 2 ^ 63 ||| r := (nat_join 63 (2 ^ 63) r (by decide) h).symm
  rw [e]
  apply Nat.eq_of_testBit_eq
  intro j
  rw [Nat.testBit_xor, Nat.testBit_or, Nat.testBit_two_pow]
  by_cases hj : 63 = j
  · subst hj
    rw [Nat.testBit_lt_two_pow h]
    simp
  · simp [hj]
theorem neg_nearest {x : Int} (h0 : 0 < x) (h1 : x < 9007199254740992) : Op.negFloat .f64 (FloatKind.f64.nearest x) = FloatKind.f64.nearest (-x) := by
  have hb := sig_bounds (h := x) (by omega) (by omega) h1
  have hl := log2_le (m := x.natAbs) (by omega) (by omega)
  have es : sig (-x) = sig x := by unfold sig; rw [Int.natAbs_neg]
  rw [whole_word (h := x) (by omega) (by omega) h1, whole_word (h := -x) (by omega) (by omega) (by omega), es, Int.natAbs_neg, decide_eq_false (show ¬ x < 0 by omega), decide_eq_true (show -x < 0 by omega)]
  obtain ⟨R, hR⟩ : ∃ R, R = (-((52 - x.natAbs.log2 : Nat) : Int) + 1074).toNat * 4503599627370496 + sig x := ⟨_, rfl⟩
  rw [← hR]
  show R ^^^ 2 ^ 63 = 9223372036854775808 + R
  exact xor_top (by omega)

set_option maxRecDepth 100000 in
theorem exact_small {h : Int} {w : World} (hF : FpAt w) (h0 : h ≠ 0) (h1 : 5 * h.natAbs < 4503599627370496) :
    Calls Tryz.prog 160 #[.int .u64 ((5 * h.natAbs : Nat) : Int), .int .i64 (-1), .bool (decide (h < 0))] w fun e w' => e = .returned (.tuple #[.float .f64 (fb h), .bool true]) ∧ Below w.heap.size w w' := by
  obtain ⟨b, o, l, c, p0, hl, hl2, p1, hb⟩ := hF.pow
  have i0 := hF.info
  have ht := tenth (h := h) h0 (by omega) (by omega)
  obtain ⟨X, hX⟩ : ∃ X, X = 5 * h.natAbs := ⟨_, rfl⟩
  have hsr : (X : Int) / 4503599627370496 = 0 := by omega
  rw [← hX]
  have hop : ∀ t w, (binOp .quo t (.float .f64 (FloatKind.f64.nearest (5 * h))) (.float .f64 4621819117588971520)).run Tryz.prog w = .ok (.float .f64 (fb h)) w := fun t w => run_float_arith w .quo t .f64 _ _ _ ht
  by_cases hn : h < 0
  · rw [decide_eq_true hn]
    have hng : ∀ w, (Op.unary .neg (.float .f64 (floatOfInt .f64 (X : Int)))).run Tryz.prog w = .ok (.float .f64 (FloatKind.f64.nearest (5 * h))) w := fun w => by
      have e : Op.negFloat .f64 (FloatKind.f64.nearest (X : Int)) = FloatKind.f64.nearest (5 * h) := by
        rw [neg_nearest (by omega) (by omega)]
        congr 1
        omega
      rw [← e]
      rfl
    generalize FloatKind.f64.nearest (5 * h) = G at hop hng
    clear hF hX hn ht h1 h0
    go_enter Tryz.func160, Tryz.ntmps160
    go_wp2_with (first | simp only [hop] | simp only [hng])
    go_ret2
    exact ⟨rfl, Below.refl _ _⟩
  · rw [decide_eq_false hn]
    have e : FloatKind.f64.nearest (5 * h) = floatOfInt .f64 (X : Int) := by
      rw [show 5 * h = (X : Int) by omega]
      rfl
    rw [e] at hop
    clear hF hX hn ht h1 h0 e
    go_enter Tryz.func160, Tryz.ntmps160
    go_wp2_with (simp only [hop])
    go_ret2
    exact ⟨rfl, Below.refl _ _⟩

set_option maxRecDepth 100000 in
theorem exact_big {X : Nat} {neg : Bool} {w : World} (hF : FpAt w) (h1 : 4503599627370496 ≤ X) (h2 : X < 18446744073709551616) :
    Calls Tryz.prog 160 #[.int .u64 (X : Int), .int .i64 (-1), .bool neg] w fun e w' => e = .returned (.tuple #[.float .f64 0, .bool false]) ∧ Below w.heap.size w w' := by
  have i0 := hF.info
  have hsr : ((X : Int) / 4503599627370496 == 0) = false := by simp; omega
  clear hF h1 h2
  go_enter Tryz.func160, Tryz.ntmps160
  go_wp2_with fail
  go_ret2
  exact ⟨rfl, Below.refl _ _⟩

/-- No word of its own: digits, or a minus and digits. -/
theorem special_digit {s : ByteArray} {c : Nat} (ho : 0 < s.size) (hc : (s[0]'ho).toNat = c) (h1 : 48 ≤ c) (h2 : c ≤ 57) (w : World) :
    Calls Tryz.prog 149 #[.string s] w fun e w' => e = .returned (.tuple #[.float .f64 0, .int .i64 0, .bool false]) ∧ w' = w := by
  have hne : ¬ s = ByteArray.empty := by intro e; rw [e] at ho; simp at ho
  have n1 : ((c : Int) == 43) = false := by simp; omega
  have n2 : ((c : Int) == 45) = false := by simp; omega
  have n3 : ((c : Int) == 105) = false := by simp; omega
  have n4 : ((c : Int) == 73) = false := by simp; omega
  have n5 : ((c : Int) == 110) = false := by simp; omega
  have n6 : ((c : Int) == 78) = false := by simp; omega
  clear h1 h2
  go_enter Tryz.func149, Tryz.ntmps149
  go_wp2_with fail
  go_ret3
  exact ⟨rfl, rfl⟩
end Go.Proofs.YtbdciilkapgfjaaGreatDoor

namespace Go.Proofs.YtbdciilkapgfjaaGreatDoor
open Go.RowKit

theorem comPrefix_digit {t : ByteArray} {c : Nat} (ho : 0 < t.size) (hc : (t[0]'ho).toNat = c) (h1 : 48 ≤ c) (h2 : c ≤ 57) (w : World) :
    Calls Tryz.prog 176 #[.string t, .string ⟨#[105, 110, 102, 105, 110, 105, 116, 121]⟩] w fun e w' => e = .returned (.int .i64 0) ∧ w' = w := by
  have n1 : ((c : Int) == 105) = false := by simp; omega
  have l1 : decide ((65 : Int) ≤ (c : Int)) = false := decide_eq_false (by omega)
  have hm : decide ((0 : Int) < min (8 : Int) (t.size : Int)) = true := decide_eq_true (by omega)
  have hx : ((ByteArray.mk #[105, 110, 102, 105, 110, 105, 116, 121])[0]'(by decide)).toNat = 105 := rfl
  clear h1 h2
  go_enter Tryz.func176, Tryz.ntmps176
  go_wp2_with fail
  go_loop [6] (fun u => u = .int .i64 0) (fun _ => 0)
  case atStart => rfl
  case round =>
    subst hrel
    go_wp2_with fail
    go_ret
    exact ⟨rfl, rfl⟩

theorem special_minus {s : ByteArray} {c : Nat} (h0 : 1 < s.size) (hm : (s[0]'(by omega)).toNat = 45) (hc : (s[1]'h0).toNat = c) (h1 : 48 ≤ c) (h2 : c ≤ 57) (w : World) :
    Calls Tryz.prog 149 #[.string s] w fun e w' => e = .returned (.tuple #[.float .f64 0, .int .i64 0, .bool false]) ∧ w' = w := by
  have hne : ¬ s = ByteArray.empty := by intro e; rw [e] at h0; simp at h0
  have hz : 0 < (s.extract 1 s.size).size := by rw [ByteArray.size_extract]; omega
  have he : ((s.extract 1 s.size)[0]'hz).toNat = c := by rw [← hc, ByteArray.getElem_extract]
  have CP := Lib.hid (comPrefix_digit hz he h1 h2 w)
  clear he h1 h2 hz
  go_enter Tryz.func149, Tryz.ntmps149
  go_wp2_with fail
  refine CP.out.mono ?_
  rintro e w' ⟨rfl, rfl⟩
  go_wp2_with fail
  go_ret3
  exact ⟨rfl, rfl⟩
end Go.Proofs.YtbdciilkapgfjaaGreatDoor
