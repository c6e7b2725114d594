/- A part of the proof. A part of the proof. -/
import Derived.Test.YtbdciilkapgfjaaGreatDoorZUscale
import Derived.Lib.BitFns
namespace Go.Proofs.YtbdciilkapgfjaaGreatDoor
open Go.RowKit

theorem PowAt.below {w w' : World} {B : Nat} (h : PowAt w) (hb : Below B w w') (hB : 11 < B) : PowAt w' :=
  ⟨(hb.cell (p := ⟨11, 694, none⟩) hB).trans h.hi, (hb.cell (p := ⟨11, 695, none⟩) hB).trans h.lo, Nat.lt_of_lt_of_le h.lt hb.size⟩
theorem bit53 {x : Nat} (h1 : 4503599627370496 ≤ x) (h2 : x < 9007199254740992) : Lib.bitLen x = 53 := by
  rw [Lib.bitLen_shift 52 x h1 (by omega), show x / 2 ^ 52 = 1 by rw [show (2 : Nat) ^ 52 = 4503599627370496 from rfl]; omega]
  decide
theorem bit54 {x : Nat} (h1 : 9007199254740992 ≤ x) (h2 : x < 18014398509481984) : Lib.bitLen x = 54 := by
  rw [Lib.bitLen_shift 53 x h1 (by omega), show x / 2 ^ 53 = 1 by rw [show (2 : Nat) ^ 53 = 9007199254740992 from rfl]; omega]
  decide

set_option maxRecDepth 100000 in
set_option maxHeartbeats 1000000 in
theorem parseFloat64_a {a W : Nat} (neg : Bool) {w : World} (hP : PowAt w) (h1 : 4503599627370496 ≤ 5 * a) (h2 : a < 1125899906842624) (hW : W = sgnW neg + (1070 * 4503599627370496 + 8 * a)) :
    Calls Tryz.prog 161 #[.int .u64 ((5 * a : Nat) : Int), .int .i64 (-1), .int .u64 (sgnW neg : Int)] w fun e w' => e = .returned (.tuple #[.float .f64 W, .nilIface]) ∧ Below w.heap.size w w' := by
  have LN := Lib.hid (fun w => len64_any (5 * a) (by omega) w)
  rw [bit53 (by omega) (by omega)] at LN
  obtain ⟨X, hX⟩ : ∃ X, X = 5 * a := ⟨_, rfl⟩
  obtain ⟨Y, hY⟩ : ∃ Y, Y = 5 * (2048 * a) := ⟨_, rfl⟩
  obtain ⟨u, hu⟩ : ∃ u, u = 32 * a := ⟨_, rfl⟩
  obtain ⟨sg, hsg⟩ : ∃ sg, sg = sgnW neg := ⟨_, rfl⟩
  have HP := Lib.hid hP; have plt := hP.lt
  rw [← hX] at LN ⊢
  rw [← hsg]
  have HW := Lib.hid hW; have HX := Lib.hid hX; have HY := Lib.hid hY; have HU := Lib.hid hu; have HS := Lib.hid hsg; have H1 := Lib.hid h1; have H2 := Lib.hid h2
  have hmin : min (1074 : Int) 4 = 4 := by decide
  have hsh : IntKind.u64.wrap ((X : Int) * 2048) = (Y : Int) := by rw [IntKind.wrap_u64]; omega
  have US : Hid (∀ (N : Nat) (w : World), ScalerAt w N → Calls Tryz.prog 181 #[.int .u64 (Y : Int), .pointer (some ⟨N, 0, none⟩)] w fun e w' => e = .returned (.int .u64 (u : Int)) ∧ Below w.heap.size w w') := Lib.hid (fun N w hS => by
    have h := uscale_any (A := 2048 * a) hS (by omega) (by omega) (by omega)
    rw [← hY, show 2048 * a / 64 = u by omega] at h
    exact h)
  have hge : decide ((36028797018963966 : Int) ≤ (u : Int)) = false := decide_eq_false (by omega)
  obtain ⟨v, hv⟩ : ∃ v, v = 4 * (8 * a) := ⟨_, rfl⟩
  obtain ⟨M, hM⟩ : ∃ M, M = 8 * a := ⟨_, rfl⟩
  obtain ⟨m, hm⟩ : ∃ m, m = sgnW neg + M := ⟨_, rfl⟩
  have hs2 : sgnW neg ≤ 9223372036854775808 := by cases neg <;> simp [sgnW]
  have ha1 : bits .and .u64 (u : Int) 1 = 0 := by
    have h := u64_and_nat u 1 (by omega) (by decide)
    rw [nat_mask1, show u % 2 = 0 by omega] at h
    exact h
  have ho1 : bits .or .u64 ((u : Int)) 0 = (v : Int) := by
    have h := u64_or_nat (u) 0 (by omega) (by decide)
    rw [Nat.or_zero] at h
    have e : ((u : Nat) : Int) = (v : Int) := by omega
    exact h.trans e
  have ho2 : bits .or .u64 (sg : Int) (M : Int) = (m : Int) := by
    have h := u64_or_nat sg M (by omega) (by omega)
    rw [hsg, sgn_join neg M (by omega), ← hsg] at h
    rw [h, hm, hsg]
  have RD : Hid (∀ w : World, Calls Tryz.prog 185 #[.int .u64 (v : Int)] w fun e w' => e = .returned (.int .u64 (M : Int)) ∧ w' = w) := Lib.hid (fun w => by
    have h := round_four M (by omega) w
    rw [show 4 * M = v by omega] at h
    exact h)
  have PK : Hid (∀ w : World, Calls Tryz.prog 188 #[.int .u64 (m : Int), .int .i64 (-4)] w fun e w' => e = .returned (.tuple #[.float .f64 W, .nilIface]) ∧ w' = w) := Lib.hid (fun w => by
    have h := pack64_any neg M 1 (by omega) (by omega) (by decide) w
    rw [← hm, show sgnW neg + ((1071 - 1) * 4503599627370496 + M) = W by omega] at h
    exact h)
  have HV := Lib.hid hv; have HM := Lib.hid hM; have Hm := Lib.hid hm
  clear hv hM hm hs2
  clear hP hW hX hY hu hsg h1 h2
  go_enter Tryz.func161, Tryz.ntmps161
  go_wp2_with fail
  refine (LN.out _).mono ?_
  rintro e w' ⟨rfl, rfl⟩
  go_wp2_with fail
  refine (log2Pow10_m1 _).mono ?_
  rintro e w' ⟨rfl, rfl⟩
  go_wp2_with fail
  refine (prescale_any (x0 := .int .u64 0) (x1 := .int .u64 0) (x2 := .int .i64 0) (by omega) (HP.out.below ((Below.refl _ _).alloc (Nat.le_refl _) _) plt) (by rw [Lib.cell_of_heap (heap_alloc_at _ _)]; rfl) (by rw [Lib.cell_of_heap (heap_alloc_at _ _)]; rfl) (by rw [Lib.cell_of_heap (heap_alloc_at _ _)]; rfl) (fun i => Lib.frozen_of_heap (heap_alloc_at _ _) i)).mono ?_
  rintro e w1 ⟨rfl, hS1, hg⟩
  have B1 := Lib.hid (((Below.refl w'.heap.size w').alloc (Nat.le_refl _) _).trans (below_of_grown hg (Nat.le_refl _) (by simp)))
  have c2 := hS1.c2
  have HS1 := Lib.hid hS1
  clear hg hS1
  go_wp2_with fail
  refine (US.out _ _ HS1.out).mono ?_
  rintro e w2 ⟨rfl, hb⟩
  have B2 := Lib.hid (B1.out.trans (hb.mono B1.out.size))
  clear hb
  go_wp2_with fail
  refine (unmin_52 _).mono ?_
  rintro e w' ⟨rfl, rfl⟩
  go_wp2_with fail
  refine (bool2i_any false _).mono ?_
  rintro e w' ⟨rfl, rfl⟩
  go_wp2_with fail
  refine (RD.out _).mono ?_
  rintro e w' ⟨rfl, rfl⟩
  go_wp2_with fail
  refine (PK.out _).mono ?_
  rintro e w' ⟨rfl, rfl⟩
  go_wp2_with fail
  go_ret2
  exact ⟨rfl, B2.out⟩

set_option maxRecDepth 100000 in
set_option maxHeartbeats 1000000 in
theorem parseFloat64_b {a W : Nat} (neg : Bool) {w : World} (hP : PowAt w) (h1 : 1125899906842624 ≤ a) (h2 : 5 * a < 9007199254740992) (hW : W = sgnW neg + (1071 * 4503599627370496 + 4 * a)) :
    Calls Tryz.prog 161 #[.int .u64 ((5 * a : Nat) : Int), .int .i64 (-1), .int .u64 (sgnW neg : Int)] w fun e w' => e = .returned (.tuple #[.float .f64 W, .nilIface]) ∧ Below w.heap.size w w' := by
  have LN := Lib.hid (fun w => len64_any (5 * a) (by omega) w)
  rw [bit53 (by omega) (by omega)] at LN
  obtain ⟨X, hX⟩ : ∃ X, X = 5 * a := ⟨_, rfl⟩
  obtain ⟨Y, hY⟩ : ∃ Y, Y = 5 * (2048 * a) := ⟨_, rfl⟩
  obtain ⟨u, hu⟩ : ∃ u, u = 32 * a := ⟨_, rfl⟩
  obtain ⟨sg, hsg⟩ : ∃ sg, sg = sgnW neg := ⟨_, rfl⟩
  have HP := Lib.hid hP; have plt := hP.lt
  rw [← hX] at LN ⊢
  rw [← hsg]
  have HW := Lib.hid hW; have HX := Lib.hid hX; have HY := Lib.hid hY; have HU := Lib.hid hu; have HS := Lib.hid hsg; have H1 := Lib.hid h1; have H2 := Lib.hid h2
  have hmin : min (1074 : Int) 4 = 4 := by decide
  have hsh : IntKind.u64.wrap ((X : Int) * 2048) = (Y : Int) := by rw [IntKind.wrap_u64]; omega
  have US : Hid (∀ (N : Nat) (w : World), ScalerAt w N → Calls Tryz.prog 181 #[.int .u64 (Y : Int), .pointer (some ⟨N, 0, none⟩)] w fun e w' => e = .returned (.int .u64 (u : Int)) ∧ Below w.heap.size w w') := Lib.hid (fun N w hS => by
    have h := uscale_any (A := 2048 * a) hS (by omega) (by omega) (by omega)
    rw [← hY, show 2048 * a / 64 = u by omega] at h
    exact h)
  have hge : decide ((36028797018963966 : Int) ≤ (u : Int)) = true := decide_eq_true (by omega)
  obtain ⟨v, hv⟩ : ∃ v, v = 4 * (4 * a) := ⟨_, rfl⟩
  obtain ⟨M, hM⟩ : ∃ M, M = 4 * a := ⟨_, rfl⟩
  obtain ⟨m, hm⟩ : ∃ m, m = sgnW neg + M := ⟨_, rfl⟩
  have hs2 : sgnW neg ≤ 9223372036854775808 := by cases neg <;> simp [sgnW]
  have ha1 : bits .and .u64 (u : Int) 1 = 0 := by
    have h := u64_and_nat u 1 (by omega) (by decide)
    rw [nat_mask1, show u % 2 = 0 by omega] at h
    exact h
  have ho1 : bits .or .u64 ((u : Int) / 2) 0 = (v : Int) := by
    have h := u64_or_nat (u / 2) 0 (by omega) (by decide)
    rw [Nat.or_zero] at h
    have e : ((u / 2 : Nat) : Int) = (v : Int) := by omega
    exact h.trans e
  have ho2 : bits .or .u64 (sg : Int) (M : Int) = (m : Int) := by
    have h := u64_or_nat sg M (by omega) (by omega)
    rw [hsg, sgn_join neg M (by omega), ← hsg] at h
    rw [h, hm, hsg]
  have RD : Hid (∀ w : World, Calls Tryz.prog 185 #[.int .u64 (v : Int)] w fun e w' => e = .returned (.int .u64 (M : Int)) ∧ w' = w) := Lib.hid (fun w => by
    have h := round_four M (by omega) w
    rw [show 4 * M = v by omega] at h
    exact h)
  have PK : Hid (∀ w : World, Calls Tryz.prog 188 #[.int .u64 (m : Int), .int .i64 (-3)] w fun e w' => e = .returned (.tuple #[.float .f64 W, .nilIface]) ∧ w' = w) := Lib.hid (fun w => by
    have h := pack64_any neg M 0 (by omega) (by omega) (by decide) w
    rw [← hm, show sgnW neg + ((1071 - 0) * 4503599627370496 + M) = W by omega] at h
    exact h)
  have HV := Lib.hid hv; have HM := Lib.hid hM; have Hm := Lib.hid hm
  clear hv hM hm hs2
  clear hP hW hX hY hu hsg h1 h2
  go_enter Tryz.func161, Tryz.ntmps161
  go_wp2_with fail
  refine (LN.out _).mono ?_
  rintro e w' ⟨rfl, rfl⟩
  go_wp2_with fail
  refine (log2Pow10_m1 _).mono ?_
  rintro e w' ⟨rfl, rfl⟩
  go_wp2_with fail
  refine (prescale_any (x0 := .int .u64 0) (x1 := .int .u64 0) (x2 := .int .i64 0) (by omega) (HP.out.below ((Below.refl _ _).alloc (Nat.le_refl _) _) plt) (by rw [Lib.cell_of_heap (heap_alloc_at _ _)]; rfl) (by rw [Lib.cell_of_heap (heap_alloc_at _ _)]; rfl) (by rw [Lib.cell_of_heap (heap_alloc_at _ _)]; rfl) (fun i => Lib.frozen_of_heap (heap_alloc_at _ _) i)).mono ?_
  rintro e w1 ⟨rfl, hS1, hg⟩
  have B1 := Lib.hid (((Below.refl w'.heap.size w').alloc (Nat.le_refl _) _).trans (below_of_grown hg (Nat.le_refl _) (by simp)))
  have c2 := hS1.c2
  have HS1 := Lib.hid hS1
  clear hg hS1
  go_wp2_with fail
  refine (US.out _ _ HS1.out).mono ?_
  rintro e w2 ⟨rfl, hb⟩
  have B2 := Lib.hid (B1.out.trans (hb.mono B1.out.size))
  clear hb
  go_wp2_with fail
  refine (unmin_52 _).mono ?_
  rintro e w' ⟨rfl, rfl⟩
  go_wp2_with fail
  refine (bool2i_any true _).mono ?_
  rintro e w' ⟨rfl, rfl⟩
  go_wp2_with fail
  refine (RD.out _).mono ?_
  rintro e w' ⟨rfl, rfl⟩
  go_wp2_with fail
  refine (PK.out _).mono ?_
  rintro e w' ⟨rfl, rfl⟩
  go_wp2_with fail
  go_ret2
  exact ⟨rfl, B2.out⟩

set_option maxRecDepth 100000 in
set_option maxHeartbeats 1000000 in
theorem parseFloat64_c {a W : Nat} (neg : Bool) {w : World} (hP : PowAt w) (h1 : 9007199254740992 ≤ 5 * a) (h2 : a < 2251799813685248) (hW : W = sgnW neg + (1071 * 4503599627370496 + 4 * a)) :
    Calls Tryz.prog 161 #[.int .u64 ((5 * a : Nat) : Int), .int .i64 (-1), .int .u64 (sgnW neg : Int)] w fun e w' => e = .returned (.tuple #[.float .f64 W, .nilIface]) ∧ Below w.heap.size w w' := by
  have LN := Lib.hid (fun w => len64_any (5 * a) (by omega) w)
  rw [bit54 (by omega) (by omega)] at LN
  obtain ⟨X, hX⟩ : ∃ X, X = 5 * a := ⟨_, rfl⟩
  obtain ⟨Y, hY⟩ : ∃ Y, Y = 5 * (1024 * a) := ⟨_, rfl⟩
  obtain ⟨u, hu⟩ : ∃ u, u = 16 * a := ⟨_, rfl⟩
  obtain ⟨sg, hsg⟩ : ∃ sg, sg = sgnW neg := ⟨_, rfl⟩
  have HP := Lib.hid hP; have plt := hP.lt
  rw [← hX] at LN ⊢
  rw [← hsg]
  have HW := Lib.hid hW; have HX := Lib.hid hX; have HY := Lib.hid hY; have HU := Lib.hid hu; have HS := Lib.hid hsg; have H1 := Lib.hid h1; have H2 := Lib.hid h2
  have hmin : min (1074 : Int) 3 = 3 := by decide
  have hsh : IntKind.u64.wrap ((X : Int) * 1024) = (Y : Int) := by rw [IntKind.wrap_u64]; omega
  have US : Hid (∀ (N : Nat) (w : World), ScalerAt w N → Calls Tryz.prog 181 #[.int .u64 (Y : Int), .pointer (some ⟨N, 0, none⟩)] w fun e w' => e = .returned (.int .u64 (u : Int)) ∧ Below w.heap.size w w') := Lib.hid (fun N w hS => by
    have h := uscale_any (A := 1024 * a) hS (by omega) (by omega) (by omega)
    rw [← hY, show 1024 * a / 64 = u by omega] at h
    exact h)
  have hge : decide ((36028797018963966 : Int) ≤ (u : Int)) = false := decide_eq_false (by omega)
  obtain ⟨v, hv⟩ : ∃ v, v = 4 * (4 * a) := ⟨_, rfl⟩
  obtain ⟨M, hM⟩ : ∃ M, M = 4 * a := ⟨_, rfl⟩
  obtain ⟨m, hm⟩ : ∃ m, m = sgnW neg + M := ⟨_, rfl⟩
  have hs2 : sgnW neg ≤ 9223372036854775808 := by cases neg <;> simp [sgnW]
  have ha1 : bits .and .u64 (u : Int) 1 = 0 := by
    have h := u64_and_nat u 1 (by omega) (by decide)
    rw [nat_mask1, show u % 2 = 0 by omega] at h
    exact h
  have ho1 : bits .or .u64 ((u : Int)) 0 = (v : Int) := by
    have h := u64_or_nat (u) 0 (by omega) (by decide)
    rw [Nat.or_zero] at h
    have e : ((u : Nat) : Int) = (v : Int) := by omega
    exact h.trans e
  have ho2 : bits .or .u64 (sg : Int) (M : Int) = (m : Int) := by
    have h := u64_or_nat sg M (by omega) (by omega)
    rw [hsg, sgn_join neg M (by omega), ← hsg] at h
    rw [h, hm, hsg]
  have RD : Hid (∀ w : World, Calls Tryz.prog 185 #[.int .u64 (v : Int)] w fun e w' => e = .returned (.int .u64 (M : Int)) ∧ w' = w) := Lib.hid (fun w => by
    have h := round_four M (by omega) w
    rw [show 4 * M = v by omega] at h
    exact h)
  have PK : Hid (∀ w : World, Calls Tryz.prog 188 #[.int .u64 (m : Int), .int .i64 (-3)] w fun e w' => e = .returned (.tuple #[.float .f64 W, .nilIface]) ∧ w' = w) := Lib.hid (fun w => by
    have h := pack64_any neg M 0 (by omega) (by omega) (by decide) w
    rw [← hm, show sgnW neg + ((1071 - 0) * 4503599627370496 + M) = W by omega] at h
    exact h)
  have HV := Lib.hid hv; have HM := Lib.hid hM; have Hm := Lib.hid hm
  clear hv hM hm hs2
  clear hP hW hX hY hu hsg h1 h2
  go_enter Tryz.func161, Tryz.ntmps161
  go_wp2_with fail
  refine (LN.out _).mono ?_
  rintro e w' ⟨rfl, rfl⟩
  go_wp2_with fail
  refine (log2Pow10_m1 _).mono ?_
  rintro e w' ⟨rfl, rfl⟩
  go_wp2_with fail
  refine (prescale_any (x0 := .int .u64 0) (x1 := .int .u64 0) (x2 := .int .i64 0) (by omega) (HP.out.below ((Below.refl _ _).alloc (Nat.le_refl _) _) plt) (by rw [Lib.cell_of_heap (heap_alloc_at _ _)]; rfl) (by rw [Lib.cell_of_heap (heap_alloc_at _ _)]; rfl) (by rw [Lib.cell_of_heap (heap_alloc_at _ _)]; rfl) (fun i => Lib.frozen_of_heap (heap_alloc_at _ _) i)).mono ?_
  rintro e w1 ⟨rfl, hS1, hg⟩
  have B1 := Lib.hid (((Below.refl w'.heap.size w').alloc (Nat.le_refl _) _).trans (below_of_grown hg (Nat.le_refl _) (by simp)))
  have c2 := hS1.c2
  have HS1 := Lib.hid hS1
  clear hg hS1
  go_wp2_with fail
  refine (US.out _ _ HS1.out).mono ?_
  rintro e w2 ⟨rfl, hb⟩
  have B2 := Lib.hid (B1.out.trans (hb.mono B1.out.size))
  clear hb
  go_wp2_with fail
  refine (unmin_52 _).mono ?_
  rintro e w' ⟨rfl, rfl⟩
  go_wp2_with fail
  refine (bool2i_any false _).mono ?_
  rintro e w' ⟨rfl, rfl⟩
  go_wp2_with fail
  refine (RD.out _).mono ?_
  rintro e w' ⟨rfl, rfl⟩
  go_wp2_with fail
  refine (PK.out _).mono ?_
  rintro e w' ⟨rfl, rfl⟩
  go_wp2_with fail
  go_ret2
  exact ⟨rfl, B2.out⟩
end Go.Proofs.YtbdciilkapgfjaaGreatDoor

namespace Go.Proofs.YtbdciilkapgfjaaGreatDoor
open Go.RowKit

theorem log2_is {a L : Nat} (h1 : 2 ^ L ≤ a) (h2 : a < 2 ^ (L + 1)) : a.log2 = L := by
  have h0 : a ≠ 0 := by have := Nat.two_pow_pos L; omega
  have l1 := (Nat.le_log2 h0).2 h1
  have l2 := (Nat.log2_lt h0).2 h2
  omega
theorem word_sgn (neg : Bool) (r : Nat) : Ieee.double.word neg r = sgnW neg + r := by
  cases neg
  · show r = 0 + r
    omega
  · rfl
theorem half_sgn {h : Int} (h0 : h ≠ 0) (h1 : -9007199254740992 < h) (h2 : h < 9007199254740992) {L s e : Nat} (hL : h.natAbs.log2 = L) (hs : s = 52 - L) (he : e + s = 1073) :
    fb h = sgnW (decide (h < 0)) + (e * 4503599627370496 + h.natAbs * 2 ^ s) := by
  rw [half_word h0 h1 h2, word_sgn]
  unfold sig
  rw [hL, ← hs, Nat.shiftLeft_eq]
  congr 3
  omega

theorem parseFloat64_half {h : Int} {w : World} (hP : PowAt w) (h1 : 4503599627370496 ≤ 5 * h.natAbs) (h2 : h.natAbs ≤ 2000000000000000) :
    Calls Tryz.prog 161 #[.int .u64 ((5 * h.natAbs : Nat) : Int), .int .i64 (-1), .int .u64 (sgnW (decide (h < 0)) : Int)] w fun e w' => e = .returned (.tuple #[.float .f64 (fb h), .nilIface]) ∧ Below w.heap.size w w' := by
  by_cases c1 : h.natAbs < 1125899906842624
  · have hL : h.natAbs.log2 = 49 := log2_is (by rw [show (2 : Nat) ^ 49 = 562949953421312 from rfl]; omega) (by rw [show (2 : Nat) ^ (49 + 1) = 1125899906842624 from rfl]; omega)
    refine parseFloat64_a (decide (h < 0)) hP h1 c1 ?_
    rw [half_sgn (by omega) (by omega) (by omega) hL (s := 3) (e := 1070) rfl rfl]
    omega
  · have hL : h.natAbs.log2 = 50 := log2_is (by rw [show (2 : Nat) ^ 50 = 1125899906842624 from rfl]; omega) (by rw [show (2 : Nat) ^ (50 + 1) = 2251799813685248 from rfl]; omega)
    by_cases c2 : 5 * h.natAbs < 9007199254740992
    · refine parseFloat64_b (decide (h < 0)) hP (by omega) c2 ?_
      rw [half_sgn (by omega) (by omega) (by omega) hL (s := 2) (e := 1071) rfl rfl]
      omega
    · refine parseFloat64_c (decide (h < 0)) hP (by omega) (by omega) ?_
      rw [half_sgn (by omega) (by omega) (by omega) hL (s := 2) (e := 1071) rfl rfl]
      omega
end Go.Proofs.YtbdciilkapgfjaaGreatDoor
