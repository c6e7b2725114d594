/- A part of the proof. -/
import Derived.Test.YtbdciilkapgfjaaGreatDoorM33
import Derived.Test.YtbdciilkapgfjaaGreatDoorZDtext
import Derived.Test.YtbdciilkapgfjaaGreatDoorM22
import Derived.Test.YtbdciilkapgfjaaGreatDoorZUsc
namespace Go.Proofs.YtbdciilkapgfjaaGreatDoor
open Go.RowKit Ieee

set_option maxRecDepth 100000 in
/-- formOf, of 64 bits. -/
theorem formOf_any (w : World) : Calls Tryz.prog 122 #[.int .i64 64] w fun e w' => e = .returned (.agg #[.int .i64 52, .int .i64 11, .int .i64 (-1023)]) ∧ Below w.heap.size w w' := by
  go_enter Tryz.func122, Tryz.ntmps122
  go_wp2_with fail
  have b := heap_alloc_at w (.cells #[.int .i64 52, .int .i64 11, .int .i64 (-1023)] 201)
  have q0 : (w.alloc (.cells #[.int .i64 52, .int .i64 11, .int .i64 (-1023)] 201)).cell? ⟨w.heap.size, 0, none⟩ = some (.int .i64 52) := by rw [Lib.cell_of_heap b]; rfl
  have q1 : (w.alloc (.cells #[.int .i64 52, .int .i64 11, .int .i64 (-1023)] 201)).cell? ⟨w.heap.size, 1, none⟩ = some (.int .i64 11) := by rw [Lib.cell_of_heap b]; rfl
  have q2 : (w.alloc (.cells #[.int .i64 52, .int .i64 11, .int .i64 (-1023)] 201)).cell? ⟨w.heap.size, 2, none⟩ = some (.int .i64 (-1023)) := by rw [Lib.cell_of_heap b]; rfl
  clear b
  refine bodyPost_ret (v := .agg #[.int .i64 52, .int .i64 11, .int .i64 (-1023)]) (by simp [results, Tryz.results122, go_sem, q0, q1, q2]) rfl ?_
  exact ⟨rfl, (Below.refl _ _).alloc (Nat.le_refl _) _⟩

theorem run_tobits (n : Nat) (w : World) : (callFunc 56 #[.float .f64 n]).run Tryz.prog w = .ok (.value (.int .u64 (n : Int))) w := by
  rw [run_callFunc_extern Tryz.func56 (by kernel_rfl) (by kernel_rfl) (by kernel_rfl) (e := Extern.MathFloatBits.float64bits) (by kernel_rfl)]
  rfl

/-- The bits of half an odd number. -/
structure HalfBits (h : Int) (Z M r e s : Nat) : Prop where
  z : Z = sgnW (decide (h < 0)) + (e * 4503599627370496 + r)
  m : M = 4503599627370496 + r
  r : r < 4503599627370496
  e1 : 1022 ≤ e
  e2 : e ≤ 1072
  es : e + s = 1075
  even : M % 2 = 0
theorem halfBits {h : Int} {k : Nat} (hk : h.natAbs = 2 * k + 1) (hb : h.natAbs ≤ 2000000000000000) : ∃ M r e s, HalfBits h (fb h) M r e s ∧ M * 2 = (2 * k + 1) * 2 ^ s := by
  have h0 : h ≠ 0 := by omega
  have h1 : -9007199254740992 < h := by omega
  have h2 : h < 9007199254740992 := by omega
  obtain ⟨m1, m2⟩ := sig_bounds h0 h1 h2
  have hL : h.natAbs.log2 ≤ 50 := by
    have := (Nat.log2_lt (show h.natAbs ≠ 0 by omega) (k := 51)).2 (by omega)
    omega
  obtain ⟨L, eL⟩ : ∃ L, L = h.natAbs.log2 := ⟨_, rfl⟩
  rw [← eL] at hL
  have hsig : sig h = h.natAbs * 2 ^ (52 - L) := by unfold sig; rw [← eL, Nat.shiftLeft_eq]
  refine ⟨sig h, sig h - 4503599627370496, 1022 + L, 53 - L, ⟨?_, by omega, by omega, by omega, by omega, by omega, ?_⟩, ?_⟩
  · rw [half_word h0 h1 h2, ← eL]
    have e1 : (-((52 - L : Nat) : Int) - 1 + 1074).toNat = 1021 + L := by omega
    rw [e1]
    unfold Format.word
    cases hd : decide (h < 0)
    · simp only [sgnW]; simp; omega
    · have : double.signWeight = 9223372036854775808 := by decide +kernel
      simp only [sgnW, this]; simp; omega
  · rw [hsig, show 52 - L = 1 + (51 - L) by omega, Nat.pow_add, ← Nat.mul_assoc, Nat.mul_comm h.natAbs, Nat.mul_assoc]
    exact Nat.mul_mod_right _ _
  · rw [hsig, hk, show 53 - L = (52 - L) + 1 by omega, Nat.pow_succ, Nat.mul_assoc]
theorem and_2047 : ∀ n : Fin 2048, bits .and .i64 (n.val : Int) 2047 = (n.val : Int) := by decide +kernel
theorem and_2047' : ∀ n : Fin 2048, bits .and .i64 ((2048 + n.val : Nat) : Int) 2047 = (n.val : Int) := by decide +kernel

set_option maxRecDepth 100000 in
set_option maxHeartbeats 4000000 in
/-- FormatFloat, form f, of half an odd number. -/
theorem FormatFloat_half {h : Int} {k : Nat} (hk : h.natAbs = 2 * k + 1) (hb : h.natAbs ≤ 2000000000000000) (w : World) :
    Calls Tryz.prog 107 #[.float .f64 (fb h), .int .u8 102, .int .i64 (-1), .int .i64 64] w fun e w' => e = .returned (.string (htxt (decide (h < 0)) k)) ∧ Below w.heap.size w w' := by
  obtain ⟨M, r, e, s, H, hM⟩ := halfBits hk hb
  obtain ⟨Z, hZ⟩ : ∃ Z, Z = fb h := ⟨_, rfl⟩
  rw [← hZ] at H ⊢
  obtain ⟨neg, hneg⟩ : ∃ neg, neg = decide (h < 0) := ⟨_, rfl⟩
  have Hz := H.z
  rw [← hneg] at Hz ⊢
  have hr := H.r; have hes := H.es; have he1 := H.e1; have he2 := H.e2; have hm := H.m
  have hk16 : k ≤ 10000000000000000 := by omega
  have hZ64 : Z < 18446744073709551616 := by rw [Hz]; cases neg <;> simp [sgnW] <;> omega
  have b1 : ((Z : Int) / 9223372036854775808) = if neg then 1 else 0 := by rw [Hz]; cases neg <;> simp [sgnW] <;> omega
  have b2 : bits .and .i64 ((Z : Int) / 4503599627370496) 2047 = (e : Int) := by
    cases neg
    · have : (Z : Int) / 4503599627370496 = ((e : Nat) : Int) := by rw [Hz]; simp [sgnW]; omega
      rw [this]
      exact and_2047 ⟨e, by omega⟩
    · have : (Z : Int) / 4503599627370496 = ((2048 + e : Nat) : Int) := by rw [Hz]; simp [sgnW]; omega
      rw [this]
      exact and_2047' ⟨e, by omega⟩
  have b3 : bits .and .u64 (Z : Int) 4503599627370495 = (r : Int) := by
    have h1 := u64_and_nat Z (2 ^ 52 - 1) hZ64 (by decide)
    rw [Nat.and_two_pow_sub_one_eq_mod] at h1
    have h2 : Z % 2 ^ 52 = r := by rw [Hz]; cases neg <;> simp [sgnW] <;> omega
    rw [h2] at h1
    exact h1
  have b4 : bits .or .u64 (r : Int) 4503599627370496 = (M : Int) := by
    have h1 := u64_or_nat r 4503599627370496 (by omega) (by decide)
    rw [nat_join52' 4503599627370496 r (by decide) hr, ← hm] at h1
    exact h1
  have FO := Lib.hid formOf_any
  have HH := Lib.hid H; have HMM := Lib.hid hM
  have hx : (e : Int) + -1023 - 52 = -((s : Nat) : Int) := by omega
  have HX := Lib.hid hx
  have hM1 : 4503599627370496 ≤ M := by omega
  have hM2 : M < 9007199254740992 := by omega
  have hs1 : 1 ≤ s := by omega
  have hs2 : s ≤ 57 := by omega
  have hlen : (digs (10 * k + 5)).length ≤ 20 := digs_len (by decide) (by omega)
  clear H hZ hneg Hz hm hM hx hk hb
  go_enter Tryz.func107, Tryz.ntmps107
  have rb := run_tobits Z
  go_wp2_with fail
  refine (FO.out _).mono ?_
  rintro e0 w1 ⟨rfl, hb1⟩
  have B1 := Lib.hid hb1
  clear hb1
  cases neg
  · simp only [Bool.false_eq_true, if_false] at b1
    go_wp2_with fail
    obtain ⟨w2, hw2⟩ : ∃ w2, w2 = w1.alloc (.cells #[.int .i64 52, .int .i64 11, .int .i64 (-1023)] 201) := ⟨_, rfl⟩
    have blk : w2.heap[w1.heap.size]? = some (.cells #[.int .i64 52, .int .i64 11, .int .i64 (-1023)] 201 (0, 0)) := by rw [hw2]; exact heap_alloc_at _ _
    have B2 : Hid (Below w.heap.size w w2) := Lib.hid (by rw [hw2]; exact B1.out.alloc B1.out.size _)
    rw [← hw2]
    clear hw2
    have q0 : w2.cell? ⟨w1.heap.size, 0, none⟩ = some (.int .i64 52) := by rw [Lib.cell_of_heap blk]; rfl
    have q1 : w2.cell? ⟨w1.heap.size, 1, none⟩ = some (.int .i64 11) := by rw [Lib.cell_of_heap blk]; rfl
    have q2 : w2.cell? ⟨w1.heap.size, 2, none⟩ = some (.int .i64 (-1023)) := by rw [Lib.cell_of_heap blk]; rfl
    have BLK := Lib.hid blk
    clear blk
    go_quiet (fail)
    go_wp2_with fail
    refine (newDecimal_any M (by omega) _).mono ?_
    rintro e3 w3 ⟨N, rfl, ⟨dp3, hd3, hdp3⟩, hb3⟩
    have hsz : w1.heap.size < w2.heap.size := (Array.getElem?_eq_some_iff.1 BLK.out).1
    have hb3' : Below w2.heap.size w2 w3 := (bdrew (Below.refl w2.heap.size w2) nq).trans hb3
    have B3 := Lib.hid hb3'
    have blk3 := (hb3'.block w1.heap.size hsz).trans BLK.out
    have q0 : w3.cell? ⟨w1.heap.size, 0, none⟩ = some (.int .i64 52) := by rw [Lib.cell_of_heap blk3]; rfl
    have SH := Lib.hid (shift_new (s := s) hd3 hdp3 (by omega) (by omega) (by omega) hs1)
    rw [← HX.out] at SH
    have BLK3 := Lib.hid blk3
    clear hd3 hdp3 hb3 hb3' blk3
    go_wp2_with fail
    refine SH.out.mono ?_
    rintro e4 w4 ⟨rfl, ⟨E, ep, hd4, ed4⟩, hb4⟩
    obtain ⟨a4, cp4, hD4⟩ := hd4
    obtain ⟨rfl, rfl⟩ := half_digits (K := 200) (by decide) HMM.out ed4.norm (ed4.eq 200 (Nat.le_refl _)).1 (ed4.eq 200 (Nat.le_refl _)).2 (by omega)
    have hb4' : Below w2.heap.size w2 w4 := B3.out.trans hb4
    have blk4 := (hb4'.block w1.heap.size hsz).trans BLK.out
    have q0 : w4.cell? ⟨w1.heap.size, 0, none⟩ = some (.int .i64 52) := by rw [Lib.cell_of_heap blk4]; rfl
    have q1 : w4.cell? ⟨w1.heap.size, 1, none⟩ = some (.int .i64 11) := by rw [Lib.cell_of_heap blk4]; rfl
    have q2 : w4.cell? ⟨w1.heap.size, 2, none⟩ = some (.int .i64 (-1023)) := by rw [Lib.cell_of_heap blk4]; rfl
    have B4 := Lib.hid hb4'
    have SO := Lib.hid (short_half (x := (e : Int) + -1023) hD4 hk16 HMM.out hs1 hs2 hM1 hM2 HH.out.even (by omega))
    have D4 := Lib.hid hD4
    clear hb4 hb4' ed4 hD4 blk4
    go_wp2_with fail
    refine SO.out.mono ?_
    rintro e5 w5 ⟨rfl, hb5⟩
    have hD5 := D4.out.keep (hb5.mono (Nat.le_refl _))
    have c0 := hD5.c0; have c1 := hD5.c1
    have D5 := Lib.hid hD5; have B5 := Lib.hid (B4.out.trans (hb5.mono B4.out.size))
    clear hb5 hD5
    go_wp2_with fail
    have hsub : ((digs (10 * k + 5)).length : Int) - (((digs (10 * k + 5)).length : Int) - 1) = 1 := by omega
    go_region
    have hmx : max (1 : Int) 0 = 1 := by decide
    all_goals go_wp2_with fail
    rw [hmx]
    refine (text_half (D5.out.drew 1) hk16).mono ?_
    rintro e6 w6 ⟨rfl, hb6⟩
    have B6 := Lib.hid (B2.out.trans ((bdrew B5.out 1).trans (hb6.mono B5.out.size) |>.mono B2.out.size))
    have hsize : ¬ 9223372036854775807 < (dtxt (digs k)).size + 2 := by
      have := digs_len (n := k) (k := 20) (by decide) (by omega)
      rw [dtxt_size]
      omega
    have hsize2 : ¬ 9223372036854775807 < 1 + ((dtxt (digs k)).size + 2) := by
      have := digs_len (n := k) (k := 20) (by decide) (by omega)
      rw [dtxt_size]
      omega
    clear hb6
    go_wp2_with fail
    go_ret
    exact ⟨rfl, B6.out⟩
  · simp only [if_true] at b1
    go_wp2_with fail
    obtain ⟨w2, hw2⟩ : ∃ w2, w2 = w1.alloc (.cells #[.int .i64 52, .int .i64 11, .int .i64 (-1023)] 201) := ⟨_, rfl⟩
    have blk : w2.heap[w1.heap.size]? = some (.cells #[.int .i64 52, .int .i64 11, .int .i64 (-1023)] 201 (0, 0)) := by rw [hw2]; exact heap_alloc_at _ _
    have B2 : Hid (Below w.heap.size w w2) := Lib.hid (by rw [hw2]; exact B1.out.alloc B1.out.size _)
    rw [← hw2]
    clear hw2
    have q0 : w2.cell? ⟨w1.heap.size, 0, none⟩ = some (.int .i64 52) := by rw [Lib.cell_of_heap blk]; rfl
    have q1 : w2.cell? ⟨w1.heap.size, 1, none⟩ = some (.int .i64 11) := by rw [Lib.cell_of_heap blk]; rfl
    have q2 : w2.cell? ⟨w1.heap.size, 2, none⟩ = some (.int .i64 (-1023)) := by rw [Lib.cell_of_heap blk]; rfl
    have BLK := Lib.hid blk
    clear blk
    go_quiet (fail)
    go_wp2_with fail
    refine (newDecimal_any M (by omega) _).mono ?_
    rintro e3 w3 ⟨N, rfl, ⟨dp3, hd3, hdp3⟩, hb3⟩
    have hsz : w1.heap.size < w2.heap.size := (Array.getElem?_eq_some_iff.1 BLK.out).1
    have hb3' : Below w2.heap.size w2 w3 := (bdrew (Below.refl w2.heap.size w2) nq).trans hb3
    have B3 := Lib.hid hb3'
    have blk3 := (hb3'.block w1.heap.size hsz).trans BLK.out
    have q0 : w3.cell? ⟨w1.heap.size, 0, none⟩ = some (.int .i64 52) := by rw [Lib.cell_of_heap blk3]; rfl
    have SH := Lib.hid (shift_new (s := s) hd3 hdp3 (by omega) (by omega) (by omega) hs1)
    rw [← HX.out] at SH
    have BLK3 := Lib.hid blk3
    clear hd3 hdp3 hb3 hb3' blk3
    go_wp2_with fail
    refine SH.out.mono ?_
    rintro e4 w4 ⟨rfl, ⟨E, ep, hd4, ed4⟩, hb4⟩
    obtain ⟨a4, cp4, hD4⟩ := hd4
    obtain ⟨rfl, rfl⟩ := half_digits (K := 200) (by decide) HMM.out ed4.norm (ed4.eq 200 (Nat.le_refl _)).1 (ed4.eq 200 (Nat.le_refl _)).2 (by omega)
    have hb4' : Below w2.heap.size w2 w4 := B3.out.trans hb4
    have blk4 := (hb4'.block w1.heap.size hsz).trans BLK.out
    have q0 : w4.cell? ⟨w1.heap.size, 0, none⟩ = some (.int .i64 52) := by rw [Lib.cell_of_heap blk4]; rfl
    have q1 : w4.cell? ⟨w1.heap.size, 1, none⟩ = some (.int .i64 11) := by rw [Lib.cell_of_heap blk4]; rfl
    have q2 : w4.cell? ⟨w1.heap.size, 2, none⟩ = some (.int .i64 (-1023)) := by rw [Lib.cell_of_heap blk4]; rfl
    have B4 := Lib.hid hb4'
    have SO := Lib.hid (short_half (x := (e : Int) + -1023) hD4 hk16 HMM.out hs1 hs2 hM1 hM2 HH.out.even (by omega))
    have D4 := Lib.hid hD4
    clear hb4 hb4' ed4 hD4 blk4
    go_wp2_with fail
    refine SO.out.mono ?_
    rintro e5 w5 ⟨rfl, hb5⟩
    have hD5 := D4.out.keep (hb5.mono (Nat.le_refl _))
    have c0 := hD5.c0; have c1 := hD5.c1
    have D5 := Lib.hid hD5; have B5 := Lib.hid (B4.out.trans (hb5.mono B4.out.size))
    clear hb5 hD5
    go_wp2_with fail
    have hsub : ((digs (10 * k + 5)).length : Int) - (((digs (10 * k + 5)).length : Int) - 1) = 1 := by omega
    go_region
    have hmx : max (1 : Int) 0 = 1 := by decide
    all_goals go_wp2_with fail
    rw [hmx]
    refine (text_half (D5.out.drew 1) hk16).mono ?_
    rintro e6 w6 ⟨rfl, hb6⟩
    have B6 := Lib.hid (B2.out.trans ((bdrew B5.out 1).trans (hb6.mono B5.out.size) |>.mono B2.out.size))
    have hsize : ¬ 9223372036854775807 < (dtxt (digs k)).size + 2 := by
      have := digs_len (n := k) (k := 20) (by decide) (by omega)
      rw [dtxt_size]
      omega
    have hsize2 : ¬ 9223372036854775807 < 1 + ((dtxt (digs k)).size + 2) := by
      have := digs_len (n := k) (k := 20) (by decide) (by omega)
      rw [dtxt_size]
      omega
    clear hb6
    go_wp2_with fail
    go_ret
    exact ⟨rfl, B6.out⟩
end Go.Proofs.YtbdciilkapgfjaaGreatDoor
