/- impl.OpMul and impl.OpAdd of integers: the product and the sum. -/
import Derived.Test.YtneglhpbmlohlaaGreatDoorNum
namespace Go.Proofs.YtneglhpbmlohlaaGreatDoor
open Go.RowKit

/-- An even number within the reach of exact arithmetic. -/
def Small (n : Int) : Prop := -9007199254740992 ≤ n ∧ n ≤ 9007199254740992
theorem JOK.num {n : Int} (h : Small n) : JOK (.num (2 * n)) := by
  unfold Small at h
  rw [JOK]
  refine ⟨by simp [J.half]; omega, by simp [J.text, ByteArray.size], by simp [J.list], by simp [J.ents], fun i hi => ?_, fun i hi => ?_, fun i hi => ?_, fun i hi => ?_⟩
  · simp [J.list] at hi
  · simp [J.ents] at hi
  · simp [J.ents] at hi
  · simp [J.ents] at hi
theorem g_num (n : Int) : (J.num (2 * n)).g = .int n := by
  rw [j_num, if_pos (by omega)]
  congr 1
  omega

theorem OpMul_num (x y : Int) (a c : VC) (w : World) (S : Nat → Prop) (hx : Small x) (hy : Small y) (hxy : Small (x * y)) (ha : VR w S (.num (2 * x)) a) (hc : VR w S (.num (2 * y)) c) (hS : ∀ b, S b → b < w.heap.size) :
    Calls Tryz.prog 6 #[a.val, c.val] w fun e w' => e = .returned (resVal (numVC (2 * (x * y))) 0) ∧ Below w.heap.size w w' := by
  have B2 := Lib.hid (box_alloc (w.alloc (.cells a.arr 26)) c)
  have B1 := Lib.hid ((box_alloc w a).below ((Below.refl (w.heap.size + 1) (w.alloc (.cells a.arr 26))).alloc (by simp) (.cells c.arr 26)) (by omega))
  have HA := Lib.hid ha; have HC := Lib.hid hc; have HS := Lib.hid hS; have HX := Lib.hid hx; have HY := Lib.hid hy; have HXY := Lib.hid hxy
  clear ha hc hS hx hy hxy
  obtain ⟨k0, h0, s0, la, ll, lc, ka, kl, kc, va, vl, vc⟩ := a
  obtain ⟨k0', h0', s0', la', ll', lc', ka', kl', kc', va', vl', vc'⟩ := c
  have R0 := Lib.hid (resbox_alloc ((w.alloc (.cells (VC.arr ⟨k0, h0, s0, la, ll, lc, ka, kl, kc, va, vl, vc⟩) 26)).alloc (.cells (VC.arr ⟨k0', h0', s0', la', ll', lc', ka', kl', kc', va', vl', vc'⟩) 26)) VC.nil 0)
  have W3 : Hid (Below w.heap.size w (((w.alloc (.cells (VC.arr ⟨k0, h0, s0, la, ll, lc, ka, kl, kc, va, vl, vc⟩) 26)).alloc (.cells (VC.arr ⟨k0', h0', s0', la', ll', lc', ka', kl', kc', va', vl', vc'⟩) 26)).alloc (.cells #[.int .i64 0, .int .i64 0, .string ByteArray.empty, .slice none 0 0, .slice none 0 0, .slice none 0 0, .int .i64 0] 30))) :=
    Lib.hid ((((Below.refl _ _).alloc (Nat.le_refl _) _).alloc (by simp) _).alloc (by simp; omega) _)
  have T1 := Lib.hid fun hn => toGo_any (SizeOf.sizeOf (J.num (2 * x))) (.num (2 * x)) _ _ S (Nat.le_refl _) (JOK.num HX.out) (HA.out.go (fun b hb => W3.out.block b (HS.out b hb)) (fun _ h => h)) hn
  unfold VC.val VC.arr at *
  unfold VC.nil at R0
  go_enter Tryz.func6, Tryz.ntmps6
  go_wp2_with fail
  refine (T1.out ?_).mono ?_
  · intro b hb; exact Nat.lt_of_lt_of_le (HS.out b hb) W3.out.size
  rintro e w1 ⟨v1, rfl, hG1, hb1⟩
  rw [g_num] at hG1
  have := hG1.head; cases this
  have b2 := B2.out.below (((Below.refl (w.heap.size + 2) _).alloc (by simp) _).trans (hb1.mono (by simp))) (by simp)
  simp only [World.size_alloc] at b2
  have q0 := b2.c0; have q1 := b2.c1; have q2 := b2.c2; have q3 := b2.c3; have q4 := b2.c4; have q5 := b2.c5
  have HB1 := Lib.hid hb1
  have hb3 := W3.out.trans (hb1.mono W3.out.size)
  have W4 := Lib.hid hb3
  have T2 := Lib.hid fun hn => toGo_any (SizeOf.sizeOf (J.num (2 * y))) (.num (2 * y)) _ _ S (Nat.le_refl _) (JOK.num HY.out) (HC.out.go (fun b hb => W4.out.block b (HS.out b hb)) (fun _ h => h)) hn
  unfold VC.val VC.arr at T2
  clear hb1 hG1 hb3 b2
  go_wp2_with fail
  refine (T2.out ?_).mono ?_
  · intro b hb; exact Nat.lt_of_lt_of_le (HS.out b hb) W4.out.size
  rintro e w2 ⟨v2, rfl, hG2, hb2⟩
  rw [g_num] at hG2
  have := hG2.head; cases this
  have HB2 := Lib.hid hb2
  have Z := Lib.hid (ZzOpMul_int x y w2 HX.out HXY.out HY.out)
  have W5 := Lib.hid (W4.out.trans (hb2.mono W4.out.size))
  clear hb2 hG2
  go_wp2_with fail
  refine Z.out.mono ?_
  rintro e w3 ⟨rfl, rfl⟩
  have HC2 := Lib.hid (result_int (x * y) w2 (by have := HXY.out; unfold Small at this; omega) (by have := HXY.out; unfold Small at this; omega))
  go_wp2_with fail
  refine HC2.out.mono ?_
  rintro e w4 ⟨rfl, hb4⟩
  have W7 := Lib.hid (W5.out.trans (hb4.mono W5.out.size))
  have r0 := R0.out.below ((HB1.out.trans (HB2.out.mono HB1.out.size)).trans (hb4.mono (Nat.le_trans HB1.out.size HB2.out.size))) (by simp)
  simp only [World.size_alloc] at r0
  have q0 := r0.c0; have q1 := r0.c1; have q2 := r0.c2; have q3 := r0.c3; have q4 := r0.c4; have q5 := r0.c5; have q6 := r0.c6; have qf := r0.fr; have lt := r0.lt
  unfold resVal numVC VC.nil
  clear r0 hb4
  go_wp2_with fail
  refine bodyPost_ret (v := .agg #[.int .i64 3, .int .i64 (2 * (x * y)), .string ByteArray.empty, .slice none 0 0, .slice none 0 0, .slice none 0 0, .int .i64 0]) (by simp [results, Tryz.results6, go_sem, q0, q1, q2, q3, q4, q5, q6]) rfl ?_
  exact ⟨rfl, resStored_below (N := w.heap.size + 1 + 1) (c := numVC (2 * (x * y))) (e := 0) W7.out (by omega)⟩

theorem OpAdd_num (x y : Int) (a c : VC) (w : World) (S : Nat → Prop) (hx : Small x) (hy : Small y) (hxy : Small (x + y)) (ha : VR w S (.num (2 * x)) a) (hc : VR w S (.num (2 * y)) c) (hS : ∀ b, S b → b < w.heap.size) :
    Calls Tryz.prog 8 #[a.val, c.val] w fun e w' => e = .returned (resVal (numVC (2 * (x + y))) 0) ∧ Below w.heap.size w w' := by
  have B2 := Lib.hid (box_alloc (w.alloc (.cells a.arr 26)) c)
  have B1 := Lib.hid ((box_alloc w a).below ((Below.refl (w.heap.size + 1) (w.alloc (.cells a.arr 26))).alloc (by simp) (.cells c.arr 26)) (by omega))
  have HA := Lib.hid ha; have HC := Lib.hid hc; have HS := Lib.hid hS; have HX := Lib.hid hx; have HY := Lib.hid hy; have HXY := Lib.hid hxy
  clear ha hc hS hx hy hxy
  obtain ⟨k0, h0, s0, la, ll, lc, ka, kl, kc, va, vl, vc⟩ := a
  obtain ⟨k0', h0', s0', la', ll', lc', ka', kl', kc', va', vl', vc'⟩ := c
  have R0 := Lib.hid (resbox_alloc ((w.alloc (.cells (VC.arr ⟨k0, h0, s0, la, ll, lc, ka, kl, kc, va, vl, vc⟩) 26)).alloc (.cells (VC.arr ⟨k0', h0', s0', la', ll', lc', ka', kl', kc', va', vl', vc'⟩) 26)) VC.nil 0)
  have W3 : Hid (Below w.heap.size w (((w.alloc (.cells (VC.arr ⟨k0, h0, s0, la, ll, lc, ka, kl, kc, va, vl, vc⟩) 26)).alloc (.cells (VC.arr ⟨k0', h0', s0', la', ll', lc', ka', kl', kc', va', vl', vc'⟩) 26)).alloc (.cells #[.int .i64 0, .int .i64 0, .string ByteArray.empty, .slice none 0 0, .slice none 0 0, .slice none 0 0, .int .i64 0] 30))) :=
    Lib.hid ((((Below.refl _ _).alloc (Nat.le_refl _) _).alloc (by simp) _).alloc (by simp; omega) _)
  have T1 := Lib.hid fun hn => toGo_any (SizeOf.sizeOf (J.num (2 * x))) (.num (2 * x)) _ _ S (Nat.le_refl _) (JOK.num HX.out) (HA.out.go (fun b hb => W3.out.block b (HS.out b hb)) (fun _ h => h)) hn
  unfold VC.val VC.arr at *
  unfold VC.nil at R0
  go_enter Tryz.func8, Tryz.ntmps8
  go_wp2_with fail
  refine (T1.out ?_).mono ?_
  · intro b hb; exact Nat.lt_of_lt_of_le (HS.out b hb) W3.out.size
  rintro e w1 ⟨v1, rfl, hG1, hb1⟩
  rw [g_num] at hG1
  have := hG1.head; cases this
  have b2 := B2.out.below (((Below.refl (w.heap.size + 2) _).alloc (by simp) _).trans (hb1.mono (by simp))) (by simp)
  simp only [World.size_alloc] at b2
  have q0 := b2.c0; have q1 := b2.c1; have q2 := b2.c2; have q3 := b2.c3; have q4 := b2.c4; have q5 := b2.c5
  have HB1 := Lib.hid hb1
  have hb3 := W3.out.trans (hb1.mono W3.out.size)
  have W4 := Lib.hid hb3
  have T2 := Lib.hid fun hn => toGo_any (SizeOf.sizeOf (J.num (2 * y))) (.num (2 * y)) _ _ S (Nat.le_refl _) (JOK.num HY.out) (HC.out.go (fun b hb => W4.out.block b (HS.out b hb)) (fun _ h => h)) hn
  unfold VC.val VC.arr at T2
  clear hb1 hG1 hb3 b2
  go_wp2_with fail
  refine (T2.out ?_).mono ?_
  · intro b hb; exact Nat.lt_of_lt_of_le (HS.out b hb) W4.out.size
  rintro e w2 ⟨v2, rfl, hG2, hb2⟩
  rw [g_num] at hG2
  have := hG2.head; cases this
  have HB2 := Lib.hid hb2
  have Z := Lib.hid (ZzOpAdd_int x y w2 HX.out HY.out)
  have W5 := Lib.hid (W4.out.trans (hb2.mono W4.out.size))
  clear hb2 hG2
  go_wp2_with fail
  refine Z.out.mono ?_
  rintro e w3 ⟨rfl, rfl⟩
  have HC2 := Lib.hid (result_int (x + y) w2 (by have := HXY.out; unfold Small at this; omega) (by have := HXY.out; unfold Small at this; omega))
  go_wp2_with fail
  refine HC2.out.mono ?_
  rintro e w4 ⟨rfl, hb4⟩
  have W7 := Lib.hid (W5.out.trans (hb4.mono W5.out.size))
  have r0 := R0.out.below ((HB1.out.trans (HB2.out.mono HB1.out.size)).trans (hb4.mono (Nat.le_trans HB1.out.size HB2.out.size))) (by simp)
  simp only [World.size_alloc] at r0
  have q0 := r0.c0; have q1 := r0.c1; have q2 := r0.c2; have q3 := r0.c3; have q4 := r0.c4; have q5 := r0.c5; have q6 := r0.c6; have qf := r0.fr; have lt := r0.lt
  unfold resVal numVC VC.nil
  clear r0 hb4
  go_wp2_with fail
  refine bodyPost_ret (v := .agg #[.int .i64 3, .int .i64 (2 * (x + y)), .string ByteArray.empty, .slice none 0 0, .slice none 0 0, .slice none 0 0, .int .i64 0]) (by simp [results, Tryz.results8, go_sem, q0, q1, q2, q3, q4, q5, q6]) rfl ?_
  exact ⟨rfl, resStored_below (N := w.heap.size + 1 + 1) (c := numVC (2 * (x + y))) (e := 0) W7.out (by omega)⟩

end Go.Proofs.YtneglhpbmlohlaaGreatDoor
